import JvmDerived
import JvmDerived.Pilot.@@N@@Statement
import JvmDerived.Pilot.@@N@@Code
set_option linter.unusedVariables false
set_option linter.unusedSimpArgs false
@@BLOCK:NumsL.lean.txt@@
namespace Jvm.RoadKit
open Sem ClassFile Op Lib Jvm.Stand Jvm.Free Jvm.LawKit
section New
variable {p : Program} {l : Launch} {e : Env} {R : Room} {s : State} {m : MethodId} {args : Array Value} {below : List Frame} {meth : Method} {c : Code} {T : State} {locs : List Loc} {cells slots : Nat}
theorem retI (X : Stand p l e R s m args below meth c T locs cells slots) (hx : p.tables.exec = Jvm.exec) {pc : Nat} {Ls : Array Slot} {z : Int32} {rest : List Value} (hret : meth.sig.returnType = some .int) (hd : decode c.code pc = .ok (.ireturn, 1)) {fs : List Frame}
    (hl : ∀ (f : JFrame) (acts : List Action), f.method = m → f.locked = none → f.entered = [] → (doReturn e (T.setTop f) acts (some (.int z))).1 = T.setFrames fs) : Steps p.tables e below (T.setTop (mkF m pc Ls (.int z :: rest))) (T.setFrames fs) := by
  have hm' : T.vm.method? m = some meth := X.method'
  have hn : narrow .int (.int z) = .int z := rfl
  show Steps p.tables e below (T.setTop { method := m, pc := pc, locals := Ls, stack := _ :: rest, locked := none }) _
  jvm_step X.here [X.here.top, hx, hd, hm', hret, hn]
  first | (intro acts; rw [hl _ acts rfl rfl rfl]) | rw [hl _ _ rfl rfl rfl]
  exact Steps.refl _
end New
end Jvm.RoadKit
namespace Jvm.Pilot.@@N@@
open Jvm Jvm.ClassFile Sem Op Lib Jvm.Free Jvm.Stand Jvm.LawKit Jvm.RoadKit Bundle Jvm.Pilot.@@N@@.Jvm.D

theorem own_lltT {x y : Int64} (h : x < y) : ifCond.holds .lt (lcmpW x y) = true := (if0 _ _).trans ((tlt (by rw [lcW]; exact (lc_lt x y).mpr h)).1)
theorem own_lltF {x y : Int64} (h : ¬ (x < y)) : ifCond.holds .lt (lcmpW x y) = false := (if0 _ _).trans ((flt (by rw [lcW]; exact fun q => h ((lc_lt x y).mp q))).1)
theorem own_lgeT {x y : Int64} (h : ¬ (x < y)) : ifCond.holds .ge (lcmpW x y) = true := (if0 _ _).trans ((flt (by rw [lcW]; exact fun q => h ((lc_lt x y).mp q))).2.1)
theorem own_lgeF {x y : Int64} (h : x < y) : ifCond.holds .ge (lcmpW x y) = false := (if0 _ _).trans ((tlt (by rw [lcW]; exact (lc_lt x y).mpr h)).2.1)
theorem own_lgtT {x y : Int64} (h : y < x) : ifCond.holds .gt (lcmpW x y) = true := (if0 _ _).trans ((tlt (by rw [lcW]; exact (lc_gt x y).mpr h)).2.2.1)
theorem own_lgtF {x y : Int64} (h : ¬ (y < x)) : ifCond.holds .gt (lcmpW x y) = false := (if0 _ _).trans ((flt (by rw [lcW]; exact fun q => h ((lc_gt x y).mp q))).2.2.1)
theorem own_lleT {x y : Int64} (h : ¬ (y < x)) : ifCond.holds .le (lcmpW x y) = true := (if0 _ _).trans ((flt (by rw [lcW]; exact fun q => h ((lc_gt x y).mp q))).2.2.2)
theorem own_lleF {x y : Int64} (h : y < x) : ifCond.holds .le (lcmpW x y) = false := (if0 _ _).trans ((tlt (by rw [lcW]; exact (lc_gt x y).mpr h)).2.2.2)
theorem own_leqT {x y : Int64} (h : x = y) : ifCond.holds .eq (lcmpW x y) = true := (if0 _ _).trans ((teq (by rw [lcW]; exact (lc_eq x y).mpr h)).1)
theorem own_leqF {x y : Int64} (h : ¬ (x = y)) : ifCond.holds .eq (lcmpW x y) = false := (if0 _ _).trans ((feq (by rw [lcW]; exact fun q => h ((lc_eq x y).mp q))).1)
theorem own_lneT {x y : Int64} (h : ¬ (x = y)) : ifCond.holds .ne (lcmpW x y) = true := (if0 _ _).trans ((feq (by rw [lcW]; exact fun q => h ((lc_eq x y).mp q))).2)
theorem own_lneF {x y : Int64} (h : x = y) : ifCond.holds .ne (lcmpW x y) = false := (if0 _ _).trans ((teq (by rw [lcW]; exact (lc_eq x y).mpr h)).2)
theorem d1_0 : decode method_3_code 0 = .ok (.lload_n 0, 1) := by decide +kernel
theorem d1_1 : decode method_3_code 1 = .ok (.ldc2_w 27, 3) := by decide +kernel
theorem d1_4 : decode method_3_code 4 = .ok (.lcmp, 1) := by decide +kernel
theorem d1_5 : decode method_3_code 5 = .ok (.ifCond .ge 5, 3) := by decide +kernel
theorem d1_8 : decode method_3_code 8 = .ok (.iconst 1, 1) := by decide +kernel
theorem d1_10 : decode method_3_code 10 = .ok (.lload_n 0, 1) := by decide +kernel
theorem d1_11 : decode method_3_code 11 = .ok (.ldc2_w 29, 3) := by decide +kernel
theorem d1_14 : decode method_3_code 14 = .ok (.lcmp, 1) := by decide +kernel
theorem d1_15 : decode method_3_code 15 = .ok (.ifCond .ge 5, 3) := by decide +kernel
theorem d1_18 : decode method_3_code 18 = .ok (.iconst 2, 1) := by decide +kernel
theorem d1_20 : decode method_3_code 20 = .ok (.lload_n 0, 1) := by decide +kernel
theorem d1_21 : decode method_3_code 21 = .ok (.ldc2_w 31, 3) := by decide +kernel
theorem d1_24 : decode method_3_code 24 = .ok (.lcmp, 1) := by decide +kernel
theorem d1_25 : decode method_3_code 25 = .ok (.ifCond .ge 5, 3) := by decide +kernel
theorem d1_28 : decode method_3_code 28 = .ok (.iconst 3, 1) := by decide +kernel
theorem d1_30 : decode method_3_code 30 = .ok (.lload_n 0, 1) := by decide +kernel
theorem d1_31 : decode method_3_code 31 = .ok (.ldc2_w 33, 3) := by decide +kernel
theorem d1_34 : decode method_3_code 34 = .ok (.lcmp, 1) := by decide +kernel
theorem d1_35 : decode method_3_code 35 = .ok (.ifCond .ge 5, 3) := by decide +kernel
theorem d1_38 : decode method_3_code 38 = .ok (.iconst 4, 1) := by decide +kernel
theorem d1_40 : decode method_3_code 40 = .ok (.lload_n 0, 1) := by decide +kernel
theorem d1_41 : decode method_3_code 41 = .ok (.ldc2_w 35, 3) := by decide +kernel
theorem d1_44 : decode method_3_code 44 = .ok (.lcmp, 1) := by decide +kernel
theorem d1_45 : decode method_3_code 45 = .ok (.ifCond .ge 5, 3) := by decide +kernel
theorem d1_48 : decode method_3_code 48 = .ok (.iconst 5, 1) := by decide +kernel
theorem d1_50 : decode method_3_code 50 = .ok (.lload_n 0, 1) := by decide +kernel
theorem d1_51 : decode method_3_code 51 = .ok (.ldc2_w 37, 3) := by decide +kernel
theorem d1_54 : decode method_3_code 54 = .ok (.lcmp, 1) := by decide +kernel
theorem d1_55 : decode method_3_code 55 = .ok (.ifCond .ge 6, 3) := by decide +kernel
theorem d1_58 : decode method_3_code 58 = .ok (.bipush 6, 2) := by decide +kernel
theorem d1_61 : decode method_3_code 61 = .ok (.lload_n 0, 1) := by decide +kernel
theorem d1_62 : decode method_3_code 62 = .ok (.ldc2_w 39, 3) := by decide +kernel
theorem d1_65 : decode method_3_code 65 = .ok (.lcmp, 1) := by decide +kernel
theorem d1_66 : decode method_3_code 66 = .ok (.ifCond .ge 6, 3) := by decide +kernel
theorem d1_69 : decode method_3_code 69 = .ok (.bipush 7, 2) := by decide +kernel
theorem d1_72 : decode method_3_code 72 = .ok (.lload_n 0, 1) := by decide +kernel
theorem d1_73 : decode method_3_code 73 = .ok (.ldc2_w 41, 3) := by decide +kernel
theorem d1_76 : decode method_3_code 76 = .ok (.lcmp, 1) := by decide +kernel
theorem d1_77 : decode method_3_code 77 = .ok (.ifCond .ge 6, 3) := by decide +kernel
theorem d1_80 : decode method_3_code 80 = .ok (.bipush 8, 2) := by decide +kernel
theorem d1_83 : decode method_3_code 83 = .ok (.bipush 9, 2) := by decide +kernel
theorem d1_9 : decode method_3_code 9 = .ok (.ireturn, 1) := by decide +kernel
theorem d1_19 : decode method_3_code 19 = .ok (.ireturn, 1) := by decide +kernel
theorem d1_29 : decode method_3_code 29 = .ok (.ireturn, 1) := by decide +kernel
theorem d1_39 : decode method_3_code 39 = .ok (.ireturn, 1) := by decide +kernel
theorem d1_49 : decode method_3_code 49 = .ok (.ireturn, 1) := by decide +kernel
theorem d1_60 : decode method_3_code 60 = .ok (.ireturn, 1) := by decide +kernel
theorem d1_71 : decode method_3_code 71 = .ok (.ireturn, 1) := by decide +kernel
theorem d1_82 : decode method_3_code 82 = .ok (.ireturn, 1) := by decide +kernel
theorem d1_85 : decode method_3_code 85 = .ok (.ireturn, 1) := by decide +kernel
theorem pn_com_example_morro_morro_index_IndexOutputEncodeNumberPinLaw : plainName "com/example/morro/morro/index/IndexOutputEncodeNumberPinLaw" = true := by first | (simp [plainName, overriddenIn]; done) | decide +kernel
def own_len (q1 : Int64) : Int32 := (if q1 < (128 : Int64) then (1 : Int32) else (if q1 < (16384 : Int64) then (2 : Int32) else (if q1 < (2097152 : Int64) then (3 : Int32) else (if q1 < (268435456 : Int64) then (4 : Int32) else (if q1 < (34359738368 : Int64) then (5 : Int32) else (if q1 < (4398046511104 : Int64) then (6 : Int32) else (if q1 < (562949953421312 : Int64) then (7 : Int32) else (if q1 < (72057594037927936 : Int64) then (8 : Int32) else (9 : Int32)))))))))
theorem ef_rm1 (m : MethodId) (q1 : Int64) : entryFrame m #[(.long q1)] 2 = mkF m 0 #[.val (.long q1), .second] [] := by first | (simp [entryFrame, mkF, argsToLocals, Value.category]; done) | rfl
def Q_rm1 (Z : State) (q1 : Int64) (h0 : Heap) (n0 : Nat) (v : Option Value) (h : Heap) (L : List Loc) : Prop := v = some (.int (own_len q1)) ∧ Fr n0 L ∧ h = h0
set_option maxRecDepth 65536 in
set_option maxHeartbeats 40000000 in
theorem rm1 (l : Launch) (Z : State) (a0 : Array Value) (hw : ∀ d ∈ tables_1, d.before a0 Z = true) (ws : List Jvm.Cond) (q1 : Int64) (h0 : Heap) (n0 : Nat) (Z0 : n0 ≤ h0.size) :
    MetFree l (⟨"com/example/morro/morro/index/IndexOutputEncodeNumberPinLaw", "lengthOf", "(J)I"⟩ : MethodName) (head1 (Jvm.Cond.code (⟨"com/example/morro/morro/index/IndexOutputEncodeNumberPinLaw", "lengthOf", "(J)I"⟩ : MethodName) method_3_code 2 (some .int) :: ws) ({ frames := 0, cells := 0, slots := 0, locals := 0 } : Room)) (fun a U => a = #[(.long q1)] ∧ Z.Warmed39 U.vm ∧ U.heap = h0) (fun _ _ _ _ _ => True) (fun _ U o U' => ∃ v L, o = .returned v ∧ Q_rm1 Z q1 h0 n0 v U'.heap L ∧ FrameEnd U o U' L ({ frames := 0, cells := 0, slots := 0, locals := 0 } : Room).cells ({ frames := 0, cells := 0, slots := 0, locals := 0 } : Room).slots) := by
  refine MetFree.of_bodySF (plainFor_of_name pn_com_example_morro_morro_index_IndexOutputEncodeNumberPinLaw) hisR ?_
  intro p e s m args below meth c s₁ Bd hml0 hP hK
  obtain ⟨rfl, hZ, hh⟩ := hP
  have hx := Bd.exec
  have hby := Bd.bytes
  have hml : c.maxLocals = 2 := hml0
  have hown : s.vm.findClass "com/example/morro/morro/index/IndexOutputEncodeNumberPinLaw" = some m.cls := findClass_of_methodNamed Bd.named
  have hnm := (name_of_methodNamed Bd.named Bd.method).1
  have X0 : Stand p l e ({ frames := 0, cells := 0, slots := 0, locals := 0 } : Room) s m #[(.long q1)] below meth c s₁ [] 0 0 := Stand.of_body Bd
  have e0 : s₁.heap = h0 := by rw [← hh, Bd.state]; rfl
  have N0 := Fr.nil n0
  have pre0 : ∀ t, Steps p.tables e below (s₁.setTop (mkF m 0 #[.val (.long q1), .second] [])) t → Steps p.tables e below (s₁.setTop (entryFrame m #[(.long q1)] 2)) t := fun t k => castTop (ef_rm1 m q1) k
  have pre2 : ∀ t, Steps p.tables e below (s₁.setTop (mkF m 5 #[.val (.long q1), .second] [(.int (lcmpW q1 (128 : Int64)))])) t → Steps p.tables e below (s₁.setTop (entryFrame m #[(.long q1)] 2)) t := fun t kt => by
    refine pre0 t ?_
    show Steps p.tables e below (s₁.setTop (mkF m 0 #[.val (.long q1), .second] [])) _
    refine XS.lloadN X0.here hx rfl (hb hby d1_0) rfl ?_
    show Steps p.tables e below (s₁.setTop (mkF m 1 #[.val (.long q1), .second] [(.long q1)])) _
    refine X0.ldc2Long hx hown (mvT hZ (hw _ (List.mem_of_getElem? (i := 6) rfl))) (g := (mkF m 1 #[.val (.long q1), .second] [(.long q1)])) rfl (hb hby d1_1) _ ?_
    show Steps p.tables e below (s₁.setTop (mkF m 4 #[.val (.long q1), .second] [(.long (128 : Int64)), (.long q1)])) _
    refine XS.lcmp X0.here hx rfl (hb hby d1_4) rfl ?_
    exact kt
  by_cases hc5_1 : q1 < (128 : Int64)
  · obtain ⟨fs, hr, hrun, hended, hW, hsame⟩ := X0.leave (v := some (.int (1 : Int32))) (fun h => by rw [Bd.returns] at h; cases h)
    refine ⟨_, _, pre2 _ ?_, hrun, hended, _, _, rfl, ?_, ⟨_, rfl⟩, hW, hsame.mono (by decide) (by decide)⟩
    · show Steps p.tables e below (s₁.setTop (mkF m 5 #[.val (.long q1), .second] [(.int (lcmpW q1 (128 : Int64)))])) _
      refine XS.ifNo X0.here hx rfl (hb hby d1_5) rfl (own_lgeF hc5_1) ?_
      show Steps p.tables e below (s₁.setTop (mkF m 8 #[.val (.long q1), .second] [])) _
      refine XS.iconst X0.here hx rfl (hb hby d1_8) ?_
      show Steps p.tables e below (s₁.setTop (mkF m 9 #[.val (.long q1), .second] [(.int (1 : Int32))])) _
      exact retI X0 hx Bd.returns (hb hby d1_9) hr
    · show Q_rm1 Z q1 h0 n0 _ s₁.heap _
      rw [e0]
      exact ⟨by rw [own_len, if_pos hc5_1], N0, rfl⟩
  · have pre4 : ∀ t, Steps p.tables e below (s₁.setTop (mkF m 15 #[.val (.long q1), .second] [(.int (lcmpW q1 (16384 : Int64)))])) t → Steps p.tables e below (s₁.setTop (entryFrame m #[(.long q1)] 2)) t := fun t kt => by
      refine pre2 t ?_
      show Steps p.tables e below (s₁.setTop (mkF m 5 #[.val (.long q1), .second] [(.int (lcmpW q1 (128 : Int64)))])) _
      refine XS.ifYes X0.here hx rfl (pc0 := 5) (pc' := 10) rfl (hb hby d1_5) rfl (own_lgeT hc5_1) (by decide) (by decide) ?_
      show Steps p.tables e below (s₁.setTop (mkF m 10 #[.val (.long q1), .second] [])) _
      refine XS.lloadN X0.here hx rfl (hb hby d1_10) rfl ?_
      show Steps p.tables e below (s₁.setTop (mkF m 11 #[.val (.long q1), .second] [(.long q1)])) _
      refine X0.ldc2Long hx hown (mvT hZ (hw _ (List.mem_of_getElem? (i := 15) rfl))) (g := (mkF m 11 #[.val (.long q1), .second] [(.long q1)])) rfl (hb hby d1_11) _ ?_
      show Steps p.tables e below (s₁.setTop (mkF m 14 #[.val (.long q1), .second] [(.long (16384 : Int64)), (.long q1)])) _
      refine XS.lcmp X0.here hx rfl (hb hby d1_14) rfl ?_
      exact kt
    by_cases hc15_3 : q1 < (16384 : Int64)
    · obtain ⟨fs, hr, hrun, hended, hW, hsame⟩ := X0.leave (v := some (.int (2 : Int32))) (fun h => by rw [Bd.returns] at h; cases h)
      refine ⟨_, _, pre4 _ ?_, hrun, hended, _, _, rfl, ?_, ⟨_, rfl⟩, hW, hsame.mono (by decide) (by decide)⟩
      · show Steps p.tables e below (s₁.setTop (mkF m 15 #[.val (.long q1), .second] [(.int (lcmpW q1 (16384 : Int64)))])) _
        refine XS.ifNo X0.here hx rfl (hb hby d1_15) rfl (own_lgeF hc15_3) ?_
        show Steps p.tables e below (s₁.setTop (mkF m 18 #[.val (.long q1), .second] [])) _
        refine XS.iconst X0.here hx rfl (hb hby d1_18) ?_
        show Steps p.tables e below (s₁.setTop (mkF m 19 #[.val (.long q1), .second] [(.int (2 : Int32))])) _
        exact retI X0 hx Bd.returns (hb hby d1_19) hr
      · show Q_rm1 Z q1 h0 n0 _ s₁.heap _
        rw [e0]
        exact ⟨by rw [own_len, if_neg hc5_1, if_pos hc15_3], N0, rfl⟩
    · have pre6 : ∀ t, Steps p.tables e below (s₁.setTop (mkF m 25 #[.val (.long q1), .second] [(.int (lcmpW q1 (2097152 : Int64)))])) t → Steps p.tables e below (s₁.setTop (entryFrame m #[(.long q1)] 2)) t := fun t kt => by
        refine pre4 t ?_
        show Steps p.tables e below (s₁.setTop (mkF m 15 #[.val (.long q1), .second] [(.int (lcmpW q1 (16384 : Int64)))])) _
        refine XS.ifYes X0.here hx rfl (pc0 := 15) (pc' := 20) rfl (hb hby d1_15) rfl (own_lgeT hc15_3) (by decide) (by decide) ?_
        show Steps p.tables e below (s₁.setTop (mkF m 20 #[.val (.long q1), .second] [])) _
        refine XS.lloadN X0.here hx rfl (hb hby d1_20) rfl ?_
        show Steps p.tables e below (s₁.setTop (mkF m 21 #[.val (.long q1), .second] [(.long q1)])) _
        refine X0.ldc2Long hx hown (mvT hZ (hw _ (List.mem_of_getElem? (i := 16) rfl))) (g := (mkF m 21 #[.val (.long q1), .second] [(.long q1)])) rfl (hb hby d1_21) _ ?_
        show Steps p.tables e below (s₁.setTop (mkF m 24 #[.val (.long q1), .second] [(.long (2097152 : Int64)), (.long q1)])) _
        refine XS.lcmp X0.here hx rfl (hb hby d1_24) rfl ?_
        exact kt
      by_cases hc25_5 : q1 < (2097152 : Int64)
      · obtain ⟨fs, hr, hrun, hended, hW, hsame⟩ := X0.leave (v := some (.int (3 : Int32))) (fun h => by rw [Bd.returns] at h; cases h)
        refine ⟨_, _, pre6 _ ?_, hrun, hended, _, _, rfl, ?_, ⟨_, rfl⟩, hW, hsame.mono (by decide) (by decide)⟩
        · show Steps p.tables e below (s₁.setTop (mkF m 25 #[.val (.long q1), .second] [(.int (lcmpW q1 (2097152 : Int64)))])) _
          refine XS.ifNo X0.here hx rfl (hb hby d1_25) rfl (own_lgeF hc25_5) ?_
          show Steps p.tables e below (s₁.setTop (mkF m 28 #[.val (.long q1), .second] [])) _
          refine XS.iconst X0.here hx rfl (hb hby d1_28) ?_
          show Steps p.tables e below (s₁.setTop (mkF m 29 #[.val (.long q1), .second] [(.int (3 : Int32))])) _
          exact retI X0 hx Bd.returns (hb hby d1_29) hr
        · show Q_rm1 Z q1 h0 n0 _ s₁.heap _
          rw [e0]
          exact ⟨by rw [own_len, if_neg hc5_1, if_neg hc15_3, if_pos hc25_5], N0, rfl⟩
      · have pre8 : ∀ t, Steps p.tables e below (s₁.setTop (mkF m 35 #[.val (.long q1), .second] [(.int (lcmpW q1 (268435456 : Int64)))])) t → Steps p.tables e below (s₁.setTop (entryFrame m #[(.long q1)] 2)) t := fun t kt => by
          refine pre6 t ?_
          show Steps p.tables e below (s₁.setTop (mkF m 25 #[.val (.long q1), .second] [(.int (lcmpW q1 (2097152 : Int64)))])) _
          refine XS.ifYes X0.here hx rfl (pc0 := 25) (pc' := 30) rfl (hb hby d1_25) rfl (own_lgeT hc25_5) (by decide) (by decide) ?_
          show Steps p.tables e below (s₁.setTop (mkF m 30 #[.val (.long q1), .second] [])) _
          refine XS.lloadN X0.here hx rfl (hb hby d1_30) rfl ?_
          show Steps p.tables e below (s₁.setTop (mkF m 31 #[.val (.long q1), .second] [(.long q1)])) _
          refine X0.ldc2Long hx hown (mvT hZ (hw _ (List.mem_of_getElem? (i := 17) rfl))) (g := (mkF m 31 #[.val (.long q1), .second] [(.long q1)])) rfl (hb hby d1_31) _ ?_
          show Steps p.tables e below (s₁.setTop (mkF m 34 #[.val (.long q1), .second] [(.long (268435456 : Int64)), (.long q1)])) _
          refine XS.lcmp X0.here hx rfl (hb hby d1_34) rfl ?_
          exact kt
        by_cases hc35_7 : q1 < (268435456 : Int64)
        · obtain ⟨fs, hr, hrun, hended, hW, hsame⟩ := X0.leave (v := some (.int (4 : Int32))) (fun h => by rw [Bd.returns] at h; cases h)
          refine ⟨_, _, pre8 _ ?_, hrun, hended, _, _, rfl, ?_, ⟨_, rfl⟩, hW, hsame.mono (by decide) (by decide)⟩
          · show Steps p.tables e below (s₁.setTop (mkF m 35 #[.val (.long q1), .second] [(.int (lcmpW q1 (268435456 : Int64)))])) _
            refine XS.ifNo X0.here hx rfl (hb hby d1_35) rfl (own_lgeF hc35_7) ?_
            show Steps p.tables e below (s₁.setTop (mkF m 38 #[.val (.long q1), .second] [])) _
            refine XS.iconst X0.here hx rfl (hb hby d1_38) ?_
            show Steps p.tables e below (s₁.setTop (mkF m 39 #[.val (.long q1), .second] [(.int (4 : Int32))])) _
            exact retI X0 hx Bd.returns (hb hby d1_39) hr
          · show Q_rm1 Z q1 h0 n0 _ s₁.heap _
            rw [e0]
            exact ⟨by rw [own_len, if_neg hc5_1, if_neg hc15_3, if_neg hc25_5, if_pos hc35_7], N0, rfl⟩
        · have pre10 : ∀ t, Steps p.tables e below (s₁.setTop (mkF m 45 #[.val (.long q1), .second] [(.int (lcmpW q1 (34359738368 : Int64)))])) t → Steps p.tables e below (s₁.setTop (entryFrame m #[(.long q1)] 2)) t := fun t kt => by
            refine pre8 t ?_
            show Steps p.tables e below (s₁.setTop (mkF m 35 #[.val (.long q1), .second] [(.int (lcmpW q1 (268435456 : Int64)))])) _
            refine XS.ifYes X0.here hx rfl (pc0 := 35) (pc' := 40) rfl (hb hby d1_35) rfl (own_lgeT hc35_7) (by decide) (by decide) ?_
            show Steps p.tables e below (s₁.setTop (mkF m 40 #[.val (.long q1), .second] [])) _
            refine XS.lloadN X0.here hx rfl (hb hby d1_40) rfl ?_
            show Steps p.tables e below (s₁.setTop (mkF m 41 #[.val (.long q1), .second] [(.long q1)])) _
            refine X0.ldc2Long hx hown (mvT hZ (hw _ (List.mem_of_getElem? (i := 18) rfl))) (g := (mkF m 41 #[.val (.long q1), .second] [(.long q1)])) rfl (hb hby d1_41) _ ?_
            show Steps p.tables e below (s₁.setTop (mkF m 44 #[.val (.long q1), .second] [(.long (34359738368 : Int64)), (.long q1)])) _
            refine XS.lcmp X0.here hx rfl (hb hby d1_44) rfl ?_
            exact kt
          by_cases hc45_9 : q1 < (34359738368 : Int64)
          · obtain ⟨fs, hr, hrun, hended, hW, hsame⟩ := X0.leave (v := some (.int (5 : Int32))) (fun h => by rw [Bd.returns] at h; cases h)
            refine ⟨_, _, pre10 _ ?_, hrun, hended, _, _, rfl, ?_, ⟨_, rfl⟩, hW, hsame.mono (by decide) (by decide)⟩
            · show Steps p.tables e below (s₁.setTop (mkF m 45 #[.val (.long q1), .second] [(.int (lcmpW q1 (34359738368 : Int64)))])) _
              refine XS.ifNo X0.here hx rfl (hb hby d1_45) rfl (own_lgeF hc45_9) ?_
              show Steps p.tables e below (s₁.setTop (mkF m 48 #[.val (.long q1), .second] [])) _
              refine XS.iconst X0.here hx rfl (hb hby d1_48) ?_
              show Steps p.tables e below (s₁.setTop (mkF m 49 #[.val (.long q1), .second] [(.int (5 : Int32))])) _
              exact retI X0 hx Bd.returns (hb hby d1_49) hr
            · show Q_rm1 Z q1 h0 n0 _ s₁.heap _
              rw [e0]
              exact ⟨by rw [own_len, if_neg hc5_1, if_neg hc15_3, if_neg hc25_5, if_neg hc35_7, if_pos hc45_9], N0, rfl⟩
          · have pre12 : ∀ t, Steps p.tables e below (s₁.setTop (mkF m 55 #[.val (.long q1), .second] [(.int (lcmpW q1 (4398046511104 : Int64)))])) t → Steps p.tables e below (s₁.setTop (entryFrame m #[(.long q1)] 2)) t := fun t kt => by
              refine pre10 t ?_
              show Steps p.tables e below (s₁.setTop (mkF m 45 #[.val (.long q1), .second] [(.int (lcmpW q1 (34359738368 : Int64)))])) _
              refine XS.ifYes X0.here hx rfl (pc0 := 45) (pc' := 50) rfl (hb hby d1_45) rfl (own_lgeT hc45_9) (by decide) (by decide) ?_
              show Steps p.tables e below (s₁.setTop (mkF m 50 #[.val (.long q1), .second] [])) _
              refine XS.lloadN X0.here hx rfl (hb hby d1_50) rfl ?_
              show Steps p.tables e below (s₁.setTop (mkF m 51 #[.val (.long q1), .second] [(.long q1)])) _
              refine X0.ldc2Long hx hown (mvT hZ (hw _ (List.mem_of_getElem? (i := 22) rfl))) (g := (mkF m 51 #[.val (.long q1), .second] [(.long q1)])) rfl (hb hby d1_51) _ ?_
              show Steps p.tables e below (s₁.setTop (mkF m 54 #[.val (.long q1), .second] [(.long (4398046511104 : Int64)), (.long q1)])) _
              refine XS.lcmp X0.here hx rfl (hb hby d1_54) rfl ?_
              exact kt
            by_cases hc55_11 : q1 < (4398046511104 : Int64)
            · obtain ⟨fs, hr, hrun, hended, hW, hsame⟩ := X0.leave (v := some (.int (6 : Int32))) (fun h => by rw [Bd.returns] at h; cases h)
              refine ⟨_, _, pre12 _ ?_, hrun, hended, _, _, rfl, ?_, ⟨_, rfl⟩, hW, hsame.mono (by decide) (by decide)⟩
              · show Steps p.tables e below (s₁.setTop (mkF m 55 #[.val (.long q1), .second] [(.int (lcmpW q1 (4398046511104 : Int64)))])) _
                refine XS.ifNo X0.here hx rfl (hb hby d1_55) rfl (own_lgeF hc55_11) ?_
                show Steps p.tables e below (s₁.setTop (mkF m 58 #[.val (.long q1), .second] [])) _
                refine XS.bipush X0.here hx rfl (hb hby d1_58) ?_
                show Steps p.tables e below (s₁.setTop (mkF m 60 #[.val (.long q1), .second] [(.int (6 : Int32))])) _
                exact retI X0 hx Bd.returns (hb hby d1_60) hr
              · show Q_rm1 Z q1 h0 n0 _ s₁.heap _
                rw [e0]
                exact ⟨by rw [own_len, if_neg hc5_1, if_neg hc15_3, if_neg hc25_5, if_neg hc35_7, if_neg hc45_9, if_pos hc55_11], N0, rfl⟩
            · have pre14 : ∀ t, Steps p.tables e below (s₁.setTop (mkF m 66 #[.val (.long q1), .second] [(.int (lcmpW q1 (562949953421312 : Int64)))])) t → Steps p.tables e below (s₁.setTop (entryFrame m #[(.long q1)] 2)) t := fun t kt => by
                refine pre12 t ?_
                show Steps p.tables e below (s₁.setTop (mkF m 55 #[.val (.long q1), .second] [(.int (lcmpW q1 (4398046511104 : Int64)))])) _
                refine XS.ifYes X0.here hx rfl (pc0 := 55) (pc' := 61) rfl (hb hby d1_55) rfl (own_lgeT hc55_11) (by decide) (by decide) ?_
                show Steps p.tables e below (s₁.setTop (mkF m 61 #[.val (.long q1), .second] [])) _
                refine XS.lloadN X0.here hx rfl (hb hby d1_61) rfl ?_
                show Steps p.tables e below (s₁.setTop (mkF m 62 #[.val (.long q1), .second] [(.long q1)])) _
                refine X0.ldc2Long hx hown (mvT hZ (hw _ (List.mem_of_getElem? (i := 23) rfl))) (g := (mkF m 62 #[.val (.long q1), .second] [(.long q1)])) rfl (hb hby d1_62) _ ?_
                show Steps p.tables e below (s₁.setTop (mkF m 65 #[.val (.long q1), .second] [(.long (562949953421312 : Int64)), (.long q1)])) _
                refine XS.lcmp X0.here hx rfl (hb hby d1_65) rfl ?_
                exact kt
              by_cases hc66_13 : q1 < (562949953421312 : Int64)
              · obtain ⟨fs, hr, hrun, hended, hW, hsame⟩ := X0.leave (v := some (.int (7 : Int32))) (fun h => by rw [Bd.returns] at h; cases h)
                refine ⟨_, _, pre14 _ ?_, hrun, hended, _, _, rfl, ?_, ⟨_, rfl⟩, hW, hsame.mono (by decide) (by decide)⟩
                · show Steps p.tables e below (s₁.setTop (mkF m 66 #[.val (.long q1), .second] [(.int (lcmpW q1 (562949953421312 : Int64)))])) _
                  refine XS.ifNo X0.here hx rfl (hb hby d1_66) rfl (own_lgeF hc66_13) ?_
                  show Steps p.tables e below (s₁.setTop (mkF m 69 #[.val (.long q1), .second] [])) _
                  refine XS.bipush X0.here hx rfl (hb hby d1_69) ?_
                  show Steps p.tables e below (s₁.setTop (mkF m 71 #[.val (.long q1), .second] [(.int (7 : Int32))])) _
                  exact retI X0 hx Bd.returns (hb hby d1_71) hr
                · show Q_rm1 Z q1 h0 n0 _ s₁.heap _
                  rw [e0]
                  exact ⟨by rw [own_len, if_neg hc5_1, if_neg hc15_3, if_neg hc25_5, if_neg hc35_7, if_neg hc45_9, if_neg hc55_11, if_pos hc66_13], N0, rfl⟩
              · have pre16 : ∀ t, Steps p.tables e below (s₁.setTop (mkF m 77 #[.val (.long q1), .second] [(.int (lcmpW q1 (72057594037927936 : Int64)))])) t → Steps p.tables e below (s₁.setTop (entryFrame m #[(.long q1)] 2)) t := fun t kt => by
                  refine pre14 t ?_
                  show Steps p.tables e below (s₁.setTop (mkF m 66 #[.val (.long q1), .second] [(.int (lcmpW q1 (562949953421312 : Int64)))])) _
                  refine XS.ifYes X0.here hx rfl (pc0 := 66) (pc' := 72) rfl (hb hby d1_66) rfl (own_lgeT hc66_13) (by decide) (by decide) ?_
                  show Steps p.tables e below (s₁.setTop (mkF m 72 #[.val (.long q1), .second] [])) _
                  refine XS.lloadN X0.here hx rfl (hb hby d1_72) rfl ?_
                  show Steps p.tables e below (s₁.setTop (mkF m 73 #[.val (.long q1), .second] [(.long q1)])) _
                  refine X0.ldc2Long hx hown (mvT hZ (hw _ (List.mem_of_getElem? (i := 24) rfl))) (g := (mkF m 73 #[.val (.long q1), .second] [(.long q1)])) rfl (hb hby d1_73) _ ?_
                  show Steps p.tables e below (s₁.setTop (mkF m 76 #[.val (.long q1), .second] [(.long (72057594037927936 : Int64)), (.long q1)])) _
                  refine XS.lcmp X0.here hx rfl (hb hby d1_76) rfl ?_
                  exact kt
                by_cases hc77_15 : q1 < (72057594037927936 : Int64)
                · obtain ⟨fs, hr, hrun, hended, hW, hsame⟩ := X0.leave (v := some (.int (8 : Int32))) (fun h => by rw [Bd.returns] at h; cases h)
                  refine ⟨_, _, pre16 _ ?_, hrun, hended, _, _, rfl, ?_, ⟨_, rfl⟩, hW, hsame.mono (by decide) (by decide)⟩
                  · show Steps p.tables e below (s₁.setTop (mkF m 77 #[.val (.long q1), .second] [(.int (lcmpW q1 (72057594037927936 : Int64)))])) _
                    refine XS.ifNo X0.here hx rfl (hb hby d1_77) rfl (own_lgeF hc77_15) ?_
                    show Steps p.tables e below (s₁.setTop (mkF m 80 #[.val (.long q1), .second] [])) _
                    refine XS.bipush X0.here hx rfl (hb hby d1_80) ?_
                    show Steps p.tables e below (s₁.setTop (mkF m 82 #[.val (.long q1), .second] [(.int (8 : Int32))])) _
                    exact retI X0 hx Bd.returns (hb hby d1_82) hr
                  · show Q_rm1 Z q1 h0 n0 _ s₁.heap _
                    rw [e0]
                    exact ⟨by rw [own_len, if_neg hc5_1, if_neg hc15_3, if_neg hc25_5, if_neg hc35_7, if_neg hc45_9, if_neg hc55_11, if_neg hc66_13, if_pos hc77_15], N0, rfl⟩
                · obtain ⟨fs, hr, hrun, hended, hW, hsame⟩ := X0.leave (v := some (.int (9 : Int32))) (fun h => by rw [Bd.returns] at h; cases h)
                  refine ⟨_, _, pre16 _ ?_, hrun, hended, _, _, rfl, ?_, ⟨_, rfl⟩, hW, hsame.mono (by decide) (by decide)⟩
                  · show Steps p.tables e below (s₁.setTop (mkF m 77 #[.val (.long q1), .second] [(.int (lcmpW q1 (72057594037927936 : Int64)))])) _
                    refine XS.ifYes X0.here hx rfl (pc0 := 77) (pc' := 83) rfl (hb hby d1_77) rfl (own_lgeT hc77_15) (by decide) (by decide) ?_
                    show Steps p.tables e below (s₁.setTop (mkF m 83 #[.val (.long q1), .second] [])) _
                    refine XS.bipush X0.here hx rfl (hb hby d1_83) ?_
                    show Steps p.tables e below (s₁.setTop (mkF m 85 #[.val (.long q1), .second] [(.int (9 : Int32))])) _
                    exact retI X0 hx Bd.returns (hb hby d1_85) hr
                  · show Q_rm1 Z q1 h0 n0 _ s₁.heap _
                    rw [e0]
                    exact ⟨by rw [own_len, if_neg hc5_1, if_neg hc15_3, if_neg hc25_5, if_neg hc35_7, if_neg hc45_9, if_neg hc55_11, if_neg hc66_13, if_neg hc77_15], N0, rfl⟩
def own_s7 (r : Int64) : Int64 := ((r.toUInt64 >>> ((7 : Int32) &&& 0x3f).toInt64.toUInt64).toInt64)
def own_cont (r : Int64) : Value := .int (((((r &&& (127 : Int64)) ||| (128 : Int64)).toInt32).toInt8.toInt32)).toInt8.toInt32
def own_last (r : Int64) : Value := .int (((r.toInt32).toInt8.toInt32)).toInt8.toInt32
def own_pre : Nat → Int64 → Nat → List Value → List Value
  | 0, _, _, vs => vs
  | f + 1, r, p, vs => own_pre f (own_s7 r) (p + 1) (vs.set p (own_cont r))
def own_it : Nat → Int64 → Int64
  | 0, r => r
  | f + 1, r => own_it f (own_s7 r)
theorem own_preLen : ∀ (f : Nat) (r : Int64) (p : Nat) (vs : List Value), (own_pre f r p vs).length = vs.length
  | 0, _, _, _ => rfl
  | f + 1, r, p, vs => by rw [own_pre, own_preLen f, List.length_set]
theorem own_getSet (vs : List Value) (p k : Nat) (c d : Value) (h : p < vs.length) : (vs.set p c).getD k d = if p = k then c else vs.getD k d := by
  simp only [List.getD_eq_getElem?_getD, List.getElem?_set]
  by_cases q : p = k
  · subst q; simp [h]
  · simp [q]
theorem own_preGet (d : Value) : ∀ (f : Nat) (r : Int64) (p : Nat) (vs : List Value) (k : Nat), p + f ≤ vs.length → (own_pre f r p vs).getD k d = if p ≤ k ∧ k < p + f then own_cont (own_it (k - p) r) else vs.getD k d
  | 0, r, p, vs, k, _ => by rw [own_pre, if_neg (by omega)]
  | f + 1, r, p, vs, k, h => by
    rw [own_pre, own_preGet d f (own_s7 r) (p + 1) _ k (by rw [List.length_set]; omega), own_getSet vs p k _ d (by omega)]
    by_cases q : p = k
    · subst q
      rw [if_neg (by omega), if_pos rfl, if_pos (by omega), Nat.sub_self]; rfl
    · rw [if_neg q]
      by_cases q2 : p + 1 ≤ k ∧ k < p + 1 + f
      · rw [if_pos q2, if_pos (by omega)]
        obtain ⟨j, hj⟩ : ∃ j, k - p = j + 1 := ⟨k - (p + 1), by omega⟩
        have hj2 : k - (p + 1) = j := by omega
        rw [hj, hj2]; rfl
      · rw [if_neg q2, if_neg (by omega)]
theorem own_s7I {r : Int64} (h : 0 ≤ r.toInt) : (own_s7 r).toInt = r.toInt / 128 := by
  have e := Jvm.Kit.i64_lushr (Jvm.Kit.i64_nonneg.mpr h) (n := ((7 : Int32) &&& 0x3f).toInt64.toUInt64) (k := 7) (by decide) (by decide)
  exact e
theorem own_itI : ∀ (n : Nat) {r : Int64}, 0 ≤ r.toInt → (own_it n r).toInt = r.toInt / 2 ^ (7 * n)
  | 0, r, h => by rw [own_it]; simp
  | n + 1, r, h => by
    have e := own_s7I h
    rw [own_it, own_itI n (by rw [e]; omega), e, Int.ediv_ediv_of_nonneg (by decide)]
    congr 1
    rw [show 7 * (n + 1) = 7 * n + 7 by omega, Int.pow_add, Int.mul_comm]; rfl
theorem own_small {r : Int64} (h0 : 0 ≤ r.toInt) (h1 : r.toInt < 128) : (r &&& (-128 : Int64)) = (0 : Int64) := by
  have e : r &&& (127 : Int64) = r := by
    apply Int64.toInt_inj.mp
    rw [Jvm.Kit.i64_mask r _ (k := 7) (by decide) (by decide)]; omega
  rw [← e, Int64.and_assoc]
  have z : (127 : Int64) &&& (-128 : Int64) = 0 := by decide
  rw [z, Int64.and_zero]
theorem own_big {r : Int64} (h1 : 128 ≤ r.toInt) : ¬ ((r &&& (-128 : Int64)) = (0 : Int64)) := fun q => by
  have e : r &&& (127 : Int64) = r := by
    have o : (127 : Int64) ||| (-128 : Int64) = -1 := by decide
    have a : r &&& (-1 : Int64) = r := Int64.and_neg_one
    have b : r &&& ((127 : Int64) ||| (-128 : Int64)) = (r &&& (127 : Int64)) ||| (r &&& (-128 : Int64)) := by
      apply Int64.toBitVec_inj.mp
      simp only [Int64.toBitVec_and, Int64.toBitVec_or]
      exact BitVec.and_or_distrib_left
    rw [o, a, q, Int64.or_zero] at b
    exact b.symm
  have m := Jvm.Kit.i64_mask r (127 : Int64) (k := 7) (by decide) (by decide)
  rw [e] at m; omega
theorem d2_6 : decode prog_24_method_5_code 6 = .ok (.lload 5, 2) := by decide +kernel
theorem d2_8 : decode prog_24_method_5_code 8 = .ok (.ldc2_w 65, 3) := by decide +kernel
theorem d2_11 : decode prog_24_method_5_code 11 = .ok (.land, 1) := by decide +kernel
theorem d2_12 : decode prog_24_method_5_code 12 = .ok (.lconst 0, 1) := by decide +kernel
theorem d2_13 : decode prog_24_method_5_code 13 = .ok (.lcmp, 1) := by decide +kernel
theorem d2_14 : decode prog_24_method_5_code 14 = .ok (.ifCond .eq 32, 3) := by decide +kernel
theorem d2_17 : decode prog_24_method_5_code 17 = .ok (.aload_n 2, 1) := by decide +kernel
theorem d2_18 : decode prog_24_method_5_code 18 = .ok (.iload 4, 2) := by decide +kernel
theorem d2_20 : decode prog_24_method_5_code 20 = .ok (.lload 5, 2) := by decide +kernel
theorem d2_22 : decode prog_24_method_5_code 22 = .ok (.ldc2_w 67, 3) := by decide +kernel
theorem d2_25 : decode prog_24_method_5_code 25 = .ok (.land, 1) := by decide +kernel
theorem d2_26 : decode prog_24_method_5_code 26 = .ok (.ldc2_w 69, 3) := by decide +kernel
theorem d2_29 : decode prog_24_method_5_code 29 = .ok (.lor, 1) := by decide +kernel
theorem d2_30 : decode prog_24_method_5_code 30 = .ok (.l2i, 1) := by decide +kernel
theorem d2_31 : decode prog_24_method_5_code 31 = .ok (.i2b, 1) := by decide +kernel
theorem d2_32 : decode prog_24_method_5_code 32 = .ok (.bastore, 1) := by decide +kernel
theorem d2_33 : decode prog_24_method_5_code 33 = .ok (.iinc 4 1, 3) := by decide +kernel
theorem d2_36 : decode prog_24_method_5_code 36 = .ok (.lload 5, 2) := by decide +kernel
theorem d2_38 : decode prog_24_method_5_code 38 = .ok (.bipush 7, 2) := by decide +kernel
theorem d2_40 : decode prog_24_method_5_code 40 = .ok (.lushr, 1) := by decide +kernel
theorem d2_41 : decode prog_24_method_5_code 41 = .ok (.lstore 5, 2) := by decide +kernel
theorem d2_43 : decode prog_24_method_5_code 43 = .ok (.goto (-37), 3) := by decide +kernel
set_option maxRecDepth 65536 in
set_option maxHeartbeats 40000000 in
theorem own_turn {p : Program} {l : Launch} {e : Env} {R : Room} {s : State} {m : MethodId} {args : Array Value} {below : List Frame} {meth : Method} {c : Code} {T0 : State} {locs : List Loc} {cells slots : Nat} {Z : State} {a0 : Array Value} {h0 : Heap} {n0 : Nat} (q0 : Int64) (a2 : Addr) (i3 : Int32) (i4 : Int32) (j5 : Int64) (kk : ClassId) (nn : Int32) (vs : List Value) (o : Nat)
    (X0 : Stand p l e R s m args below meth c T0 locs cells slots) (hx : p.tables.exec = Jvm.exec) (hZ : Z.Warmed39 s.vm) (hw : ∀ d ∈ tables_1, d.before a0 Z = true) (hby : c.code = prog_24_method_5_code) (hml : c.maxLocals = 7) (hown : s.vm.findClass "com/example/morro/morro/index/IndexOutput" = some m.cls) (e0 : T0.heap = h0) (N0 : Fr n0 locs) (Z0 : n0 ≤ h0.size) (V_a2 : Arv Z h0 a2 kk .byte nn vs (.int (0 : Int32))) (g_a2 : n0 ≤ a2) (ho : i4.toNatClampNeg = o) (hin : ¬ i4 < 0 ∧ i4 < nn) (hol : o < vs.length) (hb6 : ¬ ((j5 &&& (-128 : Int64)) = (0 : Int64))) :
    ∃ (T' : State) (h' : Heap) (L' : List Loc), Stand p l e R s m args below meth c T' L' cells slots ∧ T'.heap = h' ∧ Fr n0 L' ∧ Keep h0 h' [a2] ∧ Arv Z h' a2 kk .byte nn (vs.set o (own_cont j5)) (.int (0 : Int32)) ∧ ∀ t, Steps p.tables e below (T'.setTop (mkF m 6 #[.val (.long q0), .second, .val (.ref a2), .val (.int i3), .val (.int (i4 + (1 : Int32))), .val (.long ((j5.toUInt64 >>> ((7 : Int32) &&& 0x3f).toInt64.toUInt64).toInt64)), .second] [])) t → Steps p.tables e below (T0.setTop (mkF m 6 #[.val (.long q0), .second, .val (.ref a2), .val (.int i3), .val (.int i4), .val (.long j5), .second] [])) t := by
  have pre0 : ∀ t, Steps p.tables e below (T0.setTop (mkF m 6 #[.val (.long q0), .second, .val (.ref a2), .val (.int i3), .val (.int i4), .val (.long j5), .second] [])) t → Steps p.tables e below (T0.setTop (mkF m 6 #[.val (.long q0), .second, .val (.ref a2), .val (.int i3), .val (.int i4), .val (.long j5), .second] [])) t := fun t k => k
  obtain ⟨c1, Ac1, qc1, Sc1, Nc1, Hc1, Gc1⟩ := id V_a2
  obtain ⟨T2, h2, X2, e2, W2, st2⟩ := stB X0 hx hZ e0 Ac1 (j := i4) (inb_of Sc1 hin) (g := (mkF m 32 #[.val (.long q0), .second, .val (.ref a2), .val (.int i3), .val (.int i4), .val (.long j5), .second] [(.int ((((j5 &&& (127 : Int64)) ||| (128 : Int64)).toInt32).toInt8.toInt32)), (.int i4), (.ref a2)])) rfl rfl (hb hby d2_32)
  have K3 : Keep h0 h2 [a2] := (Keep.refl h0 [a2]).wr W2 (Or.inl (List.mem_of_getElem? (i := 0) rfl))
  have N4 := Fr.snoc X2 N0 g_a2
  have Vw2 := Arv.set Ac1 qc1 Sc1 Nc1 Hc1 Gc1 (fits_nar_byte _) W2 o ho hol
  have pre5 : ∀ t, Steps p.tables e below (T2.setTop (mkF m 6 #[.val (.long q0), .second, .val (.ref a2), .val (.int i3), .val (.int (i4 + (1 : Int32))), .val (.long ((j5.toUInt64 >>> ((7 : Int32) &&& 0x3f).toInt64.toUInt64).toInt64)), .second] [])) t → Steps p.tables e below (T0.setTop (mkF m 6 #[.val (.long q0), .second, .val (.ref a2), .val (.int i3), .val (.int i4), .val (.long j5), .second] [])) t := fun t kt => by
    refine pre0 t ?_
    show Steps p.tables e below (T0.setTop (mkF m 6 #[.val (.long q0), .second, .val (.ref a2), .val (.int i3), .val (.int i4), .val (.long j5), .second] [])) _
    refine XS.lload X0.here hx rfl (hb hby d2_6) rfl ?_
    show Steps p.tables e below (T0.setTop (mkF m 8 #[.val (.long q0), .second, .val (.ref a2), .val (.int i3), .val (.int i4), .val (.long j5), .second] [(.long j5)])) _
    refine X0.ldc2Long hx hown (mvT hZ (hw _ (List.mem_of_getElem? (i := 11) rfl))) (g := (mkF m 8 #[.val (.long q0), .second, .val (.ref a2), .val (.int i3), .val (.int i4), .val (.long j5), .second] [(.long j5)])) rfl (hb hby d2_8) _ ?_
    show Steps p.tables e below (T0.setTop (mkF m 11 #[.val (.long q0), .second, .val (.ref a2), .val (.int i3), .val (.int i4), .val (.long j5), .second] [(.long (-128 : Int64)), (.long j5)])) _
    refine XS.land X0.here hx rfl (hb hby d2_11) rfl ?_
    show Steps p.tables e below (T0.setTop (mkF m 12 #[.val (.long q0), .second, .val (.ref a2), .val (.int i3), .val (.int i4), .val (.long j5), .second] [(.long (j5 &&& (-128 : Int64)))])) _
    refine XS.lconst X0.here hx rfl (hb hby d2_12) ?_
    show Steps p.tables e below (T0.setTop (mkF m 13 #[.val (.long q0), .second, .val (.ref a2), .val (.int i3), .val (.int i4), .val (.long j5), .second] [(.long (0 : Int64)), (.long (j5 &&& (-128 : Int64)))])) _
    refine XS.lcmp X0.here hx rfl (hb hby d2_13) rfl ?_
    show Steps p.tables e below (T0.setTop (mkF m 14 #[.val (.long q0), .second, .val (.ref a2), .val (.int i3), .val (.int i4), .val (.long j5), .second] [(.int (lcmpW (j5 &&& (-128 : Int64)) (0 : Int64)))])) _
    refine XS.ifNo X0.here hx rfl (hb hby d2_14) rfl (own_leqF hb6) ?_
    show Steps p.tables e below (T0.setTop (mkF m 17 #[.val (.long q0), .second, .val (.ref a2), .val (.int i3), .val (.int i4), .val (.long j5), .second] [])) _
    refine XS.aloadN X0.here hx rfl (hb hby d2_17) rfl rfl ?_
    show Steps p.tables e below (T0.setTop (mkF m 18 #[.val (.long q0), .second, .val (.ref a2), .val (.int i3), .val (.int i4), .val (.long j5), .second] [(.ref a2)])) _
    refine XS.iload X0.here hx rfl (hb hby d2_18) rfl ?_
    show Steps p.tables e below (T0.setTop (mkF m 20 #[.val (.long q0), .second, .val (.ref a2), .val (.int i3), .val (.int i4), .val (.long j5), .second] [(.int i4), (.ref a2)])) _
    refine XS.lload X0.here hx rfl (hb hby d2_20) rfl ?_
    show Steps p.tables e below (T0.setTop (mkF m 22 #[.val (.long q0), .second, .val (.ref a2), .val (.int i3), .val (.int i4), .val (.long j5), .second] [(.long j5), (.int i4), (.ref a2)])) _
    refine X0.ldc2Long hx hown (mvT hZ (hw _ (List.mem_of_getElem? (i := 19) rfl))) (g := (mkF m 22 #[.val (.long q0), .second, .val (.ref a2), .val (.int i3), .val (.int i4), .val (.long j5), .second] [(.long j5), (.int i4), (.ref a2)])) rfl (hb hby d2_22) _ ?_
    show Steps p.tables e below (T0.setTop (mkF m 25 #[.val (.long q0), .second, .val (.ref a2), .val (.int i3), .val (.int i4), .val (.long j5), .second] [(.long (127 : Int64)), (.long j5), (.int i4), (.ref a2)])) _
    refine XS.land X0.here hx rfl (hb hby d2_25) rfl ?_
    show Steps p.tables e below (T0.setTop (mkF m 26 #[.val (.long q0), .second, .val (.ref a2), .val (.int i3), .val (.int i4), .val (.long j5), .second] [(.long (j5 &&& (127 : Int64))), (.int i4), (.ref a2)])) _
    refine X0.ldc2Long hx hown (mvT hZ (hw _ (List.mem_of_getElem? (i := 20) rfl))) (g := (mkF m 26 #[.val (.long q0), .second, .val (.ref a2), .val (.int i3), .val (.int i4), .val (.long j5), .second] [(.long (j5 &&& (127 : Int64))), (.int i4), (.ref a2)])) rfl (hb hby d2_26) _ ?_
    show Steps p.tables e below (T0.setTop (mkF m 29 #[.val (.long q0), .second, .val (.ref a2), .val (.int i3), .val (.int i4), .val (.long j5), .second] [(.long (128 : Int64)), (.long (j5 &&& (127 : Int64))), (.int i4), (.ref a2)])) _
    refine XS.lor X0.here hx rfl (hb hby d2_29) rfl ?_
    show Steps p.tables e below (T0.setTop (mkF m 30 #[.val (.long q0), .second, .val (.ref a2), .val (.int i3), .val (.int i4), .val (.long j5), .second] [(.long ((j5 &&& (127 : Int64)) ||| (128 : Int64))), (.int i4), (.ref a2)])) _
    refine XS.l2i X0.here hx rfl (hb hby d2_30) rfl ?_
    show Steps p.tables e below (T0.setTop (mkF m 31 #[.val (.long q0), .second, .val (.ref a2), .val (.int i3), .val (.int i4), .val (.long j5), .second] [(.int (((j5 &&& (127 : Int64)) ||| (128 : Int64)).toInt32)), (.int i4), (.ref a2)])) _
    refine XS.i2b X0.here hx rfl (hb hby d2_31) rfl ?_
    show Steps p.tables e below (T0.setTop (mkF m 32 #[.val (.long q0), .second, .val (.ref a2), .val (.int i3), .val (.int i4), .val (.long j5), .second] [(.int ((((j5 &&& (127 : Int64)) ||| (128 : Int64)).toInt32).toInt8.toInt32)), (.int i4), (.ref a2)])) _
    refine st2 _ ?_
    show Steps p.tables e below (T2.setTop (mkF m 33 #[.val (.long q0), .second, .val (.ref a2), .val (.int i3), .val (.int i4), .val (.long j5), .second] [])) _
    refine XS.iinc X2.here hx rfl (hb hby d2_33) rfl (l' := #[.val (.long q0), .second, .val (.ref a2), .val (.int i3), .val (.int (i4 + (1 : Int32))), .val (.long j5), .second]) rfl ?_
    show Steps p.tables e below (T2.setTop (mkF m 36 #[.val (.long q0), .second, .val (.ref a2), .val (.int i3), .val (.int (i4 + (1 : Int32))), .val (.long j5), .second] [])) _
    refine XS.lload X2.here hx rfl (hb hby d2_36) rfl ?_
    show Steps p.tables e below (T2.setTop (mkF m 38 #[.val (.long q0), .second, .val (.ref a2), .val (.int i3), .val (.int (i4 + (1 : Int32))), .val (.long j5), .second] [(.long j5)])) _
    refine XS.bipush X2.here hx rfl (hb hby d2_38) ?_
    show Steps p.tables e below (T2.setTop (mkF m 40 #[.val (.long q0), .second, .val (.ref a2), .val (.int i3), .val (.int (i4 + (1 : Int32))), .val (.long j5), .second] [(.int (7 : Int32)), (.long j5)])) _
    refine XS.lushr X2.here hx rfl (hb hby d2_40) rfl ?_
    show Steps p.tables e below (T2.setTop (mkF m 41 #[.val (.long q0), .second, .val (.ref a2), .val (.int i3), .val (.int (i4 + (1 : Int32))), .val (.long j5), .second] [(.long ((j5.toUInt64 >>> ((7 : Int32) &&& 0x3f).toInt64.toUInt64).toInt64))])) _
    refine XS.lstore X2.here hx rfl (hb hby d2_41) rfl (l' := #[.val (.long q0), .second, .val (.ref a2), .val (.int i3), .val (.int (i4 + (1 : Int32))), .val (.long ((j5.toUInt64 >>> ((7 : Int32) &&& 0x3f).toInt64.toUInt64).toInt64)), .second]) rfl ?_
    show Steps p.tables e below (T2.setTop (mkF m 43 #[.val (.long q0), .second, .val (.ref a2), .val (.int i3), .val (.int (i4 + (1 : Int32))), .val (.long ((j5.toUInt64 >>> ((7 : Int32) &&& 0x3f).toInt64.toUInt64).toInt64)), .second] [])) _
    refine XS.goto X2.here hx rfl (pc0 := 43) (pc' := 6) rfl (hb hby d2_43) (by decide) (by decide) ?_
    exact kt
  exact ⟨T2, h2, _, X2, e2, N4, K3, Vw2, pre5⟩
set_option maxRecDepth 65536 in
set_option maxHeartbeats 40000000 in
theorem own_out {p : Program} {l : Launch} {e : Env} {R : Room} {s : State} {m : MethodId} {args : Array Value} {below : List Frame} {meth : Method} {c : Code} {T0 : State} {locs : List Loc} {cells slots : Nat} {Z : State} {a0 : Array Value} {h0 : Heap} {n0 : Nat} (q0 : Int64) (a2 : Addr) (i3 : Int32) (i4 : Int32) (j5 : Int64)
    (X0 : Stand p l e R s m args below meth c T0 locs cells slots) (hx : p.tables.exec = Jvm.exec) (hZ : Z.Warmed39 s.vm) (hw : ∀ d ∈ tables_1, d.before a0 Z = true) (hby : c.code = prog_24_method_5_code) (hml : c.maxLocals = 7) (hown : s.vm.findClass "com/example/morro/morro/index/IndexOutput" = some m.cls) (e0 : T0.heap = h0) (N0 : Fr n0 locs) (Z0 : n0 ≤ h0.size) (hb6 : (j5 &&& (-128 : Int64)) = (0 : Int64)) :
    ∃ T' : State, Stand p l e R s m args below meth c T' locs cells slots ∧ T'.heap = h0 ∧ ∀ t, Steps p.tables e below (T'.setTop (mkF m 46 #[.val (.long q0), .second, .val (.ref a2), .val (.int i3), .val (.int i4), .val (.long j5), .second] [])) t → Steps p.tables e below (T0.setTop (mkF m 6 #[.val (.long q0), .second, .val (.ref a2), .val (.int i3), .val (.int i4), .val (.long j5), .second] [])) t := by
  have pre0 : ∀ t, Steps p.tables e below (T0.setTop (mkF m 6 #[.val (.long q0), .second, .val (.ref a2), .val (.int i3), .val (.int i4), .val (.long j5), .second] [])) t → Steps p.tables e below (T0.setTop (mkF m 6 #[.val (.long q0), .second, .val (.ref a2), .val (.int i3), .val (.int i4), .val (.long j5), .second] [])) t := fun t k => k
  have pre1 : ∀ t, Steps p.tables e below (T0.setTop (mkF m 46 #[.val (.long q0), .second, .val (.ref a2), .val (.int i3), .val (.int i4), .val (.long j5), .second] [])) t → Steps p.tables e below (T0.setTop (mkF m 6 #[.val (.long q0), .second, .val (.ref a2), .val (.int i3), .val (.int i4), .val (.long j5), .second] [])) t := fun t kt => by
    refine pre0 t ?_
    show Steps p.tables e below (T0.setTop (mkF m 6 #[.val (.long q0), .second, .val (.ref a2), .val (.int i3), .val (.int i4), .val (.long j5), .second] [])) _
    refine XS.lload X0.here hx rfl (hb hby d2_6) rfl ?_
    show Steps p.tables e below (T0.setTop (mkF m 8 #[.val (.long q0), .second, .val (.ref a2), .val (.int i3), .val (.int i4), .val (.long j5), .second] [(.long j5)])) _
    refine X0.ldc2Long hx hown (mvT hZ (hw _ (List.mem_of_getElem? (i := 11) rfl))) (g := (mkF m 8 #[.val (.long q0), .second, .val (.ref a2), .val (.int i3), .val (.int i4), .val (.long j5), .second] [(.long j5)])) rfl (hb hby d2_8) _ ?_
    show Steps p.tables e below (T0.setTop (mkF m 11 #[.val (.long q0), .second, .val (.ref a2), .val (.int i3), .val (.int i4), .val (.long j5), .second] [(.long (-128 : Int64)), (.long j5)])) _
    refine XS.land X0.here hx rfl (hb hby d2_11) rfl ?_
    show Steps p.tables e below (T0.setTop (mkF m 12 #[.val (.long q0), .second, .val (.ref a2), .val (.int i3), .val (.int i4), .val (.long j5), .second] [(.long (j5 &&& (-128 : Int64)))])) _
    refine XS.lconst X0.here hx rfl (hb hby d2_12) ?_
    show Steps p.tables e below (T0.setTop (mkF m 13 #[.val (.long q0), .second, .val (.ref a2), .val (.int i3), .val (.int i4), .val (.long j5), .second] [(.long (0 : Int64)), (.long (j5 &&& (-128 : Int64)))])) _
    refine XS.lcmp X0.here hx rfl (hb hby d2_13) rfl ?_
    show Steps p.tables e below (T0.setTop (mkF m 14 #[.val (.long q0), .second, .val (.ref a2), .val (.int i3), .val (.int i4), .val (.long j5), .second] [(.int (lcmpW (j5 &&& (-128 : Int64)) (0 : Int64)))])) _
    refine XS.ifYes X0.here hx rfl (pc0 := 14) (pc' := 46) rfl (hb hby d2_14) rfl (own_leqT hb6) (by decide) (by decide) ?_
    exact kt
  exact ⟨T0, X0, e0, pre1⟩
theorem own_inc {i : Int32} {f : Nat} {N : Nat} (h0 : 0 ≤ i.toInt) (h1 : i.toInt + (f + 1) < N) (hN : N ≤ 2000000000) : (i + (1 : Int32)).toInt = i.toInt + 1 := by
  have e : (1 : Int32).toInt = 1 := by decide
  rw [Jvm.Kit.i32_add (by omega) (by omega), e]
theorem own_lt {i nn : Int32} {N : Nat} (h0 : 0 ≤ i.toInt) (h1 : i.toInt < N) (hN : nn.toInt = N) : ¬ i < 0 ∧ i < nn := by
  rw [Int32.lt_iff_toInt_lt, Int32.lt_iff_toInt_lt, Int32.toInt_zero]; omega
theorem own_loop {p : Program} {l : Launch} {e : Env} {R : Room} {s : State} {m : MethodId} {args : Array Value} {below : List Frame} {meth : Method} {c : Code} {cells slots : Nat} {Z : State} {a0 : Array Value} {n0 : Nat} (q0 : Int64) (a2 : Addr) (i3 : Int32) (kk : ClassId) (nn : Int32) (N : Nat) (hN : nn.toInt = N) (hN2 : N ≤ 2000000000)
    (hx : p.tables.exec = Jvm.exec) (hZ : Z.Warmed39 s.vm) (hw : ∀ d ∈ tables_1, d.before a0 Z = true) (hby : c.code = prog_24_method_5_code) (hml : c.maxLocals = 7) (hown : s.vm.findClass "com/example/morro/morro/index/IndexOutput" = some m.cls) (g_a2 : n0 ≤ a2) :
    ∀ (f : Nat) (T0 : State) (locs : List Loc) (h0 : Heap) (i4 : Int32) (j5 : Int64) (vs : List Value), Stand p l e R s m args below meth c T0 locs cells slots → T0.heap = h0 → Fr n0 locs → n0 ≤ h0.size → Arv Z h0 a2 kk .byte nn vs (.int (0 : Int32)) → vs.length = N → 0 ≤ i4.toInt → i4.toInt + f < N → 0 ≤ j5.toInt → j5.toInt < 2 ^ (7 * (f + 1)) → (f ≠ 0 → 2 ^ (7 * f) ≤ j5.toInt) →
      ∃ (T' : State) (h' : Heap) (L' : List Loc) (i' : Int32) (j' : Int64), i'.toInt = i4.toInt + f ∧ j' = own_it f j5 ∧ Stand p l e R s m args below meth c T' L' cells slots ∧ T'.heap = h' ∧ Fr n0 L' ∧ Keep h0 h' [a2] ∧ Arv Z h' a2 kk .byte nn (own_pre f j5 i4.toNatClampNeg vs) (.int (0 : Int32)) ∧
        ∀ t, Steps p.tables e below (T'.setTop (mkF m 46 #[.val (.long q0), .second, .val (.ref a2), .val (.int i3), .val (.int i'), .val (.long j'), .second] [])) t → Steps p.tables e below (T0.setTop (mkF m 6 #[.val (.long q0), .second, .val (.ref a2), .val (.int i3), .val (.int i4), .val (.long j5), .second] [])) t := by
  intro f
  induction f with
  | zero =>
    intro T0 locs h0 i4 j5 vs X0 e0 N0 Z0 V hl hi hi2 hj hj2 hj3
    obtain ⟨T1, X1, e1, st⟩ := own_out q0 a2 i3 i4 j5 X0 hx hZ hw hby hml hown e0 N0 Z0 (own_small hj (by simpa using hj2))
    exact ⟨T1, h0, locs, i4, j5, by omega, rfl, X1, e1, N0, Keep.refl _ _, V, st⟩
  | succ f ih =>
    intro T0 locs h0 i4 j5 vs X0 e0 N0 Z0 V hl hi hi2 hj hj2 hj3
    have hge : (128 : Int) ≤ j5.toInt := by
      have q := hj3 (by omega)
      have q2 : (2 : Int) ^ 7 ≤ 2 ^ (7 * (f + 1)) := by
        have : (2 : Nat) ^ 7 ≤ 2 ^ (7 * (f + 1)) := Nat.pow_le_pow_right (by decide) (by omega)
        exact_mod_cast this
      omega
    have hk : i4.toNatClampNeg < vs.length := by
      show i4.toInt.toNat < vs.length
      omega
    obtain ⟨T1, h1, L1, X1, e1, N1, K1, V1, st1⟩ := own_turn q0 a2 i3 i4 j5 kk nn vs i4.toNatClampNeg X0 hx hZ hw hby hml hown e0 N0 Z0 V g_a2 rfl (own_lt hi (by omega) hN) hk (own_big hge)
    have ei := own_inc (f := f) (N := N) hi (by omega) hN2
    have es := own_s7I hj
    have q1 : (2 : Int) ^ (7 * (f + 1 + 1)) = 2 ^ (7 * (f + 1)) * 128 := by rw [show 7 * (f + 1 + 1) = 7 * (f + 1) + 7 by omega, Int.pow_add]; rfl
    have q2 : (2 : Int) ^ (7 * (f + 1)) = 2 ^ (7 * f) * 128 := by rw [show 7 * (f + 1) = 7 * f + 7 by omega, Int.pow_add]; rfl
    have q3 := hj3 (by omega)
    obtain ⟨T2, h2, L2, i2, j2, a1, a2', X2, e2, N2, K2, V2, st2⟩ := ih T1 L1 h1 (i4 + (1 : Int32)) (own_s7 j5) (vs.set i4.toNatClampNeg (own_cont j5)) X1 e1 N1 (Nat.le_trans Z0 K1.1) V1 (by rw [List.length_set]; exact hl) (by omega) (by omega) (by rw [es]; omega) (by rw [es]; omega) (fun _ => by rw [es]; omega)
    have ec : (i4 + (1 : Int32)).toNatClampNeg = i4.toNatClampNeg + 1 := by
      show (i4 + (1 : Int32)).toInt.toNat = i4.toInt.toNat + 1
      omega
    rw [ec] at V2
    exact ⟨T2, h2, L2, i2, j2, by omega, a2', X2, e2, N2, K1.trans K2 (allS (P := fun x => x ∈ [a2] ∨ h0.size ≤ x) (Or.inl (List.mem_of_getElem? (i := 0) rfl)) all0), V2, fun t kt => st1 t (st2 t kt)⟩
theorem own_rv {i p ln : Int32} {f N : Nat} (h : i.toInt = p.toInt + f) (hl : ln.toInt = f + 1) (h0 : 0 ≤ p.toInt) (h1 : p.toInt + f < N) (hN : N ≤ 2000000000) : i + (1 : Int32) = p + ln := by
  have e : (1 : Int32).toInt = 1 := by decide
  apply Int32.toInt_inj.mp
  rw [Jvm.Kit.i32_add (by omega) (by omega), Jvm.Kit.i32_add (by omega) (by omega), e]; omega
theorem d2_0 : decode prog_24_method_5_code 0 = .ok (.iload_n 3, 1) := by decide +kernel
theorem d2_1 : decode prog_24_method_5_code 1 = .ok (.istore 4, 2) := by decide +kernel
theorem d2_3 : decode prog_24_method_5_code 3 = .ok (.lload_n 0, 1) := by decide +kernel
theorem d2_4 : decode prog_24_method_5_code 4 = .ok (.lstore 5, 2) := by decide +kernel
theorem d2_46 : decode prog_24_method_5_code 46 = .ok (.aload_n 2, 1) := by decide +kernel
theorem d2_47 : decode prog_24_method_5_code 47 = .ok (.iload 4, 2) := by decide +kernel
theorem d2_49 : decode prog_24_method_5_code 49 = .ok (.lload 5, 2) := by decide +kernel
theorem d2_51 : decode prog_24_method_5_code 51 = .ok (.l2i, 1) := by decide +kernel
theorem d2_52 : decode prog_24_method_5_code 52 = .ok (.i2b, 1) := by decide +kernel
theorem d2_53 : decode prog_24_method_5_code 53 = .ok (.bastore, 1) := by decide +kernel
theorem d2_54 : decode prog_24_method_5_code 54 = .ok (.iload 4, 2) := by decide +kernel
theorem d2_56 : decode prog_24_method_5_code 56 = .ok (.iconst 1, 1) := by decide +kernel
theorem d2_57 : decode prog_24_method_5_code 57 = .ok (.iadd, 1) := by decide +kernel
theorem d2_58 : decode prog_24_method_5_code 58 = .ok (.ireturn, 1) := by decide +kernel
theorem pn_com_example_morro_morro_index_IndexOutput : plainName "com/example/morro/morro/index/IndexOutput" = true := by first | (simp [plainName, overriddenIn]; done) | decide +kernel
theorem ef_rm2 (m : MethodId) (q1 : Int64) (a2 : Addr) (p3 : Int32) : entryFrame m #[(.long q1), (.ref a2), (.int p3)] 7 = mkF m 0 #[.val (.long q1), .second, .val (.ref a2), .val (.int p3), .unset, .unset, .unset] [] := by first | (simp [entryFrame, mkF, argsToLocals, Value.category]; done) | rfl
def Q_rm2 (Z : State) (q1 : Int64) (a2 : Addr) (p3 : Int32) (kk : ClassId) (nn : Int32) (vs : List Value) (f : Nat) (N : Nat) (ln : Int32) (h0 : Heap) (n0 : Nat) (v : Option Value) (h : Heap) (L : List Loc) : Prop := v = some (.int (p3 + ln)) ∧ Fr n0 L ∧ Keep h0 h [a2] ∧ Arv Z h a2 kk .byte nn ((own_pre f q1 p3.toNatClampNeg vs).set (p3.toNatClampNeg + f) (own_last (own_it f q1))) (.int (0 : Int32))
set_option maxRecDepth 65536 in
set_option maxHeartbeats 40000000 in
theorem rm2 (l : Launch) (Z : State) (a0 : Array Value) (hw : ∀ d ∈ tables_1, d.before a0 Z = true) (ws : List Jvm.Cond) (q1 : Int64) (a2 : Addr) (p3 : Int32) (kk : ClassId) (nn : Int32) (vs : List Value) (f : Nat) (N : Nat) (ln : Int32) (h0 : Heap) (n0 : Nat) (Z0 : n0 ≤ h0.size) (V_a2 : Arv Z h0 a2 kk .byte nn vs (.int (0 : Int32))) (g_a2 : n0 ≤ a2) (hN : nn.toInt = N) (hN2 : N ≤ 2000000000) (hl : vs.length = N) (hi : 0 ≤ p3.toInt) (hi2 : p3.toInt + f < N) (hj : 0 ≤ q1.toInt) (hj2 : q1.toInt < 2 ^ (7 * (f + 1))) (hj3 : f ≠ 0 → 2 ^ (7 * f) ≤ q1.toInt) (hln : ln.toInt = f + 1) :
    MetFree l (⟨"com/example/morro/morro/index/IndexOutput", "encodeNumber", "(J[BI)I"⟩ : MethodName) (head1 (Jvm.Cond.code (⟨"com/example/morro/morro/index/IndexOutput", "encodeNumber", "(J[BI)I"⟩ : MethodName) prog_24_method_5_code 7 (some .int) :: ws) ({ frames := 0, cells := 0, slots := 0, locals := 0 } : Room)) (fun a U => a = #[(.long q1), (.ref a2), (.int p3)] ∧ Z.Warmed39 U.vm ∧ U.heap = h0) (fun _ _ _ _ _ => True) (fun _ U o U' => ∃ v L, o = .returned v ∧ Q_rm2 Z q1 a2 p3 kk nn vs f N ln h0 n0 v U'.heap L ∧ FrameEnd U o U' L ({ frames := 0, cells := 0, slots := 0, locals := 0 } : Room).cells ({ frames := 0, cells := 0, slots := 0, locals := 0 } : Room).slots) := by
  refine MetFree.of_bodySF (plainFor_of_name pn_com_example_morro_morro_index_IndexOutput) hisR ?_
  intro p e s m args below meth c s₁ Bd hml0 hP hK
  obtain ⟨rfl, hZ, hh⟩ := hP
  have hx := Bd.exec
  have hby := Bd.bytes
  have hml : c.maxLocals = 7 := hml0
  have hown : s.vm.findClass "com/example/morro/morro/index/IndexOutput" = some m.cls := findClass_of_methodNamed Bd.named
  have hnm := (name_of_methodNamed Bd.named Bd.method).1
  have X0 : Stand p l e ({ frames := 0, cells := 0, slots := 0, locals := 0 } : Room) s m #[(.long q1), (.ref a2), (.int p3)] below meth c s₁ [] 0 0 := Stand.of_body Bd
  have e0 : s₁.heap = h0 := by rw [← hh, Bd.state]; rfl
  have N0 := Fr.nil n0
  have pre0 : ∀ t, Steps p.tables e below (s₁.setTop (mkF m 0 #[.val (.long q1), .second, .val (.ref a2), .val (.int p3), .unset, .unset, .unset] [])) t → Steps p.tables e below (s₁.setTop (entryFrame m #[(.long q1), (.ref a2), (.int p3)] 7)) t := fun t k => castTop (ef_rm2 m q1 a2 p3) k
  have pre1 : ∀ t, Steps p.tables e below (s₁.setTop (mkF m 6 #[.val (.long q1), .second, .val (.ref a2), .val (.int p3), .val (.int p3), .val (.long q1), .second] [])) t → Steps p.tables e below (s₁.setTop (entryFrame m #[(.long q1), (.ref a2), (.int p3)] 7)) t := fun t kt => by
    refine pre0 t ?_
    show Steps p.tables e below (s₁.setTop (mkF m 0 #[.val (.long q1), .second, .val (.ref a2), .val (.int p3), .unset, .unset, .unset] [])) _
    refine XS.iloadN X0.here hx rfl (hb hby d2_0) rfl ?_
    show Steps p.tables e below (s₁.setTop (mkF m 1 #[.val (.long q1), .second, .val (.ref a2), .val (.int p3), .unset, .unset, .unset] [(.int p3)])) _
    refine XS.istore X0.here hx rfl (hb hby d2_1) rfl (l' := #[.val (.long q1), .second, .val (.ref a2), .val (.int p3), .val (.int p3), .unset, .unset]) rfl ?_
    show Steps p.tables e below (s₁.setTop (mkF m 3 #[.val (.long q1), .second, .val (.ref a2), .val (.int p3), .val (.int p3), .unset, .unset] [])) _
    refine XS.lloadN X0.here hx rfl (hb hby d2_3) rfl ?_
    show Steps p.tables e below (s₁.setTop (mkF m 4 #[.val (.long q1), .second, .val (.ref a2), .val (.int p3), .val (.int p3), .unset, .unset] [(.long q1)])) _
    refine XS.lstore X0.here hx rfl (hb hby d2_4) rfl (l' := #[.val (.long q1), .second, .val (.ref a2), .val (.int p3), .val (.int p3), .val (.long q1), .second]) rfl ?_
    exact kt
  obtain ⟨TL, hL, LL, i', j', ha, hb, XL, eL, NL, KL, VL, stL⟩ := own_loop q1 a2 p3 kk nn N hN hN2 hx hZ hw hby hml hown g_a2 f s₁ [] h0 p3 q1 vs X0 e0 N0 Z0 V_a2 hl hi hi2 hj hj2 hj3
  subst hb
  have ho : i'.toNatClampNeg = p3.toNatClampNeg + f := by
    show i'.toInt.toNat = p3.toInt.toNat + f
    omega
  obtain ⟨c2, Ac2, qc2, Sc2, Nc2, Hc2, Gc2⟩ := id VL
  obtain ⟨T3, h3, X3, e3, W3, st3⟩ := stB XL hx hZ eL Ac2 (j := i') (inb_of Sc2 (own_lt (by omega) (by omega) hN)) (g := (mkF m 53 #[.val (.long q1), .second, .val (.ref a2), .val (.int p3), .val (.int i'), .val (.long (own_it f q1)), .second] [(.int (((own_it f q1).toInt32).toInt8.toInt32)), (.int i'), (.ref a2)])) rfl rfl (hb hby d2_53)
  have K4 : Keep h0 h3 [a2] := KL.wr W3 (Or.inl (List.mem_of_getElem? (i := 0) rfl))
  have N5 := Fr.snoc X3 NL g_a2
  have Vw3 := Arv.set Ac2 qc2 Sc2 Nc2 Hc2 Gc2 (fits_nar_byte _) W3 (p3.toNatClampNeg + f) ho (by rw [own_preLen, hl]; show p3.toInt.toNat + f < N; omega)
  obtain ⟨fs, hr, hrun, hended, hW, hsame⟩ := X3.leave (v := some (.int (i' + (1 : Int32)))) (fun h => by rw [Bd.returns] at h; cases h)
  refine ⟨_, _, pre1 _ ?_, hrun, hended, _, _, rfl, ?_, ⟨_, rfl⟩, hW, hsame.mono (by decide) (by decide)⟩
  · refine stL _ ?_
    show Steps p.tables e below (TL.setTop (mkF m 46 #[.val (.long q1), .second, .val (.ref a2), .val (.int p3), .val (.int i'), .val (.long (own_it f q1)), .second] [])) _
    refine XS.aloadN XL.here hx rfl (hb hby d2_46) rfl rfl ?_
    show Steps p.tables e below (TL.setTop (mkF m 47 #[.val (.long q1), .second, .val (.ref a2), .val (.int p3), .val (.int i'), .val (.long (own_it f q1)), .second] [(.ref a2)])) _
    refine XS.iload XL.here hx rfl (hb hby d2_47) rfl ?_
    show Steps p.tables e below (TL.setTop (mkF m 49 #[.val (.long q1), .second, .val (.ref a2), .val (.int p3), .val (.int i'), .val (.long (own_it f q1)), .second] [(.int i'), (.ref a2)])) _
    refine XS.lload XL.here hx rfl (hb hby d2_49) rfl ?_
    show Steps p.tables e below (TL.setTop (mkF m 51 #[.val (.long q1), .second, .val (.ref a2), .val (.int p3), .val (.int i'), .val (.long (own_it f q1)), .second] [(.long (own_it f q1)), (.int i'), (.ref a2)])) _
    refine XS.l2i XL.here hx rfl (hb hby d2_51) rfl ?_
    show Steps p.tables e below (TL.setTop (mkF m 52 #[.val (.long q1), .second, .val (.ref a2), .val (.int p3), .val (.int i'), .val (.long (own_it f q1)), .second] [(.int ((own_it f q1).toInt32)), (.int i'), (.ref a2)])) _
    refine XS.i2b XL.here hx rfl (hb hby d2_52) rfl ?_
    show Steps p.tables e below (TL.setTop (mkF m 53 #[.val (.long q1), .second, .val (.ref a2), .val (.int p3), .val (.int i'), .val (.long (own_it f q1)), .second] [(.int (((own_it f q1).toInt32).toInt8.toInt32)), (.int i'), (.ref a2)])) _
    refine st3 _ ?_
    show Steps p.tables e below (T3.setTop (mkF m 54 #[.val (.long q1), .second, .val (.ref a2), .val (.int p3), .val (.int i'), .val (.long (own_it f q1)), .second] [])) _
    refine XS.iload X3.here hx rfl (hb hby d2_54) rfl ?_
    show Steps p.tables e below (T3.setTop (mkF m 56 #[.val (.long q1), .second, .val (.ref a2), .val (.int p3), .val (.int i'), .val (.long (own_it f q1)), .second] [(.int i')])) _
    refine XS.iconst X3.here hx rfl (hb hby d2_56) ?_
    show Steps p.tables e below (T3.setTop (mkF m 57 #[.val (.long q1), .second, .val (.ref a2), .val (.int p3), .val (.int i'), .val (.long (own_it f q1)), .second] [(.int (1 : Int32)), (.int i')])) _
    refine XS.iadd X3.here hx rfl (hb hby d2_57) rfl ?_
    show Steps p.tables e below (T3.setTop (mkF m 58 #[.val (.long q1), .second, .val (.ref a2), .val (.int p3), .val (.int i'), .val (.long (own_it f q1)), .second] [(.int (i' + (1 : Int32)))])) _
    exact retI X3 hx Bd.returns (hb hby d2_58) hr
  · show Q_rm2 Z q1 a2 p3 kk nn vs f N ln h0 n0 _ T3.heap _
    rw [e3]
    exact ⟨by rw [own_rv ha hln hi (by omega) hN2], N5, K4, Vw3⟩
theorem d3_0 : decode method_4_code 0 = .ok (.iload_n 1, 1) := by decide +kernel
theorem d3_1 : decode method_4_code 1 = .ok (.iload_n 2, 1) := by decide +kernel
theorem d3_2 : decode method_4_code 2 = .ok (.isub, 1) := by decide +kernel
theorem d3_3 : decode method_4_code 3 = .ok (.istore 7, 2) := by decide +kernel
theorem d3_5 : decode method_4_code 5 = .ok (.iload 7, 2) := by decide +kernel
theorem d3_7 : decode method_4_code 7 = .ok (.ifCond .lt 10, 3) := by decide +kernel
theorem d3_17 : decode method_4_code 17 = .ok (.iload 6, 2) := by decide +kernel
theorem d3_19 : decode method_4_code 19 = .ok (.istore 8, 2) := by decide +kernel
theorem d3_21 : decode method_4_code 21 = .ok (.goto 45, 3) := by decide +kernel
theorem d3_10 : decode method_4_code 10 = .ok (.iload 7, 2) := by decide +kernel
theorem d3_12 : decode method_4_code 12 = .ok (.iload 5, 2) := by decide +kernel
theorem d3_14 : decode method_4_code 14 = .ok (.if_icmp .lt 10, 3) := by decide +kernel
theorem d3_24 : decode method_4_code 24 = .ok (.iload 7, 2) := by decide +kernel
theorem d3_26 : decode method_4_code 26 = .ok (.iload 5, 2) := by decide +kernel
theorem d3_28 : decode method_4_code 28 = .ok (.iconst 1, 1) := by decide +kernel
theorem d3_29 : decode method_4_code 29 = .ok (.isub, 1) := by decide +kernel
theorem d3_30 : decode method_4_code 30 = .ok (.if_icmp .ge 25, 3) := by decide +kernel
theorem d3_33 : decode method_4_code 33 = .ok (.lload_n 3, 1) := by decide +kernel
theorem d3_34 : decode method_4_code 34 = .ok (.bipush 7, 2) := by decide +kernel
theorem d3_36 : decode method_4_code 36 = .ok (.iload 7, 2) := by decide +kernel
theorem d3_38 : decode method_4_code 38 = .ok (.imul, 1) := by decide +kernel
theorem d3_39 : decode method_4_code 39 = .ok (.lushr, 1) := by decide +kernel
theorem d3_40 : decode method_4_code 40 = .ok (.ldc2_w 43, 3) := by decide +kernel
theorem d3_43 : decode method_4_code 43 = .ok (.land, 1) := by decide +kernel
theorem d3_44 : decode method_4_code 44 = .ok (.ldc2_w 27, 3) := by decide +kernel
theorem d3_47 : decode method_4_code 47 = .ok (.lor, 1) := by decide +kernel
theorem d3_48 : decode method_4_code 48 = .ok (.l2i, 1) := by decide +kernel
theorem d3_49 : decode method_4_code 49 = .ok (.i2b, 1) := by decide +kernel
theorem d3_50 : decode method_4_code 50 = .ok (.istore 8, 2) := by decide +kernel
theorem d3_52 : decode method_4_code 52 = .ok (.goto 14, 3) := by decide +kernel
theorem d3_55 : decode method_4_code 55 = .ok (.lload_n 3, 1) := by decide +kernel
theorem d3_56 : decode method_4_code 56 = .ok (.bipush 7, 2) := by decide +kernel
theorem d3_58 : decode method_4_code 58 = .ok (.iload 7, 2) := by decide +kernel
theorem d3_60 : decode method_4_code 60 = .ok (.imul, 1) := by decide +kernel
theorem d3_61 : decode method_4_code 61 = .ok (.lushr, 1) := by decide +kernel
theorem d3_62 : decode method_4_code 62 = .ok (.l2i, 1) := by decide +kernel
theorem d3_63 : decode method_4_code 63 = .ok (.i2b, 1) := by decide +kernel
theorem d3_64 : decode method_4_code 64 = .ok (.istore 8, 2) := by decide +kernel
theorem d3_66 : decode method_4_code 66 = .ok (.aload_n 0, 1) := by decide +kernel
theorem d3_67 : decode method_4_code 67 = .ok (.iload_n 1, 1) := by decide +kernel
theorem d3_68 : decode method_4_code 68 = .ok (.baload, 1) := by decide +kernel
theorem d3_69 : decode method_4_code 69 = .ok (.iload 8, 2) := by decide +kernel
theorem d3_71 : decode method_4_code 71 = .ok (.if_icmp .ne 7, 3) := by decide +kernel
theorem d3_74 : decode method_4_code 74 = .ok (.iconst 1, 1) := by decide +kernel
theorem d3_75 : decode method_4_code 75 = .ok (.goto 4, 3) := by decide +kernel
theorem d3_79 : decode method_4_code 79 = .ok (.ireturn, 1) := by decide +kernel
def own_want (p2 p3 : Int32) (q4 : Int64) (p5 p6 : Int32) : Int32 := (if (p2 - p3) < (0 : Int32) then p6 else (if (p2 - p3) < p5 then (if (p2 - p3) < (p5 - (1 : Int32)) then ((((((q4.toUInt64 >>> (((7 : Int32) * (p2 - p3)) &&& 0x3f).toInt64.toUInt64).toInt64) &&& (127 : Int64)) ||| (128 : Int64)).toInt32).toInt8.toInt32) else ((((q4.toUInt64 >>> (((7 : Int32) * (p2 - p3)) &&& 0x3f).toInt64.toUInt64).toInt64).toInt32).toInt8.toInt32)) else p6))
theorem ef_rm3 (m : MethodId) (a1 : Addr) (p2 : Int32) (p3 : Int32) (q4 : Int64) (p5 : Int32) (p6 : Int32) : entryFrame m #[(.ref a1), (.int p2), (.int p3), (.long q4), (.int p5), (.int p6)] 9 = mkF m 0 #[.val (.ref a1), .val (.int p2), .val (.int p3), .val (.long q4), .second, .val (.int p5), .val (.int p6), .unset, .unset] [] := by first | (simp [entryFrame, mkF, argsToLocals, Value.category]; done) | rfl
def Q_rm3 (Z : State) (a1 : Addr) (p2 : Int32) (p3 : Int32) (q4 : Int64) (p5 : Int32) (p6 : Int32) (kk : ClassId) (nn : Int32) (vs : List Value) (h0 : Heap) (n0 : Nat) (v : Option Value) (h : Heap) (L : List Loc) : Prop := v = some (.int (1 : Int32)) ∧ Fr n0 L ∧ h = h0
set_option maxRecDepth 65536 in
set_option maxHeartbeats 40000000 in
theorem rm3 (l : Launch) (Z : State) (a0 : Array Value) (hw : ∀ d ∈ tables_1, d.before a0 Z = true) (ws : List Jvm.Cond) (a1 : Addr) (p2 : Int32) (p3 : Int32) (q4 : Int64) (p5 : Int32) (p6 : Int32) (kk : ClassId) (nn : Int32) (vs : List Value) (h0 : Heap) (n0 : Nat) (Z0 : n0 ≤ h0.size) (V_a1 : Arv Z h0 a1 kk .byte nn vs (.int (0 : Int32))) (hin : ¬ p2 < 0 ∧ p2 < nn) (hget : vs.getD p2.toNatClampNeg (.int (0 : Int32)) = .int (own_want p2 p3 q4 p5 p6)) :
    MetFree l (⟨"com/example/morro/morro/index/IndexOutputEncodeNumberPinLaw", "at", "([BIIJIB)Z"⟩ : MethodName) (head1 (Jvm.Cond.code (⟨"com/example/morro/morro/index/IndexOutputEncodeNumberPinLaw", "at", "([BIIJIB)Z"⟩ : MethodName) method_4_code 9 (some .boolean) :: ws) ({ frames := 0, cells := 0, slots := 0, locals := 0 } : Room)) (fun a U => a = #[(.ref a1), (.int p2), (.int p3), (.long q4), (.int p5), (.int p6)] ∧ Z.Warmed39 U.vm ∧ U.heap = h0) (fun _ _ _ _ _ => True) (fun _ U o U' => ∃ v L, o = .returned v ∧ Q_rm3 Z a1 p2 p3 q4 p5 p6 kk nn vs h0 n0 v U'.heap L ∧ FrameEnd U o U' L ({ frames := 0, cells := 0, slots := 0, locals := 0 } : Room).cells ({ frames := 0, cells := 0, slots := 0, locals := 0 } : Room).slots) := by
  refine MetFree.of_bodySF (plainFor_of_name pn_com_example_morro_morro_index_IndexOutputEncodeNumberPinLaw) hisR ?_
  intro p e s m args below meth c s₁ Bd hml0 hP hK
  obtain ⟨rfl, hZ, hh⟩ := hP
  have hx := Bd.exec
  have hby := Bd.bytes
  have hml : c.maxLocals = 9 := hml0
  have hown : s.vm.findClass "com/example/morro/morro/index/IndexOutputEncodeNumberPinLaw" = some m.cls := findClass_of_methodNamed Bd.named
  have hnm := (name_of_methodNamed Bd.named Bd.method).1
  have X0 : Stand p l e ({ frames := 0, cells := 0, slots := 0, locals := 0 } : Room) s m #[(.ref a1), (.int p2), (.int p3), (.long q4), (.int p5), (.int p6)] below meth c s₁ [] 0 0 := Stand.of_body Bd
  have e0 : s₁.heap = h0 := by rw [← hh, Bd.state]; rfl
  have N0 := Fr.nil n0
  have pre0 : ∀ t, Steps p.tables e below (s₁.setTop (mkF m 0 #[.val (.ref a1), .val (.int p2), .val (.int p3), .val (.long q4), .second, .val (.int p5), .val (.int p6), .unset, .unset] [])) t → Steps p.tables e below (s₁.setTop (entryFrame m #[(.ref a1), (.int p2), (.int p3), (.long q4), (.int p5), (.int p6)] 9)) t := fun t k => castTop (ef_rm3 m a1 p2 p3 q4 p5 p6) k
  have pre1 : ∀ t, Steps p.tables e below (s₁.setTop (mkF m 7 #[.val (.ref a1), .val (.int p2), .val (.int p3), .val (.long q4), .second, .val (.int p5), .val (.int p6), .val (.int (p2 - p3)), .unset] [(.int (p2 - p3))])) t → Steps p.tables e below (s₁.setTop (entryFrame m #[(.ref a1), (.int p2), (.int p3), (.long q4), (.int p5), (.int p6)] 9)) t := fun t kt => by
    refine pre0 t ?_
    show Steps p.tables e below (s₁.setTop (mkF m 0 #[.val (.ref a1), .val (.int p2), .val (.int p3), .val (.long q4), .second, .val (.int p5), .val (.int p6), .unset, .unset] [])) _
    refine XS.iloadN X0.here hx rfl (hb hby d3_0) rfl ?_
    show Steps p.tables e below (s₁.setTop (mkF m 1 #[.val (.ref a1), .val (.int p2), .val (.int p3), .val (.long q4), .second, .val (.int p5), .val (.int p6), .unset, .unset] [(.int p2)])) _
    refine XS.iloadN X0.here hx rfl (hb hby d3_1) rfl ?_
    show Steps p.tables e below (s₁.setTop (mkF m 2 #[.val (.ref a1), .val (.int p2), .val (.int p3), .val (.long q4), .second, .val (.int p5), .val (.int p6), .unset, .unset] [(.int p3), (.int p2)])) _
    refine XS.isub X0.here hx rfl (hb hby d3_2) rfl ?_
    show Steps p.tables e below (s₁.setTop (mkF m 3 #[.val (.ref a1), .val (.int p2), .val (.int p3), .val (.long q4), .second, .val (.int p5), .val (.int p6), .unset, .unset] [(.int (p2 - p3))])) _
    refine XS.istore X0.here hx rfl (hb hby d3_3) rfl (l' := #[.val (.ref a1), .val (.int p2), .val (.int p3), .val (.long q4), .second, .val (.int p5), .val (.int p6), .val (.int (p2 - p3)), .unset]) rfl ?_
    show Steps p.tables e below (s₁.setTop (mkF m 5 #[.val (.ref a1), .val (.int p2), .val (.int p3), .val (.long q4), .second, .val (.int p5), .val (.int p6), .val (.int (p2 - p3)), .unset] [])) _
    refine XS.iload X0.here hx rfl (hb hby d3_5) rfl ?_
    exact kt
  obtain ⟨wt, h_wt, pre5⟩ : ∃ z : Int32, z = (if (p2 - p3) < (0 : Int32) then p6 else (if (p2 - p3) < p5 then (if (p2 - p3) < (p5 - (1 : Int32)) then ((((((q4.toUInt64 >>> (((7 : Int32) * (p2 - p3)) &&& 0x3f).toInt64.toUInt64).toInt64) &&& (127 : Int64)) ||| (128 : Int64)).toInt32).toInt8.toInt32) else ((((q4.toUInt64 >>> (((7 : Int32) * (p2 - p3)) &&& 0x3f).toInt64.toUInt64).toInt64).toInt32).toInt8.toInt32)) else p6)) ∧ ∀ t, Steps p.tables e below (s₁.setTop (mkF m 66 #[.val (.ref a1), .val (.int p2), .val (.int p3), .val (.long q4), .second, .val (.int p5), .val (.int p6), .val (.int (p2 - p3)), .val (.int z)] [])) t → Steps p.tables e below (s₁.setTop (entryFrame m #[(.ref a1), (.int p2), (.int p3), (.long q4), (.int p5), (.int p6)] 9)) t := by
    by_cases hj7_2 : (p2 - p3) < (0 : Int32)
    · exact ⟨_, by rw [if_pos hj7_2], fun t kt => by
        refine pre1 t ?_
        show Steps p.tables e below (s₁.setTop (mkF m 7 #[.val (.ref a1), .val (.int p2), .val (.int p3), .val (.long q4), .second, .val (.int p5), .val (.int p6), .val (.int (p2 - p3)), .unset] [(.int (p2 - p3))])) _
        refine XS.ifYes X0.here hx rfl (pc0 := 7) (pc' := 17) rfl (hb hby d3_7) rfl ((if0 _ _).trans (tlt hj7_2).1) (by decide) (by decide) ?_
        show Steps p.tables e below (s₁.setTop (mkF m 17 #[.val (.ref a1), .val (.int p2), .val (.int p3), .val (.long q4), .second, .val (.int p5), .val (.int p6), .val (.int (p2 - p3)), .unset] [])) _
        refine XS.iload X0.here hx rfl (hb hby d3_17) rfl ?_
        show Steps p.tables e below (s₁.setTop (mkF m 19 #[.val (.ref a1), .val (.int p2), .val (.int p3), .val (.long q4), .second, .val (.int p5), .val (.int p6), .val (.int (p2 - p3)), .unset] [(.int p6)])) _
        refine XS.istore X0.here hx rfl (hb hby d3_19) rfl (l' := #[.val (.ref a1), .val (.int p2), .val (.int p3), .val (.long q4), .second, .val (.int p5), .val (.int p6), .val (.int (p2 - p3)), .val (.int p6)]) rfl ?_
        show Steps p.tables e below (s₁.setTop (mkF m 21 #[.val (.ref a1), .val (.int p2), .val (.int p3), .val (.long q4), .second, .val (.int p5), .val (.int p6), .val (.int (p2 - p3)), .val (.int p6)] [])) _
        refine XS.goto X0.here hx rfl (pc0 := 21) (pc' := 66) rfl (hb hby d3_21) (by decide) (by decide) ?_
        exact kt⟩
    · by_cases hj14_3 : (p2 - p3) < p5
      · by_cases hj30_4 : (p2 - p3) < (p5 - (1 : Int32))
        · exact ⟨_, by rw [if_neg hj7_2, if_pos hj14_3, if_pos hj30_4], fun t kt => by
            refine pre1 t ?_
            show Steps p.tables e below (s₁.setTop (mkF m 7 #[.val (.ref a1), .val (.int p2), .val (.int p3), .val (.long q4), .second, .val (.int p5), .val (.int p6), .val (.int (p2 - p3)), .unset] [(.int (p2 - p3))])) _
            refine XS.ifNo X0.here hx rfl (hb hby d3_7) rfl ((if0 _ _).trans (flt hj7_2).1) ?_
            show Steps p.tables e below (s₁.setTop (mkF m 10 #[.val (.ref a1), .val (.int p2), .val (.int p3), .val (.long q4), .second, .val (.int p5), .val (.int p6), .val (.int (p2 - p3)), .unset] [])) _
            refine XS.iload X0.here hx rfl (hb hby d3_10) rfl ?_
            show Steps p.tables e below (s₁.setTop (mkF m 12 #[.val (.ref a1), .val (.int p2), .val (.int p3), .val (.long q4), .second, .val (.int p5), .val (.int p6), .val (.int (p2 - p3)), .unset] [(.int (p2 - p3))])) _
            refine XS.iload X0.here hx rfl (hb hby d3_12) rfl ?_
            show Steps p.tables e below (s₁.setTop (mkF m 14 #[.val (.ref a1), .val (.int p2), .val (.int p3), .val (.long q4), .second, .val (.int p5), .val (.int p6), .val (.int (p2 - p3)), .unset] [(.int p5), (.int (p2 - p3))])) _
            refine XS.icmpYes X0.here hx rfl (pc0 := 14) (pc' := 24) rfl (hb hby d3_14) rfl (tlt hj14_3).1 (by decide) (by decide) ?_
            show Steps p.tables e below (s₁.setTop (mkF m 24 #[.val (.ref a1), .val (.int p2), .val (.int p3), .val (.long q4), .second, .val (.int p5), .val (.int p6), .val (.int (p2 - p3)), .unset] [])) _
            refine XS.iload X0.here hx rfl (hb hby d3_24) rfl ?_
            show Steps p.tables e below (s₁.setTop (mkF m 26 #[.val (.ref a1), .val (.int p2), .val (.int p3), .val (.long q4), .second, .val (.int p5), .val (.int p6), .val (.int (p2 - p3)), .unset] [(.int (p2 - p3))])) _
            refine XS.iload X0.here hx rfl (hb hby d3_26) rfl ?_
            show Steps p.tables e below (s₁.setTop (mkF m 28 #[.val (.ref a1), .val (.int p2), .val (.int p3), .val (.long q4), .second, .val (.int p5), .val (.int p6), .val (.int (p2 - p3)), .unset] [(.int p5), (.int (p2 - p3))])) _
            refine XS.iconst X0.here hx rfl (hb hby d3_28) ?_
            show Steps p.tables e below (s₁.setTop (mkF m 29 #[.val (.ref a1), .val (.int p2), .val (.int p3), .val (.long q4), .second, .val (.int p5), .val (.int p6), .val (.int (p2 - p3)), .unset] [(.int (1 : Int32)), (.int p5), (.int (p2 - p3))])) _
            refine XS.isub X0.here hx rfl (hb hby d3_29) rfl ?_
            show Steps p.tables e below (s₁.setTop (mkF m 30 #[.val (.ref a1), .val (.int p2), .val (.int p3), .val (.long q4), .second, .val (.int p5), .val (.int p6), .val (.int (p2 - p3)), .unset] [(.int (p5 - (1 : Int32))), (.int (p2 - p3))])) _
            refine XS.icmpNo X0.here hx rfl (hb hby d3_30) rfl (tlt hj30_4).2.1 ?_
            show Steps p.tables e below (s₁.setTop (mkF m 33 #[.val (.ref a1), .val (.int p2), .val (.int p3), .val (.long q4), .second, .val (.int p5), .val (.int p6), .val (.int (p2 - p3)), .unset] [])) _
            refine XS.lloadN X0.here hx rfl (hb hby d3_33) rfl ?_
            show Steps p.tables e below (s₁.setTop (mkF m 34 #[.val (.ref a1), .val (.int p2), .val (.int p3), .val (.long q4), .second, .val (.int p5), .val (.int p6), .val (.int (p2 - p3)), .unset] [(.long q4)])) _
            refine XS.bipush X0.here hx rfl (hb hby d3_34) ?_
            show Steps p.tables e below (s₁.setTop (mkF m 36 #[.val (.ref a1), .val (.int p2), .val (.int p3), .val (.long q4), .second, .val (.int p5), .val (.int p6), .val (.int (p2 - p3)), .unset] [(.int (7 : Int32)), (.long q4)])) _
            refine XS.iload X0.here hx rfl (hb hby d3_36) rfl ?_
            show Steps p.tables e below (s₁.setTop (mkF m 38 #[.val (.ref a1), .val (.int p2), .val (.int p3), .val (.long q4), .second, .val (.int p5), .val (.int p6), .val (.int (p2 - p3)), .unset] [(.int (p2 - p3)), (.int (7 : Int32)), (.long q4)])) _
            refine XS.imul X0.here hx rfl (hb hby d3_38) rfl ?_
            show Steps p.tables e below (s₁.setTop (mkF m 39 #[.val (.ref a1), .val (.int p2), .val (.int p3), .val (.long q4), .second, .val (.int p5), .val (.int p6), .val (.int (p2 - p3)), .unset] [(.int ((7 : Int32) * (p2 - p3))), (.long q4)])) _
            refine XS.lushr X0.here hx rfl (hb hby d3_39) rfl ?_
            show Steps p.tables e below (s₁.setTop (mkF m 40 #[.val (.ref a1), .val (.int p2), .val (.int p3), .val (.long q4), .second, .val (.int p5), .val (.int p6), .val (.int (p2 - p3)), .unset] [(.long ((q4.toUInt64 >>> (((7 : Int32) * (p2 - p3)) &&& 0x3f).toInt64.toUInt64).toInt64))])) _
            refine X0.ldc2Long hx hown (mvT hZ (hw _ (List.mem_of_getElem? (i := 21) rfl))) (g := (mkF m 40 #[.val (.ref a1), .val (.int p2), .val (.int p3), .val (.long q4), .second, .val (.int p5), .val (.int p6), .val (.int (p2 - p3)), .unset] [(.long ((q4.toUInt64 >>> (((7 : Int32) * (p2 - p3)) &&& 0x3f).toInt64.toUInt64).toInt64))])) rfl (hb hby d3_40) _ ?_
            show Steps p.tables e below (s₁.setTop (mkF m 43 #[.val (.ref a1), .val (.int p2), .val (.int p3), .val (.long q4), .second, .val (.int p5), .val (.int p6), .val (.int (p2 - p3)), .unset] [(.long (127 : Int64)), (.long ((q4.toUInt64 >>> (((7 : Int32) * (p2 - p3)) &&& 0x3f).toInt64.toUInt64).toInt64))])) _
            refine XS.land X0.here hx rfl (hb hby d3_43) rfl ?_
            show Steps p.tables e below (s₁.setTop (mkF m 44 #[.val (.ref a1), .val (.int p2), .val (.int p3), .val (.long q4), .second, .val (.int p5), .val (.int p6), .val (.int (p2 - p3)), .unset] [(.long (((q4.toUInt64 >>> (((7 : Int32) * (p2 - p3)) &&& 0x3f).toInt64.toUInt64).toInt64) &&& (127 : Int64)))])) _
            refine X0.ldc2Long hx hown (mvT hZ (hw _ (List.mem_of_getElem? (i := 6) rfl))) (g := (mkF m 44 #[.val (.ref a1), .val (.int p2), .val (.int p3), .val (.long q4), .second, .val (.int p5), .val (.int p6), .val (.int (p2 - p3)), .unset] [(.long (((q4.toUInt64 >>> (((7 : Int32) * (p2 - p3)) &&& 0x3f).toInt64.toUInt64).toInt64) &&& (127 : Int64)))])) rfl (hb hby d3_44) _ ?_
            show Steps p.tables e below (s₁.setTop (mkF m 47 #[.val (.ref a1), .val (.int p2), .val (.int p3), .val (.long q4), .second, .val (.int p5), .val (.int p6), .val (.int (p2 - p3)), .unset] [(.long (128 : Int64)), (.long (((q4.toUInt64 >>> (((7 : Int32) * (p2 - p3)) &&& 0x3f).toInt64.toUInt64).toInt64) &&& (127 : Int64)))])) _
            refine XS.lor X0.here hx rfl (hb hby d3_47) rfl ?_
            show Steps p.tables e below (s₁.setTop (mkF m 48 #[.val (.ref a1), .val (.int p2), .val (.int p3), .val (.long q4), .second, .val (.int p5), .val (.int p6), .val (.int (p2 - p3)), .unset] [(.long ((((q4.toUInt64 >>> (((7 : Int32) * (p2 - p3)) &&& 0x3f).toInt64.toUInt64).toInt64) &&& (127 : Int64)) ||| (128 : Int64)))])) _
            refine XS.l2i X0.here hx rfl (hb hby d3_48) rfl ?_
            show Steps p.tables e below (s₁.setTop (mkF m 49 #[.val (.ref a1), .val (.int p2), .val (.int p3), .val (.long q4), .second, .val (.int p5), .val (.int p6), .val (.int (p2 - p3)), .unset] [(.int (((((q4.toUInt64 >>> (((7 : Int32) * (p2 - p3)) &&& 0x3f).toInt64.toUInt64).toInt64) &&& (127 : Int64)) ||| (128 : Int64)).toInt32))])) _
            refine XS.i2b X0.here hx rfl (hb hby d3_49) rfl ?_
            show Steps p.tables e below (s₁.setTop (mkF m 50 #[.val (.ref a1), .val (.int p2), .val (.int p3), .val (.long q4), .second, .val (.int p5), .val (.int p6), .val (.int (p2 - p3)), .unset] [(.int ((((((q4.toUInt64 >>> (((7 : Int32) * (p2 - p3)) &&& 0x3f).toInt64.toUInt64).toInt64) &&& (127 : Int64)) ||| (128 : Int64)).toInt32).toInt8.toInt32))])) _
            refine XS.istore X0.here hx rfl (hb hby d3_50) rfl (l' := #[.val (.ref a1), .val (.int p2), .val (.int p3), .val (.long q4), .second, .val (.int p5), .val (.int p6), .val (.int (p2 - p3)), .val (.int ((((((q4.toUInt64 >>> (((7 : Int32) * (p2 - p3)) &&& 0x3f).toInt64.toUInt64).toInt64) &&& (127 : Int64)) ||| (128 : Int64)).toInt32).toInt8.toInt32))]) rfl ?_
            show Steps p.tables e below (s₁.setTop (mkF m 52 #[.val (.ref a1), .val (.int p2), .val (.int p3), .val (.long q4), .second, .val (.int p5), .val (.int p6), .val (.int (p2 - p3)), .val (.int ((((((q4.toUInt64 >>> (((7 : Int32) * (p2 - p3)) &&& 0x3f).toInt64.toUInt64).toInt64) &&& (127 : Int64)) ||| (128 : Int64)).toInt32).toInt8.toInt32))] [])) _
            refine XS.goto X0.here hx rfl (pc0 := 52) (pc' := 66) rfl (hb hby d3_52) (by decide) (by decide) ?_
            exact kt⟩
        · exact ⟨_, by rw [if_neg hj7_2, if_pos hj14_3, if_neg hj30_4], fun t kt => by
            refine pre1 t ?_
            show Steps p.tables e below (s₁.setTop (mkF m 7 #[.val (.ref a1), .val (.int p2), .val (.int p3), .val (.long q4), .second, .val (.int p5), .val (.int p6), .val (.int (p2 - p3)), .unset] [(.int (p2 - p3))])) _
            refine XS.ifNo X0.here hx rfl (hb hby d3_7) rfl ((if0 _ _).trans (flt hj7_2).1) ?_
            show Steps p.tables e below (s₁.setTop (mkF m 10 #[.val (.ref a1), .val (.int p2), .val (.int p3), .val (.long q4), .second, .val (.int p5), .val (.int p6), .val (.int (p2 - p3)), .unset] [])) _
            refine XS.iload X0.here hx rfl (hb hby d3_10) rfl ?_
            show Steps p.tables e below (s₁.setTop (mkF m 12 #[.val (.ref a1), .val (.int p2), .val (.int p3), .val (.long q4), .second, .val (.int p5), .val (.int p6), .val (.int (p2 - p3)), .unset] [(.int (p2 - p3))])) _
            refine XS.iload X0.here hx rfl (hb hby d3_12) rfl ?_
            show Steps p.tables e below (s₁.setTop (mkF m 14 #[.val (.ref a1), .val (.int p2), .val (.int p3), .val (.long q4), .second, .val (.int p5), .val (.int p6), .val (.int (p2 - p3)), .unset] [(.int p5), (.int (p2 - p3))])) _
            refine XS.icmpYes X0.here hx rfl (pc0 := 14) (pc' := 24) rfl (hb hby d3_14) rfl (tlt hj14_3).1 (by decide) (by decide) ?_
            show Steps p.tables e below (s₁.setTop (mkF m 24 #[.val (.ref a1), .val (.int p2), .val (.int p3), .val (.long q4), .second, .val (.int p5), .val (.int p6), .val (.int (p2 - p3)), .unset] [])) _
            refine XS.iload X0.here hx rfl (hb hby d3_24) rfl ?_
            show Steps p.tables e below (s₁.setTop (mkF m 26 #[.val (.ref a1), .val (.int p2), .val (.int p3), .val (.long q4), .second, .val (.int p5), .val (.int p6), .val (.int (p2 - p3)), .unset] [(.int (p2 - p3))])) _
            refine XS.iload X0.here hx rfl (hb hby d3_26) rfl ?_
            show Steps p.tables e below (s₁.setTop (mkF m 28 #[.val (.ref a1), .val (.int p2), .val (.int p3), .val (.long q4), .second, .val (.int p5), .val (.int p6), .val (.int (p2 - p3)), .unset] [(.int p5), (.int (p2 - p3))])) _
            refine XS.iconst X0.here hx rfl (hb hby d3_28) ?_
            show Steps p.tables e below (s₁.setTop (mkF m 29 #[.val (.ref a1), .val (.int p2), .val (.int p3), .val (.long q4), .second, .val (.int p5), .val (.int p6), .val (.int (p2 - p3)), .unset] [(.int (1 : Int32)), (.int p5), (.int (p2 - p3))])) _
            refine XS.isub X0.here hx rfl (hb hby d3_29) rfl ?_
            show Steps p.tables e below (s₁.setTop (mkF m 30 #[.val (.ref a1), .val (.int p2), .val (.int p3), .val (.long q4), .second, .val (.int p5), .val (.int p6), .val (.int (p2 - p3)), .unset] [(.int (p5 - (1 : Int32))), (.int (p2 - p3))])) _
            refine XS.icmpYes X0.here hx rfl (pc0 := 30) (pc' := 55) rfl (hb hby d3_30) rfl (flt hj30_4).2.1 (by decide) (by decide) ?_
            show Steps p.tables e below (s₁.setTop (mkF m 55 #[.val (.ref a1), .val (.int p2), .val (.int p3), .val (.long q4), .second, .val (.int p5), .val (.int p6), .val (.int (p2 - p3)), .unset] [])) _
            refine XS.lloadN X0.here hx rfl (hb hby d3_55) rfl ?_
            show Steps p.tables e below (s₁.setTop (mkF m 56 #[.val (.ref a1), .val (.int p2), .val (.int p3), .val (.long q4), .second, .val (.int p5), .val (.int p6), .val (.int (p2 - p3)), .unset] [(.long q4)])) _
            refine XS.bipush X0.here hx rfl (hb hby d3_56) ?_
            show Steps p.tables e below (s₁.setTop (mkF m 58 #[.val (.ref a1), .val (.int p2), .val (.int p3), .val (.long q4), .second, .val (.int p5), .val (.int p6), .val (.int (p2 - p3)), .unset] [(.int (7 : Int32)), (.long q4)])) _
            refine XS.iload X0.here hx rfl (hb hby d3_58) rfl ?_
            show Steps p.tables e below (s₁.setTop (mkF m 60 #[.val (.ref a1), .val (.int p2), .val (.int p3), .val (.long q4), .second, .val (.int p5), .val (.int p6), .val (.int (p2 - p3)), .unset] [(.int (p2 - p3)), (.int (7 : Int32)), (.long q4)])) _
            refine XS.imul X0.here hx rfl (hb hby d3_60) rfl ?_
            show Steps p.tables e below (s₁.setTop (mkF m 61 #[.val (.ref a1), .val (.int p2), .val (.int p3), .val (.long q4), .second, .val (.int p5), .val (.int p6), .val (.int (p2 - p3)), .unset] [(.int ((7 : Int32) * (p2 - p3))), (.long q4)])) _
            refine XS.lushr X0.here hx rfl (hb hby d3_61) rfl ?_
            show Steps p.tables e below (s₁.setTop (mkF m 62 #[.val (.ref a1), .val (.int p2), .val (.int p3), .val (.long q4), .second, .val (.int p5), .val (.int p6), .val (.int (p2 - p3)), .unset] [(.long ((q4.toUInt64 >>> (((7 : Int32) * (p2 - p3)) &&& 0x3f).toInt64.toUInt64).toInt64))])) _
            refine XS.l2i X0.here hx rfl (hb hby d3_62) rfl ?_
            show Steps p.tables e below (s₁.setTop (mkF m 63 #[.val (.ref a1), .val (.int p2), .val (.int p3), .val (.long q4), .second, .val (.int p5), .val (.int p6), .val (.int (p2 - p3)), .unset] [(.int (((q4.toUInt64 >>> (((7 : Int32) * (p2 - p3)) &&& 0x3f).toInt64.toUInt64).toInt64).toInt32))])) _
            refine XS.i2b X0.here hx rfl (hb hby d3_63) rfl ?_
            show Steps p.tables e below (s₁.setTop (mkF m 64 #[.val (.ref a1), .val (.int p2), .val (.int p3), .val (.long q4), .second, .val (.int p5), .val (.int p6), .val (.int (p2 - p3)), .unset] [(.int ((((q4.toUInt64 >>> (((7 : Int32) * (p2 - p3)) &&& 0x3f).toInt64.toUInt64).toInt64).toInt32).toInt8.toInt32))])) _
            refine XS.istore X0.here hx rfl (hb hby d3_64) rfl (l' := #[.val (.ref a1), .val (.int p2), .val (.int p3), .val (.long q4), .second, .val (.int p5), .val (.int p6), .val (.int (p2 - p3)), .val (.int ((((q4.toUInt64 >>> (((7 : Int32) * (p2 - p3)) &&& 0x3f).toInt64.toUInt64).toInt64).toInt32).toInt8.toInt32))]) rfl ?_
            exact kt⟩
      · exact ⟨_, by rw [if_neg hj7_2, if_neg hj14_3], fun t kt => by
          refine pre1 t ?_
          show Steps p.tables e below (s₁.setTop (mkF m 7 #[.val (.ref a1), .val (.int p2), .val (.int p3), .val (.long q4), .second, .val (.int p5), .val (.int p6), .val (.int (p2 - p3)), .unset] [(.int (p2 - p3))])) _
          refine XS.ifNo X0.here hx rfl (hb hby d3_7) rfl ((if0 _ _).trans (flt hj7_2).1) ?_
          show Steps p.tables e below (s₁.setTop (mkF m 10 #[.val (.ref a1), .val (.int p2), .val (.int p3), .val (.long q4), .second, .val (.int p5), .val (.int p6), .val (.int (p2 - p3)), .unset] [])) _
          refine XS.iload X0.here hx rfl (hb hby d3_10) rfl ?_
          show Steps p.tables e below (s₁.setTop (mkF m 12 #[.val (.ref a1), .val (.int p2), .val (.int p3), .val (.long q4), .second, .val (.int p5), .val (.int p6), .val (.int (p2 - p3)), .unset] [(.int (p2 - p3))])) _
          refine XS.iload X0.here hx rfl (hb hby d3_12) rfl ?_
          show Steps p.tables e below (s₁.setTop (mkF m 14 #[.val (.ref a1), .val (.int p2), .val (.int p3), .val (.long q4), .second, .val (.int p5), .val (.int p6), .val (.int (p2 - p3)), .unset] [(.int p5), (.int (p2 - p3))])) _
          refine XS.icmpNo X0.here hx rfl (hb hby d3_14) rfl (flt hj14_3).1 ?_
          show Steps p.tables e below (s₁.setTop (mkF m 17 #[.val (.ref a1), .val (.int p2), .val (.int p3), .val (.long q4), .second, .val (.int p5), .val (.int p6), .val (.int (p2 - p3)), .unset] [])) _
          refine XS.iload X0.here hx rfl (hb hby d3_17) rfl ?_
          show Steps p.tables e below (s₁.setTop (mkF m 19 #[.val (.ref a1), .val (.int p2), .val (.int p3), .val (.long q4), .second, .val (.int p5), .val (.int p6), .val (.int (p2 - p3)), .unset] [(.int p6)])) _
          refine XS.istore X0.here hx rfl (hb hby d3_19) rfl (l' := #[.val (.ref a1), .val (.int p2), .val (.int p3), .val (.long q4), .second, .val (.int p5), .val (.int p6), .val (.int (p2 - p3)), .val (.int p6)]) rfl ?_
          show Steps p.tables e below (s₁.setTop (mkF m 21 #[.val (.ref a1), .val (.int p2), .val (.int p3), .val (.long q4), .second, .val (.int p5), .val (.int p6), .val (.int (p2 - p3)), .val (.int p6)] [])) _
          refine XS.goto X0.here hx rfl (pc0 := 21) (pc' := 66) rfl (hb hby d3_21) (by decide) (by decide) ?_
          exact kt⟩
  obtain ⟨c6, Ac6, qc6, Sc6, Nc6, Hc6, Gc6⟩ := id V_a1
  have hinc6 := inb_of Sc6 (j := p2) hin
  obtain ⟨fs, hr, hrun, hended, hW, hsame⟩ := X0.leave (v := some (.int (1 : Int32))) (fun h => by rw [Bd.returns] at h; cases h)
  refine ⟨_, _, pre5 _ ?_, hrun, hended, _, _, rfl, ?_, ⟨_, rfl⟩, hW, hsame.mono (by decide) (by decide)⟩
  · show Steps p.tables e below (s₁.setTop (mkF m 66 #[.val (.ref a1), .val (.int p2), .val (.int p3), .val (.long q4), .second, .val (.int p5), .val (.int p6), .val (.int (p2 - p3)), .val (.int wt)] [])) _
    refine XS.aloadN X0.here hx rfl (hb hby d3_66) rfl rfl ?_
    show Steps p.tables e below (s₁.setTop (mkF m 67 #[.val (.ref a1), .val (.int p2), .val (.int p3), .val (.long q4), .second, .val (.int p5), .val (.int p6), .val (.int (p2 - p3)), .val (.int wt)] [(.ref a1)])) _
    refine XS.iloadN X0.here hx rfl (hb hby d3_67) rfl ?_
    show Steps p.tables e below (s₁.setTop (mkF m 68 #[.val (.ref a1), .val (.int p2), .val (.int p3), .val (.long q4), .second, .val (.int p5), .val (.int p6), .val (.int (p2 - p3)), .val (.int wt)] [(.int p2), (.ref a1)])) _
    refine X0.baloadBytes hx (j := p2) (v := (.int wt)) (by rw [e0]; exact Ac6.1) (State.isArrayOf_alike hZ.alike Ac6.2.1) Ac6.2.2 hinc6 (Has.at Hc6 hinc6 (hget.trans (congrArg Value.int h_wt.symm))) (g := (mkF m 68 #[.val (.ref a1), .val (.int p2), .val (.int p3), .val (.long q4), .second, .val (.int p5), .val (.int p6), .val (.int (p2 - p3)), .val (.int wt)] [(.int p2), (.ref a1)])) rfl rfl (hb hby d3_68) _ ?_
    show Steps p.tables e below (s₁.setTop (mkF m 69 #[.val (.ref a1), .val (.int p2), .val (.int p3), .val (.long q4), .second, .val (.int p5), .val (.int p6), .val (.int (p2 - p3)), .val (.int wt)] [(.int wt)])) _
    refine XS.iload X0.here hx rfl (hb hby d3_69) rfl ?_
    show Steps p.tables e below (s₁.setTop (mkF m 71 #[.val (.ref a1), .val (.int p2), .val (.int p3), .val (.long q4), .second, .val (.int p5), .val (.int p6), .val (.int (p2 - p3)), .val (.int wt)] [(.int wt), (.int wt)])) _
    refine XS.icmpNo X0.here hx rfl (hb hby d3_71) rfl (teq rfl).2 ?_
    show Steps p.tables e below (s₁.setTop (mkF m 74 #[.val (.ref a1), .val (.int p2), .val (.int p3), .val (.long q4), .second, .val (.int p5), .val (.int p6), .val (.int (p2 - p3)), .val (.int wt)] [])) _
    refine XS.iconst X0.here hx rfl (hb hby d3_74) ?_
    show Steps p.tables e below (s₁.setTop (mkF m 75 #[.val (.ref a1), .val (.int p2), .val (.int p3), .val (.long q4), .second, .val (.int p5), .val (.int p6), .val (.int (p2 - p3)), .val (.int wt)] [(.int (1 : Int32))])) _
    refine XS.goto X0.here hx rfl (pc0 := 75) (pc' := 79) rfl (hb hby d3_75) (by decide) (by decide) ?_
    show Steps p.tables e below (s₁.setTop (mkF m 79 #[.val (.ref a1), .val (.int p2), .val (.int p3), .val (.long q4), .second, .val (.int p5), .val (.int p6), .val (.int (p2 - p3)), .val (.int wt)] [(.int (1 : Int32))])) _
    exact retN X0 hx (t := .boolean) Bd.returns (by simp) (hb hby d3_79) hr
  · show Q_rm3 Z a1 p2 p3 q4 p5 p6 kk nn vs h0 n0 _ s₁.heap _
    rw [e0]
    exact ⟨rfl, N0, rfl⟩
theorem own_lenB {v : Int64} (h : 0 ≤ v.toInt) : ∃ f : Nat, f ≤ 8 ∧ (own_len v).toInt = f + 1 ∧ v.toInt < 2 ^ (7 * (f + 1)) ∧ (f ≠ 0 → 2 ^ (7 * f) ≤ v.toInt) := by
  have hm := v.toInt_lt
  have k1 : (128 : Int64).toInt = 128 := by decide
  have k2 : (16384 : Int64).toInt = 16384 := by decide
  have k3 : (2097152 : Int64).toInt = 2097152 := by decide
  have k4 : (268435456 : Int64).toInt = 268435456 := by decide
  have k5 : (34359738368 : Int64).toInt = 34359738368 := by decide
  have k6 : (4398046511104 : Int64).toInt = 4398046511104 := by decide
  have k7 : (562949953421312 : Int64).toInt = 562949953421312 := by decide
  have k8 : (72057594037927936 : Int64).toInt = 72057594037927936 := by decide
  unfold own_len
  simp only [Int64.lt_iff_toInt_lt, k1, k2, k3, k4, k5, k6, k7, k8]
  split
  · exact ⟨0, by omega, by decide, by omega, by omega⟩
  split
  · exact ⟨1, by omega, by decide, by omega, by omega⟩
  split
  · exact ⟨2, by omega, by decide, by omega, by omega⟩
  split
  · exact ⟨3, by omega, by decide, by omega, by omega⟩
  split
  · exact ⟨4, by omega, by decide, by omega, by omega⟩
  split
  · exact ⟨5, by omega, by decide, by omega, by omega⟩
  split
  · exact ⟨6, by omega, by decide, by omega, by omega⟩
  split
  · exact ⟨7, by omega, by decide, by omega, by omega⟩
  · exact ⟨8, by omega, by decide, by omega, by omega⟩
theorem own_sh {v : Int64} {i : Int32} {j : Nat} (h : 0 ≤ v.toInt) (hi : i.toInt = j) (hj : j ≤ 8) : ((v.toUInt64 >>> (((7 : Int32) * i) &&& 0x3f).toInt64.toUInt64).toInt64) = own_it j v := by
  apply Int64.toInt_inj.mp
  rw [own_itI j h]
  refine Jvm.Kit.i64_lushr (Jvm.Kit.i64_nonneg.mpr h) ?_ (by omega)
  have q : j = 0 ∨ j = 1 ∨ j = 2 ∨ j = 3 ∨ j = 4 ∨ j = 5 ∨ j = 6 ∨ j = 7 ∨ j = 8 := by omega
  rcases q with rfl | rfl | rfl | rfl | rfl | rfl | rfl | rfl | rfl
  · obtain rfl : i = 0 := Int32.toInt_inj.mp hi
    decide
  · obtain rfl : i = 1 := Int32.toInt_inj.mp hi
    decide
  · obtain rfl : i = 2 := Int32.toInt_inj.mp hi
    decide
  · obtain rfl : i = 3 := Int32.toInt_inj.mp hi
    decide
  · obtain rfl : i = 4 := Int32.toInt_inj.mp hi
    decide
  · obtain rfl : i = 5 := Int32.toInt_inj.mp hi
    decide
  · obtain rfl : i = 6 := Int32.toInt_inj.mp hi
    decide
  · obtain rfl : i = 7 := Int32.toInt_inj.mp hi
    decide
  · obtain rfl : i = 8 := Int32.toInt_inj.mp hi
    decide
theorem own_nb (x : Int32) : x.toInt8.toInt32.toInt8.toInt32 = x.toInt8.toInt32 := by simp
theorem own_fin {v : Int64} {off ln s p : Int32} {f : Nat} {vs : List Value} (hv : 0 ≤ v.toInt) (ho : 0 ≤ off.toInt ∧ off.toInt ≤ 7) (hl : ln.toInt = f + 1) (hf : f ≤ 8) (hp : 0 ≤ p.toInt ∧ p.toInt < 18) (hvl : vs.length = 18) (hvs : ∀ k, k < 18 → vs.getD k (.int (0 : Int32)) = .int s) :
    ((own_pre f v off.toNatClampNeg vs).set (off.toNatClampNeg + f) (own_last (own_it f v))).getD p.toNatClampNeg (.int (0 : Int32)) = .int (own_want p off v ln s) := by
  have eo : off.toNatClampNeg = off.toInt.toNat := rfl
  have ep : p.toNatClampNeg = p.toInt.toNat := rfl
  rw [own_getSet _ _ _ _ _ (by rw [own_preLen, hvl, eo]; omega), own_preGet (.int (0 : Int32)) f v _ vs _ (by rw [hvl, eo]; omega), hvs _ (by rw [ep]; omega)]
  have ei : (p - off).toInt = p.toInt - off.toInt := Jvm.Kit.i32_sub (by omega) (by omega)
  have e1 : (1 : Int32).toInt = 1 := by decide
  have el : (ln - (1 : Int32)).toInt = f := by rw [Jvm.Kit.i32_sub (by omega) (by omega), e1]; omega
  unfold own_want
  by_cases c1 : (p - off) < (0 : Int32)
  · rw [if_pos c1]
    rw [Int32.lt_iff_toInt_lt, ei, Int32.toInt_zero] at c1
    rw [if_neg (by rw [eo, ep]; omega), if_neg (by rw [eo, ep]; omega)]
  · rw [if_neg c1]
    rw [Int32.lt_iff_toInt_lt, ei, Int32.toInt_zero] at c1
    by_cases c2 : (p - off) < ln
    · rw [if_pos c2]
      rw [Int32.lt_iff_toInt_lt, ei] at c2
      obtain ⟨j, hj⟩ : ∃ j : Nat, (p - off).toInt = j := ⟨(p.toInt - off.toInt).toNat, by omega⟩
      rw [own_sh hv hj (by omega)]
      by_cases c3 : (p - off) < (ln - (1 : Int32))
      · rw [if_pos c3]
        rw [Int32.lt_iff_toInt_lt, el] at c3
        rw [if_neg (by rw [eo, ep]; omega), if_pos (by rw [eo, ep]; omega)]
        have ej : p.toNatClampNeg - off.toNatClampNeg = j := by rw [eo, ep]; omega
        rw [ej]
        exact congrArg Value.int (own_nb _)
      · rw [if_neg c3]
        rw [Int32.lt_iff_toInt_lt, el] at c3
        have ej : j = f := by omega
        rw [if_pos (by rw [eo, ep]; omega), ej]
        exact congrArg Value.int (own_nb _)
    · rw [if_neg c2]
      rw [Int32.lt_iff_toInt_lt, ei] at c2
      rw [if_neg (by rw [eo, ep]; omega), if_neg (by rw [eo, ep]; omega)]
theorem own_v (x : Int64) (k : Int32) : 0 ≤ (((x &&& (9223372036854775807 : Int64)).toUInt64 >>> ((k &&& (63 : Int32)) &&& 0x3f).toInt64.toUInt64).toInt64).toInt := by
  have e := Jvm.Kit.i64_mask x (9223372036854775807 : Int64) (k := 63) (by decide) (by decide)
  have hk : ∃ j : Nat, j < 64 ∧ ((k &&& (63 : Int32)) &&& 0x3f).toInt64.toUInt64.toNat = j := by
    have ek := Jvm.Kit.i32_mask k (63 : Int32) (k := 6) (by decide) (by decide)
    have ek2 := Jvm.Kit.i32_mask (k &&& (63 : Int32)) (0x3f : Int32) (k := 6) (by decide) (by decide)
    refine ⟨_, ?_, rfl⟩
    generalize (k &&& (63 : Int32)) &&& 0x3f = y at *
    have hy : 0 ≤ y.toInt ∧ y.toInt < 64 := by omega
    have e6 : y.toInt64.toInt = y.toInt := Jvm.Kit.i64_of_i32 y
    show y.toInt64.toBitVec.toNat < 64
    have e7 : y.toInt64.toInt = y.toInt64.toBitVec.toInt := rfl
    rw [BitVec.toInt_eq_toNat_cond] at e7
    have hb := y.toInt64.toBitVec.isLt
    split at e7 <;> omega
  obtain ⟨j, hj, hn⟩ := hk
  rw [Jvm.Kit.i64_lushr (Jvm.Kit.i64_nonneg.mpr (by omega)) hn hj]
  exact Int.ediv_nonneg (by omega) (Int.le_of_lt (Int.pow_pos (by decide)))
theorem own_off (x : Int32) : 0 ≤ (x &&& (7 : Int32)).toInt ∧ (x &&& (7 : Int32)).toInt ≤ 7 := by
  have e := Jvm.Kit.i32_mask x (7 : Int32) (k := 3) (by decide) (by decide)
  omega
theorem pd__28J_29I : parseMethodDescriptor "(J)I" = some ⟨[.long], some .int⟩ := by decide +kernel
theorem pd__28J_5bBI_29I : parseMethodDescriptor "(J[BI)I" = some ⟨[.long, (.array .byte), .int], some .int⟩ := by decide +kernel
theorem pd__28_5bBIIJIB_29Z : parseMethodDescriptor "([BIIJIB)Z" = some ⟨[(.array .byte), .int, .int, .long, .int, .byte], some .boolean⟩ := by decide +kernel
theorem ef_rm0 (m : MethodId) (q1 : Int64) (p2 : Int32) (p3 : Int32) (p4 : Int32) : entryFrame m #[(.long q1), (.int p2), (.int p3), (.int p4)] maxLocals = mkF m 0 #[.val (.long q1), .second, .val (.int p2), .val (.int p3), .val (.int p4), .unset, .unset, .unset, .unset, .unset, .unset, .unset] [] := by first | (simp [entryFrame, mkF, argsToLocals, Value.category, maxLocals]; done) | rfl
def Q_rm0 (Z : State) (q1 : Int64) (p2 : Int32) (p3 : Int32) (p4 : Int32) (h0 : Heap) (n0 : Nat) (v : Option Value) (h : Heap) (L : List Loc) : Prop := v = some (.int (1 : Int32)) ∧ Fr n0 L
set_option maxRecDepth 65536 in
set_option maxHeartbeats 40000000 in
theorem rm0 (l : Launch) (Z : State) (a0 : Array Value) (hw : ∀ d ∈ tables_1, d.before a0 Z = true) (ws : List Jvm.Cond) (q1 : Int64) (p2 : Int32) (p3 : Int32) (p4 : Int32) (h0 : Heap) (n0 : Nat) (Z0 : n0 ≤ h0.size) :
    MetFree l x (head1 (Jvm.Cond.code x code maxLocals ret :: ws) room_1) (fun a U => a = #[(.long q1), (.int p2), (.int p3), (.int p4)] ∧ Z.Warmed39 U.vm ∧ U.heap = h0) (fun _ _ _ _ _ => True) (fun _ U o U' => ∃ v L, o = .returned v ∧ Q_rm0 Z q1 p2 p3 p4 h0 n0 v U'.heap L ∧ FrameEnd U o U' L room_1.cells room_1.slots) := by
  refine MetFree.of_bodySF (plainFor_of_name pn_com_example_morro_morro_index_IndexOutputEncodeNumberPinLaw) hisR ?_
  intro p e s m args below meth c s₁ Bd hml0 hP hK
  obtain ⟨rfl, hZ, hh⟩ := hP
  have hx := Bd.exec
  have hby := Bd.bytes
  have hml : c.maxLocals = 12 := hml0
  have hown : s.vm.findClass "com/example/morro/morro/index/IndexOutputEncodeNumberPinLaw" = some m.cls := findClass_of_methodNamed Bd.named
  have hnm := (name_of_methodNamed Bd.named Bd.method).1
  have X0 : Stand p l e room_1 s m #[(.long q1), (.int p2), (.int p3), (.int p4)] below meth c s₁ [] 0 0 := Stand.of_body Bd
  have e0 : s₁.heap = h0 := by rw [← hh, Bd.state]; rfl
  have N0 := Fr.nil n0
  have pre0 : ∀ t, Steps p.tables e below (s₁.setTop (mkF m 0 #[.val (.long q1), .second, .val (.int p2), .val (.int p3), .val (.int p4), .unset, .unset, .unset, .unset, .unset, .unset, .unset] [])) t → Steps p.tables e below (s₁.setTop (entryFrame m #[(.long q1), (.int p2), (.int p3), (.int p4)] maxLocals)) t := fun t k => castTop (ef_rm0 m q1 p2 p3 p4) k
  obtain ⟨v, h_v, pre1⟩ : ∃ z : Int64, z = (((q1 &&& (9223372036854775807 : Int64)).toUInt64 >>> ((p2 &&& (63 : Int32)) &&& 0x3f).toInt64.toUInt64).toInt64) ∧ ∀ t, Steps p.tables e below (s₁.setTop (mkF m 23 #[.val (.long q1), .second, .val (.int p2), .val (.int p3), .val (.int p4), .val (.long z), .second, .val (.int (p3 &&& (7 : Int32))), .val (.int (p4.toInt8.toInt32)), .unset, .unset, .unset] [])) t → Steps p.tables e below (s₁.setTop (entryFrame m #[(.long q1), (.int p2), (.int p3), (.int p4)] maxLocals)) t := ⟨_, rfl, fun t kt => by
    refine pre0 t ?_
    show Steps p.tables e below (s₁.setTop (mkF m 0 #[.val (.long q1), .second, .val (.int p2), .val (.int p3), .val (.int p4), .unset, .unset, .unset, .unset, .unset, .unset, .unset] [])) _
    refine XS.lloadN X0.here hx rfl (hb hby at_0) rfl ?_
    show Steps p.tables e below (s₁.setTop (mkF m 1 #[.val (.long q1), .second, .val (.int p2), .val (.int p3), .val (.int p4), .unset, .unset, .unset, .unset, .unset, .unset, .unset] [(.long q1)])) _
    refine X0.ldc2Long hx hown (mvT hZ (hw _ (List.mem_of_getElem? (i := 0) rfl))) (g := (mkF m 1 #[.val (.long q1), .second, .val (.int p2), .val (.int p3), .val (.int p4), .unset, .unset, .unset, .unset, .unset, .unset, .unset] [(.long q1)])) rfl (hb hby at_1) _ ?_
    show Steps p.tables e below (s₁.setTop (mkF m 4 #[.val (.long q1), .second, .val (.int p2), .val (.int p3), .val (.int p4), .unset, .unset, .unset, .unset, .unset, .unset, .unset] [(.long (9223372036854775807 : Int64)), (.long q1)])) _
    refine XS.land X0.here hx rfl (hb hby at_4) rfl ?_
    show Steps p.tables e below (s₁.setTop (mkF m 5 #[.val (.long q1), .second, .val (.int p2), .val (.int p3), .val (.int p4), .unset, .unset, .unset, .unset, .unset, .unset, .unset] [(.long (q1 &&& (9223372036854775807 : Int64)))])) _
    refine XS.iloadN X0.here hx rfl (hb hby at_5) rfl ?_
    show Steps p.tables e below (s₁.setTop (mkF m 6 #[.val (.long q1), .second, .val (.int p2), .val (.int p3), .val (.int p4), .unset, .unset, .unset, .unset, .unset, .unset, .unset] [(.int p2), (.long (q1 &&& (9223372036854775807 : Int64)))])) _
    refine XS.bipush X0.here hx rfl (hb hby at_6) ?_
    show Steps p.tables e below (s₁.setTop (mkF m 8 #[.val (.long q1), .second, .val (.int p2), .val (.int p3), .val (.int p4), .unset, .unset, .unset, .unset, .unset, .unset, .unset] [(.int (63 : Int32)), (.int p2), (.long (q1 &&& (9223372036854775807 : Int64)))])) _
    refine XS.iand X0.here hx rfl (hb hby at_8) rfl ?_
    show Steps p.tables e below (s₁.setTop (mkF m 9 #[.val (.long q1), .second, .val (.int p2), .val (.int p3), .val (.int p4), .unset, .unset, .unset, .unset, .unset, .unset, .unset] [(.int (p2 &&& (63 : Int32))), (.long (q1 &&& (9223372036854775807 : Int64)))])) _
    refine XS.lushr X0.here hx rfl (hb hby at_9) rfl ?_
    show Steps p.tables e below (s₁.setTop (mkF m 10 #[.val (.long q1), .second, .val (.int p2), .val (.int p3), .val (.int p4), .unset, .unset, .unset, .unset, .unset, .unset, .unset] [(.long (((q1 &&& (9223372036854775807 : Int64)).toUInt64 >>> ((p2 &&& (63 : Int32)) &&& 0x3f).toInt64.toUInt64).toInt64))])) _
    refine XS.lstore X0.here hx rfl (hb hby at_10) rfl (l' := #[.val (.long q1), .second, .val (.int p2), .val (.int p3), .val (.int p4), .val (.long (((q1 &&& (9223372036854775807 : Int64)).toUInt64 >>> ((p2 &&& (63 : Int32)) &&& 0x3f).toInt64.toUInt64).toInt64)), .second, .unset, .unset, .unset, .unset, .unset]) rfl ?_
    show Steps p.tables e below (s₁.setTop (mkF m 12 #[.val (.long q1), .second, .val (.int p2), .val (.int p3), .val (.int p4), .val (.long (((q1 &&& (9223372036854775807 : Int64)).toUInt64 >>> ((p2 &&& (63 : Int32)) &&& 0x3f).toInt64.toUInt64).toInt64)), .second, .unset, .unset, .unset, .unset, .unset] [])) _
    refine XS.iloadN X0.here hx rfl (hb hby at_12) rfl ?_
    show Steps p.tables e below (s₁.setTop (mkF m 13 #[.val (.long q1), .second, .val (.int p2), .val (.int p3), .val (.int p4), .val (.long (((q1 &&& (9223372036854775807 : Int64)).toUInt64 >>> ((p2 &&& (63 : Int32)) &&& 0x3f).toInt64.toUInt64).toInt64)), .second, .unset, .unset, .unset, .unset, .unset] [(.int p3)])) _
    refine XS.bipush X0.here hx rfl (hb hby at_13) ?_
    show Steps p.tables e below (s₁.setTop (mkF m 15 #[.val (.long q1), .second, .val (.int p2), .val (.int p3), .val (.int p4), .val (.long (((q1 &&& (9223372036854775807 : Int64)).toUInt64 >>> ((p2 &&& (63 : Int32)) &&& 0x3f).toInt64.toUInt64).toInt64)), .second, .unset, .unset, .unset, .unset, .unset] [(.int (7 : Int32)), (.int p3)])) _
    refine XS.iand X0.here hx rfl (hb hby at_15) rfl ?_
    show Steps p.tables e below (s₁.setTop (mkF m 16 #[.val (.long q1), .second, .val (.int p2), .val (.int p3), .val (.int p4), .val (.long (((q1 &&& (9223372036854775807 : Int64)).toUInt64 >>> ((p2 &&& (63 : Int32)) &&& 0x3f).toInt64.toUInt64).toInt64)), .second, .unset, .unset, .unset, .unset, .unset] [(.int (p3 &&& (7 : Int32)))])) _
    refine XS.istore X0.here hx rfl (hb hby at_16) rfl (l' := #[.val (.long q1), .second, .val (.int p2), .val (.int p3), .val (.int p4), .val (.long (((q1 &&& (9223372036854775807 : Int64)).toUInt64 >>> ((p2 &&& (63 : Int32)) &&& 0x3f).toInt64.toUInt64).toInt64)), .second, .val (.int (p3 &&& (7 : Int32))), .unset, .unset, .unset, .unset]) rfl ?_
    show Steps p.tables e below (s₁.setTop (mkF m 18 #[.val (.long q1), .second, .val (.int p2), .val (.int p3), .val (.int p4), .val (.long (((q1 &&& (9223372036854775807 : Int64)).toUInt64 >>> ((p2 &&& (63 : Int32)) &&& 0x3f).toInt64.toUInt64).toInt64)), .second, .val (.int (p3 &&& (7 : Int32))), .unset, .unset, .unset, .unset] [])) _
    refine XS.iload X0.here hx rfl (hb hby at_18) rfl ?_
    show Steps p.tables e below (s₁.setTop (mkF m 20 #[.val (.long q1), .second, .val (.int p2), .val (.int p3), .val (.int p4), .val (.long (((q1 &&& (9223372036854775807 : Int64)).toUInt64 >>> ((p2 &&& (63 : Int32)) &&& 0x3f).toInt64.toUInt64).toInt64)), .second, .val (.int (p3 &&& (7 : Int32))), .unset, .unset, .unset, .unset] [(.int p4)])) _
    refine XS.i2b X0.here hx rfl (hb hby at_20) rfl ?_
    show Steps p.tables e below (s₁.setTop (mkF m 21 #[.val (.long q1), .second, .val (.int p2), .val (.int p3), .val (.int p4), .val (.long (((q1 &&& (9223372036854775807 : Int64)).toUInt64 >>> ((p2 &&& (63 : Int32)) &&& 0x3f).toInt64.toUInt64).toInt64)), .second, .val (.int (p3 &&& (7 : Int32))), .unset, .unset, .unset, .unset] [(.int (p4.toInt8.toInt32))])) _
    refine XS.istore X0.here hx rfl (hb hby at_21) rfl (l' := #[.val (.long q1), .second, .val (.int p2), .val (.int p3), .val (.int p4), .val (.long (((q1 &&& (9223372036854775807 : Int64)).toUInt64 >>> ((p2 &&& (63 : Int32)) &&& 0x3f).toInt64.toUInt64).toInt64)), .second, .val (.int (p3 &&& (7 : Int32))), .val (.int (p4.toInt8.toInt32)), .unset, .unset, .unset]) rfl ?_
    exact kt⟩
  obtain ⟨off, h_off, pre2⟩ : ∃ z : Int32, z = (p3 &&& (7 : Int32)) ∧ ∀ t, Steps p.tables e below (s₁.setTop (mkF m 23 #[.val (.long q1), .second, .val (.int p2), .val (.int p3), .val (.int p4), .val (.long v), .second, .val (.int z), .val (.int (p4.toInt8.toInt32)), .unset, .unset, .unset] [])) t → Steps p.tables e below (s₁.setTop (entryFrame m #[(.long q1), (.int p2), (.int p3), (.int p4)] maxLocals)) t := ⟨_, rfl, fun t kt => by
    refine pre1 t ?_
    exact kt⟩
  obtain ⟨sb, h_sb, pre3⟩ : ∃ z : Int32, z = (p4.toInt8.toInt32) ∧ ∀ t, Steps p.tables e below (s₁.setTop (mkF m 23 #[.val (.long q1), .second, .val (.int p2), .val (.int p3), .val (.int p4), .val (.long v), .second, .val (.int off), .val (.int z), .unset, .unset, .unset] [])) t → Steps p.tables e below (s₁.setTop (entryFrame m #[(.long q1), (.int p2), (.int p3), (.int p4)] maxLocals)) t := ⟨_, rfl, fun t kt => by
    refine pre2 t ?_
    exact kt⟩
  have hv : 0 ≤ v.toInt := by rw [h_v]; exact own_v q1 p2
  have ho : 0 ≤ off.toInt ∧ off.toInt ≤ 7 := by rw [h_off]; exact own_off p3
  have hsb : sb.toInt8.toInt32 = sb := by rw [h_sb]; exact own_nb p4
  obtain ⟨f, hf, hln, hv2, hv3⟩ := own_lenB hv
  obtain ⟨T4, h4, k4, X4, e4, E4, A4, st4⟩ := newP X0 hx hZ (hw _ (List.mem_of_getElem? (i := 1) rfl)) e0 (g := (mkF m 25 #[.val (.long q1), .second, .val (.int p2), .val (.int p3), .val (.int p4), .val (.long v), .second, .val (.int off), .val (.int sb), .unset, .unset, .unset] [(.int (18 : Int32))])) rfl (hb hby at_25) rfl (by decide) (cap := 18) (by decide) (by decide) (by decide) (by decide)
  obtain ⟨b4, g4⟩ : ∃ z, z = h0.size := ⟨_, rfl⟩
  rw [← g4] at A4 st4
  have g_b4 : n0 ≤ b4 := Nat.le_trans Z0 (Nat.le_of_eq g4.symm)
  have sz_b4 : h0.size ≤ b4 := Nat.le_trans (Keep.refl h0 []).1 (Nat.le_of_eq g4.symm)
  have K5 : Keep h0 h4 [] := (Keep.refl h0 []).ext E4
  have V_b4 : Arv Z h4 b4 k4 .byte (18 : Int32) [(.int (0 : Int32)), (.int (0 : Int32)), (.int (0 : Int32)), (.int (0 : Int32)), (.int (0 : Int32)), (.int (0 : Int32)), (.int (0 : Int32)), (.int (0 : Int32)), (.int (0 : Int32)), (.int (0 : Int32)), (.int (0 : Int32)), (.int (0 : Int32)), (.int (0 : Int32)), (.int (0 : Int32)), (.int (0 : Int32)), (.int (0 : Int32)), (.int (0 : Int32)), (.int (0 : Int32))] (.int (0 : Int32)) := (Arv.new A4 (by decide)).pad (pad_rep [] (.int (0 : Int32)) 18)
  obtain ⟨c6, Ac6, qc6, Sc6, Nc6, Hc6, Gc6⟩ := id V_b4
  obtain ⟨T7, h7, X7, e7, W7, st7⟩ := stB X4 hx hZ e4 Ac6 (j := (0 : Int32)) (inb_of Sc6 ⟨by decide, by decide⟩) (g := (mkF m 31 #[.val (.long q1), .second, .val (.int p2), .val (.int p3), .val (.int p4), .val (.long v), .second, .val (.int off), .val (.int sb), .unset, .unset, .unset] [(.int sb), (.int (0 : Int32)), (.ref b4), (.ref b4)])) rfl rfl (hb hby at_31)
  have K8 : Keep h0 h7 [] := K5.wr W7 (Or.inr sz_b4)
  have N9 := Fr.snoc X7 N0 g_b4
  have Vw7 := Arv.set Ac6 qc6 Sc6 Nc6 Hc6 Gc6 (fits_nar_byte _) W7 0 rfl (Nat.le_of_ble_eq_true rfl)
  change Arv Z h7 b4 k4 .byte (18 : Int32) [(.int (sb).toInt8.toInt32), (.int (0 : Int32)), (.int (0 : Int32)), (.int (0 : Int32)), (.int (0 : Int32)), (.int (0 : Int32)), (.int (0 : Int32)), (.int (0 : Int32)), (.int (0 : Int32)), (.int (0 : Int32)), (.int (0 : Int32)), (.int (0 : Int32)), (.int (0 : Int32)), (.int (0 : Int32)), (.int (0 : Int32)), (.int (0 : Int32)), (.int (0 : Int32)), (.int (0 : Int32))] (.int (0 : Int32)) at Vw7
  obtain ⟨c10, Ac10, qc10, Sc10, Nc10, Hc10, Gc10⟩ := id Vw7
  obtain ⟨T11, h11, X11, e11, W11, st11⟩ := stB X7 hx hZ e7 Ac10 (j := (1 : Int32)) (inb_of Sc10 ⟨by decide, by decide⟩) (g := (mkF m 36 #[.val (.long q1), .second, .val (.int p2), .val (.int p3), .val (.int p4), .val (.long v), .second, .val (.int off), .val (.int sb), .unset, .unset, .unset] [(.int sb), (.int (1 : Int32)), (.ref b4), (.ref b4)])) rfl rfl (hb hby at_36)
  have K12 : Keep h0 h11 [] := K8.wr W11 (Or.inr sz_b4)
  have N13 := Fr.snoc X11 N9 g_b4
  have Vw11 := Arv.set Ac10 qc10 Sc10 Nc10 Hc10 Gc10 (fits_nar_byte _) W11 1 rfl (Nat.le_of_ble_eq_true rfl)
  change Arv Z h11 b4 k4 .byte (18 : Int32) [(.int (sb).toInt8.toInt32), (.int (sb).toInt8.toInt32), (.int (0 : Int32)), (.int (0 : Int32)), (.int (0 : Int32)), (.int (0 : Int32)), (.int (0 : Int32)), (.int (0 : Int32)), (.int (0 : Int32)), (.int (0 : Int32)), (.int (0 : Int32)), (.int (0 : Int32)), (.int (0 : Int32)), (.int (0 : Int32)), (.int (0 : Int32)), (.int (0 : Int32)), (.int (0 : Int32)), (.int (0 : Int32))] (.int (0 : Int32)) at Vw11
  obtain ⟨c14, Ac14, qc14, Sc14, Nc14, Hc14, Gc14⟩ := id Vw11
  obtain ⟨T15, h15, X15, e15, W15, st15⟩ := stB X11 hx hZ e11 Ac14 (j := (2 : Int32)) (inb_of Sc14 ⟨by decide, by decide⟩) (g := (mkF m 41 #[.val (.long q1), .second, .val (.int p2), .val (.int p3), .val (.int p4), .val (.long v), .second, .val (.int off), .val (.int sb), .unset, .unset, .unset] [(.int sb), (.int (2 : Int32)), (.ref b4), (.ref b4)])) rfl rfl (hb hby at_41)
  have K16 : Keep h0 h15 [] := K12.wr W15 (Or.inr sz_b4)
  have N17 := Fr.snoc X15 N13 g_b4
  have Vw15 := Arv.set Ac14 qc14 Sc14 Nc14 Hc14 Gc14 (fits_nar_byte _) W15 2 rfl (Nat.le_of_ble_eq_true rfl)
  change Arv Z h15 b4 k4 .byte (18 : Int32) [(.int (sb).toInt8.toInt32), (.int (sb).toInt8.toInt32), (.int (sb).toInt8.toInt32), (.int (0 : Int32)), (.int (0 : Int32)), (.int (0 : Int32)), (.int (0 : Int32)), (.int (0 : Int32)), (.int (0 : Int32)), (.int (0 : Int32)), (.int (0 : Int32)), (.int (0 : Int32)), (.int (0 : Int32)), (.int (0 : Int32)), (.int (0 : Int32)), (.int (0 : Int32)), (.int (0 : Int32)), (.int (0 : Int32))] (.int (0 : Int32)) at Vw15
  obtain ⟨c18, Ac18, qc18, Sc18, Nc18, Hc18, Gc18⟩ := id Vw15
  obtain ⟨T19, h19, X19, e19, W19, st19⟩ := stB X15 hx hZ e15 Ac18 (j := (3 : Int32)) (inb_of Sc18 ⟨by decide, by decide⟩) (g := (mkF m 46 #[.val (.long q1), .second, .val (.int p2), .val (.int p3), .val (.int p4), .val (.long v), .second, .val (.int off), .val (.int sb), .unset, .unset, .unset] [(.int sb), (.int (3 : Int32)), (.ref b4), (.ref b4)])) rfl rfl (hb hby at_46)
  have K20 : Keep h0 h19 [] := K16.wr W19 (Or.inr sz_b4)
  have N21 := Fr.snoc X19 N17 g_b4
  have Vw19 := Arv.set Ac18 qc18 Sc18 Nc18 Hc18 Gc18 (fits_nar_byte _) W19 3 rfl (Nat.le_of_ble_eq_true rfl)
  change Arv Z h19 b4 k4 .byte (18 : Int32) [(.int (sb).toInt8.toInt32), (.int (sb).toInt8.toInt32), (.int (sb).toInt8.toInt32), (.int (sb).toInt8.toInt32), (.int (0 : Int32)), (.int (0 : Int32)), (.int (0 : Int32)), (.int (0 : Int32)), (.int (0 : Int32)), (.int (0 : Int32)), (.int (0 : Int32)), (.int (0 : Int32)), (.int (0 : Int32)), (.int (0 : Int32)), (.int (0 : Int32)), (.int (0 : Int32)), (.int (0 : Int32)), (.int (0 : Int32))] (.int (0 : Int32)) at Vw19
  obtain ⟨c22, Ac22, qc22, Sc22, Nc22, Hc22, Gc22⟩ := id Vw19
  obtain ⟨T23, h23, X23, e23, W23, st23⟩ := stB X19 hx hZ e19 Ac22 (j := (4 : Int32)) (inb_of Sc22 ⟨by decide, by decide⟩) (g := (mkF m 51 #[.val (.long q1), .second, .val (.int p2), .val (.int p3), .val (.int p4), .val (.long v), .second, .val (.int off), .val (.int sb), .unset, .unset, .unset] [(.int sb), (.int (4 : Int32)), (.ref b4), (.ref b4)])) rfl rfl (hb hby at_51)
  have K24 : Keep h0 h23 [] := K20.wr W23 (Or.inr sz_b4)
  have N25 := Fr.snoc X23 N21 g_b4
  have Vw23 := Arv.set Ac22 qc22 Sc22 Nc22 Hc22 Gc22 (fits_nar_byte _) W23 4 rfl (Nat.le_of_ble_eq_true rfl)
  change Arv Z h23 b4 k4 .byte (18 : Int32) [(.int (sb).toInt8.toInt32), (.int (sb).toInt8.toInt32), (.int (sb).toInt8.toInt32), (.int (sb).toInt8.toInt32), (.int (sb).toInt8.toInt32), (.int (0 : Int32)), (.int (0 : Int32)), (.int (0 : Int32)), (.int (0 : Int32)), (.int (0 : Int32)), (.int (0 : Int32)), (.int (0 : Int32)), (.int (0 : Int32)), (.int (0 : Int32)), (.int (0 : Int32)), (.int (0 : Int32)), (.int (0 : Int32)), (.int (0 : Int32))] (.int (0 : Int32)) at Vw23
  obtain ⟨c26, Ac26, qc26, Sc26, Nc26, Hc26, Gc26⟩ := id Vw23
  obtain ⟨T27, h27, X27, e27, W27, st27⟩ := stB X23 hx hZ e23 Ac26 (j := (5 : Int32)) (inb_of Sc26 ⟨by decide, by decide⟩) (g := (mkF m 56 #[.val (.long q1), .second, .val (.int p2), .val (.int p3), .val (.int p4), .val (.long v), .second, .val (.int off), .val (.int sb), .unset, .unset, .unset] [(.int sb), (.int (5 : Int32)), (.ref b4), (.ref b4)])) rfl rfl (hb hby at_56)
  have K28 : Keep h0 h27 [] := K24.wr W27 (Or.inr sz_b4)
  have N29 := Fr.snoc X27 N25 g_b4
  have Vw27 := Arv.set Ac26 qc26 Sc26 Nc26 Hc26 Gc26 (fits_nar_byte _) W27 5 rfl (Nat.le_of_ble_eq_true rfl)
  change Arv Z h27 b4 k4 .byte (18 : Int32) [(.int (sb).toInt8.toInt32), (.int (sb).toInt8.toInt32), (.int (sb).toInt8.toInt32), (.int (sb).toInt8.toInt32), (.int (sb).toInt8.toInt32), (.int (sb).toInt8.toInt32), (.int (0 : Int32)), (.int (0 : Int32)), (.int (0 : Int32)), (.int (0 : Int32)), (.int (0 : Int32)), (.int (0 : Int32)), (.int (0 : Int32)), (.int (0 : Int32)), (.int (0 : Int32)), (.int (0 : Int32)), (.int (0 : Int32)), (.int (0 : Int32))] (.int (0 : Int32)) at Vw27
  obtain ⟨c30, Ac30, qc30, Sc30, Nc30, Hc30, Gc30⟩ := id Vw27
  obtain ⟨T31, h31, X31, e31, W31, st31⟩ := stB X27 hx hZ e27 Ac30 (j := (6 : Int32)) (inb_of Sc30 ⟨by decide, by decide⟩) (g := (mkF m 62 #[.val (.long q1), .second, .val (.int p2), .val (.int p3), .val (.int p4), .val (.long v), .second, .val (.int off), .val (.int sb), .unset, .unset, .unset] [(.int sb), (.int (6 : Int32)), (.ref b4), (.ref b4)])) rfl rfl (hb hby at_62)
  have K32 : Keep h0 h31 [] := K28.wr W31 (Or.inr sz_b4)
  have N33 := Fr.snoc X31 N29 g_b4
  have Vw31 := Arv.set Ac30 qc30 Sc30 Nc30 Hc30 Gc30 (fits_nar_byte _) W31 6 rfl (Nat.le_of_ble_eq_true rfl)
  change Arv Z h31 b4 k4 .byte (18 : Int32) [(.int (sb).toInt8.toInt32), (.int (sb).toInt8.toInt32), (.int (sb).toInt8.toInt32), (.int (sb).toInt8.toInt32), (.int (sb).toInt8.toInt32), (.int (sb).toInt8.toInt32), (.int (sb).toInt8.toInt32), (.int (0 : Int32)), (.int (0 : Int32)), (.int (0 : Int32)), (.int (0 : Int32)), (.int (0 : Int32)), (.int (0 : Int32)), (.int (0 : Int32)), (.int (0 : Int32)), (.int (0 : Int32)), (.int (0 : Int32)), (.int (0 : Int32))] (.int (0 : Int32)) at Vw31
  obtain ⟨c34, Ac34, qc34, Sc34, Nc34, Hc34, Gc34⟩ := id Vw31
  obtain ⟨T35, h35, X35, e35, W35, st35⟩ := stB X31 hx hZ e31 Ac34 (j := (7 : Int32)) (inb_of Sc34 ⟨by decide, by decide⟩) (g := (mkF m 68 #[.val (.long q1), .second, .val (.int p2), .val (.int p3), .val (.int p4), .val (.long v), .second, .val (.int off), .val (.int sb), .unset, .unset, .unset] [(.int sb), (.int (7 : Int32)), (.ref b4), (.ref b4)])) rfl rfl (hb hby at_68)
  have K36 : Keep h0 h35 [] := K32.wr W35 (Or.inr sz_b4)
  have N37 := Fr.snoc X35 N33 g_b4
  have Vw35 := Arv.set Ac34 qc34 Sc34 Nc34 Hc34 Gc34 (fits_nar_byte _) W35 7 rfl (Nat.le_of_ble_eq_true rfl)
  change Arv Z h35 b4 k4 .byte (18 : Int32) [(.int (sb).toInt8.toInt32), (.int (sb).toInt8.toInt32), (.int (sb).toInt8.toInt32), (.int (sb).toInt8.toInt32), (.int (sb).toInt8.toInt32), (.int (sb).toInt8.toInt32), (.int (sb).toInt8.toInt32), (.int (sb).toInt8.toInt32), (.int (0 : Int32)), (.int (0 : Int32)), (.int (0 : Int32)), (.int (0 : Int32)), (.int (0 : Int32)), (.int (0 : Int32)), (.int (0 : Int32)), (.int (0 : Int32)), (.int (0 : Int32)), (.int (0 : Int32))] (.int (0 : Int32)) at Vw35
  have pre38 : ∀ t, Steps p.tables e below (T35.setTop (mkF m 72 #[.val (.long q1), .second, .val (.int p2), .val (.int p3), .val (.int p4), .val (.long v), .second, .val (.int off), .val (.int sb), .unset, .unset, .unset] [(.int (8 : Int32)), (.ref b4), (.ref b4)])) t → Steps p.tables e below (s₁.setTop (entryFrame m #[(.long q1), (.int p2), (.int p3), (.int p4)] maxLocals)) t := fun t kt => by
    refine pre3 t ?_
    show Steps p.tables e below (s₁.setTop (mkF m 23 #[.val (.long q1), .second, .val (.int p2), .val (.int p3), .val (.int p4), .val (.long v), .second, .val (.int off), .val (.int sb), .unset, .unset, .unset] [])) _
    refine XS.bipush X0.here hx rfl (hb hby at_23) ?_
    show Steps p.tables e below (s₁.setTop (mkF m 25 #[.val (.long q1), .second, .val (.int p2), .val (.int p3), .val (.int p4), .val (.long v), .second, .val (.int off), .val (.int sb), .unset, .unset, .unset] [(.int (18 : Int32))])) _
    refine st4 _ ?_
    show Steps p.tables e below (T4.setTop (mkF m 27 #[.val (.long q1), .second, .val (.int p2), .val (.int p3), .val (.int p4), .val (.long v), .second, .val (.int off), .val (.int sb), .unset, .unset, .unset] [(.ref b4)])) _
    refine XS.dup X4.here hx rfl (hb hby at_27) rfl rfl ?_
    show Steps p.tables e below (T4.setTop (mkF m 28 #[.val (.long q1), .second, .val (.int p2), .val (.int p3), .val (.int p4), .val (.long v), .second, .val (.int off), .val (.int sb), .unset, .unset, .unset] [(.ref b4), (.ref b4)])) _
    refine XS.iconst X4.here hx rfl (hb hby at_28) ?_
    show Steps p.tables e below (T4.setTop (mkF m 29 #[.val (.long q1), .second, .val (.int p2), .val (.int p3), .val (.int p4), .val (.long v), .second, .val (.int off), .val (.int sb), .unset, .unset, .unset] [(.int (0 : Int32)), (.ref b4), (.ref b4)])) _
    refine XS.iload X4.here hx rfl (hb hby at_29) rfl ?_
    show Steps p.tables e below (T4.setTop (mkF m 31 #[.val (.long q1), .second, .val (.int p2), .val (.int p3), .val (.int p4), .val (.long v), .second, .val (.int off), .val (.int sb), .unset, .unset, .unset] [(.int sb), (.int (0 : Int32)), (.ref b4), (.ref b4)])) _
    refine st7 _ ?_
    show Steps p.tables e below (T7.setTop (mkF m 32 #[.val (.long q1), .second, .val (.int p2), .val (.int p3), .val (.int p4), .val (.long v), .second, .val (.int off), .val (.int sb), .unset, .unset, .unset] [(.ref b4)])) _
    refine XS.dup X7.here hx rfl (hb hby at_32) rfl rfl ?_
    show Steps p.tables e below (T7.setTop (mkF m 33 #[.val (.long q1), .second, .val (.int p2), .val (.int p3), .val (.int p4), .val (.long v), .second, .val (.int off), .val (.int sb), .unset, .unset, .unset] [(.ref b4), (.ref b4)])) _
    refine XS.iconst X7.here hx rfl (hb hby at_33) ?_
    show Steps p.tables e below (T7.setTop (mkF m 34 #[.val (.long q1), .second, .val (.int p2), .val (.int p3), .val (.int p4), .val (.long v), .second, .val (.int off), .val (.int sb), .unset, .unset, .unset] [(.int (1 : Int32)), (.ref b4), (.ref b4)])) _
    refine XS.iload X7.here hx rfl (hb hby at_34) rfl ?_
    show Steps p.tables e below (T7.setTop (mkF m 36 #[.val (.long q1), .second, .val (.int p2), .val (.int p3), .val (.int p4), .val (.long v), .second, .val (.int off), .val (.int sb), .unset, .unset, .unset] [(.int sb), (.int (1 : Int32)), (.ref b4), (.ref b4)])) _
    refine st11 _ ?_
    show Steps p.tables e below (T11.setTop (mkF m 37 #[.val (.long q1), .second, .val (.int p2), .val (.int p3), .val (.int p4), .val (.long v), .second, .val (.int off), .val (.int sb), .unset, .unset, .unset] [(.ref b4)])) _
    refine XS.dup X11.here hx rfl (hb hby at_37) rfl rfl ?_
    show Steps p.tables e below (T11.setTop (mkF m 38 #[.val (.long q1), .second, .val (.int p2), .val (.int p3), .val (.int p4), .val (.long v), .second, .val (.int off), .val (.int sb), .unset, .unset, .unset] [(.ref b4), (.ref b4)])) _
    refine XS.iconst X11.here hx rfl (hb hby at_38) ?_
    show Steps p.tables e below (T11.setTop (mkF m 39 #[.val (.long q1), .second, .val (.int p2), .val (.int p3), .val (.int p4), .val (.long v), .second, .val (.int off), .val (.int sb), .unset, .unset, .unset] [(.int (2 : Int32)), (.ref b4), (.ref b4)])) _
    refine XS.iload X11.here hx rfl (hb hby at_39) rfl ?_
    show Steps p.tables e below (T11.setTop (mkF m 41 #[.val (.long q1), .second, .val (.int p2), .val (.int p3), .val (.int p4), .val (.long v), .second, .val (.int off), .val (.int sb), .unset, .unset, .unset] [(.int sb), (.int (2 : Int32)), (.ref b4), (.ref b4)])) _
    refine st15 _ ?_
    show Steps p.tables e below (T15.setTop (mkF m 42 #[.val (.long q1), .second, .val (.int p2), .val (.int p3), .val (.int p4), .val (.long v), .second, .val (.int off), .val (.int sb), .unset, .unset, .unset] [(.ref b4)])) _
    refine XS.dup X15.here hx rfl (hb hby at_42) rfl rfl ?_
    show Steps p.tables e below (T15.setTop (mkF m 43 #[.val (.long q1), .second, .val (.int p2), .val (.int p3), .val (.int p4), .val (.long v), .second, .val (.int off), .val (.int sb), .unset, .unset, .unset] [(.ref b4), (.ref b4)])) _
    refine XS.iconst X15.here hx rfl (hb hby at_43) ?_
    show Steps p.tables e below (T15.setTop (mkF m 44 #[.val (.long q1), .second, .val (.int p2), .val (.int p3), .val (.int p4), .val (.long v), .second, .val (.int off), .val (.int sb), .unset, .unset, .unset] [(.int (3 : Int32)), (.ref b4), (.ref b4)])) _
    refine XS.iload X15.here hx rfl (hb hby at_44) rfl ?_
    show Steps p.tables e below (T15.setTop (mkF m 46 #[.val (.long q1), .second, .val (.int p2), .val (.int p3), .val (.int p4), .val (.long v), .second, .val (.int off), .val (.int sb), .unset, .unset, .unset] [(.int sb), (.int (3 : Int32)), (.ref b4), (.ref b4)])) _
    refine st19 _ ?_
    show Steps p.tables e below (T19.setTop (mkF m 47 #[.val (.long q1), .second, .val (.int p2), .val (.int p3), .val (.int p4), .val (.long v), .second, .val (.int off), .val (.int sb), .unset, .unset, .unset] [(.ref b4)])) _
    refine XS.dup X19.here hx rfl (hb hby at_47) rfl rfl ?_
    show Steps p.tables e below (T19.setTop (mkF m 48 #[.val (.long q1), .second, .val (.int p2), .val (.int p3), .val (.int p4), .val (.long v), .second, .val (.int off), .val (.int sb), .unset, .unset, .unset] [(.ref b4), (.ref b4)])) _
    refine XS.iconst X19.here hx rfl (hb hby at_48) ?_
    show Steps p.tables e below (T19.setTop (mkF m 49 #[.val (.long q1), .second, .val (.int p2), .val (.int p3), .val (.int p4), .val (.long v), .second, .val (.int off), .val (.int sb), .unset, .unset, .unset] [(.int (4 : Int32)), (.ref b4), (.ref b4)])) _
    refine XS.iload X19.here hx rfl (hb hby at_49) rfl ?_
    show Steps p.tables e below (T19.setTop (mkF m 51 #[.val (.long q1), .second, .val (.int p2), .val (.int p3), .val (.int p4), .val (.long v), .second, .val (.int off), .val (.int sb), .unset, .unset, .unset] [(.int sb), (.int (4 : Int32)), (.ref b4), (.ref b4)])) _
    refine st23 _ ?_
    show Steps p.tables e below (T23.setTop (mkF m 52 #[.val (.long q1), .second, .val (.int p2), .val (.int p3), .val (.int p4), .val (.long v), .second, .val (.int off), .val (.int sb), .unset, .unset, .unset] [(.ref b4)])) _
    refine XS.dup X23.here hx rfl (hb hby at_52) rfl rfl ?_
    show Steps p.tables e below (T23.setTop (mkF m 53 #[.val (.long q1), .second, .val (.int p2), .val (.int p3), .val (.int p4), .val (.long v), .second, .val (.int off), .val (.int sb), .unset, .unset, .unset] [(.ref b4), (.ref b4)])) _
    refine XS.iconst X23.here hx rfl (hb hby at_53) ?_
    show Steps p.tables e below (T23.setTop (mkF m 54 #[.val (.long q1), .second, .val (.int p2), .val (.int p3), .val (.int p4), .val (.long v), .second, .val (.int off), .val (.int sb), .unset, .unset, .unset] [(.int (5 : Int32)), (.ref b4), (.ref b4)])) _
    refine XS.iload X23.here hx rfl (hb hby at_54) rfl ?_
    show Steps p.tables e below (T23.setTop (mkF m 56 #[.val (.long q1), .second, .val (.int p2), .val (.int p3), .val (.int p4), .val (.long v), .second, .val (.int off), .val (.int sb), .unset, .unset, .unset] [(.int sb), (.int (5 : Int32)), (.ref b4), (.ref b4)])) _
    refine st27 _ ?_
    show Steps p.tables e below (T27.setTop (mkF m 57 #[.val (.long q1), .second, .val (.int p2), .val (.int p3), .val (.int p4), .val (.long v), .second, .val (.int off), .val (.int sb), .unset, .unset, .unset] [(.ref b4)])) _
    refine XS.dup X27.here hx rfl (hb hby at_57) rfl rfl ?_
    show Steps p.tables e below (T27.setTop (mkF m 58 #[.val (.long q1), .second, .val (.int p2), .val (.int p3), .val (.int p4), .val (.long v), .second, .val (.int off), .val (.int sb), .unset, .unset, .unset] [(.ref b4), (.ref b4)])) _
    refine XS.bipush X27.here hx rfl (hb hby at_58) ?_
    show Steps p.tables e below (T27.setTop (mkF m 60 #[.val (.long q1), .second, .val (.int p2), .val (.int p3), .val (.int p4), .val (.long v), .second, .val (.int off), .val (.int sb), .unset, .unset, .unset] [(.int (6 : Int32)), (.ref b4), (.ref b4)])) _
    refine XS.iload X27.here hx rfl (hb hby at_60) rfl ?_
    show Steps p.tables e below (T27.setTop (mkF m 62 #[.val (.long q1), .second, .val (.int p2), .val (.int p3), .val (.int p4), .val (.long v), .second, .val (.int off), .val (.int sb), .unset, .unset, .unset] [(.int sb), (.int (6 : Int32)), (.ref b4), (.ref b4)])) _
    refine st31 _ ?_
    show Steps p.tables e below (T31.setTop (mkF m 63 #[.val (.long q1), .second, .val (.int p2), .val (.int p3), .val (.int p4), .val (.long v), .second, .val (.int off), .val (.int sb), .unset, .unset, .unset] [(.ref b4)])) _
    refine XS.dup X31.here hx rfl (hb hby at_63) rfl rfl ?_
    show Steps p.tables e below (T31.setTop (mkF m 64 #[.val (.long q1), .second, .val (.int p2), .val (.int p3), .val (.int p4), .val (.long v), .second, .val (.int off), .val (.int sb), .unset, .unset, .unset] [(.ref b4), (.ref b4)])) _
    refine XS.bipush X31.here hx rfl (hb hby at_64) ?_
    show Steps p.tables e below (T31.setTop (mkF m 66 #[.val (.long q1), .second, .val (.int p2), .val (.int p3), .val (.int p4), .val (.long v), .second, .val (.int off), .val (.int sb), .unset, .unset, .unset] [(.int (7 : Int32)), (.ref b4), (.ref b4)])) _
    refine XS.iload X31.here hx rfl (hb hby at_66) rfl ?_
    show Steps p.tables e below (T31.setTop (mkF m 68 #[.val (.long q1), .second, .val (.int p2), .val (.int p3), .val (.int p4), .val (.long v), .second, .val (.int off), .val (.int sb), .unset, .unset, .unset] [(.int sb), (.int (7 : Int32)), (.ref b4), (.ref b4)])) _
    refine st35 _ ?_
    show Steps p.tables e below (T35.setTop (mkF m 69 #[.val (.long q1), .second, .val (.int p2), .val (.int p3), .val (.int p4), .val (.long v), .second, .val (.int off), .val (.int sb), .unset, .unset, .unset] [(.ref b4)])) _
    refine XS.dup X35.here hx rfl (hb hby at_69) rfl rfl ?_
    show Steps p.tables e below (T35.setTop (mkF m 70 #[.val (.long q1), .second, .val (.int p2), .val (.int p3), .val (.int p4), .val (.long v), .second, .val (.int off), .val (.int sb), .unset, .unset, .unset] [(.ref b4), (.ref b4)])) _
    refine XS.bipush X35.here hx rfl (hb hby at_70) ?_
    exact kt
  obtain ⟨c39, Ac39, qc39, Sc39, Nc39, Hc39, Gc39⟩ := id Vw35
  obtain ⟨T40, h40, X40, e40, W40, st40⟩ := stB X35 hx hZ e35 Ac39 (j := (8 : Int32)) (inb_of Sc39 ⟨by decide, by decide⟩) (g := (mkF m 74 #[.val (.long q1), .second, .val (.int p2), .val (.int p3), .val (.int p4), .val (.long v), .second, .val (.int off), .val (.int sb), .unset, .unset, .unset] [(.int sb), (.int (8 : Int32)), (.ref b4), (.ref b4)])) rfl rfl (hb hby at_74)
  have K41 : Keep h0 h40 [] := K36.wr W40 (Or.inr sz_b4)
  have N42 := Fr.snoc X40 N37 g_b4
  have Vw40 := Arv.set Ac39 qc39 Sc39 Nc39 Hc39 Gc39 (fits_nar_byte _) W40 8 rfl (Nat.le_of_ble_eq_true rfl)
  change Arv Z h40 b4 k4 .byte (18 : Int32) [(.int (sb).toInt8.toInt32), (.int (sb).toInt8.toInt32), (.int (sb).toInt8.toInt32), (.int (sb).toInt8.toInt32), (.int (sb).toInt8.toInt32), (.int (sb).toInt8.toInt32), (.int (sb).toInt8.toInt32), (.int (sb).toInt8.toInt32), (.int (sb).toInt8.toInt32), (.int (0 : Int32)), (.int (0 : Int32)), (.int (0 : Int32)), (.int (0 : Int32)), (.int (0 : Int32)), (.int (0 : Int32)), (.int (0 : Int32)), (.int (0 : Int32)), (.int (0 : Int32))] (.int (0 : Int32)) at Vw40
  obtain ⟨c43, Ac43, qc43, Sc43, Nc43, Hc43, Gc43⟩ := id Vw40
  obtain ⟨T44, h44, X44, e44, W44, st44⟩ := stB X40 hx hZ e40 Ac43 (j := (9 : Int32)) (inb_of Sc43 ⟨by decide, by decide⟩) (g := (mkF m 80 #[.val (.long q1), .second, .val (.int p2), .val (.int p3), .val (.int p4), .val (.long v), .second, .val (.int off), .val (.int sb), .unset, .unset, .unset] [(.int sb), (.int (9 : Int32)), (.ref b4), (.ref b4)])) rfl rfl (hb hby at_80)
  have K45 : Keep h0 h44 [] := K41.wr W44 (Or.inr sz_b4)
  have N46 := Fr.snoc X44 N42 g_b4
  have Vw44 := Arv.set Ac43 qc43 Sc43 Nc43 Hc43 Gc43 (fits_nar_byte _) W44 9 rfl (Nat.le_of_ble_eq_true rfl)
  change Arv Z h44 b4 k4 .byte (18 : Int32) [(.int (sb).toInt8.toInt32), (.int (sb).toInt8.toInt32), (.int (sb).toInt8.toInt32), (.int (sb).toInt8.toInt32), (.int (sb).toInt8.toInt32), (.int (sb).toInt8.toInt32), (.int (sb).toInt8.toInt32), (.int (sb).toInt8.toInt32), (.int (sb).toInt8.toInt32), (.int (sb).toInt8.toInt32), (.int (0 : Int32)), (.int (0 : Int32)), (.int (0 : Int32)), (.int (0 : Int32)), (.int (0 : Int32)), (.int (0 : Int32)), (.int (0 : Int32)), (.int (0 : Int32))] (.int (0 : Int32)) at Vw44
  obtain ⟨c47, Ac47, qc47, Sc47, Nc47, Hc47, Gc47⟩ := id Vw44
  obtain ⟨T48, h48, X48, e48, W48, st48⟩ := stB X44 hx hZ e44 Ac47 (j := (10 : Int32)) (inb_of Sc47 ⟨by decide, by decide⟩) (g := (mkF m 86 #[.val (.long q1), .second, .val (.int p2), .val (.int p3), .val (.int p4), .val (.long v), .second, .val (.int off), .val (.int sb), .unset, .unset, .unset] [(.int sb), (.int (10 : Int32)), (.ref b4), (.ref b4)])) rfl rfl (hb hby at_86)
  have K49 : Keep h0 h48 [] := K45.wr W48 (Or.inr sz_b4)
  have N50 := Fr.snoc X48 N46 g_b4
  have Vw48 := Arv.set Ac47 qc47 Sc47 Nc47 Hc47 Gc47 (fits_nar_byte _) W48 10 rfl (Nat.le_of_ble_eq_true rfl)
  change Arv Z h48 b4 k4 .byte (18 : Int32) [(.int (sb).toInt8.toInt32), (.int (sb).toInt8.toInt32), (.int (sb).toInt8.toInt32), (.int (sb).toInt8.toInt32), (.int (sb).toInt8.toInt32), (.int (sb).toInt8.toInt32), (.int (sb).toInt8.toInt32), (.int (sb).toInt8.toInt32), (.int (sb).toInt8.toInt32), (.int (sb).toInt8.toInt32), (.int (sb).toInt8.toInt32), (.int (0 : Int32)), (.int (0 : Int32)), (.int (0 : Int32)), (.int (0 : Int32)), (.int (0 : Int32)), (.int (0 : Int32)), (.int (0 : Int32))] (.int (0 : Int32)) at Vw48
  obtain ⟨c51, Ac51, qc51, Sc51, Nc51, Hc51, Gc51⟩ := id Vw48
  obtain ⟨T52, h52, X52, e52, W52, st52⟩ := stB X48 hx hZ e48 Ac51 (j := (11 : Int32)) (inb_of Sc51 ⟨by decide, by decide⟩) (g := (mkF m 92 #[.val (.long q1), .second, .val (.int p2), .val (.int p3), .val (.int p4), .val (.long v), .second, .val (.int off), .val (.int sb), .unset, .unset, .unset] [(.int sb), (.int (11 : Int32)), (.ref b4), (.ref b4)])) rfl rfl (hb hby at_92)
  have K53 : Keep h0 h52 [] := K49.wr W52 (Or.inr sz_b4)
  have N54 := Fr.snoc X52 N50 g_b4
  have Vw52 := Arv.set Ac51 qc51 Sc51 Nc51 Hc51 Gc51 (fits_nar_byte _) W52 11 rfl (Nat.le_of_ble_eq_true rfl)
  change Arv Z h52 b4 k4 .byte (18 : Int32) [(.int (sb).toInt8.toInt32), (.int (sb).toInt8.toInt32), (.int (sb).toInt8.toInt32), (.int (sb).toInt8.toInt32), (.int (sb).toInt8.toInt32), (.int (sb).toInt8.toInt32), (.int (sb).toInt8.toInt32), (.int (sb).toInt8.toInt32), (.int (sb).toInt8.toInt32), (.int (sb).toInt8.toInt32), (.int (sb).toInt8.toInt32), (.int (sb).toInt8.toInt32), (.int (0 : Int32)), (.int (0 : Int32)), (.int (0 : Int32)), (.int (0 : Int32)), (.int (0 : Int32)), (.int (0 : Int32))] (.int (0 : Int32)) at Vw52
  obtain ⟨c55, Ac55, qc55, Sc55, Nc55, Hc55, Gc55⟩ := id Vw52
  obtain ⟨T56, h56, X56, e56, W56, st56⟩ := stB X52 hx hZ e52 Ac55 (j := (12 : Int32)) (inb_of Sc55 ⟨by decide, by decide⟩) (g := (mkF m 98 #[.val (.long q1), .second, .val (.int p2), .val (.int p3), .val (.int p4), .val (.long v), .second, .val (.int off), .val (.int sb), .unset, .unset, .unset] [(.int sb), (.int (12 : Int32)), (.ref b4), (.ref b4)])) rfl rfl (hb hby at_98)
  have K57 : Keep h0 h56 [] := K53.wr W56 (Or.inr sz_b4)
  have N58 := Fr.snoc X56 N54 g_b4
  have Vw56 := Arv.set Ac55 qc55 Sc55 Nc55 Hc55 Gc55 (fits_nar_byte _) W56 12 rfl (Nat.le_of_ble_eq_true rfl)
  change Arv Z h56 b4 k4 .byte (18 : Int32) [(.int (sb).toInt8.toInt32), (.int (sb).toInt8.toInt32), (.int (sb).toInt8.toInt32), (.int (sb).toInt8.toInt32), (.int (sb).toInt8.toInt32), (.int (sb).toInt8.toInt32), (.int (sb).toInt8.toInt32), (.int (sb).toInt8.toInt32), (.int (sb).toInt8.toInt32), (.int (sb).toInt8.toInt32), (.int (sb).toInt8.toInt32), (.int (sb).toInt8.toInt32), (.int (sb).toInt8.toInt32), (.int (0 : Int32)), (.int (0 : Int32)), (.int (0 : Int32)), (.int (0 : Int32)), (.int (0 : Int32))] (.int (0 : Int32)) at Vw56
  obtain ⟨c59, Ac59, qc59, Sc59, Nc59, Hc59, Gc59⟩ := id Vw56
  obtain ⟨T60, h60, X60, e60, W60, st60⟩ := stB X56 hx hZ e56 Ac59 (j := (13 : Int32)) (inb_of Sc59 ⟨by decide, by decide⟩) (g := (mkF m 104 #[.val (.long q1), .second, .val (.int p2), .val (.int p3), .val (.int p4), .val (.long v), .second, .val (.int off), .val (.int sb), .unset, .unset, .unset] [(.int sb), (.int (13 : Int32)), (.ref b4), (.ref b4)])) rfl rfl (hb hby at_104)
  have K61 : Keep h0 h60 [] := K57.wr W60 (Or.inr sz_b4)
  have N62 := Fr.snoc X60 N58 g_b4
  have Vw60 := Arv.set Ac59 qc59 Sc59 Nc59 Hc59 Gc59 (fits_nar_byte _) W60 13 rfl (Nat.le_of_ble_eq_true rfl)
  change Arv Z h60 b4 k4 .byte (18 : Int32) [(.int (sb).toInt8.toInt32), (.int (sb).toInt8.toInt32), (.int (sb).toInt8.toInt32), (.int (sb).toInt8.toInt32), (.int (sb).toInt8.toInt32), (.int (sb).toInt8.toInt32), (.int (sb).toInt8.toInt32), (.int (sb).toInt8.toInt32), (.int (sb).toInt8.toInt32), (.int (sb).toInt8.toInt32), (.int (sb).toInt8.toInt32), (.int (sb).toInt8.toInt32), (.int (sb).toInt8.toInt32), (.int (sb).toInt8.toInt32), (.int (0 : Int32)), (.int (0 : Int32)), (.int (0 : Int32)), (.int (0 : Int32))] (.int (0 : Int32)) at Vw60
  obtain ⟨c63, Ac63, qc63, Sc63, Nc63, Hc63, Gc63⟩ := id Vw60
  obtain ⟨T64, h64, X64, e64, W64, st64⟩ := stB X60 hx hZ e60 Ac63 (j := (14 : Int32)) (inb_of Sc63 ⟨by decide, by decide⟩) (g := (mkF m 110 #[.val (.long q1), .second, .val (.int p2), .val (.int p3), .val (.int p4), .val (.long v), .second, .val (.int off), .val (.int sb), .unset, .unset, .unset] [(.int sb), (.int (14 : Int32)), (.ref b4), (.ref b4)])) rfl rfl (hb hby at_110)
  have K65 : Keep h0 h64 [] := K61.wr W64 (Or.inr sz_b4)
  have N66 := Fr.snoc X64 N62 g_b4
  have Vw64 := Arv.set Ac63 qc63 Sc63 Nc63 Hc63 Gc63 (fits_nar_byte _) W64 14 rfl (Nat.le_of_ble_eq_true rfl)
  change Arv Z h64 b4 k4 .byte (18 : Int32) [(.int (sb).toInt8.toInt32), (.int (sb).toInt8.toInt32), (.int (sb).toInt8.toInt32), (.int (sb).toInt8.toInt32), (.int (sb).toInt8.toInt32), (.int (sb).toInt8.toInt32), (.int (sb).toInt8.toInt32), (.int (sb).toInt8.toInt32), (.int (sb).toInt8.toInt32), (.int (sb).toInt8.toInt32), (.int (sb).toInt8.toInt32), (.int (sb).toInt8.toInt32), (.int (sb).toInt8.toInt32), (.int (sb).toInt8.toInt32), (.int (sb).toInt8.toInt32), (.int (0 : Int32)), (.int (0 : Int32)), (.int (0 : Int32))] (.int (0 : Int32)) at Vw64
  obtain ⟨c67, Ac67, qc67, Sc67, Nc67, Hc67, Gc67⟩ := id Vw64
  obtain ⟨T68, h68, X68, e68, W68, st68⟩ := stB X64 hx hZ e64 Ac67 (j := (15 : Int32)) (inb_of Sc67 ⟨by decide, by decide⟩) (g := (mkF m 116 #[.val (.long q1), .second, .val (.int p2), .val (.int p3), .val (.int p4), .val (.long v), .second, .val (.int off), .val (.int sb), .unset, .unset, .unset] [(.int sb), (.int (15 : Int32)), (.ref b4), (.ref b4)])) rfl rfl (hb hby at_116)
  have K69 : Keep h0 h68 [] := K65.wr W68 (Or.inr sz_b4)
  have N70 := Fr.snoc X68 N66 g_b4
  have Vw68 := Arv.set Ac67 qc67 Sc67 Nc67 Hc67 Gc67 (fits_nar_byte _) W68 15 rfl (Nat.le_of_ble_eq_true rfl)
  change Arv Z h68 b4 k4 .byte (18 : Int32) [(.int (sb).toInt8.toInt32), (.int (sb).toInt8.toInt32), (.int (sb).toInt8.toInt32), (.int (sb).toInt8.toInt32), (.int (sb).toInt8.toInt32), (.int (sb).toInt8.toInt32), (.int (sb).toInt8.toInt32), (.int (sb).toInt8.toInt32), (.int (sb).toInt8.toInt32), (.int (sb).toInt8.toInt32), (.int (sb).toInt8.toInt32), (.int (sb).toInt8.toInt32), (.int (sb).toInt8.toInt32), (.int (sb).toInt8.toInt32), (.int (sb).toInt8.toInt32), (.int (sb).toInt8.toInt32), (.int (0 : Int32)), (.int (0 : Int32))] (.int (0 : Int32)) at Vw68
  obtain ⟨c71, Ac71, qc71, Sc71, Nc71, Hc71, Gc71⟩ := id Vw68
  obtain ⟨T72, h72, X72, e72, W72, st72⟩ := stB X68 hx hZ e68 Ac71 (j := (16 : Int32)) (inb_of Sc71 ⟨by decide, by decide⟩) (g := (mkF m 122 #[.val (.long q1), .second, .val (.int p2), .val (.int p3), .val (.int p4), .val (.long v), .second, .val (.int off), .val (.int sb), .unset, .unset, .unset] [(.int sb), (.int (16 : Int32)), (.ref b4), (.ref b4)])) rfl rfl (hb hby at_122)
  have K73 : Keep h0 h72 [] := K69.wr W72 (Or.inr sz_b4)
  have N74 := Fr.snoc X72 N70 g_b4
  have Vw72 := Arv.set Ac71 qc71 Sc71 Nc71 Hc71 Gc71 (fits_nar_byte _) W72 16 rfl (Nat.le_of_ble_eq_true rfl)
  change Arv Z h72 b4 k4 .byte (18 : Int32) [(.int (sb).toInt8.toInt32), (.int (sb).toInt8.toInt32), (.int (sb).toInt8.toInt32), (.int (sb).toInt8.toInt32), (.int (sb).toInt8.toInt32), (.int (sb).toInt8.toInt32), (.int (sb).toInt8.toInt32), (.int (sb).toInt8.toInt32), (.int (sb).toInt8.toInt32), (.int (sb).toInt8.toInt32), (.int (sb).toInt8.toInt32), (.int (sb).toInt8.toInt32), (.int (sb).toInt8.toInt32), (.int (sb).toInt8.toInt32), (.int (sb).toInt8.toInt32), (.int (sb).toInt8.toInt32), (.int (sb).toInt8.toInt32), (.int (0 : Int32))] (.int (0 : Int32)) at Vw72
  have pre75 : ∀ t, Steps p.tables e below (T72.setTop (mkF m 126 #[.val (.long q1), .second, .val (.int p2), .val (.int p3), .val (.int p4), .val (.long v), .second, .val (.int off), .val (.int sb), .unset, .unset, .unset] [(.int (17 : Int32)), (.ref b4), (.ref b4)])) t → Steps p.tables e below (s₁.setTop (entryFrame m #[(.long q1), (.int p2), (.int p3), (.int p4)] maxLocals)) t := fun t kt => by
    refine pre38 t ?_
    show Steps p.tables e below (T35.setTop (mkF m 72 #[.val (.long q1), .second, .val (.int p2), .val (.int p3), .val (.int p4), .val (.long v), .second, .val (.int off), .val (.int sb), .unset, .unset, .unset] [(.int (8 : Int32)), (.ref b4), (.ref b4)])) _
    refine XS.iload X35.here hx rfl (hb hby at_72) rfl ?_
    show Steps p.tables e below (T35.setTop (mkF m 74 #[.val (.long q1), .second, .val (.int p2), .val (.int p3), .val (.int p4), .val (.long v), .second, .val (.int off), .val (.int sb), .unset, .unset, .unset] [(.int sb), (.int (8 : Int32)), (.ref b4), (.ref b4)])) _
    refine st40 _ ?_
    show Steps p.tables e below (T40.setTop (mkF m 75 #[.val (.long q1), .second, .val (.int p2), .val (.int p3), .val (.int p4), .val (.long v), .second, .val (.int off), .val (.int sb), .unset, .unset, .unset] [(.ref b4)])) _
    refine XS.dup X40.here hx rfl (hb hby at_75) rfl rfl ?_
    show Steps p.tables e below (T40.setTop (mkF m 76 #[.val (.long q1), .second, .val (.int p2), .val (.int p3), .val (.int p4), .val (.long v), .second, .val (.int off), .val (.int sb), .unset, .unset, .unset] [(.ref b4), (.ref b4)])) _
    refine XS.bipush X40.here hx rfl (hb hby at_76) ?_
    show Steps p.tables e below (T40.setTop (mkF m 78 #[.val (.long q1), .second, .val (.int p2), .val (.int p3), .val (.int p4), .val (.long v), .second, .val (.int off), .val (.int sb), .unset, .unset, .unset] [(.int (9 : Int32)), (.ref b4), (.ref b4)])) _
    refine XS.iload X40.here hx rfl (hb hby at_78) rfl ?_
    show Steps p.tables e below (T40.setTop (mkF m 80 #[.val (.long q1), .second, .val (.int p2), .val (.int p3), .val (.int p4), .val (.long v), .second, .val (.int off), .val (.int sb), .unset, .unset, .unset] [(.int sb), (.int (9 : Int32)), (.ref b4), (.ref b4)])) _
    refine st44 _ ?_
    show Steps p.tables e below (T44.setTop (mkF m 81 #[.val (.long q1), .second, .val (.int p2), .val (.int p3), .val (.int p4), .val (.long v), .second, .val (.int off), .val (.int sb), .unset, .unset, .unset] [(.ref b4)])) _
    refine XS.dup X44.here hx rfl (hb hby at_81) rfl rfl ?_
    show Steps p.tables e below (T44.setTop (mkF m 82 #[.val (.long q1), .second, .val (.int p2), .val (.int p3), .val (.int p4), .val (.long v), .second, .val (.int off), .val (.int sb), .unset, .unset, .unset] [(.ref b4), (.ref b4)])) _
    refine XS.bipush X44.here hx rfl (hb hby at_82) ?_
    show Steps p.tables e below (T44.setTop (mkF m 84 #[.val (.long q1), .second, .val (.int p2), .val (.int p3), .val (.int p4), .val (.long v), .second, .val (.int off), .val (.int sb), .unset, .unset, .unset] [(.int (10 : Int32)), (.ref b4), (.ref b4)])) _
    refine XS.iload X44.here hx rfl (hb hby at_84) rfl ?_
    show Steps p.tables e below (T44.setTop (mkF m 86 #[.val (.long q1), .second, .val (.int p2), .val (.int p3), .val (.int p4), .val (.long v), .second, .val (.int off), .val (.int sb), .unset, .unset, .unset] [(.int sb), (.int (10 : Int32)), (.ref b4), (.ref b4)])) _
    refine st48 _ ?_
    show Steps p.tables e below (T48.setTop (mkF m 87 #[.val (.long q1), .second, .val (.int p2), .val (.int p3), .val (.int p4), .val (.long v), .second, .val (.int off), .val (.int sb), .unset, .unset, .unset] [(.ref b4)])) _
    refine XS.dup X48.here hx rfl (hb hby at_87) rfl rfl ?_
    show Steps p.tables e below (T48.setTop (mkF m 88 #[.val (.long q1), .second, .val (.int p2), .val (.int p3), .val (.int p4), .val (.long v), .second, .val (.int off), .val (.int sb), .unset, .unset, .unset] [(.ref b4), (.ref b4)])) _
    refine XS.bipush X48.here hx rfl (hb hby at_88) ?_
    show Steps p.tables e below (T48.setTop (mkF m 90 #[.val (.long q1), .second, .val (.int p2), .val (.int p3), .val (.int p4), .val (.long v), .second, .val (.int off), .val (.int sb), .unset, .unset, .unset] [(.int (11 : Int32)), (.ref b4), (.ref b4)])) _
    refine XS.iload X48.here hx rfl (hb hby at_90) rfl ?_
    show Steps p.tables e below (T48.setTop (mkF m 92 #[.val (.long q1), .second, .val (.int p2), .val (.int p3), .val (.int p4), .val (.long v), .second, .val (.int off), .val (.int sb), .unset, .unset, .unset] [(.int sb), (.int (11 : Int32)), (.ref b4), (.ref b4)])) _
    refine st52 _ ?_
    show Steps p.tables e below (T52.setTop (mkF m 93 #[.val (.long q1), .second, .val (.int p2), .val (.int p3), .val (.int p4), .val (.long v), .second, .val (.int off), .val (.int sb), .unset, .unset, .unset] [(.ref b4)])) _
    refine XS.dup X52.here hx rfl (hb hby at_93) rfl rfl ?_
    show Steps p.tables e below (T52.setTop (mkF m 94 #[.val (.long q1), .second, .val (.int p2), .val (.int p3), .val (.int p4), .val (.long v), .second, .val (.int off), .val (.int sb), .unset, .unset, .unset] [(.ref b4), (.ref b4)])) _
    refine XS.bipush X52.here hx rfl (hb hby at_94) ?_
    show Steps p.tables e below (T52.setTop (mkF m 96 #[.val (.long q1), .second, .val (.int p2), .val (.int p3), .val (.int p4), .val (.long v), .second, .val (.int off), .val (.int sb), .unset, .unset, .unset] [(.int (12 : Int32)), (.ref b4), (.ref b4)])) _
    refine XS.iload X52.here hx rfl (hb hby at_96) rfl ?_
    show Steps p.tables e below (T52.setTop (mkF m 98 #[.val (.long q1), .second, .val (.int p2), .val (.int p3), .val (.int p4), .val (.long v), .second, .val (.int off), .val (.int sb), .unset, .unset, .unset] [(.int sb), (.int (12 : Int32)), (.ref b4), (.ref b4)])) _
    refine st56 _ ?_
    show Steps p.tables e below (T56.setTop (mkF m 99 #[.val (.long q1), .second, .val (.int p2), .val (.int p3), .val (.int p4), .val (.long v), .second, .val (.int off), .val (.int sb), .unset, .unset, .unset] [(.ref b4)])) _
    refine XS.dup X56.here hx rfl (hb hby at_99) rfl rfl ?_
    show Steps p.tables e below (T56.setTop (mkF m 100 #[.val (.long q1), .second, .val (.int p2), .val (.int p3), .val (.int p4), .val (.long v), .second, .val (.int off), .val (.int sb), .unset, .unset, .unset] [(.ref b4), (.ref b4)])) _
    refine XS.bipush X56.here hx rfl (hb hby at_100) ?_
    show Steps p.tables e below (T56.setTop (mkF m 102 #[.val (.long q1), .second, .val (.int p2), .val (.int p3), .val (.int p4), .val (.long v), .second, .val (.int off), .val (.int sb), .unset, .unset, .unset] [(.int (13 : Int32)), (.ref b4), (.ref b4)])) _
    refine XS.iload X56.here hx rfl (hb hby at_102) rfl ?_
    show Steps p.tables e below (T56.setTop (mkF m 104 #[.val (.long q1), .second, .val (.int p2), .val (.int p3), .val (.int p4), .val (.long v), .second, .val (.int off), .val (.int sb), .unset, .unset, .unset] [(.int sb), (.int (13 : Int32)), (.ref b4), (.ref b4)])) _
    refine st60 _ ?_
    show Steps p.tables e below (T60.setTop (mkF m 105 #[.val (.long q1), .second, .val (.int p2), .val (.int p3), .val (.int p4), .val (.long v), .second, .val (.int off), .val (.int sb), .unset, .unset, .unset] [(.ref b4)])) _
    refine XS.dup X60.here hx rfl (hb hby at_105) rfl rfl ?_
    show Steps p.tables e below (T60.setTop (mkF m 106 #[.val (.long q1), .second, .val (.int p2), .val (.int p3), .val (.int p4), .val (.long v), .second, .val (.int off), .val (.int sb), .unset, .unset, .unset] [(.ref b4), (.ref b4)])) _
    refine XS.bipush X60.here hx rfl (hb hby at_106) ?_
    show Steps p.tables e below (T60.setTop (mkF m 108 #[.val (.long q1), .second, .val (.int p2), .val (.int p3), .val (.int p4), .val (.long v), .second, .val (.int off), .val (.int sb), .unset, .unset, .unset] [(.int (14 : Int32)), (.ref b4), (.ref b4)])) _
    refine XS.iload X60.here hx rfl (hb hby at_108) rfl ?_
    show Steps p.tables e below (T60.setTop (mkF m 110 #[.val (.long q1), .second, .val (.int p2), .val (.int p3), .val (.int p4), .val (.long v), .second, .val (.int off), .val (.int sb), .unset, .unset, .unset] [(.int sb), (.int (14 : Int32)), (.ref b4), (.ref b4)])) _
    refine st64 _ ?_
    show Steps p.tables e below (T64.setTop (mkF m 111 #[.val (.long q1), .second, .val (.int p2), .val (.int p3), .val (.int p4), .val (.long v), .second, .val (.int off), .val (.int sb), .unset, .unset, .unset] [(.ref b4)])) _
    refine XS.dup X64.here hx rfl (hb hby at_111) rfl rfl ?_
    show Steps p.tables e below (T64.setTop (mkF m 112 #[.val (.long q1), .second, .val (.int p2), .val (.int p3), .val (.int p4), .val (.long v), .second, .val (.int off), .val (.int sb), .unset, .unset, .unset] [(.ref b4), (.ref b4)])) _
    refine XS.bipush X64.here hx rfl (hb hby at_112) ?_
    show Steps p.tables e below (T64.setTop (mkF m 114 #[.val (.long q1), .second, .val (.int p2), .val (.int p3), .val (.int p4), .val (.long v), .second, .val (.int off), .val (.int sb), .unset, .unset, .unset] [(.int (15 : Int32)), (.ref b4), (.ref b4)])) _
    refine XS.iload X64.here hx rfl (hb hby at_114) rfl ?_
    show Steps p.tables e below (T64.setTop (mkF m 116 #[.val (.long q1), .second, .val (.int p2), .val (.int p3), .val (.int p4), .val (.long v), .second, .val (.int off), .val (.int sb), .unset, .unset, .unset] [(.int sb), (.int (15 : Int32)), (.ref b4), (.ref b4)])) _
    refine st68 _ ?_
    show Steps p.tables e below (T68.setTop (mkF m 117 #[.val (.long q1), .second, .val (.int p2), .val (.int p3), .val (.int p4), .val (.long v), .second, .val (.int off), .val (.int sb), .unset, .unset, .unset] [(.ref b4)])) _
    refine XS.dup X68.here hx rfl (hb hby at_117) rfl rfl ?_
    show Steps p.tables e below (T68.setTop (mkF m 118 #[.val (.long q1), .second, .val (.int p2), .val (.int p3), .val (.int p4), .val (.long v), .second, .val (.int off), .val (.int sb), .unset, .unset, .unset] [(.ref b4), (.ref b4)])) _
    refine XS.bipush X68.here hx rfl (hb hby at_118) ?_
    show Steps p.tables e below (T68.setTop (mkF m 120 #[.val (.long q1), .second, .val (.int p2), .val (.int p3), .val (.int p4), .val (.long v), .second, .val (.int off), .val (.int sb), .unset, .unset, .unset] [(.int (16 : Int32)), (.ref b4), (.ref b4)])) _
    refine XS.iload X68.here hx rfl (hb hby at_120) rfl ?_
    show Steps p.tables e below (T68.setTop (mkF m 122 #[.val (.long q1), .second, .val (.int p2), .val (.int p3), .val (.int p4), .val (.long v), .second, .val (.int off), .val (.int sb), .unset, .unset, .unset] [(.int sb), (.int (16 : Int32)), (.ref b4), (.ref b4)])) _
    refine st72 _ ?_
    show Steps p.tables e below (T72.setTop (mkF m 123 #[.val (.long q1), .second, .val (.int p2), .val (.int p3), .val (.int p4), .val (.long v), .second, .val (.int off), .val (.int sb), .unset, .unset, .unset] [(.ref b4)])) _
    refine XS.dup X72.here hx rfl (hb hby at_123) rfl rfl ?_
    show Steps p.tables e below (T72.setTop (mkF m 124 #[.val (.long q1), .second, .val (.int p2), .val (.int p3), .val (.int p4), .val (.long v), .second, .val (.int off), .val (.int sb), .unset, .unset, .unset] [(.ref b4), (.ref b4)])) _
    refine XS.bipush X72.here hx rfl (hb hby at_124) ?_
    exact kt
  obtain ⟨c76, Ac76, qc76, Sc76, Nc76, Hc76, Gc76⟩ := id Vw72
  obtain ⟨T77, h77, X77, e77, W77, st77⟩ := stB X72 hx hZ e72 Ac76 (j := (17 : Int32)) (inb_of Sc76 ⟨by decide, by decide⟩) (g := (mkF m 128 #[.val (.long q1), .second, .val (.int p2), .val (.int p3), .val (.int p4), .val (.long v), .second, .val (.int off), .val (.int sb), .unset, .unset, .unset] [(.int sb), (.int (17 : Int32)), (.ref b4), (.ref b4)])) rfl rfl (hb hby at_128)
  have K78 : Keep h0 h77 [] := K73.wr W77 (Or.inr sz_b4)
  have N79 := Fr.snoc X77 N74 g_b4
  have Vw77 := Arv.set Ac76 qc76 Sc76 Nc76 Hc76 Gc76 (fits_nar_byte _) W77 17 rfl (Nat.le_of_ble_eq_true rfl)
  change Arv Z h77 b4 k4 .byte (18 : Int32) [(.int (sb).toInt8.toInt32), (.int (sb).toInt8.toInt32), (.int (sb).toInt8.toInt32), (.int (sb).toInt8.toInt32), (.int (sb).toInt8.toInt32), (.int (sb).toInt8.toInt32), (.int (sb).toInt8.toInt32), (.int (sb).toInt8.toInt32), (.int (sb).toInt8.toInt32), (.int (sb).toInt8.toInt32), (.int (sb).toInt8.toInt32), (.int (sb).toInt8.toInt32), (.int (sb).toInt8.toInt32), (.int (sb).toInt8.toInt32), (.int (sb).toInt8.toInt32), (.int (sb).toInt8.toInt32), (.int (sb).toInt8.toInt32), (.int (sb).toInt8.toInt32)] (.int (0 : Int32)) at Vw77
  obtain ⟨_, _, ⟨T80, L80, k80, n80⟩, -, X80, ⟨Lc80, hQ80, l80, y80, z80⟩, st80⟩ := Jvm.LawKit.callS X77 hx (y := (⟨"com/example/morro/morro/index/IndexOutputEncodeNumberPinLaw", "lengthOf", "(J)I"⟩ : MethodName)) hown (mvT hZ (hw _ (List.mem_of_getElem? (i := 2) rfl))) (mvT hZ (hw _ (List.mem_of_getElem? (i := 3) rfl))) (mvT hZ (hw _ (List.mem_of_getElem? (i := 4) rfl))) (mvT hZ (hw _ (List.mem_of_getElem? (i := 5) rfl))) (by decide) (backOf (W := 0) (rm1 l Z a0 hw [] v h77 n0 (Nat.le_trans Z0 K78.1) ) hZ (hw _ (List.mem_of_getElem? (i := 5) rfl)) (hw _ (List.mem_of_getElem? (i := 4) rfl)) (by decide) (by decide)) (g := (mkF m 133 #[.val (.long q1), .second, .val (.int p2), .val (.int p3), .val (.int p4), .val (.long v), .second, .val (.int off), .val (.int sb), .val (.ref b4), .unset, .unset] [(.long v)])) rfl (by rw [hml]; rfl) (argsL := [(.long v)]) (rest := []) (lenOf pd__28J_29I rfl) rfl (by show 2 * 0 + _ ≤ _; exact Nat.le_of_eq rfl) (hb hby at_133) (fun _ _ => ⟨rfl, e77, (by decide : 1 + 0 ≤ _), (by decide : 18 + 0 ≤ _)⟩)
  dsimp only [Pt.U, Pt.locs, Pt.cells, Pt.slots] at y80 z80 st80 hQ80
  change Stand p l e _ s m _ below meth c T80 L80 k80 n80 at X80
  change L80 = _ ++ Lc80 at l80
  subst y80 z80
  obtain ⟨rfl, N80q, e80⟩ := hQ80
  have N80 : Fr n0 L80 := l80 ▸ Fr.app N79 N80q
  obtain ⟨VS, hVS⟩ : ∃ z : List Value, z = [(.int (sb).toInt8.toInt32), (.int (sb).toInt8.toInt32), (.int (sb).toInt8.toInt32), (.int (sb).toInt8.toInt32), (.int (sb).toInt8.toInt32), (.int (sb).toInt8.toInt32), (.int (sb).toInt8.toInt32), (.int (sb).toInt8.toInt32), (.int (sb).toInt8.toInt32), (.int (sb).toInt8.toInt32), (.int (sb).toInt8.toInt32), (.int (sb).toInt8.toInt32), (.int (sb).toInt8.toInt32), (.int (sb).toInt8.toInt32), (.int (sb).toInt8.toInt32), (.int (sb).toInt8.toInt32), (.int (sb).toInt8.toInt32), (.int (sb).toInt8.toInt32)] := ⟨_, rfl⟩
  have Vg : Arv Z h77 b4 k4 .byte (18 : Int32) VS (.int (0 : Int32)) := by rw [hVS]; exact Vw77
  have hVl : VS.length = 18 := by rw [hVS]; rfl
  have hvs : ∀ k, k < 18 → VS.getD k (.int (0 : Int32)) = .int sb := fun k hk => by
    rw [hVS]
    have q : k = 0 ∨ k = 1 ∨ k = 2 ∨ k = 3 ∨ k = 4 ∨ k = 5 ∨ k = 6 ∨ k = 7 ∨ k = 8 ∨ k = 9 ∨ k = 10 ∨ k = 11 ∨ k = 12 ∨ k = 13 ∨ k = 14 ∨ k = 15 ∨ k = 16 ∨ k = 17 := by omega
    rcases q with rfl | rfl | rfl | rfl | rfl | rfl | rfl | rfl | rfl | rfl | rfl | rfl | rfl | rfl | rfl | rfl | rfl | rfl <;> exact congrArg Value.int hsb
  clear hVS
  obtain ⟨_, _, ⟨T81, L81, k81, n81⟩, -, X81, ⟨Lc81, hQ81, l81, y81, z81⟩, st81⟩ := Jvm.LawKit.callS X80 hx (y := (⟨"com/example/morro/morro/index/IndexOutput", "encodeNumber", "(J[BI)I"⟩ : MethodName)) hown (mvT hZ (hw _ (List.mem_of_getElem? (i := 7) rfl))) (mvT hZ (hw _ (List.mem_of_getElem? (i := 8) rfl))) (mvT hZ (hw _ (List.mem_of_getElem? (i := 9) rfl))) (mvT hZ (hw _ (List.mem_of_getElem? (i := 10) rfl))) (by decide) (backOf (W := 0) (rm2 l Z a0 hw [] v b4 off k4 (18 : Int32) VS f 18 (own_len v) h77 n0 (Nat.le_trans Z0 K78.1) Vg g_b4 (by decide) (by decide) hVl ho.1 (by omega) hv hv2 hv3 hln) hZ (hw _ (List.mem_of_getElem? (i := 10) rfl)) (hw _ (List.mem_of_getElem? (i := 9) rfl)) (by decide) (by decide)) (g := (mkF m 144 #[.val (.long q1), .second, .val (.int p2), .val (.int p3), .val (.int p4), .val (.long v), .second, .val (.int off), .val (.int sb), .val (.ref b4), .val (.int (own_len v)), .unset] [(.int off), (.ref b4), (.long v)])) rfl (by rw [hml]; rfl) (argsL := [(.long v), (.ref b4), (.int off)]) (rest := []) (lenOf pd__28J_5bBI_29I rfl) rfl (by show 2 * 0 + _ ≤ _; exact Nat.le_of_eq rfl) (hb hby at_144) (fun _ _ => ⟨rfl, e80, (by decide : 1 + 0 ≤ _), (by decide : 18 + 0 ≤ _)⟩)
  dsimp only [Pt.U, Pt.locs, Pt.cells, Pt.slots] at y81 z81 st81 hQ81
  change Stand p l e _ s m _ below meth c T81 L81 k81 n81 at X81
  change L81 = _ ++ Lc81 at l81
  subst y81 z81
  obtain ⟨rfl, N81q, K81q, t81_0⟩ := hQ81
  have N81 : Fr n0 L81 := l81 ▸ Fr.app N80 N81q
  have K81 : Keep h0 T81.heap [] := K78.trans K81q (allS (P := fun x => x ∈ [] ∨ h0.size ≤ x) (Or.inr sz_b4) all0)
  have hg82 : ((own_pre f v off.toNatClampNeg VS).set (off.toNatClampNeg + f) (own_last (own_it f v))).getD ((0 : Int32)).toNatClampNeg (.int (0 : Int32)) = .int (own_want (0 : Int32) off v (own_len v) sb) := own_fin (p := (0 : Int32)) hv ho hln hf (by decide) hVl hvs
  obtain ⟨_, _, ⟨T83, L83, k83, n83⟩, -, X83, ⟨Lc83, hQ83, l83, y83, z83⟩, st83⟩ := Jvm.LawKit.callS X81 hx (y := (⟨"com/example/morro/morro/index/IndexOutputEncodeNumberPinLaw", "at", "([BIIJIB)Z"⟩ : MethodName)) hown (mvT hZ (hw _ (List.mem_of_getElem? (i := 12) rfl))) (mvT hZ (hw _ (List.mem_of_getElem? (i := 13) rfl))) (mvT hZ (hw _ (List.mem_of_getElem? (i := 4) rfl))) (mvT hZ (hw _ (List.mem_of_getElem? (i := 14) rfl))) (by decide) (backOf (W := 0) (rm3 l Z a0 hw [] b4 (0 : Int32) off v (own_len v) sb k4 (18 : Int32) ((own_pre f v off.toNatClampNeg VS).set (off.toNatClampNeg + f) (own_last (own_it f v))) T81.heap n0 (Nat.le_trans Z0 K81.1) t81_0 (by decide) hg82) hZ (hw _ (List.mem_of_getElem? (i := 14) rfl)) (hw _ (List.mem_of_getElem? (i := 4) rfl)) (by decide) (by decide)) (g := (mkF m 170 #[.val (.long q1), .second, .val (.int p2), .val (.int p3), .val (.int p4), .val (.long v), .second, .val (.int off), .val (.int sb), .val (.ref b4), .val (.int (own_len v)), .val (.int (off + (own_len v)))] [(.int sb), (.int (own_len v)), (.long v), (.int off), (.int (0 : Int32)), (.ref b4)])) rfl (by rw [hml]; rfl) (argsL := [(.ref b4), (.int (0 : Int32)), (.int off), (.long v), (.int (own_len v)), (.int sb)]) (rest := []) (lenOf pd__28_5bBIIJIB_29Z rfl) rfl (by show 2 * 0 + _ ≤ _; exact Nat.le_of_eq rfl) (hb hby at_170) (fun _ _ => ⟨rfl, rfl, (by decide : 1 + 0 ≤ _), (by decide : 18 + 0 ≤ _)⟩)
  dsimp only [Pt.U, Pt.locs, Pt.cells, Pt.slots] at y83 z83 st83 hQ83
  change Stand p l e _ s m _ below meth c T83 L83 k83 n83 at X83
  change L83 = _ ++ Lc83 at l83
  subst y83 z83
  obtain ⟨rfl, N83q, e83⟩ := hQ83
  have N83 : Fr n0 L83 := l83 ▸ Fr.app N81 N83q
  have hg84 : ((own_pre f v off.toNatClampNeg VS).set (off.toNatClampNeg + f) (own_last (own_it f v))).getD ((1 : Int32)).toNatClampNeg (.int (0 : Int32)) = .int (own_want (1 : Int32) off v (own_len v) sb) := own_fin (p := (1 : Int32)) hv ho hln hf (by decide) hVl hvs
  obtain ⟨_, _, ⟨T85, L85, k85, n85⟩, -, X85, ⟨Lc85, hQ85, l85, y85, z85⟩, st85⟩ := Jvm.LawKit.callS X83 hx (y := (⟨"com/example/morro/morro/index/IndexOutputEncodeNumberPinLaw", "at", "([BIIJIB)Z"⟩ : MethodName)) hown (mvT hZ (hw _ (List.mem_of_getElem? (i := 12) rfl))) (mvT hZ (hw _ (List.mem_of_getElem? (i := 13) rfl))) (mvT hZ (hw _ (List.mem_of_getElem? (i := 4) rfl))) (mvT hZ (hw _ (List.mem_of_getElem? (i := 14) rfl))) (by decide) (backOf (W := 0) (rm3 l Z a0 hw [] b4 (1 : Int32) off v (own_len v) sb k4 (18 : Int32) ((own_pre f v off.toNatClampNeg VS).set (off.toNatClampNeg + f) (own_last (own_it f v))) T81.heap n0 (Nat.le_trans Z0 K81.1) t81_0 (by decide) hg84) hZ (hw _ (List.mem_of_getElem? (i := 14) rfl)) (hw _ (List.mem_of_getElem? (i := 4) rfl)) (by decide) (by decide)) (g := (mkF m 187 #[.val (.long q1), .second, .val (.int p2), .val (.int p3), .val (.int p4), .val (.long v), .second, .val (.int off), .val (.int sb), .val (.ref b4), .val (.int (own_len v)), .val (.int (off + (own_len v)))] [(.int sb), (.int (own_len v)), (.long v), (.int off), (.int (1 : Int32)), (.ref b4)])) rfl (by rw [hml]; rfl) (argsL := [(.ref b4), (.int (1 : Int32)), (.int off), (.long v), (.int (own_len v)), (.int sb)]) (rest := []) (lenOf pd__28_5bBIIJIB_29Z rfl) rfl (by show 2 * 0 + _ ≤ _; exact Nat.le_of_eq rfl) (hb hby at_187) (fun _ _ => ⟨rfl, e83, (by decide : 1 + 0 ≤ _), (by decide : 18 + 0 ≤ _)⟩)
  dsimp only [Pt.U, Pt.locs, Pt.cells, Pt.slots] at y85 z85 st85 hQ85
  change Stand p l e _ s m _ below meth c T85 L85 k85 n85 at X85
  change L85 = _ ++ Lc85 at l85
  subst y85 z85
  obtain ⟨rfl, N85q, e85⟩ := hQ85
  have N85 : Fr n0 L85 := l85 ▸ Fr.app N83 N85q
  have pre86 : ∀ t, Steps p.tables e below (T85.setTop (mkF m 200 #[.val (.long q1), .second, .val (.int p2), .val (.int p3), .val (.int p4), .val (.long v), .second, .val (.int off), .val (.int sb), .val (.ref b4), .val (.int (own_len v)), .val (.int (off + (own_len v)))] [(.long v), (.int off), (.int (2 : Int32)), (.ref b4)])) t → Steps p.tables e below (s₁.setTop (entryFrame m #[(.long q1), (.int p2), (.int p3), (.int p4)] maxLocals)) t := fun t kt => by
    refine pre75 t ?_
    show Steps p.tables e below (T72.setTop (mkF m 126 #[.val (.long q1), .second, .val (.int p2), .val (.int p3), .val (.int p4), .val (.long v), .second, .val (.int off), .val (.int sb), .unset, .unset, .unset] [(.int (17 : Int32)), (.ref b4), (.ref b4)])) _
    refine XS.iload X72.here hx rfl (hb hby at_126) rfl ?_
    show Steps p.tables e below (T72.setTop (mkF m 128 #[.val (.long q1), .second, .val (.int p2), .val (.int p3), .val (.int p4), .val (.long v), .second, .val (.int off), .val (.int sb), .unset, .unset, .unset] [(.int sb), (.int (17 : Int32)), (.ref b4), (.ref b4)])) _
    refine st77 _ ?_
    show Steps p.tables e below (T77.setTop (mkF m 129 #[.val (.long q1), .second, .val (.int p2), .val (.int p3), .val (.int p4), .val (.long v), .second, .val (.int off), .val (.int sb), .unset, .unset, .unset] [(.ref b4)])) _
    refine XS.astore X77.here hx rfl (hb hby at_129) rfl rfl (l' := #[.val (.long q1), .second, .val (.int p2), .val (.int p3), .val (.int p4), .val (.long v), .second, .val (.int off), .val (.int sb), .val (.ref b4), .unset, .unset]) rfl ?_
    show Steps p.tables e below (T77.setTop (mkF m 131 #[.val (.long q1), .second, .val (.int p2), .val (.int p3), .val (.int p4), .val (.long v), .second, .val (.int off), .val (.int sb), .val (.ref b4), .unset, .unset] [])) _
    refine XS.lload X77.here hx rfl (hb hby at_131) rfl ?_
    show Steps p.tables e below (T77.setTop (mkF m 133 #[.val (.long q1), .second, .val (.int p2), .val (.int p3), .val (.int p4), .val (.long v), .second, .val (.int off), .val (.int sb), .val (.ref b4), .unset, .unset] [(.long v)])) _
    refine st80 _ ?_
    show Steps p.tables e below (T80.setTop (mkF m 136 #[.val (.long q1), .second, .val (.int p2), .val (.int p3), .val (.int p4), .val (.long v), .second, .val (.int off), .val (.int sb), .val (.ref b4), .unset, .unset] [(.int (own_len v))])) _
    refine XS.istore X80.here hx rfl (hb hby at_136) rfl (l' := #[.val (.long q1), .second, .val (.int p2), .val (.int p3), .val (.int p4), .val (.long v), .second, .val (.int off), .val (.int sb), .val (.ref b4), .val (.int (own_len v)), .unset]) rfl ?_
    show Steps p.tables e below (T80.setTop (mkF m 138 #[.val (.long q1), .second, .val (.int p2), .val (.int p3), .val (.int p4), .val (.long v), .second, .val (.int off), .val (.int sb), .val (.ref b4), .val (.int (own_len v)), .unset] [])) _
    refine XS.lload X80.here hx rfl (hb hby at_138) rfl ?_
    show Steps p.tables e below (T80.setTop (mkF m 140 #[.val (.long q1), .second, .val (.int p2), .val (.int p3), .val (.int p4), .val (.long v), .second, .val (.int off), .val (.int sb), .val (.ref b4), .val (.int (own_len v)), .unset] [(.long v)])) _
    refine XS.aload X80.here hx rfl (hb hby at_140) rfl rfl ?_
    show Steps p.tables e below (T80.setTop (mkF m 142 #[.val (.long q1), .second, .val (.int p2), .val (.int p3), .val (.int p4), .val (.long v), .second, .val (.int off), .val (.int sb), .val (.ref b4), .val (.int (own_len v)), .unset] [(.ref b4), (.long v)])) _
    refine XS.iload X80.here hx rfl (hb hby at_142) rfl ?_
    show Steps p.tables e below (T80.setTop (mkF m 144 #[.val (.long q1), .second, .val (.int p2), .val (.int p3), .val (.int p4), .val (.long v), .second, .val (.int off), .val (.int sb), .val (.ref b4), .val (.int (own_len v)), .unset] [(.int off), (.ref b4), (.long v)])) _
    refine st81 _ ?_
    show Steps p.tables e below (T81.setTop (mkF m 147 #[.val (.long q1), .second, .val (.int p2), .val (.int p3), .val (.int p4), .val (.long v), .second, .val (.int off), .val (.int sb), .val (.ref b4), .val (.int (own_len v)), .unset] [(.int (off + (own_len v)))])) _
    refine XS.istore X81.here hx rfl (hb hby at_147) rfl (l' := #[.val (.long q1), .second, .val (.int p2), .val (.int p3), .val (.int p4), .val (.long v), .second, .val (.int off), .val (.int sb), .val (.ref b4), .val (.int (own_len v)), .val (.int (off + (own_len v)))]) rfl ?_
    show Steps p.tables e below (T81.setTop (mkF m 149 #[.val (.long q1), .second, .val (.int p2), .val (.int p3), .val (.int p4), .val (.long v), .second, .val (.int off), .val (.int sb), .val (.ref b4), .val (.int (own_len v)), .val (.int (off + (own_len v)))] [])) _
    refine XS.iload X81.here hx rfl (hb hby at_149) rfl ?_
    show Steps p.tables e below (T81.setTop (mkF m 151 #[.val (.long q1), .second, .val (.int p2), .val (.int p3), .val (.int p4), .val (.long v), .second, .val (.int off), .val (.int sb), .val (.ref b4), .val (.int (own_len v)), .val (.int (off + (own_len v)))] [(.int (off + (own_len v)))])) _
    refine XS.iload X81.here hx rfl (hb hby at_151) rfl ?_
    show Steps p.tables e below (T81.setTop (mkF m 153 #[.val (.long q1), .second, .val (.int p2), .val (.int p3), .val (.int p4), .val (.long v), .second, .val (.int off), .val (.int sb), .val (.ref b4), .val (.int (own_len v)), .val (.int (off + (own_len v)))] [(.int off), (.int (off + (own_len v)))])) _
    refine XS.iload X81.here hx rfl (hb hby at_153) rfl ?_
    show Steps p.tables e below (T81.setTop (mkF m 155 #[.val (.long q1), .second, .val (.int p2), .val (.int p3), .val (.int p4), .val (.long v), .second, .val (.int off), .val (.int sb), .val (.ref b4), .val (.int (own_len v)), .val (.int (off + (own_len v)))] [(.int (own_len v)), (.int off), (.int (off + (own_len v)))])) _
    refine XS.iadd X81.here hx rfl (hb hby at_155) rfl ?_
    show Steps p.tables e below (T81.setTop (mkF m 156 #[.val (.long q1), .second, .val (.int p2), .val (.int p3), .val (.int p4), .val (.long v), .second, .val (.int off), .val (.int sb), .val (.ref b4), .val (.int (own_len v)), .val (.int (off + (own_len v)))] [(.int (off + (own_len v))), (.int (off + (own_len v)))])) _
    refine XS.icmpNo X81.here hx rfl (hb hby at_156) rfl (teq rfl).2 ?_
    show Steps p.tables e below (T81.setTop (mkF m 159 #[.val (.long q1), .second, .val (.int p2), .val (.int p3), .val (.int p4), .val (.long v), .second, .val (.int off), .val (.int sb), .val (.ref b4), .val (.int (own_len v)), .val (.int (off + (own_len v)))] [])) _
    refine XS.aload X81.here hx rfl (hb hby at_159) rfl rfl ?_
    show Steps p.tables e below (T81.setTop (mkF m 161 #[.val (.long q1), .second, .val (.int p2), .val (.int p3), .val (.int p4), .val (.long v), .second, .val (.int off), .val (.int sb), .val (.ref b4), .val (.int (own_len v)), .val (.int (off + (own_len v)))] [(.ref b4)])) _
    refine XS.iconst X81.here hx rfl (hb hby at_161) ?_
    show Steps p.tables e below (T81.setTop (mkF m 162 #[.val (.long q1), .second, .val (.int p2), .val (.int p3), .val (.int p4), .val (.long v), .second, .val (.int off), .val (.int sb), .val (.ref b4), .val (.int (own_len v)), .val (.int (off + (own_len v)))] [(.int (0 : Int32)), (.ref b4)])) _
    refine XS.iload X81.here hx rfl (hb hby at_162) rfl ?_
    show Steps p.tables e below (T81.setTop (mkF m 164 #[.val (.long q1), .second, .val (.int p2), .val (.int p3), .val (.int p4), .val (.long v), .second, .val (.int off), .val (.int sb), .val (.ref b4), .val (.int (own_len v)), .val (.int (off + (own_len v)))] [(.int off), (.int (0 : Int32)), (.ref b4)])) _
    refine XS.lload X81.here hx rfl (hb hby at_164) rfl ?_
    show Steps p.tables e below (T81.setTop (mkF m 166 #[.val (.long q1), .second, .val (.int p2), .val (.int p3), .val (.int p4), .val (.long v), .second, .val (.int off), .val (.int sb), .val (.ref b4), .val (.int (own_len v)), .val (.int (off + (own_len v)))] [(.long v), (.int off), (.int (0 : Int32)), (.ref b4)])) _
    refine XS.iload X81.here hx rfl (hb hby at_166) rfl ?_
    show Steps p.tables e below (T81.setTop (mkF m 168 #[.val (.long q1), .second, .val (.int p2), .val (.int p3), .val (.int p4), .val (.long v), .second, .val (.int off), .val (.int sb), .val (.ref b4), .val (.int (own_len v)), .val (.int (off + (own_len v)))] [(.int (own_len v)), (.long v), (.int off), (.int (0 : Int32)), (.ref b4)])) _
    refine XS.iload X81.here hx rfl (hb hby at_168) rfl ?_
    show Steps p.tables e below (T81.setTop (mkF m 170 #[.val (.long q1), .second, .val (.int p2), .val (.int p3), .val (.int p4), .val (.long v), .second, .val (.int off), .val (.int sb), .val (.ref b4), .val (.int (own_len v)), .val (.int (off + (own_len v)))] [(.int sb), (.int (own_len v)), (.long v), (.int off), (.int (0 : Int32)), (.ref b4)])) _
    refine st83 _ ?_
    show Steps p.tables e below (T83.setTop (mkF m 173 #[.val (.long q1), .second, .val (.int p2), .val (.int p3), .val (.int p4), .val (.long v), .second, .val (.int off), .val (.int sb), .val (.ref b4), .val (.int (own_len v)), .val (.int (off + (own_len v)))] [(.int (1 : Int32))])) _
    refine XS.ifNo X83.here hx rfl (hb hby at_173) rfl ((if0 _ _).trans (feq (by decide : ¬ ((1 : Int32) = (0 : Int32)))).1) ?_
    show Steps p.tables e below (T83.setTop (mkF m 176 #[.val (.long q1), .second, .val (.int p2), .val (.int p3), .val (.int p4), .val (.long v), .second, .val (.int off), .val (.int sb), .val (.ref b4), .val (.int (own_len v)), .val (.int (off + (own_len v)))] [])) _
    refine XS.aload X83.here hx rfl (hb hby at_176) rfl rfl ?_
    show Steps p.tables e below (T83.setTop (mkF m 178 #[.val (.long q1), .second, .val (.int p2), .val (.int p3), .val (.int p4), .val (.long v), .second, .val (.int off), .val (.int sb), .val (.ref b4), .val (.int (own_len v)), .val (.int (off + (own_len v)))] [(.ref b4)])) _
    refine XS.iconst X83.here hx rfl (hb hby at_178) ?_
    show Steps p.tables e below (T83.setTop (mkF m 179 #[.val (.long q1), .second, .val (.int p2), .val (.int p3), .val (.int p4), .val (.long v), .second, .val (.int off), .val (.int sb), .val (.ref b4), .val (.int (own_len v)), .val (.int (off + (own_len v)))] [(.int (1 : Int32)), (.ref b4)])) _
    refine XS.iload X83.here hx rfl (hb hby at_179) rfl ?_
    show Steps p.tables e below (T83.setTop (mkF m 181 #[.val (.long q1), .second, .val (.int p2), .val (.int p3), .val (.int p4), .val (.long v), .second, .val (.int off), .val (.int sb), .val (.ref b4), .val (.int (own_len v)), .val (.int (off + (own_len v)))] [(.int off), (.int (1 : Int32)), (.ref b4)])) _
    refine XS.lload X83.here hx rfl (hb hby at_181) rfl ?_
    show Steps p.tables e below (T83.setTop (mkF m 183 #[.val (.long q1), .second, .val (.int p2), .val (.int p3), .val (.int p4), .val (.long v), .second, .val (.int off), .val (.int sb), .val (.ref b4), .val (.int (own_len v)), .val (.int (off + (own_len v)))] [(.long v), (.int off), (.int (1 : Int32)), (.ref b4)])) _
    refine XS.iload X83.here hx rfl (hb hby at_183) rfl ?_
    show Steps p.tables e below (T83.setTop (mkF m 185 #[.val (.long q1), .second, .val (.int p2), .val (.int p3), .val (.int p4), .val (.long v), .second, .val (.int off), .val (.int sb), .val (.ref b4), .val (.int (own_len v)), .val (.int (off + (own_len v)))] [(.int (own_len v)), (.long v), (.int off), (.int (1 : Int32)), (.ref b4)])) _
    refine XS.iload X83.here hx rfl (hb hby at_185) rfl ?_
    show Steps p.tables e below (T83.setTop (mkF m 187 #[.val (.long q1), .second, .val (.int p2), .val (.int p3), .val (.int p4), .val (.long v), .second, .val (.int off), .val (.int sb), .val (.ref b4), .val (.int (own_len v)), .val (.int (off + (own_len v)))] [(.int sb), (.int (own_len v)), (.long v), (.int off), (.int (1 : Int32)), (.ref b4)])) _
    refine st85 _ ?_
    show Steps p.tables e below (T85.setTop (mkF m 190 #[.val (.long q1), .second, .val (.int p2), .val (.int p3), .val (.int p4), .val (.long v), .second, .val (.int off), .val (.int sb), .val (.ref b4), .val (.int (own_len v)), .val (.int (off + (own_len v)))] [(.int (1 : Int32))])) _
    refine XS.ifNo X85.here hx rfl (hb hby at_190) rfl ((if0 _ _).trans (feq (by decide : ¬ ((1 : Int32) = (0 : Int32)))).1) ?_
    show Steps p.tables e below (T85.setTop (mkF m 193 #[.val (.long q1), .second, .val (.int p2), .val (.int p3), .val (.int p4), .val (.long v), .second, .val (.int off), .val (.int sb), .val (.ref b4), .val (.int (own_len v)), .val (.int (off + (own_len v)))] [])) _
    refine XS.aload X85.here hx rfl (hb hby at_193) rfl rfl ?_
    show Steps p.tables e below (T85.setTop (mkF m 195 #[.val (.long q1), .second, .val (.int p2), .val (.int p3), .val (.int p4), .val (.long v), .second, .val (.int off), .val (.int sb), .val (.ref b4), .val (.int (own_len v)), .val (.int (off + (own_len v)))] [(.ref b4)])) _
    refine XS.iconst X85.here hx rfl (hb hby at_195) ?_
    show Steps p.tables e below (T85.setTop (mkF m 196 #[.val (.long q1), .second, .val (.int p2), .val (.int p3), .val (.int p4), .val (.long v), .second, .val (.int off), .val (.int sb), .val (.ref b4), .val (.int (own_len v)), .val (.int (off + (own_len v)))] [(.int (2 : Int32)), (.ref b4)])) _
    refine XS.iload X85.here hx rfl (hb hby at_196) rfl ?_
    show Steps p.tables e below (T85.setTop (mkF m 198 #[.val (.long q1), .second, .val (.int p2), .val (.int p3), .val (.int p4), .val (.long v), .second, .val (.int off), .val (.int sb), .val (.ref b4), .val (.int (own_len v)), .val (.int (off + (own_len v)))] [(.int off), (.int (2 : Int32)), (.ref b4)])) _
    refine XS.lload X85.here hx rfl (hb hby at_198) rfl ?_
    exact kt
  have hg87 : ((own_pre f v off.toNatClampNeg VS).set (off.toNatClampNeg + f) (own_last (own_it f v))).getD ((2 : Int32)).toNatClampNeg (.int (0 : Int32)) = .int (own_want (2 : Int32) off v (own_len v) sb) := own_fin (p := (2 : Int32)) hv ho hln hf (by decide) hVl hvs
  obtain ⟨_, _, ⟨T88, L88, k88, n88⟩, -, X88, ⟨Lc88, hQ88, l88, y88, z88⟩, st88⟩ := Jvm.LawKit.callS X85 hx (y := (⟨"com/example/morro/morro/index/IndexOutputEncodeNumberPinLaw", "at", "([BIIJIB)Z"⟩ : MethodName)) hown (mvT hZ (hw _ (List.mem_of_getElem? (i := 12) rfl))) (mvT hZ (hw _ (List.mem_of_getElem? (i := 13) rfl))) (mvT hZ (hw _ (List.mem_of_getElem? (i := 4) rfl))) (mvT hZ (hw _ (List.mem_of_getElem? (i := 14) rfl))) (by decide) (backOf (W := 0) (rm3 l Z a0 hw [] b4 (2 : Int32) off v (own_len v) sb k4 (18 : Int32) ((own_pre f v off.toNatClampNeg VS).set (off.toNatClampNeg + f) (own_last (own_it f v))) T81.heap n0 (Nat.le_trans Z0 K81.1) t81_0 (by decide) hg87) hZ (hw _ (List.mem_of_getElem? (i := 14) rfl)) (hw _ (List.mem_of_getElem? (i := 4) rfl)) (by decide) (by decide)) (g := (mkF m 204 #[.val (.long q1), .second, .val (.int p2), .val (.int p3), .val (.int p4), .val (.long v), .second, .val (.int off), .val (.int sb), .val (.ref b4), .val (.int (own_len v)), .val (.int (off + (own_len v)))] [(.int sb), (.int (own_len v)), (.long v), (.int off), (.int (2 : Int32)), (.ref b4)])) rfl (by rw [hml]; rfl) (argsL := [(.ref b4), (.int (2 : Int32)), (.int off), (.long v), (.int (own_len v)), (.int sb)]) (rest := []) (lenOf pd__28_5bBIIJIB_29Z rfl) rfl (by show 2 * 0 + _ ≤ _; exact Nat.le_of_eq rfl) (hb hby at_204) (fun _ _ => ⟨rfl, e85, (by decide : 1 + 0 ≤ _), (by decide : 18 + 0 ≤ _)⟩)
  dsimp only [Pt.U, Pt.locs, Pt.cells, Pt.slots] at y88 z88 st88 hQ88
  change Stand p l e _ s m _ below meth c T88 L88 k88 n88 at X88
  change L88 = _ ++ Lc88 at l88
  subst y88 z88
  obtain ⟨rfl, N88q, e88⟩ := hQ88
  have N88 : Fr n0 L88 := l88 ▸ Fr.app N85 N88q
  have hg89 : ((own_pre f v off.toNatClampNeg VS).set (off.toNatClampNeg + f) (own_last (own_it f v))).getD ((3 : Int32)).toNatClampNeg (.int (0 : Int32)) = .int (own_want (3 : Int32) off v (own_len v) sb) := own_fin (p := (3 : Int32)) hv ho hln hf (by decide) hVl hvs
  obtain ⟨_, _, ⟨T90, L90, k90, n90⟩, -, X90, ⟨Lc90, hQ90, l90, y90, z90⟩, st90⟩ := Jvm.LawKit.callS X88 hx (y := (⟨"com/example/morro/morro/index/IndexOutputEncodeNumberPinLaw", "at", "([BIIJIB)Z"⟩ : MethodName)) hown (mvT hZ (hw _ (List.mem_of_getElem? (i := 12) rfl))) (mvT hZ (hw _ (List.mem_of_getElem? (i := 13) rfl))) (mvT hZ (hw _ (List.mem_of_getElem? (i := 4) rfl))) (mvT hZ (hw _ (List.mem_of_getElem? (i := 14) rfl))) (by decide) (backOf (W := 0) (rm3 l Z a0 hw [] b4 (3 : Int32) off v (own_len v) sb k4 (18 : Int32) ((own_pre f v off.toNatClampNeg VS).set (off.toNatClampNeg + f) (own_last (own_it f v))) T81.heap n0 (Nat.le_trans Z0 K81.1) t81_0 (by decide) hg89) hZ (hw _ (List.mem_of_getElem? (i := 14) rfl)) (hw _ (List.mem_of_getElem? (i := 4) rfl)) (by decide) (by decide)) (g := (mkF m 221 #[.val (.long q1), .second, .val (.int p2), .val (.int p3), .val (.int p4), .val (.long v), .second, .val (.int off), .val (.int sb), .val (.ref b4), .val (.int (own_len v)), .val (.int (off + (own_len v)))] [(.int sb), (.int (own_len v)), (.long v), (.int off), (.int (3 : Int32)), (.ref b4)])) rfl (by rw [hml]; rfl) (argsL := [(.ref b4), (.int (3 : Int32)), (.int off), (.long v), (.int (own_len v)), (.int sb)]) (rest := []) (lenOf pd__28_5bBIIJIB_29Z rfl) rfl (by show 2 * 0 + _ ≤ _; exact Nat.le_of_eq rfl) (hb hby at_221) (fun _ _ => ⟨rfl, e88, (by decide : 1 + 0 ≤ _), (by decide : 18 + 0 ≤ _)⟩)
  dsimp only [Pt.U, Pt.locs, Pt.cells, Pt.slots] at y90 z90 st90 hQ90
  change Stand p l e _ s m _ below meth c T90 L90 k90 n90 at X90
  change L90 = _ ++ Lc90 at l90
  subst y90 z90
  obtain ⟨rfl, N90q, e90⟩ := hQ90
  have N90 : Fr n0 L90 := l90 ▸ Fr.app N88 N90q
  have hg91 : ((own_pre f v off.toNatClampNeg VS).set (off.toNatClampNeg + f) (own_last (own_it f v))).getD ((4 : Int32)).toNatClampNeg (.int (0 : Int32)) = .int (own_want (4 : Int32) off v (own_len v) sb) := own_fin (p := (4 : Int32)) hv ho hln hf (by decide) hVl hvs
  obtain ⟨_, _, ⟨T92, L92, k92, n92⟩, -, X92, ⟨Lc92, hQ92, l92, y92, z92⟩, st92⟩ := Jvm.LawKit.callS X90 hx (y := (⟨"com/example/morro/morro/index/IndexOutputEncodeNumberPinLaw", "at", "([BIIJIB)Z"⟩ : MethodName)) hown (mvT hZ (hw _ (List.mem_of_getElem? (i := 12) rfl))) (mvT hZ (hw _ (List.mem_of_getElem? (i := 13) rfl))) (mvT hZ (hw _ (List.mem_of_getElem? (i := 4) rfl))) (mvT hZ (hw _ (List.mem_of_getElem? (i := 14) rfl))) (by decide) (backOf (W := 0) (rm3 l Z a0 hw [] b4 (4 : Int32) off v (own_len v) sb k4 (18 : Int32) ((own_pre f v off.toNatClampNeg VS).set (off.toNatClampNeg + f) (own_last (own_it f v))) T81.heap n0 (Nat.le_trans Z0 K81.1) t81_0 (by decide) hg91) hZ (hw _ (List.mem_of_getElem? (i := 14) rfl)) (hw _ (List.mem_of_getElem? (i := 4) rfl)) (by decide) (by decide)) (g := (mkF m 238 #[.val (.long q1), .second, .val (.int p2), .val (.int p3), .val (.int p4), .val (.long v), .second, .val (.int off), .val (.int sb), .val (.ref b4), .val (.int (own_len v)), .val (.int (off + (own_len v)))] [(.int sb), (.int (own_len v)), (.long v), (.int off), (.int (4 : Int32)), (.ref b4)])) rfl (by rw [hml]; rfl) (argsL := [(.ref b4), (.int (4 : Int32)), (.int off), (.long v), (.int (own_len v)), (.int sb)]) (rest := []) (lenOf pd__28_5bBIIJIB_29Z rfl) rfl (by show 2 * 0 + _ ≤ _; exact Nat.le_of_eq rfl) (hb hby at_238) (fun _ _ => ⟨rfl, e90, (by decide : 1 + 0 ≤ _), (by decide : 18 + 0 ≤ _)⟩)
  dsimp only [Pt.U, Pt.locs, Pt.cells, Pt.slots] at y92 z92 st92 hQ92
  change Stand p l e _ s m _ below meth c T92 L92 k92 n92 at X92
  change L92 = _ ++ Lc92 at l92
  subst y92 z92
  obtain ⟨rfl, N92q, e92⟩ := hQ92
  have N92 : Fr n0 L92 := l92 ▸ Fr.app N90 N92q
  have hg93 : ((own_pre f v off.toNatClampNeg VS).set (off.toNatClampNeg + f) (own_last (own_it f v))).getD ((5 : Int32)).toNatClampNeg (.int (0 : Int32)) = .int (own_want (5 : Int32) off v (own_len v) sb) := own_fin (p := (5 : Int32)) hv ho hln hf (by decide) hVl hvs
  obtain ⟨_, _, ⟨T94, L94, k94, n94⟩, -, X94, ⟨Lc94, hQ94, l94, y94, z94⟩, st94⟩ := Jvm.LawKit.callS X92 hx (y := (⟨"com/example/morro/morro/index/IndexOutputEncodeNumberPinLaw", "at", "([BIIJIB)Z"⟩ : MethodName)) hown (mvT hZ (hw _ (List.mem_of_getElem? (i := 12) rfl))) (mvT hZ (hw _ (List.mem_of_getElem? (i := 13) rfl))) (mvT hZ (hw _ (List.mem_of_getElem? (i := 4) rfl))) (mvT hZ (hw _ (List.mem_of_getElem? (i := 14) rfl))) (by decide) (backOf (W := 0) (rm3 l Z a0 hw [] b4 (5 : Int32) off v (own_len v) sb k4 (18 : Int32) ((own_pre f v off.toNatClampNeg VS).set (off.toNatClampNeg + f) (own_last (own_it f v))) T81.heap n0 (Nat.le_trans Z0 K81.1) t81_0 (by decide) hg93) hZ (hw _ (List.mem_of_getElem? (i := 14) rfl)) (hw _ (List.mem_of_getElem? (i := 4) rfl)) (by decide) (by decide)) (g := (mkF m 255 #[.val (.long q1), .second, .val (.int p2), .val (.int p3), .val (.int p4), .val (.long v), .second, .val (.int off), .val (.int sb), .val (.ref b4), .val (.int (own_len v)), .val (.int (off + (own_len v)))] [(.int sb), (.int (own_len v)), (.long v), (.int off), (.int (5 : Int32)), (.ref b4)])) rfl (by rw [hml]; rfl) (argsL := [(.ref b4), (.int (5 : Int32)), (.int off), (.long v), (.int (own_len v)), (.int sb)]) (rest := []) (lenOf pd__28_5bBIIJIB_29Z rfl) rfl (by show 2 * 0 + _ ≤ _; exact Nat.le_of_eq rfl) (hb hby at_255) (fun _ _ => ⟨rfl, e92, (by decide : 1 + 0 ≤ _), (by decide : 18 + 0 ≤ _)⟩)
  dsimp only [Pt.U, Pt.locs, Pt.cells, Pt.slots] at y94 z94 st94 hQ94
  change Stand p l e _ s m _ below meth c T94 L94 k94 n94 at X94
  change L94 = _ ++ Lc94 at l94
  subst y94 z94
  obtain ⟨rfl, N94q, e94⟩ := hQ94
  have N94 : Fr n0 L94 := l94 ▸ Fr.app N92 N94q
  have hg95 : ((own_pre f v off.toNatClampNeg VS).set (off.toNatClampNeg + f) (own_last (own_it f v))).getD ((6 : Int32)).toNatClampNeg (.int (0 : Int32)) = .int (own_want (6 : Int32) off v (own_len v) sb) := own_fin (p := (6 : Int32)) hv ho hln hf (by decide) hVl hvs
  obtain ⟨_, _, ⟨T96, L96, k96, n96⟩, -, X96, ⟨Lc96, hQ96, l96, y96, z96⟩, st96⟩ := Jvm.LawKit.callS X94 hx (y := (⟨"com/example/morro/morro/index/IndexOutputEncodeNumberPinLaw", "at", "([BIIJIB)Z"⟩ : MethodName)) hown (mvT hZ (hw _ (List.mem_of_getElem? (i := 12) rfl))) (mvT hZ (hw _ (List.mem_of_getElem? (i := 13) rfl))) (mvT hZ (hw _ (List.mem_of_getElem? (i := 4) rfl))) (mvT hZ (hw _ (List.mem_of_getElem? (i := 14) rfl))) (by decide) (backOf (W := 0) (rm3 l Z a0 hw [] b4 (6 : Int32) off v (own_len v) sb k4 (18 : Int32) ((own_pre f v off.toNatClampNeg VS).set (off.toNatClampNeg + f) (own_last (own_it f v))) T81.heap n0 (Nat.le_trans Z0 K81.1) t81_0 (by decide) hg95) hZ (hw _ (List.mem_of_getElem? (i := 14) rfl)) (hw _ (List.mem_of_getElem? (i := 4) rfl)) (by decide) (by decide)) (g := (mkF m 273 #[.val (.long q1), .second, .val (.int p2), .val (.int p3), .val (.int p4), .val (.long v), .second, .val (.int off), .val (.int sb), .val (.ref b4), .val (.int (own_len v)), .val (.int (off + (own_len v)))] [(.int sb), (.int (own_len v)), (.long v), (.int off), (.int (6 : Int32)), (.ref b4)])) rfl (by rw [hml]; rfl) (argsL := [(.ref b4), (.int (6 : Int32)), (.int off), (.long v), (.int (own_len v)), (.int sb)]) (rest := []) (lenOf pd__28_5bBIIJIB_29Z rfl) rfl (by show 2 * 0 + _ ≤ _; exact Nat.le_of_eq rfl) (hb hby at_273) (fun _ _ => ⟨rfl, e94, (by decide : 1 + 0 ≤ _), (by decide : 18 + 0 ≤ _)⟩)
  dsimp only [Pt.U, Pt.locs, Pt.cells, Pt.slots] at y96 z96 st96 hQ96
  change Stand p l e _ s m _ below meth c T96 L96 k96 n96 at X96
  change L96 = _ ++ Lc96 at l96
  subst y96 z96
  obtain ⟨rfl, N96q, e96⟩ := hQ96
  have N96 : Fr n0 L96 := l96 ▸ Fr.app N94 N96q
  have pre97 : ∀ t, Steps p.tables e below (T96.setTop (mkF m 279 #[.val (.long q1), .second, .val (.int p2), .val (.int p3), .val (.int p4), .val (.long v), .second, .val (.int off), .val (.int sb), .val (.ref b4), .val (.int (own_len v)), .val (.int (off + (own_len v)))] [])) t → Steps p.tables e below (s₁.setTop (entryFrame m #[(.long q1), (.int p2), (.int p3), (.int p4)] maxLocals)) t := fun t kt => by
    refine pre86 t ?_
    show Steps p.tables e below (T85.setTop (mkF m 200 #[.val (.long q1), .second, .val (.int p2), .val (.int p3), .val (.int p4), .val (.long v), .second, .val (.int off), .val (.int sb), .val (.ref b4), .val (.int (own_len v)), .val (.int (off + (own_len v)))] [(.long v), (.int off), (.int (2 : Int32)), (.ref b4)])) _
    refine XS.iload X85.here hx rfl (hb hby at_200) rfl ?_
    show Steps p.tables e below (T85.setTop (mkF m 202 #[.val (.long q1), .second, .val (.int p2), .val (.int p3), .val (.int p4), .val (.long v), .second, .val (.int off), .val (.int sb), .val (.ref b4), .val (.int (own_len v)), .val (.int (off + (own_len v)))] [(.int (own_len v)), (.long v), (.int off), (.int (2 : Int32)), (.ref b4)])) _
    refine XS.iload X85.here hx rfl (hb hby at_202) rfl ?_
    show Steps p.tables e below (T85.setTop (mkF m 204 #[.val (.long q1), .second, .val (.int p2), .val (.int p3), .val (.int p4), .val (.long v), .second, .val (.int off), .val (.int sb), .val (.ref b4), .val (.int (own_len v)), .val (.int (off + (own_len v)))] [(.int sb), (.int (own_len v)), (.long v), (.int off), (.int (2 : Int32)), (.ref b4)])) _
    refine st88 _ ?_
    show Steps p.tables e below (T88.setTop (mkF m 207 #[.val (.long q1), .second, .val (.int p2), .val (.int p3), .val (.int p4), .val (.long v), .second, .val (.int off), .val (.int sb), .val (.ref b4), .val (.int (own_len v)), .val (.int (off + (own_len v)))] [(.int (1 : Int32))])) _
    refine XS.ifNo X88.here hx rfl (hb hby at_207) rfl ((if0 _ _).trans (feq (by decide : ¬ ((1 : Int32) = (0 : Int32)))).1) ?_
    show Steps p.tables e below (T88.setTop (mkF m 210 #[.val (.long q1), .second, .val (.int p2), .val (.int p3), .val (.int p4), .val (.long v), .second, .val (.int off), .val (.int sb), .val (.ref b4), .val (.int (own_len v)), .val (.int (off + (own_len v)))] [])) _
    refine XS.aload X88.here hx rfl (hb hby at_210) rfl rfl ?_
    show Steps p.tables e below (T88.setTop (mkF m 212 #[.val (.long q1), .second, .val (.int p2), .val (.int p3), .val (.int p4), .val (.long v), .second, .val (.int off), .val (.int sb), .val (.ref b4), .val (.int (own_len v)), .val (.int (off + (own_len v)))] [(.ref b4)])) _
    refine XS.iconst X88.here hx rfl (hb hby at_212) ?_
    show Steps p.tables e below (T88.setTop (mkF m 213 #[.val (.long q1), .second, .val (.int p2), .val (.int p3), .val (.int p4), .val (.long v), .second, .val (.int off), .val (.int sb), .val (.ref b4), .val (.int (own_len v)), .val (.int (off + (own_len v)))] [(.int (3 : Int32)), (.ref b4)])) _
    refine XS.iload X88.here hx rfl (hb hby at_213) rfl ?_
    show Steps p.tables e below (T88.setTop (mkF m 215 #[.val (.long q1), .second, .val (.int p2), .val (.int p3), .val (.int p4), .val (.long v), .second, .val (.int off), .val (.int sb), .val (.ref b4), .val (.int (own_len v)), .val (.int (off + (own_len v)))] [(.int off), (.int (3 : Int32)), (.ref b4)])) _
    refine XS.lload X88.here hx rfl (hb hby at_215) rfl ?_
    show Steps p.tables e below (T88.setTop (mkF m 217 #[.val (.long q1), .second, .val (.int p2), .val (.int p3), .val (.int p4), .val (.long v), .second, .val (.int off), .val (.int sb), .val (.ref b4), .val (.int (own_len v)), .val (.int (off + (own_len v)))] [(.long v), (.int off), (.int (3 : Int32)), (.ref b4)])) _
    refine XS.iload X88.here hx rfl (hb hby at_217) rfl ?_
    show Steps p.tables e below (T88.setTop (mkF m 219 #[.val (.long q1), .second, .val (.int p2), .val (.int p3), .val (.int p4), .val (.long v), .second, .val (.int off), .val (.int sb), .val (.ref b4), .val (.int (own_len v)), .val (.int (off + (own_len v)))] [(.int (own_len v)), (.long v), (.int off), (.int (3 : Int32)), (.ref b4)])) _
    refine XS.iload X88.here hx rfl (hb hby at_219) rfl ?_
    show Steps p.tables e below (T88.setTop (mkF m 221 #[.val (.long q1), .second, .val (.int p2), .val (.int p3), .val (.int p4), .val (.long v), .second, .val (.int off), .val (.int sb), .val (.ref b4), .val (.int (own_len v)), .val (.int (off + (own_len v)))] [(.int sb), (.int (own_len v)), (.long v), (.int off), (.int (3 : Int32)), (.ref b4)])) _
    refine st90 _ ?_
    show Steps p.tables e below (T90.setTop (mkF m 224 #[.val (.long q1), .second, .val (.int p2), .val (.int p3), .val (.int p4), .val (.long v), .second, .val (.int off), .val (.int sb), .val (.ref b4), .val (.int (own_len v)), .val (.int (off + (own_len v)))] [(.int (1 : Int32))])) _
    refine XS.ifNo X90.here hx rfl (hb hby at_224) rfl ((if0 _ _).trans (feq (by decide : ¬ ((1 : Int32) = (0 : Int32)))).1) ?_
    show Steps p.tables e below (T90.setTop (mkF m 227 #[.val (.long q1), .second, .val (.int p2), .val (.int p3), .val (.int p4), .val (.long v), .second, .val (.int off), .val (.int sb), .val (.ref b4), .val (.int (own_len v)), .val (.int (off + (own_len v)))] [])) _
    refine XS.aload X90.here hx rfl (hb hby at_227) rfl rfl ?_
    show Steps p.tables e below (T90.setTop (mkF m 229 #[.val (.long q1), .second, .val (.int p2), .val (.int p3), .val (.int p4), .val (.long v), .second, .val (.int off), .val (.int sb), .val (.ref b4), .val (.int (own_len v)), .val (.int (off + (own_len v)))] [(.ref b4)])) _
    refine XS.iconst X90.here hx rfl (hb hby at_229) ?_
    show Steps p.tables e below (T90.setTop (mkF m 230 #[.val (.long q1), .second, .val (.int p2), .val (.int p3), .val (.int p4), .val (.long v), .second, .val (.int off), .val (.int sb), .val (.ref b4), .val (.int (own_len v)), .val (.int (off + (own_len v)))] [(.int (4 : Int32)), (.ref b4)])) _
    refine XS.iload X90.here hx rfl (hb hby at_230) rfl ?_
    show Steps p.tables e below (T90.setTop (mkF m 232 #[.val (.long q1), .second, .val (.int p2), .val (.int p3), .val (.int p4), .val (.long v), .second, .val (.int off), .val (.int sb), .val (.ref b4), .val (.int (own_len v)), .val (.int (off + (own_len v)))] [(.int off), (.int (4 : Int32)), (.ref b4)])) _
    refine XS.lload X90.here hx rfl (hb hby at_232) rfl ?_
    show Steps p.tables e below (T90.setTop (mkF m 234 #[.val (.long q1), .second, .val (.int p2), .val (.int p3), .val (.int p4), .val (.long v), .second, .val (.int off), .val (.int sb), .val (.ref b4), .val (.int (own_len v)), .val (.int (off + (own_len v)))] [(.long v), (.int off), (.int (4 : Int32)), (.ref b4)])) _
    refine XS.iload X90.here hx rfl (hb hby at_234) rfl ?_
    show Steps p.tables e below (T90.setTop (mkF m 236 #[.val (.long q1), .second, .val (.int p2), .val (.int p3), .val (.int p4), .val (.long v), .second, .val (.int off), .val (.int sb), .val (.ref b4), .val (.int (own_len v)), .val (.int (off + (own_len v)))] [(.int (own_len v)), (.long v), (.int off), (.int (4 : Int32)), (.ref b4)])) _
    refine XS.iload X90.here hx rfl (hb hby at_236) rfl ?_
    show Steps p.tables e below (T90.setTop (mkF m 238 #[.val (.long q1), .second, .val (.int p2), .val (.int p3), .val (.int p4), .val (.long v), .second, .val (.int off), .val (.int sb), .val (.ref b4), .val (.int (own_len v)), .val (.int (off + (own_len v)))] [(.int sb), (.int (own_len v)), (.long v), (.int off), (.int (4 : Int32)), (.ref b4)])) _
    refine st92 _ ?_
    show Steps p.tables e below (T92.setTop (mkF m 241 #[.val (.long q1), .second, .val (.int p2), .val (.int p3), .val (.int p4), .val (.long v), .second, .val (.int off), .val (.int sb), .val (.ref b4), .val (.int (own_len v)), .val (.int (off + (own_len v)))] [(.int (1 : Int32))])) _
    refine XS.ifNo X92.here hx rfl (hb hby at_241) rfl ((if0 _ _).trans (feq (by decide : ¬ ((1 : Int32) = (0 : Int32)))).1) ?_
    show Steps p.tables e below (T92.setTop (mkF m 244 #[.val (.long q1), .second, .val (.int p2), .val (.int p3), .val (.int p4), .val (.long v), .second, .val (.int off), .val (.int sb), .val (.ref b4), .val (.int (own_len v)), .val (.int (off + (own_len v)))] [])) _
    refine XS.aload X92.here hx rfl (hb hby at_244) rfl rfl ?_
    show Steps p.tables e below (T92.setTop (mkF m 246 #[.val (.long q1), .second, .val (.int p2), .val (.int p3), .val (.int p4), .val (.long v), .second, .val (.int off), .val (.int sb), .val (.ref b4), .val (.int (own_len v)), .val (.int (off + (own_len v)))] [(.ref b4)])) _
    refine XS.iconst X92.here hx rfl (hb hby at_246) ?_
    show Steps p.tables e below (T92.setTop (mkF m 247 #[.val (.long q1), .second, .val (.int p2), .val (.int p3), .val (.int p4), .val (.long v), .second, .val (.int off), .val (.int sb), .val (.ref b4), .val (.int (own_len v)), .val (.int (off + (own_len v)))] [(.int (5 : Int32)), (.ref b4)])) _
    refine XS.iload X92.here hx rfl (hb hby at_247) rfl ?_
    show Steps p.tables e below (T92.setTop (mkF m 249 #[.val (.long q1), .second, .val (.int p2), .val (.int p3), .val (.int p4), .val (.long v), .second, .val (.int off), .val (.int sb), .val (.ref b4), .val (.int (own_len v)), .val (.int (off + (own_len v)))] [(.int off), (.int (5 : Int32)), (.ref b4)])) _
    refine XS.lload X92.here hx rfl (hb hby at_249) rfl ?_
    show Steps p.tables e below (T92.setTop (mkF m 251 #[.val (.long q1), .second, .val (.int p2), .val (.int p3), .val (.int p4), .val (.long v), .second, .val (.int off), .val (.int sb), .val (.ref b4), .val (.int (own_len v)), .val (.int (off + (own_len v)))] [(.long v), (.int off), (.int (5 : Int32)), (.ref b4)])) _
    refine XS.iload X92.here hx rfl (hb hby at_251) rfl ?_
    show Steps p.tables e below (T92.setTop (mkF m 253 #[.val (.long q1), .second, .val (.int p2), .val (.int p3), .val (.int p4), .val (.long v), .second, .val (.int off), .val (.int sb), .val (.ref b4), .val (.int (own_len v)), .val (.int (off + (own_len v)))] [(.int (own_len v)), (.long v), (.int off), (.int (5 : Int32)), (.ref b4)])) _
    refine XS.iload X92.here hx rfl (hb hby at_253) rfl ?_
    show Steps p.tables e below (T92.setTop (mkF m 255 #[.val (.long q1), .second, .val (.int p2), .val (.int p3), .val (.int p4), .val (.long v), .second, .val (.int off), .val (.int sb), .val (.ref b4), .val (.int (own_len v)), .val (.int (off + (own_len v)))] [(.int sb), (.int (own_len v)), (.long v), (.int off), (.int (5 : Int32)), (.ref b4)])) _
    refine st94 _ ?_
    show Steps p.tables e below (T94.setTop (mkF m 258 #[.val (.long q1), .second, .val (.int p2), .val (.int p3), .val (.int p4), .val (.long v), .second, .val (.int off), .val (.int sb), .val (.ref b4), .val (.int (own_len v)), .val (.int (off + (own_len v)))] [(.int (1 : Int32))])) _
    refine XS.ifNo X94.here hx rfl (hb hby at_258) rfl ((if0 _ _).trans (feq (by decide : ¬ ((1 : Int32) = (0 : Int32)))).1) ?_
    show Steps p.tables e below (T94.setTop (mkF m 261 #[.val (.long q1), .second, .val (.int p2), .val (.int p3), .val (.int p4), .val (.long v), .second, .val (.int off), .val (.int sb), .val (.ref b4), .val (.int (own_len v)), .val (.int (off + (own_len v)))] [])) _
    refine XS.aload X94.here hx rfl (hb hby at_261) rfl rfl ?_
    show Steps p.tables e below (T94.setTop (mkF m 263 #[.val (.long q1), .second, .val (.int p2), .val (.int p3), .val (.int p4), .val (.long v), .second, .val (.int off), .val (.int sb), .val (.ref b4), .val (.int (own_len v)), .val (.int (off + (own_len v)))] [(.ref b4)])) _
    refine XS.bipush X94.here hx rfl (hb hby at_263) ?_
    show Steps p.tables e below (T94.setTop (mkF m 265 #[.val (.long q1), .second, .val (.int p2), .val (.int p3), .val (.int p4), .val (.long v), .second, .val (.int off), .val (.int sb), .val (.ref b4), .val (.int (own_len v)), .val (.int (off + (own_len v)))] [(.int (6 : Int32)), (.ref b4)])) _
    refine XS.iload X94.here hx rfl (hb hby at_265) rfl ?_
    show Steps p.tables e below (T94.setTop (mkF m 267 #[.val (.long q1), .second, .val (.int p2), .val (.int p3), .val (.int p4), .val (.long v), .second, .val (.int off), .val (.int sb), .val (.ref b4), .val (.int (own_len v)), .val (.int (off + (own_len v)))] [(.int off), (.int (6 : Int32)), (.ref b4)])) _
    refine XS.lload X94.here hx rfl (hb hby at_267) rfl ?_
    show Steps p.tables e below (T94.setTop (mkF m 269 #[.val (.long q1), .second, .val (.int p2), .val (.int p3), .val (.int p4), .val (.long v), .second, .val (.int off), .val (.int sb), .val (.ref b4), .val (.int (own_len v)), .val (.int (off + (own_len v)))] [(.long v), (.int off), (.int (6 : Int32)), (.ref b4)])) _
    refine XS.iload X94.here hx rfl (hb hby at_269) rfl ?_
    show Steps p.tables e below (T94.setTop (mkF m 271 #[.val (.long q1), .second, .val (.int p2), .val (.int p3), .val (.int p4), .val (.long v), .second, .val (.int off), .val (.int sb), .val (.ref b4), .val (.int (own_len v)), .val (.int (off + (own_len v)))] [(.int (own_len v)), (.long v), (.int off), (.int (6 : Int32)), (.ref b4)])) _
    refine XS.iload X94.here hx rfl (hb hby at_271) rfl ?_
    show Steps p.tables e below (T94.setTop (mkF m 273 #[.val (.long q1), .second, .val (.int p2), .val (.int p3), .val (.int p4), .val (.long v), .second, .val (.int off), .val (.int sb), .val (.ref b4), .val (.int (own_len v)), .val (.int (off + (own_len v)))] [(.int sb), (.int (own_len v)), (.long v), (.int off), (.int (6 : Int32)), (.ref b4)])) _
    refine st96 _ ?_
    show Steps p.tables e below (T96.setTop (mkF m 276 #[.val (.long q1), .second, .val (.int p2), .val (.int p3), .val (.int p4), .val (.long v), .second, .val (.int off), .val (.int sb), .val (.ref b4), .val (.int (own_len v)), .val (.int (off + (own_len v)))] [(.int (1 : Int32))])) _
    refine XS.ifNo X96.here hx rfl (hb hby at_276) rfl ((if0 _ _).trans (feq (by decide : ¬ ((1 : Int32) = (0 : Int32)))).1) ?_
    exact kt
  have hg98 : ((own_pre f v off.toNatClampNeg VS).set (off.toNatClampNeg + f) (own_last (own_it f v))).getD ((7 : Int32)).toNatClampNeg (.int (0 : Int32)) = .int (own_want (7 : Int32) off v (own_len v) sb) := own_fin (p := (7 : Int32)) hv ho hln hf (by decide) hVl hvs
  obtain ⟨_, _, ⟨T99, L99, k99, n99⟩, -, X99, ⟨Lc99, hQ99, l99, y99, z99⟩, st99⟩ := Jvm.LawKit.callS X96 hx (y := (⟨"com/example/morro/morro/index/IndexOutputEncodeNumberPinLaw", "at", "([BIIJIB)Z"⟩ : MethodName)) hown (mvT hZ (hw _ (List.mem_of_getElem? (i := 12) rfl))) (mvT hZ (hw _ (List.mem_of_getElem? (i := 13) rfl))) (mvT hZ (hw _ (List.mem_of_getElem? (i := 4) rfl))) (mvT hZ (hw _ (List.mem_of_getElem? (i := 14) rfl))) (by decide) (backOf (W := 0) (rm3 l Z a0 hw [] b4 (7 : Int32) off v (own_len v) sb k4 (18 : Int32) ((own_pre f v off.toNatClampNeg VS).set (off.toNatClampNeg + f) (own_last (own_it f v))) T81.heap n0 (Nat.le_trans Z0 K81.1) t81_0 (by decide) hg98) hZ (hw _ (List.mem_of_getElem? (i := 14) rfl)) (hw _ (List.mem_of_getElem? (i := 4) rfl)) (by decide) (by decide)) (g := (mkF m 291 #[.val (.long q1), .second, .val (.int p2), .val (.int p3), .val (.int p4), .val (.long v), .second, .val (.int off), .val (.int sb), .val (.ref b4), .val (.int (own_len v)), .val (.int (off + (own_len v)))] [(.int sb), (.int (own_len v)), (.long v), (.int off), (.int (7 : Int32)), (.ref b4)])) rfl (by rw [hml]; rfl) (argsL := [(.ref b4), (.int (7 : Int32)), (.int off), (.long v), (.int (own_len v)), (.int sb)]) (rest := []) (lenOf pd__28_5bBIIJIB_29Z rfl) rfl (by show 2 * 0 + _ ≤ _; exact Nat.le_of_eq rfl) (hb hby at_291) (fun _ _ => ⟨rfl, e96, (by decide : 1 + 0 ≤ _), (by decide : 18 + 0 ≤ _)⟩)
  dsimp only [Pt.U, Pt.locs, Pt.cells, Pt.slots] at y99 z99 st99 hQ99
  change Stand p l e _ s m _ below meth c T99 L99 k99 n99 at X99
  change L99 = _ ++ Lc99 at l99
  subst y99 z99
  obtain ⟨rfl, N99q, e99⟩ := hQ99
  have N99 : Fr n0 L99 := l99 ▸ Fr.app N96 N99q
  have hg100 : ((own_pre f v off.toNatClampNeg VS).set (off.toNatClampNeg + f) (own_last (own_it f v))).getD ((8 : Int32)).toNatClampNeg (.int (0 : Int32)) = .int (own_want (8 : Int32) off v (own_len v) sb) := own_fin (p := (8 : Int32)) hv ho hln hf (by decide) hVl hvs
  obtain ⟨_, _, ⟨T101, L101, k101, n101⟩, -, X101, ⟨Lc101, hQ101, l101, y101, z101⟩, st101⟩ := Jvm.LawKit.callS X99 hx (y := (⟨"com/example/morro/morro/index/IndexOutputEncodeNumberPinLaw", "at", "([BIIJIB)Z"⟩ : MethodName)) hown (mvT hZ (hw _ (List.mem_of_getElem? (i := 12) rfl))) (mvT hZ (hw _ (List.mem_of_getElem? (i := 13) rfl))) (mvT hZ (hw _ (List.mem_of_getElem? (i := 4) rfl))) (mvT hZ (hw _ (List.mem_of_getElem? (i := 14) rfl))) (by decide) (backOf (W := 0) (rm3 l Z a0 hw [] b4 (8 : Int32) off v (own_len v) sb k4 (18 : Int32) ((own_pre f v off.toNatClampNeg VS).set (off.toNatClampNeg + f) (own_last (own_it f v))) T81.heap n0 (Nat.le_trans Z0 K81.1) t81_0 (by decide) hg100) hZ (hw _ (List.mem_of_getElem? (i := 14) rfl)) (hw _ (List.mem_of_getElem? (i := 4) rfl)) (by decide) (by decide)) (g := (mkF m 309 #[.val (.long q1), .second, .val (.int p2), .val (.int p3), .val (.int p4), .val (.long v), .second, .val (.int off), .val (.int sb), .val (.ref b4), .val (.int (own_len v)), .val (.int (off + (own_len v)))] [(.int sb), (.int (own_len v)), (.long v), (.int off), (.int (8 : Int32)), (.ref b4)])) rfl (by rw [hml]; rfl) (argsL := [(.ref b4), (.int (8 : Int32)), (.int off), (.long v), (.int (own_len v)), (.int sb)]) (rest := []) (lenOf pd__28_5bBIIJIB_29Z rfl) rfl (by show 2 * 0 + _ ≤ _; exact Nat.le_of_eq rfl) (hb hby at_309) (fun _ _ => ⟨rfl, e99, (by decide : 1 + 0 ≤ _), (by decide : 18 + 0 ≤ _)⟩)
  dsimp only [Pt.U, Pt.locs, Pt.cells, Pt.slots] at y101 z101 st101 hQ101
  change Stand p l e _ s m _ below meth c T101 L101 k101 n101 at X101
  change L101 = _ ++ Lc101 at l101
  subst y101 z101
  obtain ⟨rfl, N101q, e101⟩ := hQ101
  have N101 : Fr n0 L101 := l101 ▸ Fr.app N99 N101q
  have hg102 : ((own_pre f v off.toNatClampNeg VS).set (off.toNatClampNeg + f) (own_last (own_it f v))).getD ((9 : Int32)).toNatClampNeg (.int (0 : Int32)) = .int (own_want (9 : Int32) off v (own_len v) sb) := own_fin (p := (9 : Int32)) hv ho hln hf (by decide) hVl hvs
  obtain ⟨_, _, ⟨T103, L103, k103, n103⟩, -, X103, ⟨Lc103, hQ103, l103, y103, z103⟩, st103⟩ := Jvm.LawKit.callS X101 hx (y := (⟨"com/example/morro/morro/index/IndexOutputEncodeNumberPinLaw", "at", "([BIIJIB)Z"⟩ : MethodName)) hown (mvT hZ (hw _ (List.mem_of_getElem? (i := 12) rfl))) (mvT hZ (hw _ (List.mem_of_getElem? (i := 13) rfl))) (mvT hZ (hw _ (List.mem_of_getElem? (i := 4) rfl))) (mvT hZ (hw _ (List.mem_of_getElem? (i := 14) rfl))) (by decide) (backOf (W := 0) (rm3 l Z a0 hw [] b4 (9 : Int32) off v (own_len v) sb k4 (18 : Int32) ((own_pre f v off.toNatClampNeg VS).set (off.toNatClampNeg + f) (own_last (own_it f v))) T81.heap n0 (Nat.le_trans Z0 K81.1) t81_0 (by decide) hg102) hZ (hw _ (List.mem_of_getElem? (i := 14) rfl)) (hw _ (List.mem_of_getElem? (i := 4) rfl)) (by decide) (by decide)) (g := (mkF m 327 #[.val (.long q1), .second, .val (.int p2), .val (.int p3), .val (.int p4), .val (.long v), .second, .val (.int off), .val (.int sb), .val (.ref b4), .val (.int (own_len v)), .val (.int (off + (own_len v)))] [(.int sb), (.int (own_len v)), (.long v), (.int off), (.int (9 : Int32)), (.ref b4)])) rfl (by rw [hml]; rfl) (argsL := [(.ref b4), (.int (9 : Int32)), (.int off), (.long v), (.int (own_len v)), (.int sb)]) (rest := []) (lenOf pd__28_5bBIIJIB_29Z rfl) rfl (by show 2 * 0 + _ ≤ _; exact Nat.le_of_eq rfl) (hb hby at_327) (fun _ _ => ⟨rfl, e101, (by decide : 1 + 0 ≤ _), (by decide : 18 + 0 ≤ _)⟩)
  dsimp only [Pt.U, Pt.locs, Pt.cells, Pt.slots] at y103 z103 st103 hQ103
  change Stand p l e _ s m _ below meth c T103 L103 k103 n103 at X103
  change L103 = _ ++ Lc103 at l103
  subst y103 z103
  obtain ⟨rfl, N103q, e103⟩ := hQ103
  have N103 : Fr n0 L103 := l103 ▸ Fr.app N101 N103q
  have hg104 : ((own_pre f v off.toNatClampNeg VS).set (off.toNatClampNeg + f) (own_last (own_it f v))).getD ((10 : Int32)).toNatClampNeg (.int (0 : Int32)) = .int (own_want (10 : Int32) off v (own_len v) sb) := own_fin (p := (10 : Int32)) hv ho hln hf (by decide) hVl hvs
  obtain ⟨_, _, ⟨T105, L105, k105, n105⟩, -, X105, ⟨Lc105, hQ105, l105, y105, z105⟩, st105⟩ := Jvm.LawKit.callS X103 hx (y := (⟨"com/example/morro/morro/index/IndexOutputEncodeNumberPinLaw", "at", "([BIIJIB)Z"⟩ : MethodName)) hown (mvT hZ (hw _ (List.mem_of_getElem? (i := 12) rfl))) (mvT hZ (hw _ (List.mem_of_getElem? (i := 13) rfl))) (mvT hZ (hw _ (List.mem_of_getElem? (i := 4) rfl))) (mvT hZ (hw _ (List.mem_of_getElem? (i := 14) rfl))) (by decide) (backOf (W := 0) (rm3 l Z a0 hw [] b4 (10 : Int32) off v (own_len v) sb k4 (18 : Int32) ((own_pre f v off.toNatClampNeg VS).set (off.toNatClampNeg + f) (own_last (own_it f v))) T81.heap n0 (Nat.le_trans Z0 K81.1) t81_0 (by decide) hg104) hZ (hw _ (List.mem_of_getElem? (i := 14) rfl)) (hw _ (List.mem_of_getElem? (i := 4) rfl)) (by decide) (by decide)) (g := (mkF m 345 #[.val (.long q1), .second, .val (.int p2), .val (.int p3), .val (.int p4), .val (.long v), .second, .val (.int off), .val (.int sb), .val (.ref b4), .val (.int (own_len v)), .val (.int (off + (own_len v)))] [(.int sb), (.int (own_len v)), (.long v), (.int off), (.int (10 : Int32)), (.ref b4)])) rfl (by rw [hml]; rfl) (argsL := [(.ref b4), (.int (10 : Int32)), (.int off), (.long v), (.int (own_len v)), (.int sb)]) (rest := []) (lenOf pd__28_5bBIIJIB_29Z rfl) rfl (by show 2 * 0 + _ ≤ _; exact Nat.le_of_eq rfl) (hb hby at_345) (fun _ _ => ⟨rfl, e103, (by decide : 1 + 0 ≤ _), (by decide : 18 + 0 ≤ _)⟩)
  dsimp only [Pt.U, Pt.locs, Pt.cells, Pt.slots] at y105 z105 st105 hQ105
  change Stand p l e _ s m _ below meth c T105 L105 k105 n105 at X105
  change L105 = _ ++ Lc105 at l105
  subst y105 z105
  obtain ⟨rfl, N105q, e105⟩ := hQ105
  have N105 : Fr n0 L105 := l105 ▸ Fr.app N103 N105q
  have pre106 : ∀ t, Steps p.tables e below (T105.setTop (mkF m 359 #[.val (.long q1), .second, .val (.int p2), .val (.int p3), .val (.int p4), .val (.long v), .second, .val (.int off), .val (.int sb), .val (.ref b4), .val (.int (own_len v)), .val (.int (off + (own_len v)))] [(.long v), (.int off), (.int (11 : Int32)), (.ref b4)])) t → Steps p.tables e below (s₁.setTop (entryFrame m #[(.long q1), (.int p2), (.int p3), (.int p4)] maxLocals)) t := fun t kt => by
    refine pre97 t ?_
    show Steps p.tables e below (T96.setTop (mkF m 279 #[.val (.long q1), .second, .val (.int p2), .val (.int p3), .val (.int p4), .val (.long v), .second, .val (.int off), .val (.int sb), .val (.ref b4), .val (.int (own_len v)), .val (.int (off + (own_len v)))] [])) _
    refine XS.aload X96.here hx rfl (hb hby at_279) rfl rfl ?_
    show Steps p.tables e below (T96.setTop (mkF m 281 #[.val (.long q1), .second, .val (.int p2), .val (.int p3), .val (.int p4), .val (.long v), .second, .val (.int off), .val (.int sb), .val (.ref b4), .val (.int (own_len v)), .val (.int (off + (own_len v)))] [(.ref b4)])) _
    refine XS.bipush X96.here hx rfl (hb hby at_281) ?_
    show Steps p.tables e below (T96.setTop (mkF m 283 #[.val (.long q1), .second, .val (.int p2), .val (.int p3), .val (.int p4), .val (.long v), .second, .val (.int off), .val (.int sb), .val (.ref b4), .val (.int (own_len v)), .val (.int (off + (own_len v)))] [(.int (7 : Int32)), (.ref b4)])) _
    refine XS.iload X96.here hx rfl (hb hby at_283) rfl ?_
    show Steps p.tables e below (T96.setTop (mkF m 285 #[.val (.long q1), .second, .val (.int p2), .val (.int p3), .val (.int p4), .val (.long v), .second, .val (.int off), .val (.int sb), .val (.ref b4), .val (.int (own_len v)), .val (.int (off + (own_len v)))] [(.int off), (.int (7 : Int32)), (.ref b4)])) _
    refine XS.lload X96.here hx rfl (hb hby at_285) rfl ?_
    show Steps p.tables e below (T96.setTop (mkF m 287 #[.val (.long q1), .second, .val (.int p2), .val (.int p3), .val (.int p4), .val (.long v), .second, .val (.int off), .val (.int sb), .val (.ref b4), .val (.int (own_len v)), .val (.int (off + (own_len v)))] [(.long v), (.int off), (.int (7 : Int32)), (.ref b4)])) _
    refine XS.iload X96.here hx rfl (hb hby at_287) rfl ?_
    show Steps p.tables e below (T96.setTop (mkF m 289 #[.val (.long q1), .second, .val (.int p2), .val (.int p3), .val (.int p4), .val (.long v), .second, .val (.int off), .val (.int sb), .val (.ref b4), .val (.int (own_len v)), .val (.int (off + (own_len v)))] [(.int (own_len v)), (.long v), (.int off), (.int (7 : Int32)), (.ref b4)])) _
    refine XS.iload X96.here hx rfl (hb hby at_289) rfl ?_
    show Steps p.tables e below (T96.setTop (mkF m 291 #[.val (.long q1), .second, .val (.int p2), .val (.int p3), .val (.int p4), .val (.long v), .second, .val (.int off), .val (.int sb), .val (.ref b4), .val (.int (own_len v)), .val (.int (off + (own_len v)))] [(.int sb), (.int (own_len v)), (.long v), (.int off), (.int (7 : Int32)), (.ref b4)])) _
    refine st99 _ ?_
    show Steps p.tables e below (T99.setTop (mkF m 294 #[.val (.long q1), .second, .val (.int p2), .val (.int p3), .val (.int p4), .val (.long v), .second, .val (.int off), .val (.int sb), .val (.ref b4), .val (.int (own_len v)), .val (.int (off + (own_len v)))] [(.int (1 : Int32))])) _
    refine XS.ifNo X99.here hx rfl (hb hby at_294) rfl ((if0 _ _).trans (feq (by decide : ¬ ((1 : Int32) = (0 : Int32)))).1) ?_
    show Steps p.tables e below (T99.setTop (mkF m 297 #[.val (.long q1), .second, .val (.int p2), .val (.int p3), .val (.int p4), .val (.long v), .second, .val (.int off), .val (.int sb), .val (.ref b4), .val (.int (own_len v)), .val (.int (off + (own_len v)))] [])) _
    refine XS.aload X99.here hx rfl (hb hby at_297) rfl rfl ?_
    show Steps p.tables e below (T99.setTop (mkF m 299 #[.val (.long q1), .second, .val (.int p2), .val (.int p3), .val (.int p4), .val (.long v), .second, .val (.int off), .val (.int sb), .val (.ref b4), .val (.int (own_len v)), .val (.int (off + (own_len v)))] [(.ref b4)])) _
    refine XS.bipush X99.here hx rfl (hb hby at_299) ?_
    show Steps p.tables e below (T99.setTop (mkF m 301 #[.val (.long q1), .second, .val (.int p2), .val (.int p3), .val (.int p4), .val (.long v), .second, .val (.int off), .val (.int sb), .val (.ref b4), .val (.int (own_len v)), .val (.int (off + (own_len v)))] [(.int (8 : Int32)), (.ref b4)])) _
    refine XS.iload X99.here hx rfl (hb hby at_301) rfl ?_
    show Steps p.tables e below (T99.setTop (mkF m 303 #[.val (.long q1), .second, .val (.int p2), .val (.int p3), .val (.int p4), .val (.long v), .second, .val (.int off), .val (.int sb), .val (.ref b4), .val (.int (own_len v)), .val (.int (off + (own_len v)))] [(.int off), (.int (8 : Int32)), (.ref b4)])) _
    refine XS.lload X99.here hx rfl (hb hby at_303) rfl ?_
    show Steps p.tables e below (T99.setTop (mkF m 305 #[.val (.long q1), .second, .val (.int p2), .val (.int p3), .val (.int p4), .val (.long v), .second, .val (.int off), .val (.int sb), .val (.ref b4), .val (.int (own_len v)), .val (.int (off + (own_len v)))] [(.long v), (.int off), (.int (8 : Int32)), (.ref b4)])) _
    refine XS.iload X99.here hx rfl (hb hby at_305) rfl ?_
    show Steps p.tables e below (T99.setTop (mkF m 307 #[.val (.long q1), .second, .val (.int p2), .val (.int p3), .val (.int p4), .val (.long v), .second, .val (.int off), .val (.int sb), .val (.ref b4), .val (.int (own_len v)), .val (.int (off + (own_len v)))] [(.int (own_len v)), (.long v), (.int off), (.int (8 : Int32)), (.ref b4)])) _
    refine XS.iload X99.here hx rfl (hb hby at_307) rfl ?_
    show Steps p.tables e below (T99.setTop (mkF m 309 #[.val (.long q1), .second, .val (.int p2), .val (.int p3), .val (.int p4), .val (.long v), .second, .val (.int off), .val (.int sb), .val (.ref b4), .val (.int (own_len v)), .val (.int (off + (own_len v)))] [(.int sb), (.int (own_len v)), (.long v), (.int off), (.int (8 : Int32)), (.ref b4)])) _
    refine st101 _ ?_
    show Steps p.tables e below (T101.setTop (mkF m 312 #[.val (.long q1), .second, .val (.int p2), .val (.int p3), .val (.int p4), .val (.long v), .second, .val (.int off), .val (.int sb), .val (.ref b4), .val (.int (own_len v)), .val (.int (off + (own_len v)))] [(.int (1 : Int32))])) _
    refine XS.ifNo X101.here hx rfl (hb hby at_312) rfl ((if0 _ _).trans (feq (by decide : ¬ ((1 : Int32) = (0 : Int32)))).1) ?_
    show Steps p.tables e below (T101.setTop (mkF m 315 #[.val (.long q1), .second, .val (.int p2), .val (.int p3), .val (.int p4), .val (.long v), .second, .val (.int off), .val (.int sb), .val (.ref b4), .val (.int (own_len v)), .val (.int (off + (own_len v)))] [])) _
    refine XS.aload X101.here hx rfl (hb hby at_315) rfl rfl ?_
    show Steps p.tables e below (T101.setTop (mkF m 317 #[.val (.long q1), .second, .val (.int p2), .val (.int p3), .val (.int p4), .val (.long v), .second, .val (.int off), .val (.int sb), .val (.ref b4), .val (.int (own_len v)), .val (.int (off + (own_len v)))] [(.ref b4)])) _
    refine XS.bipush X101.here hx rfl (hb hby at_317) ?_
    show Steps p.tables e below (T101.setTop (mkF m 319 #[.val (.long q1), .second, .val (.int p2), .val (.int p3), .val (.int p4), .val (.long v), .second, .val (.int off), .val (.int sb), .val (.ref b4), .val (.int (own_len v)), .val (.int (off + (own_len v)))] [(.int (9 : Int32)), (.ref b4)])) _
    refine XS.iload X101.here hx rfl (hb hby at_319) rfl ?_
    show Steps p.tables e below (T101.setTop (mkF m 321 #[.val (.long q1), .second, .val (.int p2), .val (.int p3), .val (.int p4), .val (.long v), .second, .val (.int off), .val (.int sb), .val (.ref b4), .val (.int (own_len v)), .val (.int (off + (own_len v)))] [(.int off), (.int (9 : Int32)), (.ref b4)])) _
    refine XS.lload X101.here hx rfl (hb hby at_321) rfl ?_
    show Steps p.tables e below (T101.setTop (mkF m 323 #[.val (.long q1), .second, .val (.int p2), .val (.int p3), .val (.int p4), .val (.long v), .second, .val (.int off), .val (.int sb), .val (.ref b4), .val (.int (own_len v)), .val (.int (off + (own_len v)))] [(.long v), (.int off), (.int (9 : Int32)), (.ref b4)])) _
    refine XS.iload X101.here hx rfl (hb hby at_323) rfl ?_
    show Steps p.tables e below (T101.setTop (mkF m 325 #[.val (.long q1), .second, .val (.int p2), .val (.int p3), .val (.int p4), .val (.long v), .second, .val (.int off), .val (.int sb), .val (.ref b4), .val (.int (own_len v)), .val (.int (off + (own_len v)))] [(.int (own_len v)), (.long v), (.int off), (.int (9 : Int32)), (.ref b4)])) _
    refine XS.iload X101.here hx rfl (hb hby at_325) rfl ?_
    show Steps p.tables e below (T101.setTop (mkF m 327 #[.val (.long q1), .second, .val (.int p2), .val (.int p3), .val (.int p4), .val (.long v), .second, .val (.int off), .val (.int sb), .val (.ref b4), .val (.int (own_len v)), .val (.int (off + (own_len v)))] [(.int sb), (.int (own_len v)), (.long v), (.int off), (.int (9 : Int32)), (.ref b4)])) _
    refine st103 _ ?_
    show Steps p.tables e below (T103.setTop (mkF m 330 #[.val (.long q1), .second, .val (.int p2), .val (.int p3), .val (.int p4), .val (.long v), .second, .val (.int off), .val (.int sb), .val (.ref b4), .val (.int (own_len v)), .val (.int (off + (own_len v)))] [(.int (1 : Int32))])) _
    refine XS.ifNo X103.here hx rfl (hb hby at_330) rfl ((if0 _ _).trans (feq (by decide : ¬ ((1 : Int32) = (0 : Int32)))).1) ?_
    show Steps p.tables e below (T103.setTop (mkF m 333 #[.val (.long q1), .second, .val (.int p2), .val (.int p3), .val (.int p4), .val (.long v), .second, .val (.int off), .val (.int sb), .val (.ref b4), .val (.int (own_len v)), .val (.int (off + (own_len v)))] [])) _
    refine XS.aload X103.here hx rfl (hb hby at_333) rfl rfl ?_
    show Steps p.tables e below (T103.setTop (mkF m 335 #[.val (.long q1), .second, .val (.int p2), .val (.int p3), .val (.int p4), .val (.long v), .second, .val (.int off), .val (.int sb), .val (.ref b4), .val (.int (own_len v)), .val (.int (off + (own_len v)))] [(.ref b4)])) _
    refine XS.bipush X103.here hx rfl (hb hby at_335) ?_
    show Steps p.tables e below (T103.setTop (mkF m 337 #[.val (.long q1), .second, .val (.int p2), .val (.int p3), .val (.int p4), .val (.long v), .second, .val (.int off), .val (.int sb), .val (.ref b4), .val (.int (own_len v)), .val (.int (off + (own_len v)))] [(.int (10 : Int32)), (.ref b4)])) _
    refine XS.iload X103.here hx rfl (hb hby at_337) rfl ?_
    show Steps p.tables e below (T103.setTop (mkF m 339 #[.val (.long q1), .second, .val (.int p2), .val (.int p3), .val (.int p4), .val (.long v), .second, .val (.int off), .val (.int sb), .val (.ref b4), .val (.int (own_len v)), .val (.int (off + (own_len v)))] [(.int off), (.int (10 : Int32)), (.ref b4)])) _
    refine XS.lload X103.here hx rfl (hb hby at_339) rfl ?_
    show Steps p.tables e below (T103.setTop (mkF m 341 #[.val (.long q1), .second, .val (.int p2), .val (.int p3), .val (.int p4), .val (.long v), .second, .val (.int off), .val (.int sb), .val (.ref b4), .val (.int (own_len v)), .val (.int (off + (own_len v)))] [(.long v), (.int off), (.int (10 : Int32)), (.ref b4)])) _
    refine XS.iload X103.here hx rfl (hb hby at_341) rfl ?_
    show Steps p.tables e below (T103.setTop (mkF m 343 #[.val (.long q1), .second, .val (.int p2), .val (.int p3), .val (.int p4), .val (.long v), .second, .val (.int off), .val (.int sb), .val (.ref b4), .val (.int (own_len v)), .val (.int (off + (own_len v)))] [(.int (own_len v)), (.long v), (.int off), (.int (10 : Int32)), (.ref b4)])) _
    refine XS.iload X103.here hx rfl (hb hby at_343) rfl ?_
    show Steps p.tables e below (T103.setTop (mkF m 345 #[.val (.long q1), .second, .val (.int p2), .val (.int p3), .val (.int p4), .val (.long v), .second, .val (.int off), .val (.int sb), .val (.ref b4), .val (.int (own_len v)), .val (.int (off + (own_len v)))] [(.int sb), (.int (own_len v)), (.long v), (.int off), (.int (10 : Int32)), (.ref b4)])) _
    refine st105 _ ?_
    show Steps p.tables e below (T105.setTop (mkF m 348 #[.val (.long q1), .second, .val (.int p2), .val (.int p3), .val (.int p4), .val (.long v), .second, .val (.int off), .val (.int sb), .val (.ref b4), .val (.int (own_len v)), .val (.int (off + (own_len v)))] [(.int (1 : Int32))])) _
    refine XS.ifNo X105.here hx rfl (hb hby at_348) rfl ((if0 _ _).trans (feq (by decide : ¬ ((1 : Int32) = (0 : Int32)))).1) ?_
    show Steps p.tables e below (T105.setTop (mkF m 351 #[.val (.long q1), .second, .val (.int p2), .val (.int p3), .val (.int p4), .val (.long v), .second, .val (.int off), .val (.int sb), .val (.ref b4), .val (.int (own_len v)), .val (.int (off + (own_len v)))] [])) _
    refine XS.aload X105.here hx rfl (hb hby at_351) rfl rfl ?_
    show Steps p.tables e below (T105.setTop (mkF m 353 #[.val (.long q1), .second, .val (.int p2), .val (.int p3), .val (.int p4), .val (.long v), .second, .val (.int off), .val (.int sb), .val (.ref b4), .val (.int (own_len v)), .val (.int (off + (own_len v)))] [(.ref b4)])) _
    refine XS.bipush X105.here hx rfl (hb hby at_353) ?_
    show Steps p.tables e below (T105.setTop (mkF m 355 #[.val (.long q1), .second, .val (.int p2), .val (.int p3), .val (.int p4), .val (.long v), .second, .val (.int off), .val (.int sb), .val (.ref b4), .val (.int (own_len v)), .val (.int (off + (own_len v)))] [(.int (11 : Int32)), (.ref b4)])) _
    refine XS.iload X105.here hx rfl (hb hby at_355) rfl ?_
    show Steps p.tables e below (T105.setTop (mkF m 357 #[.val (.long q1), .second, .val (.int p2), .val (.int p3), .val (.int p4), .val (.long v), .second, .val (.int off), .val (.int sb), .val (.ref b4), .val (.int (own_len v)), .val (.int (off + (own_len v)))] [(.int off), (.int (11 : Int32)), (.ref b4)])) _
    refine XS.lload X105.here hx rfl (hb hby at_357) rfl ?_
    exact kt
  have hg107 : ((own_pre f v off.toNatClampNeg VS).set (off.toNatClampNeg + f) (own_last (own_it f v))).getD ((11 : Int32)).toNatClampNeg (.int (0 : Int32)) = .int (own_want (11 : Int32) off v (own_len v) sb) := own_fin (p := (11 : Int32)) hv ho hln hf (by decide) hVl hvs
  obtain ⟨_, _, ⟨T108, L108, k108, n108⟩, -, X108, ⟨Lc108, hQ108, l108, y108, z108⟩, st108⟩ := Jvm.LawKit.callS X105 hx (y := (⟨"com/example/morro/morro/index/IndexOutputEncodeNumberPinLaw", "at", "([BIIJIB)Z"⟩ : MethodName)) hown (mvT hZ (hw _ (List.mem_of_getElem? (i := 12) rfl))) (mvT hZ (hw _ (List.mem_of_getElem? (i := 13) rfl))) (mvT hZ (hw _ (List.mem_of_getElem? (i := 4) rfl))) (mvT hZ (hw _ (List.mem_of_getElem? (i := 14) rfl))) (by decide) (backOf (W := 0) (rm3 l Z a0 hw [] b4 (11 : Int32) off v (own_len v) sb k4 (18 : Int32) ((own_pre f v off.toNatClampNeg VS).set (off.toNatClampNeg + f) (own_last (own_it f v))) T81.heap n0 (Nat.le_trans Z0 K81.1) t81_0 (by decide) hg107) hZ (hw _ (List.mem_of_getElem? (i := 14) rfl)) (hw _ (List.mem_of_getElem? (i := 4) rfl)) (by decide) (by decide)) (g := (mkF m 363 #[.val (.long q1), .second, .val (.int p2), .val (.int p3), .val (.int p4), .val (.long v), .second, .val (.int off), .val (.int sb), .val (.ref b4), .val (.int (own_len v)), .val (.int (off + (own_len v)))] [(.int sb), (.int (own_len v)), (.long v), (.int off), (.int (11 : Int32)), (.ref b4)])) rfl (by rw [hml]; rfl) (argsL := [(.ref b4), (.int (11 : Int32)), (.int off), (.long v), (.int (own_len v)), (.int sb)]) (rest := []) (lenOf pd__28_5bBIIJIB_29Z rfl) rfl (by show 2 * 0 + _ ≤ _; exact Nat.le_of_eq rfl) (hb hby at_363) (fun _ _ => ⟨rfl, e105, (by decide : 1 + 0 ≤ _), (by decide : 18 + 0 ≤ _)⟩)
  dsimp only [Pt.U, Pt.locs, Pt.cells, Pt.slots] at y108 z108 st108 hQ108
  change Stand p l e _ s m _ below meth c T108 L108 k108 n108 at X108
  change L108 = _ ++ Lc108 at l108
  subst y108 z108
  obtain ⟨rfl, N108q, e108⟩ := hQ108
  have N108 : Fr n0 L108 := l108 ▸ Fr.app N105 N108q
  have hg109 : ((own_pre f v off.toNatClampNeg VS).set (off.toNatClampNeg + f) (own_last (own_it f v))).getD ((12 : Int32)).toNatClampNeg (.int (0 : Int32)) = .int (own_want (12 : Int32) off v (own_len v) sb) := own_fin (p := (12 : Int32)) hv ho hln hf (by decide) hVl hvs
  obtain ⟨_, _, ⟨T110, L110, k110, n110⟩, -, X110, ⟨Lc110, hQ110, l110, y110, z110⟩, st110⟩ := Jvm.LawKit.callS X108 hx (y := (⟨"com/example/morro/morro/index/IndexOutputEncodeNumberPinLaw", "at", "([BIIJIB)Z"⟩ : MethodName)) hown (mvT hZ (hw _ (List.mem_of_getElem? (i := 12) rfl))) (mvT hZ (hw _ (List.mem_of_getElem? (i := 13) rfl))) (mvT hZ (hw _ (List.mem_of_getElem? (i := 4) rfl))) (mvT hZ (hw _ (List.mem_of_getElem? (i := 14) rfl))) (by decide) (backOf (W := 0) (rm3 l Z a0 hw [] b4 (12 : Int32) off v (own_len v) sb k4 (18 : Int32) ((own_pre f v off.toNatClampNeg VS).set (off.toNatClampNeg + f) (own_last (own_it f v))) T81.heap n0 (Nat.le_trans Z0 K81.1) t81_0 (by decide) hg109) hZ (hw _ (List.mem_of_getElem? (i := 14) rfl)) (hw _ (List.mem_of_getElem? (i := 4) rfl)) (by decide) (by decide)) (g := (mkF m 381 #[.val (.long q1), .second, .val (.int p2), .val (.int p3), .val (.int p4), .val (.long v), .second, .val (.int off), .val (.int sb), .val (.ref b4), .val (.int (own_len v)), .val (.int (off + (own_len v)))] [(.int sb), (.int (own_len v)), (.long v), (.int off), (.int (12 : Int32)), (.ref b4)])) rfl (by rw [hml]; rfl) (argsL := [(.ref b4), (.int (12 : Int32)), (.int off), (.long v), (.int (own_len v)), (.int sb)]) (rest := []) (lenOf pd__28_5bBIIJIB_29Z rfl) rfl (by show 2 * 0 + _ ≤ _; exact Nat.le_of_eq rfl) (hb hby at_381) (fun _ _ => ⟨rfl, e108, (by decide : 1 + 0 ≤ _), (by decide : 18 + 0 ≤ _)⟩)
  dsimp only [Pt.U, Pt.locs, Pt.cells, Pt.slots] at y110 z110 st110 hQ110
  change Stand p l e _ s m _ below meth c T110 L110 k110 n110 at X110
  change L110 = _ ++ Lc110 at l110
  subst y110 z110
  obtain ⟨rfl, N110q, e110⟩ := hQ110
  have N110 : Fr n0 L110 := l110 ▸ Fr.app N108 N110q
  have hg111 : ((own_pre f v off.toNatClampNeg VS).set (off.toNatClampNeg + f) (own_last (own_it f v))).getD ((13 : Int32)).toNatClampNeg (.int (0 : Int32)) = .int (own_want (13 : Int32) off v (own_len v) sb) := own_fin (p := (13 : Int32)) hv ho hln hf (by decide) hVl hvs
  obtain ⟨_, _, ⟨T112, L112, k112, n112⟩, -, X112, ⟨Lc112, hQ112, l112, y112, z112⟩, st112⟩ := Jvm.LawKit.callS X110 hx (y := (⟨"com/example/morro/morro/index/IndexOutputEncodeNumberPinLaw", "at", "([BIIJIB)Z"⟩ : MethodName)) hown (mvT hZ (hw _ (List.mem_of_getElem? (i := 12) rfl))) (mvT hZ (hw _ (List.mem_of_getElem? (i := 13) rfl))) (mvT hZ (hw _ (List.mem_of_getElem? (i := 4) rfl))) (mvT hZ (hw _ (List.mem_of_getElem? (i := 14) rfl))) (by decide) (backOf (W := 0) (rm3 l Z a0 hw [] b4 (13 : Int32) off v (own_len v) sb k4 (18 : Int32) ((own_pre f v off.toNatClampNeg VS).set (off.toNatClampNeg + f) (own_last (own_it f v))) T81.heap n0 (Nat.le_trans Z0 K81.1) t81_0 (by decide) hg111) hZ (hw _ (List.mem_of_getElem? (i := 14) rfl)) (hw _ (List.mem_of_getElem? (i := 4) rfl)) (by decide) (by decide)) (g := (mkF m 399 #[.val (.long q1), .second, .val (.int p2), .val (.int p3), .val (.int p4), .val (.long v), .second, .val (.int off), .val (.int sb), .val (.ref b4), .val (.int (own_len v)), .val (.int (off + (own_len v)))] [(.int sb), (.int (own_len v)), (.long v), (.int off), (.int (13 : Int32)), (.ref b4)])) rfl (by rw [hml]; rfl) (argsL := [(.ref b4), (.int (13 : Int32)), (.int off), (.long v), (.int (own_len v)), (.int sb)]) (rest := []) (lenOf pd__28_5bBIIJIB_29Z rfl) rfl (by show 2 * 0 + _ ≤ _; exact Nat.le_of_eq rfl) (hb hby at_399) (fun _ _ => ⟨rfl, e110, (by decide : 1 + 0 ≤ _), (by decide : 18 + 0 ≤ _)⟩)
  dsimp only [Pt.U, Pt.locs, Pt.cells, Pt.slots] at y112 z112 st112 hQ112
  change Stand p l e _ s m _ below meth c T112 L112 k112 n112 at X112
  change L112 = _ ++ Lc112 at l112
  subst y112 z112
  obtain ⟨rfl, N112q, e112⟩ := hQ112
  have N112 : Fr n0 L112 := l112 ▸ Fr.app N110 N112q
  have hg113 : ((own_pre f v off.toNatClampNeg VS).set (off.toNatClampNeg + f) (own_last (own_it f v))).getD ((14 : Int32)).toNatClampNeg (.int (0 : Int32)) = .int (own_want (14 : Int32) off v (own_len v) sb) := own_fin (p := (14 : Int32)) hv ho hln hf (by decide) hVl hvs
  obtain ⟨_, _, ⟨T114, L114, k114, n114⟩, -, X114, ⟨Lc114, hQ114, l114, y114, z114⟩, st114⟩ := Jvm.LawKit.callS X112 hx (y := (⟨"com/example/morro/morro/index/IndexOutputEncodeNumberPinLaw", "at", "([BIIJIB)Z"⟩ : MethodName)) hown (mvT hZ (hw _ (List.mem_of_getElem? (i := 12) rfl))) (mvT hZ (hw _ (List.mem_of_getElem? (i := 13) rfl))) (mvT hZ (hw _ (List.mem_of_getElem? (i := 4) rfl))) (mvT hZ (hw _ (List.mem_of_getElem? (i := 14) rfl))) (by decide) (backOf (W := 0) (rm3 l Z a0 hw [] b4 (14 : Int32) off v (own_len v) sb k4 (18 : Int32) ((own_pre f v off.toNatClampNeg VS).set (off.toNatClampNeg + f) (own_last (own_it f v))) T81.heap n0 (Nat.le_trans Z0 K81.1) t81_0 (by decide) hg113) hZ (hw _ (List.mem_of_getElem? (i := 14) rfl)) (hw _ (List.mem_of_getElem? (i := 4) rfl)) (by decide) (by decide)) (g := (mkF m 417 #[.val (.long q1), .second, .val (.int p2), .val (.int p3), .val (.int p4), .val (.long v), .second, .val (.int off), .val (.int sb), .val (.ref b4), .val (.int (own_len v)), .val (.int (off + (own_len v)))] [(.int sb), (.int (own_len v)), (.long v), (.int off), (.int (14 : Int32)), (.ref b4)])) rfl (by rw [hml]; rfl) (argsL := [(.ref b4), (.int (14 : Int32)), (.int off), (.long v), (.int (own_len v)), (.int sb)]) (rest := []) (lenOf pd__28_5bBIIJIB_29Z rfl) rfl (by show 2 * 0 + _ ≤ _; exact Nat.le_of_eq rfl) (hb hby at_417) (fun _ _ => ⟨rfl, e112, (by decide : 1 + 0 ≤ _), (by decide : 18 + 0 ≤ _)⟩)
  dsimp only [Pt.U, Pt.locs, Pt.cells, Pt.slots] at y114 z114 st114 hQ114
  change Stand p l e _ s m _ below meth c T114 L114 k114 n114 at X114
  change L114 = _ ++ Lc114 at l114
  subst y114 z114
  obtain ⟨rfl, N114q, e114⟩ := hQ114
  have N114 : Fr n0 L114 := l114 ▸ Fr.app N112 N114q
  have hg115 : ((own_pre f v off.toNatClampNeg VS).set (off.toNatClampNeg + f) (own_last (own_it f v))).getD ((15 : Int32)).toNatClampNeg (.int (0 : Int32)) = .int (own_want (15 : Int32) off v (own_len v) sb) := own_fin (p := (15 : Int32)) hv ho hln hf (by decide) hVl hvs
  obtain ⟨_, _, ⟨T116, L116, k116, n116⟩, -, X116, ⟨Lc116, hQ116, l116, y116, z116⟩, st116⟩ := Jvm.LawKit.callS X114 hx (y := (⟨"com/example/morro/morro/index/IndexOutputEncodeNumberPinLaw", "at", "([BIIJIB)Z"⟩ : MethodName)) hown (mvT hZ (hw _ (List.mem_of_getElem? (i := 12) rfl))) (mvT hZ (hw _ (List.mem_of_getElem? (i := 13) rfl))) (mvT hZ (hw _ (List.mem_of_getElem? (i := 4) rfl))) (mvT hZ (hw _ (List.mem_of_getElem? (i := 14) rfl))) (by decide) (backOf (W := 0) (rm3 l Z a0 hw [] b4 (15 : Int32) off v (own_len v) sb k4 (18 : Int32) ((own_pre f v off.toNatClampNeg VS).set (off.toNatClampNeg + f) (own_last (own_it f v))) T81.heap n0 (Nat.le_trans Z0 K81.1) t81_0 (by decide) hg115) hZ (hw _ (List.mem_of_getElem? (i := 14) rfl)) (hw _ (List.mem_of_getElem? (i := 4) rfl)) (by decide) (by decide)) (g := (mkF m 435 #[.val (.long q1), .second, .val (.int p2), .val (.int p3), .val (.int p4), .val (.long v), .second, .val (.int off), .val (.int sb), .val (.ref b4), .val (.int (own_len v)), .val (.int (off + (own_len v)))] [(.int sb), (.int (own_len v)), (.long v), (.int off), (.int (15 : Int32)), (.ref b4)])) rfl (by rw [hml]; rfl) (argsL := [(.ref b4), (.int (15 : Int32)), (.int off), (.long v), (.int (own_len v)), (.int sb)]) (rest := []) (lenOf pd__28_5bBIIJIB_29Z rfl) rfl (by show 2 * 0 + _ ≤ _; exact Nat.le_of_eq rfl) (hb hby at_435) (fun _ _ => ⟨rfl, e114, (by decide : 1 + 0 ≤ _), (by decide : 18 + 0 ≤ _)⟩)
  dsimp only [Pt.U, Pt.locs, Pt.cells, Pt.slots] at y116 z116 st116 hQ116
  change Stand p l e _ s m _ below meth c T116 L116 k116 n116 at X116
  change L116 = _ ++ Lc116 at l116
  subst y116 z116
  obtain ⟨rfl, N116q, e116⟩ := hQ116
  have N116 : Fr n0 L116 := l116 ▸ Fr.app N114 N116q
  have pre117 : ∀ t, Steps p.tables e below (T116.setTop (mkF m 441 #[.val (.long q1), .second, .val (.int p2), .val (.int p3), .val (.int p4), .val (.long v), .second, .val (.int off), .val (.int sb), .val (.ref b4), .val (.int (own_len v)), .val (.int (off + (own_len v)))] [])) t → Steps p.tables e below (s₁.setTop (entryFrame m #[(.long q1), (.int p2), (.int p3), (.int p4)] maxLocals)) t := fun t kt => by
    refine pre106 t ?_
    show Steps p.tables e below (T105.setTop (mkF m 359 #[.val (.long q1), .second, .val (.int p2), .val (.int p3), .val (.int p4), .val (.long v), .second, .val (.int off), .val (.int sb), .val (.ref b4), .val (.int (own_len v)), .val (.int (off + (own_len v)))] [(.long v), (.int off), (.int (11 : Int32)), (.ref b4)])) _
    refine XS.iload X105.here hx rfl (hb hby at_359) rfl ?_
    show Steps p.tables e below (T105.setTop (mkF m 361 #[.val (.long q1), .second, .val (.int p2), .val (.int p3), .val (.int p4), .val (.long v), .second, .val (.int off), .val (.int sb), .val (.ref b4), .val (.int (own_len v)), .val (.int (off + (own_len v)))] [(.int (own_len v)), (.long v), (.int off), (.int (11 : Int32)), (.ref b4)])) _
    refine XS.iload X105.here hx rfl (hb hby at_361) rfl ?_
    show Steps p.tables e below (T105.setTop (mkF m 363 #[.val (.long q1), .second, .val (.int p2), .val (.int p3), .val (.int p4), .val (.long v), .second, .val (.int off), .val (.int sb), .val (.ref b4), .val (.int (own_len v)), .val (.int (off + (own_len v)))] [(.int sb), (.int (own_len v)), (.long v), (.int off), (.int (11 : Int32)), (.ref b4)])) _
    refine st108 _ ?_
    show Steps p.tables e below (T108.setTop (mkF m 366 #[.val (.long q1), .second, .val (.int p2), .val (.int p3), .val (.int p4), .val (.long v), .second, .val (.int off), .val (.int sb), .val (.ref b4), .val (.int (own_len v)), .val (.int (off + (own_len v)))] [(.int (1 : Int32))])) _
    refine XS.ifNo X108.here hx rfl (hb hby at_366) rfl ((if0 _ _).trans (feq (by decide : ¬ ((1 : Int32) = (0 : Int32)))).1) ?_
    show Steps p.tables e below (T108.setTop (mkF m 369 #[.val (.long q1), .second, .val (.int p2), .val (.int p3), .val (.int p4), .val (.long v), .second, .val (.int off), .val (.int sb), .val (.ref b4), .val (.int (own_len v)), .val (.int (off + (own_len v)))] [])) _
    refine XS.aload X108.here hx rfl (hb hby at_369) rfl rfl ?_
    show Steps p.tables e below (T108.setTop (mkF m 371 #[.val (.long q1), .second, .val (.int p2), .val (.int p3), .val (.int p4), .val (.long v), .second, .val (.int off), .val (.int sb), .val (.ref b4), .val (.int (own_len v)), .val (.int (off + (own_len v)))] [(.ref b4)])) _
    refine XS.bipush X108.here hx rfl (hb hby at_371) ?_
    show Steps p.tables e below (T108.setTop (mkF m 373 #[.val (.long q1), .second, .val (.int p2), .val (.int p3), .val (.int p4), .val (.long v), .second, .val (.int off), .val (.int sb), .val (.ref b4), .val (.int (own_len v)), .val (.int (off + (own_len v)))] [(.int (12 : Int32)), (.ref b4)])) _
    refine XS.iload X108.here hx rfl (hb hby at_373) rfl ?_
    show Steps p.tables e below (T108.setTop (mkF m 375 #[.val (.long q1), .second, .val (.int p2), .val (.int p3), .val (.int p4), .val (.long v), .second, .val (.int off), .val (.int sb), .val (.ref b4), .val (.int (own_len v)), .val (.int (off + (own_len v)))] [(.int off), (.int (12 : Int32)), (.ref b4)])) _
    refine XS.lload X108.here hx rfl (hb hby at_375) rfl ?_
    show Steps p.tables e below (T108.setTop (mkF m 377 #[.val (.long q1), .second, .val (.int p2), .val (.int p3), .val (.int p4), .val (.long v), .second, .val (.int off), .val (.int sb), .val (.ref b4), .val (.int (own_len v)), .val (.int (off + (own_len v)))] [(.long v), (.int off), (.int (12 : Int32)), (.ref b4)])) _
    refine XS.iload X108.here hx rfl (hb hby at_377) rfl ?_
    show Steps p.tables e below (T108.setTop (mkF m 379 #[.val (.long q1), .second, .val (.int p2), .val (.int p3), .val (.int p4), .val (.long v), .second, .val (.int off), .val (.int sb), .val (.ref b4), .val (.int (own_len v)), .val (.int (off + (own_len v)))] [(.int (own_len v)), (.long v), (.int off), (.int (12 : Int32)), (.ref b4)])) _
    refine XS.iload X108.here hx rfl (hb hby at_379) rfl ?_
    show Steps p.tables e below (T108.setTop (mkF m 381 #[.val (.long q1), .second, .val (.int p2), .val (.int p3), .val (.int p4), .val (.long v), .second, .val (.int off), .val (.int sb), .val (.ref b4), .val (.int (own_len v)), .val (.int (off + (own_len v)))] [(.int sb), (.int (own_len v)), (.long v), (.int off), (.int (12 : Int32)), (.ref b4)])) _
    refine st110 _ ?_
    show Steps p.tables e below (T110.setTop (mkF m 384 #[.val (.long q1), .second, .val (.int p2), .val (.int p3), .val (.int p4), .val (.long v), .second, .val (.int off), .val (.int sb), .val (.ref b4), .val (.int (own_len v)), .val (.int (off + (own_len v)))] [(.int (1 : Int32))])) _
    refine XS.ifNo X110.here hx rfl (hb hby at_384) rfl ((if0 _ _).trans (feq (by decide : ¬ ((1 : Int32) = (0 : Int32)))).1) ?_
    show Steps p.tables e below (T110.setTop (mkF m 387 #[.val (.long q1), .second, .val (.int p2), .val (.int p3), .val (.int p4), .val (.long v), .second, .val (.int off), .val (.int sb), .val (.ref b4), .val (.int (own_len v)), .val (.int (off + (own_len v)))] [])) _
    refine XS.aload X110.here hx rfl (hb hby at_387) rfl rfl ?_
    show Steps p.tables e below (T110.setTop (mkF m 389 #[.val (.long q1), .second, .val (.int p2), .val (.int p3), .val (.int p4), .val (.long v), .second, .val (.int off), .val (.int sb), .val (.ref b4), .val (.int (own_len v)), .val (.int (off + (own_len v)))] [(.ref b4)])) _
    refine XS.bipush X110.here hx rfl (hb hby at_389) ?_
    show Steps p.tables e below (T110.setTop (mkF m 391 #[.val (.long q1), .second, .val (.int p2), .val (.int p3), .val (.int p4), .val (.long v), .second, .val (.int off), .val (.int sb), .val (.ref b4), .val (.int (own_len v)), .val (.int (off + (own_len v)))] [(.int (13 : Int32)), (.ref b4)])) _
    refine XS.iload X110.here hx rfl (hb hby at_391) rfl ?_
    show Steps p.tables e below (T110.setTop (mkF m 393 #[.val (.long q1), .second, .val (.int p2), .val (.int p3), .val (.int p4), .val (.long v), .second, .val (.int off), .val (.int sb), .val (.ref b4), .val (.int (own_len v)), .val (.int (off + (own_len v)))] [(.int off), (.int (13 : Int32)), (.ref b4)])) _
    refine XS.lload X110.here hx rfl (hb hby at_393) rfl ?_
    show Steps p.tables e below (T110.setTop (mkF m 395 #[.val (.long q1), .second, .val (.int p2), .val (.int p3), .val (.int p4), .val (.long v), .second, .val (.int off), .val (.int sb), .val (.ref b4), .val (.int (own_len v)), .val (.int (off + (own_len v)))] [(.long v), (.int off), (.int (13 : Int32)), (.ref b4)])) _
    refine XS.iload X110.here hx rfl (hb hby at_395) rfl ?_
    show Steps p.tables e below (T110.setTop (mkF m 397 #[.val (.long q1), .second, .val (.int p2), .val (.int p3), .val (.int p4), .val (.long v), .second, .val (.int off), .val (.int sb), .val (.ref b4), .val (.int (own_len v)), .val (.int (off + (own_len v)))] [(.int (own_len v)), (.long v), (.int off), (.int (13 : Int32)), (.ref b4)])) _
    refine XS.iload X110.here hx rfl (hb hby at_397) rfl ?_
    show Steps p.tables e below (T110.setTop (mkF m 399 #[.val (.long q1), .second, .val (.int p2), .val (.int p3), .val (.int p4), .val (.long v), .second, .val (.int off), .val (.int sb), .val (.ref b4), .val (.int (own_len v)), .val (.int (off + (own_len v)))] [(.int sb), (.int (own_len v)), (.long v), (.int off), (.int (13 : Int32)), (.ref b4)])) _
    refine st112 _ ?_
    show Steps p.tables e below (T112.setTop (mkF m 402 #[.val (.long q1), .second, .val (.int p2), .val (.int p3), .val (.int p4), .val (.long v), .second, .val (.int off), .val (.int sb), .val (.ref b4), .val (.int (own_len v)), .val (.int (off + (own_len v)))] [(.int (1 : Int32))])) _
    refine XS.ifNo X112.here hx rfl (hb hby at_402) rfl ((if0 _ _).trans (feq (by decide : ¬ ((1 : Int32) = (0 : Int32)))).1) ?_
    show Steps p.tables e below (T112.setTop (mkF m 405 #[.val (.long q1), .second, .val (.int p2), .val (.int p3), .val (.int p4), .val (.long v), .second, .val (.int off), .val (.int sb), .val (.ref b4), .val (.int (own_len v)), .val (.int (off + (own_len v)))] [])) _
    refine XS.aload X112.here hx rfl (hb hby at_405) rfl rfl ?_
    show Steps p.tables e below (T112.setTop (mkF m 407 #[.val (.long q1), .second, .val (.int p2), .val (.int p3), .val (.int p4), .val (.long v), .second, .val (.int off), .val (.int sb), .val (.ref b4), .val (.int (own_len v)), .val (.int (off + (own_len v)))] [(.ref b4)])) _
    refine XS.bipush X112.here hx rfl (hb hby at_407) ?_
    show Steps p.tables e below (T112.setTop (mkF m 409 #[.val (.long q1), .second, .val (.int p2), .val (.int p3), .val (.int p4), .val (.long v), .second, .val (.int off), .val (.int sb), .val (.ref b4), .val (.int (own_len v)), .val (.int (off + (own_len v)))] [(.int (14 : Int32)), (.ref b4)])) _
    refine XS.iload X112.here hx rfl (hb hby at_409) rfl ?_
    show Steps p.tables e below (T112.setTop (mkF m 411 #[.val (.long q1), .second, .val (.int p2), .val (.int p3), .val (.int p4), .val (.long v), .second, .val (.int off), .val (.int sb), .val (.ref b4), .val (.int (own_len v)), .val (.int (off + (own_len v)))] [(.int off), (.int (14 : Int32)), (.ref b4)])) _
    refine XS.lload X112.here hx rfl (hb hby at_411) rfl ?_
    show Steps p.tables e below (T112.setTop (mkF m 413 #[.val (.long q1), .second, .val (.int p2), .val (.int p3), .val (.int p4), .val (.long v), .second, .val (.int off), .val (.int sb), .val (.ref b4), .val (.int (own_len v)), .val (.int (off + (own_len v)))] [(.long v), (.int off), (.int (14 : Int32)), (.ref b4)])) _
    refine XS.iload X112.here hx rfl (hb hby at_413) rfl ?_
    show Steps p.tables e below (T112.setTop (mkF m 415 #[.val (.long q1), .second, .val (.int p2), .val (.int p3), .val (.int p4), .val (.long v), .second, .val (.int off), .val (.int sb), .val (.ref b4), .val (.int (own_len v)), .val (.int (off + (own_len v)))] [(.int (own_len v)), (.long v), (.int off), (.int (14 : Int32)), (.ref b4)])) _
    refine XS.iload X112.here hx rfl (hb hby at_415) rfl ?_
    show Steps p.tables e below (T112.setTop (mkF m 417 #[.val (.long q1), .second, .val (.int p2), .val (.int p3), .val (.int p4), .val (.long v), .second, .val (.int off), .val (.int sb), .val (.ref b4), .val (.int (own_len v)), .val (.int (off + (own_len v)))] [(.int sb), (.int (own_len v)), (.long v), (.int off), (.int (14 : Int32)), (.ref b4)])) _
    refine st114 _ ?_
    show Steps p.tables e below (T114.setTop (mkF m 420 #[.val (.long q1), .second, .val (.int p2), .val (.int p3), .val (.int p4), .val (.long v), .second, .val (.int off), .val (.int sb), .val (.ref b4), .val (.int (own_len v)), .val (.int (off + (own_len v)))] [(.int (1 : Int32))])) _
    refine XS.ifNo X114.here hx rfl (hb hby at_420) rfl ((if0 _ _).trans (feq (by decide : ¬ ((1 : Int32) = (0 : Int32)))).1) ?_
    show Steps p.tables e below (T114.setTop (mkF m 423 #[.val (.long q1), .second, .val (.int p2), .val (.int p3), .val (.int p4), .val (.long v), .second, .val (.int off), .val (.int sb), .val (.ref b4), .val (.int (own_len v)), .val (.int (off + (own_len v)))] [])) _
    refine XS.aload X114.here hx rfl (hb hby at_423) rfl rfl ?_
    show Steps p.tables e below (T114.setTop (mkF m 425 #[.val (.long q1), .second, .val (.int p2), .val (.int p3), .val (.int p4), .val (.long v), .second, .val (.int off), .val (.int sb), .val (.ref b4), .val (.int (own_len v)), .val (.int (off + (own_len v)))] [(.ref b4)])) _
    refine XS.bipush X114.here hx rfl (hb hby at_425) ?_
    show Steps p.tables e below (T114.setTop (mkF m 427 #[.val (.long q1), .second, .val (.int p2), .val (.int p3), .val (.int p4), .val (.long v), .second, .val (.int off), .val (.int sb), .val (.ref b4), .val (.int (own_len v)), .val (.int (off + (own_len v)))] [(.int (15 : Int32)), (.ref b4)])) _
    refine XS.iload X114.here hx rfl (hb hby at_427) rfl ?_
    show Steps p.tables e below (T114.setTop (mkF m 429 #[.val (.long q1), .second, .val (.int p2), .val (.int p3), .val (.int p4), .val (.long v), .second, .val (.int off), .val (.int sb), .val (.ref b4), .val (.int (own_len v)), .val (.int (off + (own_len v)))] [(.int off), (.int (15 : Int32)), (.ref b4)])) _
    refine XS.lload X114.here hx rfl (hb hby at_429) rfl ?_
    show Steps p.tables e below (T114.setTop (mkF m 431 #[.val (.long q1), .second, .val (.int p2), .val (.int p3), .val (.int p4), .val (.long v), .second, .val (.int off), .val (.int sb), .val (.ref b4), .val (.int (own_len v)), .val (.int (off + (own_len v)))] [(.long v), (.int off), (.int (15 : Int32)), (.ref b4)])) _
    refine XS.iload X114.here hx rfl (hb hby at_431) rfl ?_
    show Steps p.tables e below (T114.setTop (mkF m 433 #[.val (.long q1), .second, .val (.int p2), .val (.int p3), .val (.int p4), .val (.long v), .second, .val (.int off), .val (.int sb), .val (.ref b4), .val (.int (own_len v)), .val (.int (off + (own_len v)))] [(.int (own_len v)), (.long v), (.int off), (.int (15 : Int32)), (.ref b4)])) _
    refine XS.iload X114.here hx rfl (hb hby at_433) rfl ?_
    show Steps p.tables e below (T114.setTop (mkF m 435 #[.val (.long q1), .second, .val (.int p2), .val (.int p3), .val (.int p4), .val (.long v), .second, .val (.int off), .val (.int sb), .val (.ref b4), .val (.int (own_len v)), .val (.int (off + (own_len v)))] [(.int sb), (.int (own_len v)), (.long v), (.int off), (.int (15 : Int32)), (.ref b4)])) _
    refine st116 _ ?_
    show Steps p.tables e below (T116.setTop (mkF m 438 #[.val (.long q1), .second, .val (.int p2), .val (.int p3), .val (.int p4), .val (.long v), .second, .val (.int off), .val (.int sb), .val (.ref b4), .val (.int (own_len v)), .val (.int (off + (own_len v)))] [(.int (1 : Int32))])) _
    refine XS.ifNo X116.here hx rfl (hb hby at_438) rfl ((if0 _ _).trans (feq (by decide : ¬ ((1 : Int32) = (0 : Int32)))).1) ?_
    exact kt
  have hg118 : ((own_pre f v off.toNatClampNeg VS).set (off.toNatClampNeg + f) (own_last (own_it f v))).getD ((16 : Int32)).toNatClampNeg (.int (0 : Int32)) = .int (own_want (16 : Int32) off v (own_len v) sb) := own_fin (p := (16 : Int32)) hv ho hln hf (by decide) hVl hvs
  obtain ⟨_, _, ⟨T119, L119, k119, n119⟩, -, X119, ⟨Lc119, hQ119, l119, y119, z119⟩, st119⟩ := Jvm.LawKit.callS X116 hx (y := (⟨"com/example/morro/morro/index/IndexOutputEncodeNumberPinLaw", "at", "([BIIJIB)Z"⟩ : MethodName)) hown (mvT hZ (hw _ (List.mem_of_getElem? (i := 12) rfl))) (mvT hZ (hw _ (List.mem_of_getElem? (i := 13) rfl))) (mvT hZ (hw _ (List.mem_of_getElem? (i := 4) rfl))) (mvT hZ (hw _ (List.mem_of_getElem? (i := 14) rfl))) (by decide) (backOf (W := 0) (rm3 l Z a0 hw [] b4 (16 : Int32) off v (own_len v) sb k4 (18 : Int32) ((own_pre f v off.toNatClampNeg VS).set (off.toNatClampNeg + f) (own_last (own_it f v))) T81.heap n0 (Nat.le_trans Z0 K81.1) t81_0 (by decide) hg118) hZ (hw _ (List.mem_of_getElem? (i := 14) rfl)) (hw _ (List.mem_of_getElem? (i := 4) rfl)) (by decide) (by decide)) (g := (mkF m 453 #[.val (.long q1), .second, .val (.int p2), .val (.int p3), .val (.int p4), .val (.long v), .second, .val (.int off), .val (.int sb), .val (.ref b4), .val (.int (own_len v)), .val (.int (off + (own_len v)))] [(.int sb), (.int (own_len v)), (.long v), (.int off), (.int (16 : Int32)), (.ref b4)])) rfl (by rw [hml]; rfl) (argsL := [(.ref b4), (.int (16 : Int32)), (.int off), (.long v), (.int (own_len v)), (.int sb)]) (rest := []) (lenOf pd__28_5bBIIJIB_29Z rfl) rfl (by show 2 * 0 + _ ≤ _; exact Nat.le_of_eq rfl) (hb hby at_453) (fun _ _ => ⟨rfl, e116, (by decide : 1 + 0 ≤ _), (by decide : 18 + 0 ≤ _)⟩)
  dsimp only [Pt.U, Pt.locs, Pt.cells, Pt.slots] at y119 z119 st119 hQ119
  change Stand p l e _ s m _ below meth c T119 L119 k119 n119 at X119
  change L119 = _ ++ Lc119 at l119
  subst y119 z119
  obtain ⟨rfl, N119q, e119⟩ := hQ119
  have N119 : Fr n0 L119 := l119 ▸ Fr.app N116 N119q
  have hg120 : ((own_pre f v off.toNatClampNeg VS).set (off.toNatClampNeg + f) (own_last (own_it f v))).getD ((17 : Int32)).toNatClampNeg (.int (0 : Int32)) = .int (own_want (17 : Int32) off v (own_len v) sb) := own_fin (p := (17 : Int32)) hv ho hln hf (by decide) hVl hvs
  obtain ⟨_, _, ⟨T121, L121, k121, n121⟩, -, X121, ⟨Lc121, hQ121, l121, y121, z121⟩, st121⟩ := Jvm.LawKit.callS X119 hx (y := (⟨"com/example/morro/morro/index/IndexOutputEncodeNumberPinLaw", "at", "([BIIJIB)Z"⟩ : MethodName)) hown (mvT hZ (hw _ (List.mem_of_getElem? (i := 12) rfl))) (mvT hZ (hw _ (List.mem_of_getElem? (i := 13) rfl))) (mvT hZ (hw _ (List.mem_of_getElem? (i := 4) rfl))) (mvT hZ (hw _ (List.mem_of_getElem? (i := 14) rfl))) (by decide) (backOf (W := 0) (rm3 l Z a0 hw [] b4 (17 : Int32) off v (own_len v) sb k4 (18 : Int32) ((own_pre f v off.toNatClampNeg VS).set (off.toNatClampNeg + f) (own_last (own_it f v))) T81.heap n0 (Nat.le_trans Z0 K81.1) t81_0 (by decide) hg120) hZ (hw _ (List.mem_of_getElem? (i := 14) rfl)) (hw _ (List.mem_of_getElem? (i := 4) rfl)) (by decide) (by decide)) (g := (mkF m 471 #[.val (.long q1), .second, .val (.int p2), .val (.int p3), .val (.int p4), .val (.long v), .second, .val (.int off), .val (.int sb), .val (.ref b4), .val (.int (own_len v)), .val (.int (off + (own_len v)))] [(.int sb), (.int (own_len v)), (.long v), (.int off), (.int (17 : Int32)), (.ref b4)])) rfl (by rw [hml]; rfl) (argsL := [(.ref b4), (.int (17 : Int32)), (.int off), (.long v), (.int (own_len v)), (.int sb)]) (rest := []) (lenOf pd__28_5bBIIJIB_29Z rfl) rfl (by show 2 * 0 + _ ≤ _; exact Nat.le_of_eq rfl) (hb hby at_471) (fun _ _ => ⟨rfl, e119, (by decide : 1 + 0 ≤ _), (by decide : 18 + 0 ≤ _)⟩)
  dsimp only [Pt.U, Pt.locs, Pt.cells, Pt.slots] at y121 z121 st121 hQ121
  change Stand p l e _ s m _ below meth c T121 L121 k121 n121 at X121
  change L121 = _ ++ Lc121 at l121
  subst y121 z121
  obtain ⟨rfl, N121q, e121⟩ := hQ121
  have N121 : Fr n0 L121 := l121 ▸ Fr.app N119 N121q
  obtain ⟨fs, hr, hrun, hended, hW, hsame⟩ := X121.leave (v := some (.int (1 : Int32))) (fun h => by rw [Bd.returns] at h; cases h)
  refine ⟨_, _, pre117 _ ?_, hrun, hended, _, _, rfl, ?_, ⟨_, rfl⟩, hW, hsame.mono (by decide) (by decide)⟩
  · show Steps p.tables e below (T116.setTop (mkF m 441 #[.val (.long q1), .second, .val (.int p2), .val (.int p3), .val (.int p4), .val (.long v), .second, .val (.int off), .val (.int sb), .val (.ref b4), .val (.int (own_len v)), .val (.int (off + (own_len v)))] [])) _
    refine XS.aload X116.here hx rfl (hb hby at_441) rfl rfl ?_
    show Steps p.tables e below (T116.setTop (mkF m 443 #[.val (.long q1), .second, .val (.int p2), .val (.int p3), .val (.int p4), .val (.long v), .second, .val (.int off), .val (.int sb), .val (.ref b4), .val (.int (own_len v)), .val (.int (off + (own_len v)))] [(.ref b4)])) _
    refine XS.bipush X116.here hx rfl (hb hby at_443) ?_
    show Steps p.tables e below (T116.setTop (mkF m 445 #[.val (.long q1), .second, .val (.int p2), .val (.int p3), .val (.int p4), .val (.long v), .second, .val (.int off), .val (.int sb), .val (.ref b4), .val (.int (own_len v)), .val (.int (off + (own_len v)))] [(.int (16 : Int32)), (.ref b4)])) _
    refine XS.iload X116.here hx rfl (hb hby at_445) rfl ?_
    show Steps p.tables e below (T116.setTop (mkF m 447 #[.val (.long q1), .second, .val (.int p2), .val (.int p3), .val (.int p4), .val (.long v), .second, .val (.int off), .val (.int sb), .val (.ref b4), .val (.int (own_len v)), .val (.int (off + (own_len v)))] [(.int off), (.int (16 : Int32)), (.ref b4)])) _
    refine XS.lload X116.here hx rfl (hb hby at_447) rfl ?_
    show Steps p.tables e below (T116.setTop (mkF m 449 #[.val (.long q1), .second, .val (.int p2), .val (.int p3), .val (.int p4), .val (.long v), .second, .val (.int off), .val (.int sb), .val (.ref b4), .val (.int (own_len v)), .val (.int (off + (own_len v)))] [(.long v), (.int off), (.int (16 : Int32)), (.ref b4)])) _
    refine XS.iload X116.here hx rfl (hb hby at_449) rfl ?_
    show Steps p.tables e below (T116.setTop (mkF m 451 #[.val (.long q1), .second, .val (.int p2), .val (.int p3), .val (.int p4), .val (.long v), .second, .val (.int off), .val (.int sb), .val (.ref b4), .val (.int (own_len v)), .val (.int (off + (own_len v)))] [(.int (own_len v)), (.long v), (.int off), (.int (16 : Int32)), (.ref b4)])) _
    refine XS.iload X116.here hx rfl (hb hby at_451) rfl ?_
    show Steps p.tables e below (T116.setTop (mkF m 453 #[.val (.long q1), .second, .val (.int p2), .val (.int p3), .val (.int p4), .val (.long v), .second, .val (.int off), .val (.int sb), .val (.ref b4), .val (.int (own_len v)), .val (.int (off + (own_len v)))] [(.int sb), (.int (own_len v)), (.long v), (.int off), (.int (16 : Int32)), (.ref b4)])) _
    refine st119 _ ?_
    show Steps p.tables e below (T119.setTop (mkF m 456 #[.val (.long q1), .second, .val (.int p2), .val (.int p3), .val (.int p4), .val (.long v), .second, .val (.int off), .val (.int sb), .val (.ref b4), .val (.int (own_len v)), .val (.int (off + (own_len v)))] [(.int (1 : Int32))])) _
    refine XS.ifNo X119.here hx rfl (hb hby at_456) rfl ((if0 _ _).trans (feq (by decide : ¬ ((1 : Int32) = (0 : Int32)))).1) ?_
    show Steps p.tables e below (T119.setTop (mkF m 459 #[.val (.long q1), .second, .val (.int p2), .val (.int p3), .val (.int p4), .val (.long v), .second, .val (.int off), .val (.int sb), .val (.ref b4), .val (.int (own_len v)), .val (.int (off + (own_len v)))] [])) _
    refine XS.aload X119.here hx rfl (hb hby at_459) rfl rfl ?_
    show Steps p.tables e below (T119.setTop (mkF m 461 #[.val (.long q1), .second, .val (.int p2), .val (.int p3), .val (.int p4), .val (.long v), .second, .val (.int off), .val (.int sb), .val (.ref b4), .val (.int (own_len v)), .val (.int (off + (own_len v)))] [(.ref b4)])) _
    refine XS.bipush X119.here hx rfl (hb hby at_461) ?_
    show Steps p.tables e below (T119.setTop (mkF m 463 #[.val (.long q1), .second, .val (.int p2), .val (.int p3), .val (.int p4), .val (.long v), .second, .val (.int off), .val (.int sb), .val (.ref b4), .val (.int (own_len v)), .val (.int (off + (own_len v)))] [(.int (17 : Int32)), (.ref b4)])) _
    refine XS.iload X119.here hx rfl (hb hby at_463) rfl ?_
    show Steps p.tables e below (T119.setTop (mkF m 465 #[.val (.long q1), .second, .val (.int p2), .val (.int p3), .val (.int p4), .val (.long v), .second, .val (.int off), .val (.int sb), .val (.ref b4), .val (.int (own_len v)), .val (.int (off + (own_len v)))] [(.int off), (.int (17 : Int32)), (.ref b4)])) _
    refine XS.lload X119.here hx rfl (hb hby at_465) rfl ?_
    show Steps p.tables e below (T119.setTop (mkF m 467 #[.val (.long q1), .second, .val (.int p2), .val (.int p3), .val (.int p4), .val (.long v), .second, .val (.int off), .val (.int sb), .val (.ref b4), .val (.int (own_len v)), .val (.int (off + (own_len v)))] [(.long v), (.int off), (.int (17 : Int32)), (.ref b4)])) _
    refine XS.iload X119.here hx rfl (hb hby at_467) rfl ?_
    show Steps p.tables e below (T119.setTop (mkF m 469 #[.val (.long q1), .second, .val (.int p2), .val (.int p3), .val (.int p4), .val (.long v), .second, .val (.int off), .val (.int sb), .val (.ref b4), .val (.int (own_len v)), .val (.int (off + (own_len v)))] [(.int (own_len v)), (.long v), (.int off), (.int (17 : Int32)), (.ref b4)])) _
    refine XS.iload X119.here hx rfl (hb hby at_469) rfl ?_
    show Steps p.tables e below (T119.setTop (mkF m 471 #[.val (.long q1), .second, .val (.int p2), .val (.int p3), .val (.int p4), .val (.long v), .second, .val (.int off), .val (.int sb), .val (.ref b4), .val (.int (own_len v)), .val (.int (off + (own_len v)))] [(.int sb), (.int (own_len v)), (.long v), (.int off), (.int (17 : Int32)), (.ref b4)])) _
    refine st121 _ ?_
    show Steps p.tables e below (T121.setTop (mkF m 474 #[.val (.long q1), .second, .val (.int p2), .val (.int p3), .val (.int p4), .val (.long v), .second, .val (.int off), .val (.int sb), .val (.ref b4), .val (.int (own_len v)), .val (.int (off + (own_len v)))] [(.int (1 : Int32))])) _
    refine XS.ifNo X121.here hx rfl (hb hby at_474) rfl ((if0 _ _).trans (feq (by decide : ¬ ((1 : Int32) = (0 : Int32)))).1) ?_
    show Steps p.tables e below (T121.setTop (mkF m 477 #[.val (.long q1), .second, .val (.int p2), .val (.int p3), .val (.int p4), .val (.long v), .second, .val (.int off), .val (.int sb), .val (.ref b4), .val (.int (own_len v)), .val (.int (off + (own_len v)))] [])) _
    refine XS.iconst X121.here hx rfl (hb hby at_477) ?_
    show Steps p.tables e below (T121.setTop (mkF m 478 #[.val (.long q1), .second, .val (.int p2), .val (.int p3), .val (.int p4), .val (.long v), .second, .val (.int off), .val (.int sb), .val (.ref b4), .val (.int (own_len v)), .val (.int (off + (own_len v)))] [(.int (1 : Int32))])) _
    refine XS.goto X121.here hx rfl (pc0 := 478) (pc' := 482) rfl (hb hby at_478) (by decide) (by decide) ?_
    show Steps p.tables e below (T121.setTop (mkF m 482 #[.val (.long q1), .second, .val (.int p2), .val (.int p3), .val (.int p4), .val (.long v), .second, .val (.int off), .val (.int sb), .val (.ref b4), .val (.int (own_len v)), .val (.int (off + (own_len v)))] [(.int (1 : Int32))])) _
    exact retN X121 hx (t := .boolean) Bd.returns (by simp) (hb hby at_482) hr
  · show Q_rm0 Z q1 p2 p3 p4 h0 n0 _ T121.heap _
    rw [e121]
    exact ⟨rfl, N121⟩
set_option maxRecDepth 65536 in
set_option maxHeartbeats 40000000 in
theorem comes_1 {Post : Tables → Env → Array Value → State → Outcome → State → Prop} (hpost : ∀ tb e args s v u, (limb_1_1.after args s (.returned v) u = true ∧ limb_1_2.after args s (.returned v) u = true ∧ True) → FrameEnd s (.returned v) u (Jvm.fieldLocs frame_1_writes args s ++ Jvm.arrayLocs frame_1_arrays args s ++ Jvm.staticLocs frame_1_statics s) 16 128 → Post tb e args s (.returned v) u) :
    ArmFor flags0 classFile x code maxLocals ret World_1 tables_1 room_1 Calls_1 rest_1 Pre_1 Post := by
  intro l hfl _ _ p e ha hc hk s m args below hf hA hF happ hP
  obtain ⟨hcalls, hrest, hpre⟩ := hP
  obtain ⟨-, -, -, hnamed, -, -, -, hat⟩ := (Spec.applies_iff hf).mp happ
  obtain ⟨hg, hn⟩ := and_e (Cond.before_iff.mp (show (Jvm.Cond.and given_1 narrow_1).before args s = true from hpre))
  obtain ⟨gc, gr0⟩ := and_e hg
  obtain ⟨ga0, gr1⟩ := and_e gr0
  obtain ⟨ga1, gr2⟩ := and_e gr1
  obtain ⟨ga2, gr3⟩ := and_e gr2
  obtain ⟨w0, w1, w2, w3, rfl⟩ : ∃ w0 w1 w2 w3 : Value, args = #[w0, w1, w2, w3] := by
    have hs : args.size = 4 := by simpa [Cond.value, given_1] using gc
    obtain ⟨L⟩ := args
    match L, hs with
    | [w0, w1, w2, w3], _ => exact ⟨w0, w1, w2, w3, rfl⟩
  have hw := fun d (hd : d ∈ tables_1) => atoms_spec (ws := Jvm.Cond.code x code maxLocals ret :: tables_1) hat d (List.mem_cons_of_mem _ hd)
  have hfit : Fit s := fun {y c} hc i hi => by
    obtain ⟨ha, rfl⟩ := Array.getElem?_eq_some_iff.mp hc
    have q := List.all_eq_true.mp ((Array.all_eq_true_iff_forall_mem.mp hF) _ (Array.getElem_mem ha)) i (List.mem_range.mpr hi)
    simpa [Array.getElem?_eq_getElem hi] using q
  obtain ⟨i0, ei0⟩ := isL_v ga0
  obtain rfl : w0 = (.long i0) := Option.some.inj ei0
  obtain ⟨i1, ei1⟩ := is_v ga1
  obtain rfl : w1 = (.int i1) := Option.some.inj ei1
  obtain ⟨i2, ei2⟩ := is_v ga2
  obtain rfl : w2 = (.int i2) := Option.some.inj ei2
  obtain ⟨i3, ei3⟩ := is_v gr3
  obtain rfl : w3 = (.int i3) := Option.some.inj ei3
  obtain ⟨n, o, h1, h2, h3, _, L, rfl, ⟨rfl, N⟩, hq⟩ := rm0 l s _ hw tables_1 i0 i1 i2 i3 s.heap s.heap.size (Nat.le_refl _)  p e ha hc hk s m _ below hf ((Spec.applies_iff_loose hf).mp happ).1 ⟨rfl, State.Warmed39.refl s, rfl⟩ trivial
  refine ⟨n, _, h1, h2, h3, hpost _ _ _ _ _ _ ⟨Cond.after_iff.mpr rfl, Cond.after_iff.mpr (eq_i res_at (Term.int_eval (1)) rfl), trivial⟩ ⟨hq.1, hq.2.1, (hq.2.2.sift fun y hy => Or.inr (N y hy)).mono (by decide) (by decide)⟩⟩
theorem main_1_1 : Claimed_1_1 := comes_1 fun _ _ _ _ _ _ h hF => ⟨h.1, hF⟩
theorem main_1_2 : Claimed_1_2 := comes_1 fun _ _ _ _ _ _ h hF => ⟨h.2.1, hF⟩
end Jvm.Pilot.@@N@@
namespace Jvm.Pilot.@@N@@
open Jvm Jvm.ClassFile Sem Op Lib Jvm.Free Jvm.Stand Jvm.Pilot.@@N@@.Jvm.D
/-! MADE BY PROGRAM (witnessworld.py) out of the Statement's table words and the real class files: 11 classes; the members and pool entries that the words name. The judged class is class 1, her method 1. -/
namespace start1
open Jvm.ClassFile
def u (s : String) : CpInfo := .utf8 (stringToUtf16 s)
/-- a pool by its gaps: so many unusable entries, then the entry; so many at the end -/
def gap : Nat → List CpInfo → List CpInfo
  | 0, r => r
  | n + 1, r => .unusable :: gap n r
def poolList (es : List (Nat × CpInfo)) (last : Nat) : List CpInfo := es.foldr (fun e r => gap e.1 (e.2 :: r)) (gap last [])
def pool (es : List (Nat × CpInfo)) (last : Nat) : Array CpInfo := ⟨poolList es last⟩
def fileOf (pool : Array CpInfo) (this : Nat) (attrs : Array Attribute := #[]) (ms : Array MethodInfo := #[]) (fl : Nat := 33) (sup : Nat := 0) (ifs : Array Nat := #[]) (fds : Array FieldInfo := #[]) : ClassFile where
  minorVersion := 0
  majorVersion := 65
  constantPool := pool
  accessFlags := fl
  thisClass := this
  superClass := sup
  interfaces := ifs
  fields := fds
  methods := ms
  attributes := attrs
def plain (name : String) (sup : Option ClassId) : Class where
  name := name
  kind := .ordinary
  loader := none
  accessFlags := 33
  super := sup
  interfaces := #[]
  cf := none
  fields := #[]
  methods := #[]
  instanceTypes := #[]
  staticTypes := #[]
  resolved := #[]
  callSites := []
  init := .initialized
  statics := none
  mirror := none

def pool0 : Array CpInfo := pool [(5, u "<init>"), (0, u "()V"), (1, .class_ 10), (1, u "java/lang/Object")] 113

def k0m0 : Method := { name := "<init>", desc := "()V", sig := { parameters := [], returnType := none }, accessFlags := 1, code := none }
/-- java/lang/Object -/
def k0 : Class := { plain "java/lang/Object" none with
  accessFlags := 33
  interfaces := #[]
  cf := some (fileOf pool0 8 #[] #[{ accessFlags := 1, nameIndex := 5, descriptorIndex := 6, attributes := #[] }] 33 0 #[] #[])
  fields := #[]
  methods := #[k0m0]
  instanceTypes := #[]
  staticTypes := #[]
  resolved := Array.replicate 124 none
  statics := none }

def pool1 : Array CpInfo := pool [(2, .class_ 4), (1, u "java/lang/Object"), (0, u "<init>"), (0, u "()V"), (2, .long 9223372036854775807), (1, .methodref 12 13), (0, .class_ 14), (0, .nameAndType 15 16), (0, u "com/example/morro/morro/index/IndexOutputEncodeNumberPinLaw"), (0, u "lengthOf"), (0, u "(J)I"), (0, .methodref 18 19), (0, .class_ 20), (0, .nameAndType 21 22), (0, u "com/example/morro/morro/index/IndexOutput"), (0, u "encodeNumber"), (0, u "(J[BI)I"), (0, .methodref 12 24), (0, .nameAndType 25 26), (0, u "at"), (0, u "([BIIJIB)Z"), (0, .long 128), (1, .long 16384), (1, .long 2097152), (1, .long 268435456), (1, .long 34359738368), (1, .long 4398046511104), (1, .long 562949953421312), (1, .long 72057594037927936), (1, .long 127), (3, u "law"), (0, u "(JIII)Z")] 5

def k1m0 : Method := { name := "<init>", desc := "()V", sig := { parameters := [], returnType := none }, accessFlags := 2, code := none }
def k1c1 : Code := { maxStack := 7, maxLocals := 12, code := code, exceptionTable := #[], attributes := #[] }
def k1m1 : Method := { name := "law", desc := "(JIII)Z", sig := { parameters := [.long, .int, .int, .int], returnType := some .boolean }, accessFlags := 9, code := some k1c1 }
def k1c2 : Code := { maxStack := 4, maxLocals := 2, code := method_3_code, exceptionTable := #[], attributes := #[] }
def k1m2 : Method := { name := "lengthOf", desc := "(J)I", sig := { parameters := [.long], returnType := some .int }, accessFlags := 10, code := some k1c2 }
def k1c3 : Code := { maxStack := 4, maxLocals := 9, code := method_4_code, exceptionTable := #[], attributes := #[] }
def k1m3 : Method := { name := "at", desc := "([BIIJIB)Z", sig := { parameters := [(.array .byte), .int, .int, .long, .int, .byte], returnType := some .boolean }, accessFlags := 10, code := some k1c3 }
/-- com/example/morro/morro/index/IndexOutputEncodeNumberPinLaw -/
def k1 : Class := { plain "com/example/morro/morro/index/IndexOutputEncodeNumberPinLaw" (some 0) with
  accessFlags := 49
  interfaces := #[]
  cf := some (fileOf pool1 12 #[] #[{ accessFlags := 2, nameIndex := 5, descriptorIndex := 6, attributes := #[] }, { accessFlags := 9, nameIndex := 47, descriptorIndex := 48, attributes := #[] }, { accessFlags := 10, nameIndex := 15, descriptorIndex := 16, attributes := #[] }, { accessFlags := 10, nameIndex := 25, descriptorIndex := 26, attributes := #[] }] 49 2 #[] #[])
  fields := #[]
  methods := #[k1m0, k1m1, k1m2, k1m3]
  instanceTypes := #[]
  staticTypes := #[]
  resolved := Array.replicate 54 none
  statics := none }

def pool2 : Array CpInfo := pool [(1, .class_ 2), (0, u "java/lang/AutoCloseable"), (0, .class_ 4), (0, u "java/lang/Object")] 7

/-- java/lang/AutoCloseable -/
def k2 : Class := { plain "java/lang/AutoCloseable" (some 0) with
  accessFlags := 1537
  interfaces := #[]
  cf := some (fileOf pool2 1 #[] #[] 1537 3 #[] #[])
  fields := #[]
  methods := #[]
  instanceTypes := #[]
  staticTypes := #[]
  resolved := Array.replicate 12 none
  statics := none }

def pool3 : Array CpInfo := pool [(1, .class_ 2), (0, u "java/io/Closeable"), (0, .class_ 4), (0, u "java/lang/Object"), (0, .class_ 6), (0, u "java/lang/AutoCloseable")] 7

/-- java/io/Closeable -/
def k3 : Class := { plain "java/io/Closeable" (some 0) with
  accessFlags := 1537
  interfaces := #[2]
  cf := some (fileOf pool3 1 #[] #[] 1537 3 #[5] #[])
  fields := #[]
  methods := #[]
  instanceTypes := #[]
  staticTypes := #[]
  resolved := Array.replicate 14 none
  statics := none }

def pool4 : Array CpInfo := pool [(2, .class_ 4), (1, u "java/lang/Object"), (5, .class_ 12), (1, u "com/example/morro/morro/index/IndexOutput"), (0, u "number"), (0, u "[B"), (2, u "channel"), (0, u "Ljava/nio/channels/FileChannel;"), (14, u "out"), (0, u "Ljava/io/OutputStream;"), (2, u "forced"), (0, u "Z"), (26, .long 18446744073709551488), (1, .long 127), (1, .long 128), (3, u "encodeNumber"), (0, u "(J[BI)I"), (27, u "size"), (0, u "J"), (16, .class_ 121), (0, u "java/io/Closeable"), (0, u "BUFFER_SIZE"), (0, u "I")] 17

def k4c0 : Code := { maxStack := 6, maxLocals := 7, code := prog_24_method_5_code, exceptionTable := #[], attributes := #[] }
def k4m0 : Method := { name := "encodeNumber", desc := "(J[BI)I", sig := { parameters := [.long, (.array .byte), .int], returnType := some .int }, accessFlags := 8, code := some k4c0 }
/-- com/example/morro/morro/index/IndexOutput -/
def k4 : Class := { plain "com/example/morro/morro/index/IndexOutput" (some 0) with
  accessFlags := 48
  interfaces := #[3]
  cf := some (fileOf pool4 10 #[] #[{ accessFlags := 8, nameIndex := 73, descriptorIndex := 74, attributes := #[] }] 48 2 #[120] #[{ accessFlags := 26, nameIndex := 122, descriptorIndex := 123, attributes := #[] }, { accessFlags := 18, nameIndex := 17, descriptorIndex := 18, attributes := #[] }, { accessFlags := 18, nameIndex := 33, descriptorIndex := 34, attributes := #[] }, { accessFlags := 18, nameIndex := 37, descriptorIndex := 38, attributes := #[] }, { accessFlags := 18, nameIndex := 13, descriptorIndex := 14, attributes := #[] }, { accessFlags := 2, nameIndex := 102, descriptorIndex := 103, attributes := #[] }])
  fields := #[{ name := "BUFFER_SIZE", type := .int, accessFlags := 26, slot := 0, constantValue := 0 }, { name := "channel", type := (.object "java/nio/channels/FileChannel"), accessFlags := 18, slot := 0, constantValue := 0 }, { name := "out", type := (.object "java/io/OutputStream"), accessFlags := 18, slot := 1, constantValue := 0 }, { name := "forced", type := .boolean, accessFlags := 18, slot := 2, constantValue := 0 }, { name := "number", type := (.array .byte), accessFlags := 18, slot := 3, constantValue := 0 }, { name := "size", type := .long, accessFlags := 2, slot := 4, constantValue := 0 }]
  methods := #[k4m0]
  instanceTypes := #[(.object "java/nio/channels/FileChannel"), (.object "java/io/OutputStream"), .boolean, (.array .byte), .long]
  staticTypes := #[.int]
  resolved := Array.replicate 141 none
  statics := none }

def pool5 : Array CpInfo := pool [(1, u "java/lang/Cloneable"), (0, .class_ 1), (0, u "java/lang/Object"), (0, .class_ 3)] 3

/-- java/lang/Cloneable -/
def k5 : Class := { plain "java/lang/Cloneable" (some 0) with
  accessFlags := 1537
  interfaces := #[]
  cf := some (fileOf pool5 2 #[] #[] 1537 4 #[] #[])
  fields := #[]
  methods := #[]
  instanceTypes := #[]
  staticTypes := #[]
  resolved := Array.replicate 8 none
  statics := none }

def pool6 : Array CpInfo := pool [(1, u "java/io/Serializable"), (0, .class_ 1), (0, u "java/lang/Object"), (0, .class_ 3)] 3

/-- java/io/Serializable -/
def k6 : Class := { plain "java/io/Serializable" (some 0) with
  accessFlags := 1537
  interfaces := #[]
  cf := some (fileOf pool6 2 #[] #[] 1537 4 #[] #[])
  fields := #[]
  methods := #[]
  instanceTypes := #[]
  staticTypes := #[]
  resolved := Array.replicate 8 none
  statics := none }

/-- the primitive byte -/
def k7 : Class := { plain "byte" none with kind := .primitive 'B', accessFlags := 0x411 }
/-- [B -/
def k8 : Class := { plain "[B" (some 0) with kind := .array 7 .byte, interfaces := #[5, 6], accessFlags := 1041 }

/-- the primitive int -/
def k9 : Class := { plain "int" none with kind := .primitive 'I', accessFlags := 0x411 }
/-- [I -/
def k10 : Class := { plain "[I" (some 0) with kind := .array 9 .int, interfaces := #[5, 6], accessFlags := 1041 }

def heap : Heap := #[]
def classes : Array Class := #[k0, k1, k2, k3, k4, k5, k6, k7, k8, k9, k10]
def interned : List (Array UInt16 × Addr) := []
def slotsUsed : Nat := 0
def theMethod : MethodId := ⟨1, 1⟩
def args0 : Array Value := #[.long 5, .int 9, .int 7, .int 3]
def aboutOver (below : List Frame) : State where
  vm := { classes := classes, interned := interned.toArray }
  heap := heap
  slotsUsed := slotsUsed
  threads := #[{ frames := .invoking theMethod args0 :: below }]
def below0 : List Frame := [.native { method := ⟨0, 0⟩, args := #[] }]
def about1 : State := aboutOver below0
def p0 : Program := .bare "" "" ""
def e0 : Env := launch0.env 0 0 0
theorem w_frames : about1.frames = Frame.invoking theMethod args0 :: below0 := rfl
set_option maxRecDepth 65536 in
theorem w_args : argsFit about1.vm theMethod args0 = true := by decide +kernel
set_option maxRecDepth 65536 in
theorem w_heap : heapFits about1 = true := by decide +kernel
set_option maxRecDepth 65536 in
theorem w_runnable : about1.curStatus? = some .runnable := by decide +kernel
set_option maxRecDepth 65536 in
theorem w_alone : about1.alone = true := by decide +kernel
set_option maxRecDepth 65536 in
theorem w_named : about1.methodNamed? x = some theMethod := by decide +kernel
set_option maxRecDepth 65536 in
theorem w_hears : about1.hears theMethod below0 = true := by decide +kernel
set_option maxRecDepth 65536 in
theorem w_ripe : about1.ripe theMethod args0 below0 = true := by decide +kernel
theorem w_running : about1.status = .running := rfl
set_option maxRecDepth 65536 in
theorem w_room : about1.hasRoom e0.platform room_1 = true :=
  launch0.hasRoom_least _ room_1 (by decide +kernel) (by decide +kernel) (by decide +kernel) (by decide +kernel) (by decide +kernel) (by decide +kernel)
theorem allAtoms_all (ts : List Jvm.Cond) (a : Array Jvm.Value) (st : Jvm.State) : (allAtoms ts).before a st = ts.all (fun c => c.before a st) := by
  induction ts with
  | nil => rfl
  | cons c t ih =>
    show (Jvm.Cond.and c (allAtoms t)).before a st = _
    rw [Jvm.Cond.before_and, ih, List.all_cons]
def words1 : List Jvm.Cond := Jvm.Cond.code x code maxLocals ret :: tables_1
/-- a 'code' word, met by the world's own term for the bytes: nothing is compared byte by byte -/
theorem code_word {y : MethodName} {bytes : ByteArray} {mx : Nat} {rt : Option FieldType} {a : Array Value} {s : State} {m : MethodId} {meth : Method} {c : Code} (h1 : s.methodNamed? y = some m) (h2 : s.vm.method? m = some meth) (h3 : meth.code = some c) (h4 : c.code = bytes)
    (h5 : (c.maxLocals == mx && c.exceptionTable.isEmpty && decide (c.maxStack ≤ mostOperands) && decide (meth.sig.returnType = rt) && !meth.locks && decide (parseMethodDescriptor y.desc = some meth.sig)) = true) : (Jvm.Cond.code y bytes mx rt).before a s = true := by
  simp only [Bool.and_eq_true, beq_iff_eq, Bool.not_eq_true', decide_eq_true_eq] at h5
  obtain ⟨⟨⟨⟨⟨g1, g2⟩, g3⟩, g4⟩, g5⟩, g6⟩ := h5
  simp [Cond.before, Cond.holds, Cond.value, h1, h2, h3, h4, g1, g2, g3, g4, g5, g6]
def isCode : Jvm.Cond → Bool
  | .code _ _ _ _ => true
  | _ => false
theorem all_split {L : List Jvm.Cond} {P : Jvm.Cond → Bool} (h1 : L.all (fun c => isCode c || P c) = true) (h2 : ∀ c ∈ L.filter isCode, P c = true) : L.all P = true := by
  refine List.all_eq_true.mpr fun c hc => ?_
  have h := List.all_eq_true.mp h1 c hc
  rcases Bool.eq_false_or_eq_true (isCode c) with hi | hi
  · exact h2 c (List.mem_filter.mpr ⟨hc, hi⟩)
  · simpa [hi] using h
set_option maxRecDepth 65536 in
theorem w_c0 : (Jvm.Cond.code x code maxLocals ret).before args0 about1 = true := code_word (m := ⟨1, 1⟩) (meth := k1m1) (c := k1c1) (by decide +kernel) rfl rfl rfl (by decide +kernel)
set_option maxRecDepth 65536 in
theorem w_c1 : (Jvm.Cond.code ({ cls := "com/example/morro/morro/index/IndexOutputEncodeNumberPinLaw", name := "lengthOf", desc := "(J)I" } : Jvm.MethodName) method_3_code (2 : Nat) (Option.some Jvm.ClassFile.FieldType.int)).before args0 about1 = true := code_word (m := ⟨1, 2⟩) (meth := k1m2) (c := k1c2) (by decide +kernel) rfl rfl rfl (by decide +kernel)
set_option maxRecDepth 65536 in
theorem w_c2 : (Jvm.Cond.code ({ cls := "com/example/morro/morro/index/IndexOutput", name := "encodeNumber", desc := "(J[BI)I" } : Jvm.MethodName) prog_24_method_5_code (7 : Nat) (Option.some Jvm.ClassFile.FieldType.int)).before args0 about1 = true := code_word (m := ⟨4, 0⟩) (meth := k4m0) (c := k4c0) (by decide +kernel) rfl rfl rfl (by decide +kernel)
set_option maxRecDepth 65536 in
theorem w_c3 : (Jvm.Cond.code ({ cls := "com/example/morro/morro/index/IndexOutputEncodeNumberPinLaw", name := "at", desc := "([BIIJIB)Z" } : Jvm.MethodName) method_4_code (9 : Nat) (Option.some Jvm.ClassFile.FieldType.boolean)).before args0 about1 = true := code_word (m := ⟨1, 3⟩) (meth := k1m3) (c := k1c3) (by decide +kernel) rfl rfl rfl (by decide +kernel)
def codes1 : List Jvm.Cond := [Jvm.Cond.code x code maxLocals ret, Jvm.Cond.code ({ cls := "com/example/morro/morro/index/IndexOutputEncodeNumberPinLaw", name := "lengthOf", desc := "(J)I" } : Jvm.MethodName) method_3_code (2 : Nat) (Option.some Jvm.ClassFile.FieldType.int), Jvm.Cond.code ({ cls := "com/example/morro/morro/index/IndexOutput", name := "encodeNumber", desc := "(J[BI)I" } : Jvm.MethodName) prog_24_method_5_code (7 : Nat) (Option.some Jvm.ClassFile.FieldType.int), Jvm.Cond.code ({ cls := "com/example/morro/morro/index/IndexOutputEncodeNumberPinLaw", name := "at", desc := "([BIIJIB)Z" } : Jvm.MethodName) method_4_code (9 : Nat) (Option.some Jvm.ClassFile.FieldType.boolean)]
set_option maxRecDepth 65536 in
theorem codes_eq : words1.filter isCode = codes1 := rfl
theorem w_codes : ∀ c ∈ words1.filter isCode, c.before args0 about1 = true := by
  rw [codes_eq]
  intro c hc
  simp only [codes1, List.mem_cons, List.not_mem_nil, or_false] at hc
  rcases hc with rfl | rfl | rfl | rfl
  · exact w_c0
  · exact w_c1
  · exact w_c2
  · exact w_c3
set_option maxRecDepth 65536 in
theorem w_t1 : (words1.take 24).all (fun c => isCode c || c.before args0 about1) = true := by decide +kernel
set_option maxRecDepth 65536 in
theorem w_t2 : (words1.drop 24).all (fun c => isCode c || c.before args0 about1) = true := by decide +kernel
theorem w_tables : (allAtoms (Jvm.Cond.code x code maxLocals ret :: tables_1)).before args0 about1 = true := by
  rw [allAtoms_all]
  show words1.all (fun c => c.before args0 about1) = true
  refine all_split ?_ w_codes
  rw [← List.take_append_drop 24 words1, List.all_append, w_t1, w_t2]
  rfl
set_option maxRecDepth 65536 in
theorem w_case : (Jvm.Cond.and given_1 narrow_1).before args0 about1 = true := by decide +kernel
theorem w_applies : (headSpec (Jvm.Cond.code x code maxLocals ret :: tables_1) room_1).applies x e0.platform about1 = true :=
  (Spec.applies_iff w_frames).mpr ⟨w_running, w_runnable, w_alone, w_named, w_hears, w_ripe, w_room, w_tables⟩
theorem atStart : AtStart classFile x code maxLocals ret World_1 tables_1 room_1 Calls_1 rest_1 Pre_1 launch0 p0 e0 about1 theMethod args0 below0 :=
  ⟨lists_1, trivial, launch0.admits_env _ _ _, launch0.least_env, fairChoices_fair.cas, fairChoices_fair.clock, w_frames, w_args, w_heap, w_applies, trivial, trivial, w_case⟩
end start1
theorem witness_1 : WitnessClaimed_1 := ⟨start1.p0, start1.e0, start1.about1, start1.theMethod, start1.args0, start1.below0, start1.atStart⟩
end Jvm.Pilot.@@N@@
