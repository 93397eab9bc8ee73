import JvmDerived
import JvmDerived.Pilot.@@N@@Statement
import JvmDerived.Pilot.@@N@@Code
set_option linter.unusedVariables false
set_option linter.unusedSimpArgs false
@@BLOCK:NumsL.lean.txt@@
namespace Jvm.RoadKit
open Sem ClassFile Op Lib Jvm.Stand Jvm.Free Jvm.LawKit
section New
variable {p : Program} {l : Launch} {e : Env} {R : Room} {s : State} {m : MethodId} {args : Array Value} {below : List Frame} {meth : Method} {c : Code} {T : State} {locs : List Loc} {cells slots : Nat}
theorem retI (X : Stand p l e R s m args below meth c T locs cells slots) (hx : p.tables.exec = Jvm.exec) {pc : Nat} {Ls : Array Slot} {z : Int32} {rest : List Value} (hret : meth.sig.returnType = some .int) (hd : decode c.code pc = .ok (.ireturn, 1)) {fs : List Frame}
    (hl : ∀ (f : JFrame) (acts : List Action), f.method = m → f.locked = none → f.entered = [] → (doReturn e (T.setTop f) acts (some (.int z))).1 = T.setFrames fs) : Steps p.tables e below (T.setTop (mkF m pc Ls (.int z :: rest))) (T.setFrames fs) := by
  have hm' : T.vm.method? m = some meth := X.method'
  have hn : narrow .int (.int z) = .int z := rfl
  show Steps p.tables e below (T.setTop { method := m, pc := pc, locals := Ls, stack := _ :: rest, locked := none }) _
  jvm_step X.here [X.here.top, hx, hd, hm', hret, hn]
  first | (intro acts; rw [hl _ acts rfl rfl rfl]) | rw [hl _ _ rfl rfl rfl]
  exact Steps.refl _
end New
end Jvm.RoadKit
namespace Jvm.Pilot.@@N@@
open Jvm Jvm.ClassFile Sem Op Lib Jvm.Free Jvm.Stand Jvm.LawKit Jvm.RoadKit Bundle Jvm.Pilot.@@N@@.Jvm.D

theorem own_lltT {x y : Int64} (h : x < y) : ifCond.holds .lt (lcmpW x y) = true := (if0 _ _).trans ((tlt (by rw [lcW]; exact (lc_lt x y).mpr h)).1)
theorem own_lltF {x y : Int64} (h : ¬ (x < y)) : ifCond.holds .lt (lcmpW x y) = false := (if0 _ _).trans ((flt (by rw [lcW]; exact fun q => h ((lc_lt x y).mp q))).1)
theorem own_lgeT {x y : Int64} (h : ¬ (x < y)) : ifCond.holds .ge (lcmpW x y) = true := (if0 _ _).trans ((flt (by rw [lcW]; exact fun q => h ((lc_lt x y).mp q))).2.1)
theorem own_lgeF {x y : Int64} (h : x < y) : ifCond.holds .ge (lcmpW x y) = false := (if0 _ _).trans ((tlt (by rw [lcW]; exact (lc_lt x y).mpr h)).2.1)
theorem own_lgtT {x y : Int64} (h : y < x) : ifCond.holds .gt (lcmpW x y) = true := (if0 _ _).trans ((tlt (by rw [lcW]; exact (lc_gt x y).mpr h)).2.2.1)
theorem own_lgtF {x y : Int64} (h : ¬ (y < x)) : ifCond.holds .gt (lcmpW x y) = false := (if0 _ _).trans ((flt (by rw [lcW]; exact fun q => h ((lc_gt x y).mp q))).2.2.1)
theorem own_lleT {x y : Int64} (h : ¬ (y < x)) : ifCond.holds .le (lcmpW x y) = true := (if0 _ _).trans ((flt (by rw [lcW]; exact fun q => h ((lc_gt x y).mp q))).2.2.2)
theorem own_lleF {x y : Int64} (h : y < x) : ifCond.holds .le (lcmpW x y) = false := (if0 _ _).trans ((tlt (by rw [lcW]; exact (lc_gt x y).mpr h)).2.2.2)
theorem own_leqT {x y : Int64} (h : x = y) : ifCond.holds .eq (lcmpW x y) = true := (if0 _ _).trans ((teq (by rw [lcW]; exact (lc_eq x y).mpr h)).1)
theorem own_leqF {x y : Int64} (h : ¬ (x = y)) : ifCond.holds .eq (lcmpW x y) = false := (if0 _ _).trans ((feq (by rw [lcW]; exact fun q => h ((lc_eq x y).mp q))).1)
theorem own_lneT {x y : Int64} (h : ¬ (x = y)) : ifCond.holds .ne (lcmpW x y) = true := (if0 _ _).trans ((feq (by rw [lcW]; exact fun q => h ((lc_eq x y).mp q))).2)
theorem own_lneF {x y : Int64} (h : x = y) : ifCond.holds .ne (lcmpW x y) = false := (if0 _ _).trans ((teq (by rw [lcW]; exact (lc_eq x y).mpr h)).2)
theorem d1_0 : decode prog_15_method_2_code 0 = .ok (.iload_n 1, 1) := by decide +kernel
theorem d1_1 : decode prog_15_method_2_code 1 = .ok (.i2l, 1) := by decide +kernel
theorem d1_2 : decode prog_15_method_2_code 2 = .ok (.aload_n 0, 1) := by decide +kernel
theorem d1_3 : decode prog_15_method_2_code 3 = .ok (.arraylength, 1) := by decide +kernel
theorem d1_4 : decode prog_15_method_2_code 4 = .ok (.i2l, 1) := by decide +kernel
theorem d1_5 : decode prog_15_method_2_code 5 = .ok (.lmul, 1) := by decide +kernel
theorem d1_6 : decode prog_15_method_2_code 6 = .ok (.ldc2_w 7, 3) := by decide +kernel
theorem d1_9 : decode prog_15_method_2_code 9 = .ok (.ladd, 1) := by decide +kernel
theorem d1_10 : decode prog_15_method_2_code 10 = .ok (.ldc2_w 9, 3) := by decide +kernel
theorem d1_13 : decode prog_15_method_2_code 13 = .ok (.ldiv, 1) := by decide +kernel
theorem d1_14 : decode prog_15_method_2_code 14 = .ok (.lstore_n 2, 1) := by decide +kernel
theorem d1_15 : decode prog_15_method_2_code 15 = .ok (.aload_n 0, 1) := by decide +kernel
theorem d1_16 : decode prog_15_method_2_code 16 = .ok (.lload_n 2, 1) := by decide +kernel
theorem d1_17 : decode prog_15_method_2_code 17 = .ok (.l2i, 1) := by decide +kernel
theorem d1_18 : decode prog_15_method_2_code 18 = .ok (.iconst 1, 1) := by decide +kernel
theorem d1_19 : decode prog_15_method_2_code 19 = .ok (.isub, 1) := by decide +kernel
theorem d1_20 : decode prog_15_method_2_code 20 = .ok (.laload, 1) := by decide +kernel
theorem d1_21 : decode prog_15_method_2_code 21 = .ok (.lreturn, 1) := by decide +kernel
theorem pn_com_example_sandglass_sandglass_Percentiles : plainName "com/example/sandglass/sandglass/Percentiles" = true := by first | (simp [plainName, overriddenIn]; done) | decide +kernel
theorem ef_rm1 (m : MethodId) (a1 : Addr) (p2 : Int32) : entryFrame m #[(.ref a1), (.int p2)] 4 = mkF m 0 #[.val (.ref a1), .val (.int p2), .unset, .unset] [] := by first | (simp [entryFrame, mkF, argsToLocals, Value.category]; done) | rfl
def Q_rm1 (Z : State) (a1 : Addr) (p2 : Int32) (kk : ClassId) (nn : Int32) (vs : List Value) (r : Int64) (h0 : Heap) (n0 : Nat) (v : Option Value) (h : Heap) (L : List Loc) : Prop := v = some (.long r) ∧ Fr n0 L ∧ h = h0
set_option maxRecDepth 65536 in
set_option maxHeartbeats 40000000 in
theorem rm1 (l : Launch) (Z : State) (a0 : Array Value) (hw : ∀ d ∈ tables_1, d.before a0 Z = true) (ws : List Jvm.Cond) (a1 : Addr) (p2 : Int32) (kk : ClassId) (nn : Int32) (vs : List Value) (r : Int64) (h0 : Heap) (n0 : Nat) (Z0 : n0 ≤ h0.size) (V_a1 : Arv Z h0 a1 kk .long nn vs (.long (0 : Int64))) (hin : ¬ ((((((p2.toInt64) * (nn.toInt64)) + (999 : Int64)) / (1000 : Int64)).toInt32) - (1 : Int32)) < 0 ∧ ((((((p2.toInt64) * (nn.toInt64)) + (999 : Int64)) / (1000 : Int64)).toInt32) - (1 : Int32)) < nn) (hget : vs.getD ((((((p2.toInt64) * (nn.toInt64)) + (999 : Int64)) / (1000 : Int64)).toInt32) - (1 : Int32)).toNatClampNeg (.long (0 : Int64)) = .long r) :
    MetFree l (⟨"com/example/sandglass/sandglass/Percentiles", "nearestRank", "([JI)J"⟩ : MethodName) (head1 (Jvm.Cond.code (⟨"com/example/sandglass/sandglass/Percentiles", "nearestRank", "([JI)J"⟩ : MethodName) prog_15_method_2_code 4 (some .long) :: ws) ({ frames := 0, cells := 0, slots := 0, locals := 0 } : Room)) (fun a U => a = #[(.ref a1), (.int p2)] ∧ Z.Warmed39 U.vm ∧ U.heap = h0) (fun _ _ _ _ _ => True) (fun _ U o U' => ∃ v L, o = .returned v ∧ Q_rm1 Z a1 p2 kk nn vs r h0 n0 v U'.heap L ∧ FrameEnd U o U' L ({ frames := 0, cells := 0, slots := 0, locals := 0 } : Room).cells ({ frames := 0, cells := 0, slots := 0, locals := 0 } : Room).slots) := by
  refine MetFree.of_bodySF (plainFor_of_name pn_com_example_sandglass_sandglass_Percentiles) hisR ?_
  intro p e s m args below meth c s₁ Bd hml0 hP hK
  obtain ⟨rfl, hZ, hh⟩ := hP
  have hx := Bd.exec
  have hby := Bd.bytes
  have hml : c.maxLocals = 4 := hml0
  have hown : s.vm.findClass "com/example/sandglass/sandglass/Percentiles" = some m.cls := findClass_of_methodNamed Bd.named
  have hnm := (name_of_methodNamed Bd.named Bd.method).1
  have X0 : Stand p l e ({ frames := 0, cells := 0, slots := 0, locals := 0 } : Room) s m #[(.ref a1), (.int p2)] below meth c s₁ [] 0 0 := Stand.of_body Bd
  have e0 : s₁.heap = h0 := by rw [← hh, Bd.state]; rfl
  have N0 := Fr.nil n0
  have pre0 : ∀ t, Steps p.tables e below (s₁.setTop (mkF m 0 #[.val (.ref a1), .val (.int p2), .unset, .unset] [])) t → Steps p.tables e below (s₁.setTop (entryFrame m #[(.ref a1), (.int p2)] 4)) t := fun t k => castTop (ef_rm1 m a1 p2) k
  obtain ⟨c1, Ac1, -, Sc1, Nc1, -, -⟩ := id V_a1
  obtain ⟨c2, Ac2, qc2, Sc2, Nc2, Hc2, Gc2⟩ := id V_a1
  have hinc2 := inb_of Sc2 (j := ((((((p2.toInt64) * (nn.toInt64)) + (999 : Int64)) / (1000 : Int64)).toInt32) - (1 : Int32))) hin
  obtain ⟨fs, hr, hrun, hended, hW, hsame⟩ := X0.leave (v := some (.long r)) (fun h => by rw [Bd.returns] at h; cases h)
  refine ⟨_, _, pre0 _ ?_, hrun, hended, _, _, rfl, ?_, ⟨_, rfl⟩, hW, hsame.mono (by decide) (by decide)⟩
  · show Steps p.tables e below (s₁.setTop (mkF m 0 #[.val (.ref a1), .val (.int p2), .unset, .unset] [])) _
    refine XS.iloadN X0.here hx rfl (hb hby d1_0) rfl ?_
    show Steps p.tables e below (s₁.setTop (mkF m 1 #[.val (.ref a1), .val (.int p2), .unset, .unset] [(.int p2)])) _
    refine XS.i2l X0.here hx rfl (hb hby d1_1) rfl ?_
    show Steps p.tables e below (s₁.setTop (mkF m 2 #[.val (.ref a1), .val (.int p2), .unset, .unset] [(.long (p2.toInt64))])) _
    refine XS.aloadN X0.here hx rfl (hb hby d1_2) rfl rfl ?_
    show Steps p.tables e below (s₁.setTop (mkF m 3 #[.val (.ref a1), .val (.int p2), .unset, .unset] [(.ref a1), (.long (p2.toInt64))])) _
    refine X0.arraylength hx (by rw [e0]; exact Ac1.1) (State.isArrayOf_alike hZ.alike Ac1.2.1) (g := (mkF m 3 #[.val (.ref a1), .val (.int p2), .unset, .unset] [(.ref a1), (.long (p2.toInt64))])) rfl rfl (hb hby d1_3) _ ?_
    rw [len_of Sc1 Nc1]
    show Steps p.tables e below (s₁.setTop (mkF m 4 #[.val (.ref a1), .val (.int p2), .unset, .unset] [(.int nn), (.long (p2.toInt64))])) _
    refine XS.i2l X0.here hx rfl (hb hby d1_4) rfl ?_
    show Steps p.tables e below (s₁.setTop (mkF m 5 #[.val (.ref a1), .val (.int p2), .unset, .unset] [(.long (nn.toInt64)), (.long (p2.toInt64))])) _
    refine XS.lmul X0.here hx rfl (hb hby d1_5) rfl ?_
    show Steps p.tables e below (s₁.setTop (mkF m 6 #[.val (.ref a1), .val (.int p2), .unset, .unset] [(.long ((p2.toInt64) * (nn.toInt64)))])) _
    refine X0.ldc2Long hx hown (mvT hZ (hw _ (List.mem_of_getElem? (i := 6) rfl))) (g := (mkF m 6 #[.val (.ref a1), .val (.int p2), .unset, .unset] [(.long ((p2.toInt64) * (nn.toInt64)))])) rfl (hb hby d1_6) _ ?_
    show Steps p.tables e below (s₁.setTop (mkF m 9 #[.val (.ref a1), .val (.int p2), .unset, .unset] [(.long (999 : Int64)), (.long ((p2.toInt64) * (nn.toInt64)))])) _
    refine XS.ladd X0.here hx rfl (hb hby d1_9) rfl ?_
    show Steps p.tables e below (s₁.setTop (mkF m 10 #[.val (.ref a1), .val (.int p2), .unset, .unset] [(.long (((p2.toInt64) * (nn.toInt64)) + (999 : Int64)))])) _
    refine X0.ldc2Long hx hown (mvT hZ (hw _ (List.mem_of_getElem? (i := 7) rfl))) (g := (mkF m 10 #[.val (.ref a1), .val (.int p2), .unset, .unset] [(.long (((p2.toInt64) * (nn.toInt64)) + (999 : Int64)))])) rfl (hb hby d1_10) _ ?_
    show Steps p.tables e below (s₁.setTop (mkF m 13 #[.val (.ref a1), .val (.int p2), .unset, .unset] [(.long (1000 : Int64)), (.long (((p2.toInt64) * (nn.toInt64)) + (999 : Int64)))])) _
    refine XS.ldiv X0.here hx rfl (hb hby d1_13) rfl (by decide) ?_
    show Steps p.tables e below (s₁.setTop (mkF m 14 #[.val (.ref a1), .val (.int p2), .unset, .unset] [(.long ((((p2.toInt64) * (nn.toInt64)) + (999 : Int64)) / (1000 : Int64)))])) _
    refine XS.lstoreN X0.here hx rfl (hb hby d1_14) rfl (l' := #[.val (.ref a1), .val (.int p2), .val (.long ((((p2.toInt64) * (nn.toInt64)) + (999 : Int64)) / (1000 : Int64))), .second]) rfl ?_
    show Steps p.tables e below (s₁.setTop (mkF m 15 #[.val (.ref a1), .val (.int p2), .val (.long ((((p2.toInt64) * (nn.toInt64)) + (999 : Int64)) / (1000 : Int64))), .second] [])) _
    refine XS.aloadN X0.here hx rfl (hb hby d1_15) rfl rfl ?_
    show Steps p.tables e below (s₁.setTop (mkF m 16 #[.val (.ref a1), .val (.int p2), .val (.long ((((p2.toInt64) * (nn.toInt64)) + (999 : Int64)) / (1000 : Int64))), .second] [(.ref a1)])) _
    refine XS.lloadN X0.here hx rfl (hb hby d1_16) rfl ?_
    show Steps p.tables e below (s₁.setTop (mkF m 17 #[.val (.ref a1), .val (.int p2), .val (.long ((((p2.toInt64) * (nn.toInt64)) + (999 : Int64)) / (1000 : Int64))), .second] [(.long ((((p2.toInt64) * (nn.toInt64)) + (999 : Int64)) / (1000 : Int64))), (.ref a1)])) _
    refine XS.l2i X0.here hx rfl (hb hby d1_17) rfl ?_
    show Steps p.tables e below (s₁.setTop (mkF m 18 #[.val (.ref a1), .val (.int p2), .val (.long ((((p2.toInt64) * (nn.toInt64)) + (999 : Int64)) / (1000 : Int64))), .second] [(.int (((((p2.toInt64) * (nn.toInt64)) + (999 : Int64)) / (1000 : Int64)).toInt32)), (.ref a1)])) _
    refine XS.iconst X0.here hx rfl (hb hby d1_18) ?_
    show Steps p.tables e below (s₁.setTop (mkF m 19 #[.val (.ref a1), .val (.int p2), .val (.long ((((p2.toInt64) * (nn.toInt64)) + (999 : Int64)) / (1000 : Int64))), .second] [(.int (1 : Int32)), (.int (((((p2.toInt64) * (nn.toInt64)) + (999 : Int64)) / (1000 : Int64)).toInt32)), (.ref a1)])) _
    refine XS.isub X0.here hx rfl (hb hby d1_19) rfl ?_
    show Steps p.tables e below (s₁.setTop (mkF m 20 #[.val (.ref a1), .val (.int p2), .val (.long ((((p2.toInt64) * (nn.toInt64)) + (999 : Int64)) / (1000 : Int64))), .second] [(.int ((((((p2.toInt64) * (nn.toInt64)) + (999 : Int64)) / (1000 : Int64)).toInt32) - (1 : Int32))), (.ref a1)])) _
    refine X0.laload hx (j := ((((((p2.toInt64) * (nn.toInt64)) + (999 : Int64)) / (1000 : Int64)).toInt32) - (1 : Int32))) (v := (.long r)) (by rw [e0]; exact Ac2.1) (State.isArrayOf_alike hZ.alike Ac2.2.1) Ac2.2.2 hinc2 (Has.at Hc2 hinc2 hget) (g := (mkF m 20 #[.val (.ref a1), .val (.int p2), .val (.long ((((p2.toInt64) * (nn.toInt64)) + (999 : Int64)) / (1000 : Int64))), .second] [(.int ((((((p2.toInt64) * (nn.toInt64)) + (999 : Int64)) / (1000 : Int64)).toInt32) - (1 : Int32))), (.ref a1)])) rfl rfl (hb hby d1_20) _ ?_
    show Steps p.tables e below (s₁.setTop (mkF m 21 #[.val (.ref a1), .val (.int p2), .val (.long ((((p2.toInt64) * (nn.toInt64)) + (999 : Int64)) / (1000 : Int64))), .second] [(.long r)])) _
    jvm_step X0.here [X0.here.top, hx, (hb hby d1_21), X0.method', Bd.returns, narrow]
    first | (intro acts; rw [hr _ acts rfl rfl rfl]) | rw [hr _ _ rfl rfl rfl]
    exact Steps.refl _
  · show Q_rm1 Z a1 p2 kk nn vs r h0 n0 _ s₁.heap _
    rw [e0]
    exact ⟨rfl, N0, rfl⟩
theorem own_n (p : Int32) : ((p &&& (7 : Int32)) + (1 : Int32)) = (1 : Int32) ∨ ((p &&& (7 : Int32)) + (1 : Int32)) = (2 : Int32) ∨ ((p &&& (7 : Int32)) + (1 : Int32)) = (3 : Int32) ∨ ((p &&& (7 : Int32)) + (1 : Int32)) = (4 : Int32) ∨ ((p &&& (7 : Int32)) + (1 : Int32)) = (5 : Int32) ∨ ((p &&& (7 : Int32)) + (1 : Int32)) = (6 : Int32) ∨ ((p &&& (7 : Int32)) + (1 : Int32)) = (7 : Int32) ∨ ((p &&& (7 : Int32)) + (1 : Int32)) = (8 : Int32) := by
  have e : (p &&& (7 : Int32)).toInt = p.toInt % 2 ^ 3 := Jvm.Kit.i32_mask p _ (k := 3) (by decide) (by decide)
  have e1 : (1 : Int32).toInt = 1 := by decide
  have e2 : ((p &&& (7 : Int32)) + (1 : Int32)).toInt = p.toInt % 2 ^ 3 + 1 := by rw [Jvm.Kit.i32_add (by omega) (by omega), e, e1]
  have q : ((p &&& (7 : Int32)) + (1 : Int32)).toInt = 1 ∨ ((p &&& (7 : Int32)) + (1 : Int32)).toInt = 2 ∨ ((p &&& (7 : Int32)) + (1 : Int32)).toInt = 3 ∨ ((p &&& (7 : Int32)) + (1 : Int32)).toInt = 4 ∨ ((p &&& (7 : Int32)) + (1 : Int32)).toInt = 5 ∨ ((p &&& (7 : Int32)) + (1 : Int32)).toInt = 6 ∨ ((p &&& (7 : Int32)) + (1 : Int32)).toInt = 7 ∨ ((p &&& (7 : Int32)) + (1 : Int32)).toInt = 8 := by omega
  rcases q with q | q | q | q | q | q | q | q
  · exact Or.inl (Int32.toInt_inj.mp q)
  · exact Or.inr (Or.inl (Int32.toInt_inj.mp q))
  · exact Or.inr (Or.inr (Or.inl (Int32.toInt_inj.mp q)))
  · exact Or.inr (Or.inr (Or.inr (Or.inl (Int32.toInt_inj.mp q))))
  · exact Or.inr (Or.inr (Or.inr (Or.inr (Or.inl (Int32.toInt_inj.mp q)))))
  · exact Or.inr (Or.inr (Or.inr (Or.inr (Or.inr (Or.inl (Int32.toInt_inj.mp q))))))
  · exact Or.inr (Or.inr (Or.inr (Or.inr (Or.inr (Or.inr (Or.inl (Int32.toInt_inj.mp q)))))))
  · exact Or.inr (Or.inr (Or.inr (Or.inr (Or.inr (Or.inr (Or.inr (Int32.toInt_inj.mp q)))))))
theorem own_q (p : Int32) : 1 ≤ (((p &&& (2147483647 : Int32)) % (1000 : Int32)) + (1 : Int32)).toInt ∧ (((p &&& (2147483647 : Int32)) % (1000 : Int32)) + (1 : Int32)).toInt ≤ 1000 := by
  have e : (p &&& (2147483647 : Int32)).toInt = p.toInt % 2 ^ 31 := Jvm.Kit.i32_mask p _ (k := 31) (by decide) (by decide)
  have e1 : ((p &&& (2147483647 : Int32)) % (1000 : Int32)).toInt = (p.toInt % 2 ^ 31) % 1000 := by
    rw [Jvm.Kit.i32_rem_nonneg (by omega), e]; rfl
  have e2 : (1 : Int32).toInt = 1 := by decide
  rw [Jvm.Kit.i32_add (by omega) (by omega), e1, e2]; omega
theorem own_c1 {q : Int32} (hq : 1 ≤ q.toInt ∧ q.toInt ≤ 1000)  : (0 : Int32).toInt = ((((((q.toInt64) * ((1 : Int32).toInt64)) + (999 : Int64)) / (1000 : Int64)).toInt32) - (1 : Int32)).toInt ∧ 0 ≤ (0 : Int32).toInt ∧ (0 : Int32).toInt < 1 := by
  have en : ((1 : Int32).toInt64).toInt = 1 := by decide
  have eq : (q.toInt64).toInt = q.toInt := Jvm.Kit.i64_of_i32 q
  have ep : (q.toInt64 * (1 : Int32).toInt64).toInt = q.toInt * 1 := by rw [Jvm.Kit.i64_mul (by rw [eq, en]; omega) (by rw [eq, en]; omega), eq, en]
  have e9 : (999 : Int64).toInt = 999 := by decide
  have ek : (1000 : Int64).toInt = 1000 := by decide
  have o1 : (1 : Int32).toInt = 1 := by decide
  have o0 : (0 : Int32).toInt = 0 := by decide
  have es : ((q.toInt64 * (1 : Int32).toInt64) + (999 : Int64)).toInt = q.toInt * 1 + 999 := by rw [Jvm.Kit.i64_add (by rw [ep, e9]; omega) (by rw [ep, e9]; omega), ep, e9]
  have ed : (((q.toInt64 * (1 : Int32).toInt64) + (999 : Int64)) / (1000 : Int64)).toInt = (q.toInt * 1 + 999) / 1000 := by
    rw [Jvm.Kit.i64_div (by rw [ek]; omega), es, ek]; exact Int.tdiv_eq_ediv_of_nonneg (by omega)
  have er : (((q.toInt64 * (1 : Int32).toInt64) + (999 : Int64)) / (1000 : Int64)).toInt32.toInt = (q.toInt * 1 + 999) / 1000 := by rw [Jvm.Kit.i32_of_i64 (by rw [ed]; omega) (by rw [ed]; omega), ed]
  have ex : ((((((q.toInt64) * ((1 : Int32).toInt64)) + (999 : Int64)) / (1000 : Int64)).toInt32) - (1 : Int32)).toInt = (q.toInt * 1 + 999) / 1000 - 1 := by rw [Jvm.Kit.i32_sub (by rw [er, o1]; omega) (by rw [er, o1]; omega), er, o1]
  have b0 : (0 : Int32).toInt = 0 := o0
  rw [ex]; omega
theorem own_g1 {lo : Int64} {i x : Int32} (he : i.toInt = x.toInt) (h0 : 0 ≤ i.toInt) (h1 : i.toInt < 1) : ([(.long lo)] : List Value).getD x.toNatClampNeg (.long (0 : Int64)) = .long (lo + i.toInt64) := by
  have e : x = i := Int32.toInt_inj.mp he.symm
  subst e
  have q : x.toInt = 0 := by omega
  rcases q with q
  have e : x = (0 : Int32) := Int32.toInt_inj.mp q
  subst e; show Value.long lo = Value.long (lo + 0); rw [Int64.add_zero]
theorem own_i1 {x i : Int32} (he : i.toInt = x.toInt) (h0 : 0 ≤ i.toInt) (h1 : i.toInt < 1) : ¬ x < 0 ∧ x < (1 : Int32) := by
  have e : (1 : Int32).toInt = 1 := by decide
  rw [Int32.lt_iff_toInt_lt, Int32.lt_iff_toInt_lt, Int32.toInt_zero, e]; omega
theorem own_c2 {q : Int32} (hq : 1 ≤ q.toInt ∧ q.toInt ≤ 1000) {i1 : Int32} (h1 : i1 = (if (1000 : Int64) < (q.toInt64 * (2 : Int32).toInt64) then ((0 : Int32) + (1 : Int32)) else (0 : Int32))) : i1.toInt = ((((((q.toInt64) * ((2 : Int32).toInt64)) + (999 : Int64)) / (1000 : Int64)).toInt32) - (1 : Int32)).toInt ∧ 0 ≤ i1.toInt ∧ i1.toInt < 2 := by
  have en : ((2 : Int32).toInt64).toInt = 2 := by decide
  have eq : (q.toInt64).toInt = q.toInt := Jvm.Kit.i64_of_i32 q
  have ep : (q.toInt64 * (2 : Int32).toInt64).toInt = q.toInt * 2 := by rw [Jvm.Kit.i64_mul (by rw [eq, en]; omega) (by rw [eq, en]; omega), eq, en]
  have e9 : (999 : Int64).toInt = 999 := by decide
  have ek : (1000 : Int64).toInt = 1000 := by decide
  have o1 : (1 : Int32).toInt = 1 := by decide
  have o0 : (0 : Int32).toInt = 0 := by decide
  have es : ((q.toInt64 * (2 : Int32).toInt64) + (999 : Int64)).toInt = q.toInt * 2 + 999 := by rw [Jvm.Kit.i64_add (by rw [ep, e9]; omega) (by rw [ep, e9]; omega), ep, e9]
  have ed : (((q.toInt64 * (2 : Int32).toInt64) + (999 : Int64)) / (1000 : Int64)).toInt = (q.toInt * 2 + 999) / 1000 := by
    rw [Jvm.Kit.i64_div (by rw [ek]; omega), es, ek]; exact Int.tdiv_eq_ediv_of_nonneg (by omega)
  have er : (((q.toInt64 * (2 : Int32).toInt64) + (999 : Int64)) / (1000 : Int64)).toInt32.toInt = (q.toInt * 2 + 999) / 1000 := by rw [Jvm.Kit.i32_of_i64 (by rw [ed]; omega) (by rw [ed]; omega), ed]
  have ex : ((((((q.toInt64) * ((2 : Int32).toInt64)) + (999 : Int64)) / (1000 : Int64)).toInt32) - (1 : Int32)).toInt = (q.toInt * 2 + 999) / 1000 - 1 := by rw [Jvm.Kit.i32_sub (by rw [er, o1]; omega) (by rw [er, o1]; omega), er, o1]
  have b0 : (0 : Int32).toInt = 0 := o0
  have k1 : (1000 : Int64).toInt = 1000 := by decide
  have b1 : (1000 < q.toInt * 2 → i1.toInt = (0 : Int32).toInt + 1) ∧ (¬ 1000 < q.toInt * 2 → i1.toInt = (0 : Int32).toInt) ∧ 0 ≤ i1.toInt ∧ i1.toInt ≤ 1 := by
    rw [h1]
    by_cases c : (1000 : Int64) < (q.toInt64 * (2 : Int32).toInt64)
    · rw [if_pos c]; rw [Int64.lt_iff_toInt_lt, ep, k1] at c; rw [Jvm.Kit.i32_add (by omega) (by omega), o1]; omega
    · rw [if_neg c]; rw [Int64.lt_iff_toInt_lt, ep, k1] at c; omega
  rw [ex]; omega
theorem own_g2 {lo : Int64} {i x : Int32} (he : i.toInt = x.toInt) (h0 : 0 ≤ i.toInt) (h1 : i.toInt < 2) : ([(.long lo), (.long (lo + (1 : Int64)))] : List Value).getD x.toNatClampNeg (.long (0 : Int64)) = .long (lo + i.toInt64) := by
  have e : x = i := Int32.toInt_inj.mp he.symm
  subst e
  have q : x.toInt = 0 ∨ x.toInt = 1 := by omega
  rcases q with q | q
  · have e : x = (0 : Int32) := Int32.toInt_inj.mp q
    subst e; show Value.long lo = Value.long (lo + 0); rw [Int64.add_zero]
  · have e : x = (1 : Int32) := Int32.toInt_inj.mp q
    subst e; rfl
theorem own_i2 {x i : Int32} (he : i.toInt = x.toInt) (h0 : 0 ≤ i.toInt) (h1 : i.toInt < 2) : ¬ x < 0 ∧ x < (2 : Int32) := by
  have e : (2 : Int32).toInt = 2 := by decide
  rw [Int32.lt_iff_toInt_lt, Int32.lt_iff_toInt_lt, Int32.toInt_zero, e]; omega
theorem own_c3 {q : Int32} (hq : 1 ≤ q.toInt ∧ q.toInt ≤ 1000) {i1 i2 : Int32} (h1 : i1 = (if (1000 : Int64) < (q.toInt64 * (3 : Int32).toInt64) then ((0 : Int32) + (1 : Int32)) else (0 : Int32))) (h2 : i2 = (if (2000 : Int64) < (q.toInt64 * (3 : Int32).toInt64) then (i1 + (1 : Int32)) else i1)) : i2.toInt = ((((((q.toInt64) * ((3 : Int32).toInt64)) + (999 : Int64)) / (1000 : Int64)).toInt32) - (1 : Int32)).toInt ∧ 0 ≤ i2.toInt ∧ i2.toInt < 3 := by
  have en : ((3 : Int32).toInt64).toInt = 3 := by decide
  have eq : (q.toInt64).toInt = q.toInt := Jvm.Kit.i64_of_i32 q
  have ep : (q.toInt64 * (3 : Int32).toInt64).toInt = q.toInt * 3 := by rw [Jvm.Kit.i64_mul (by rw [eq, en]; omega) (by rw [eq, en]; omega), eq, en]
  have e9 : (999 : Int64).toInt = 999 := by decide
  have ek : (1000 : Int64).toInt = 1000 := by decide
  have o1 : (1 : Int32).toInt = 1 := by decide
  have o0 : (0 : Int32).toInt = 0 := by decide
  have es : ((q.toInt64 * (3 : Int32).toInt64) + (999 : Int64)).toInt = q.toInt * 3 + 999 := by rw [Jvm.Kit.i64_add (by rw [ep, e9]; omega) (by rw [ep, e9]; omega), ep, e9]
  have ed : (((q.toInt64 * (3 : Int32).toInt64) + (999 : Int64)) / (1000 : Int64)).toInt = (q.toInt * 3 + 999) / 1000 := by
    rw [Jvm.Kit.i64_div (by rw [ek]; omega), es, ek]; exact Int.tdiv_eq_ediv_of_nonneg (by omega)
  have er : (((q.toInt64 * (3 : Int32).toInt64) + (999 : Int64)) / (1000 : Int64)).toInt32.toInt = (q.toInt * 3 + 999) / 1000 := by rw [Jvm.Kit.i32_of_i64 (by rw [ed]; omega) (by rw [ed]; omega), ed]
  have ex : ((((((q.toInt64) * ((3 : Int32).toInt64)) + (999 : Int64)) / (1000 : Int64)).toInt32) - (1 : Int32)).toInt = (q.toInt * 3 + 999) / 1000 - 1 := by rw [Jvm.Kit.i32_sub (by rw [er, o1]; omega) (by rw [er, o1]; omega), er, o1]
  have b0 : (0 : Int32).toInt = 0 := o0
  have k1 : (1000 : Int64).toInt = 1000 := by decide
  have b1 : (1000 < q.toInt * 3 → i1.toInt = (0 : Int32).toInt + 1) ∧ (¬ 1000 < q.toInt * 3 → i1.toInt = (0 : Int32).toInt) ∧ 0 ≤ i1.toInt ∧ i1.toInt ≤ 1 := by
    rw [h1]
    by_cases c : (1000 : Int64) < (q.toInt64 * (3 : Int32).toInt64)
    · rw [if_pos c]; rw [Int64.lt_iff_toInt_lt, ep, k1] at c; rw [Jvm.Kit.i32_add (by omega) (by omega), o1]; omega
    · rw [if_neg c]; rw [Int64.lt_iff_toInt_lt, ep, k1] at c; omega
  have k2 : (2000 : Int64).toInt = 2000 := by decide
  have b2 : (2000 < q.toInt * 3 → i2.toInt = i1.toInt + 1) ∧ (¬ 2000 < q.toInt * 3 → i2.toInt = i1.toInt) ∧ 0 ≤ i2.toInt ∧ i2.toInt ≤ 2 := by
    rw [h2]
    by_cases c : (2000 : Int64) < (q.toInt64 * (3 : Int32).toInt64)
    · rw [if_pos c]; rw [Int64.lt_iff_toInt_lt, ep, k2] at c; rw [Jvm.Kit.i32_add (by omega) (by omega), o1]; omega
    · rw [if_neg c]; rw [Int64.lt_iff_toInt_lt, ep, k2] at c; omega
  rw [ex]; omega
theorem own_g3 {lo : Int64} {i x : Int32} (he : i.toInt = x.toInt) (h0 : 0 ≤ i.toInt) (h1 : i.toInt < 3) : ([(.long lo), (.long (lo + (1 : Int64))), (.long (lo + (2 : Int64)))] : List Value).getD x.toNatClampNeg (.long (0 : Int64)) = .long (lo + i.toInt64) := by
  have e : x = i := Int32.toInt_inj.mp he.symm
  subst e
  have q : x.toInt = 0 ∨ x.toInt = 1 ∨ x.toInt = 2 := by omega
  rcases q with q | q | q
  · have e : x = (0 : Int32) := Int32.toInt_inj.mp q
    subst e; show Value.long lo = Value.long (lo + 0); rw [Int64.add_zero]
  · have e : x = (1 : Int32) := Int32.toInt_inj.mp q
    subst e; rfl
  · have e : x = (2 : Int32) := Int32.toInt_inj.mp q
    subst e; rfl
theorem own_i3 {x i : Int32} (he : i.toInt = x.toInt) (h0 : 0 ≤ i.toInt) (h1 : i.toInt < 3) : ¬ x < 0 ∧ x < (3 : Int32) := by
  have e : (3 : Int32).toInt = 3 := by decide
  rw [Int32.lt_iff_toInt_lt, Int32.lt_iff_toInt_lt, Int32.toInt_zero, e]; omega
theorem own_c4 {q : Int32} (hq : 1 ≤ q.toInt ∧ q.toInt ≤ 1000) {i1 i2 i3 : Int32} (h1 : i1 = (if (1000 : Int64) < (q.toInt64 * (4 : Int32).toInt64) then ((0 : Int32) + (1 : Int32)) else (0 : Int32))) (h2 : i2 = (if (2000 : Int64) < (q.toInt64 * (4 : Int32).toInt64) then (i1 + (1 : Int32)) else i1)) (h3 : i3 = (if (3000 : Int64) < (q.toInt64 * (4 : Int32).toInt64) then (i2 + (1 : Int32)) else i2)) : i3.toInt = ((((((q.toInt64) * ((4 : Int32).toInt64)) + (999 : Int64)) / (1000 : Int64)).toInt32) - (1 : Int32)).toInt ∧ 0 ≤ i3.toInt ∧ i3.toInt < 4 := by
  have en : ((4 : Int32).toInt64).toInt = 4 := by decide
  have eq : (q.toInt64).toInt = q.toInt := Jvm.Kit.i64_of_i32 q
  have ep : (q.toInt64 * (4 : Int32).toInt64).toInt = q.toInt * 4 := by rw [Jvm.Kit.i64_mul (by rw [eq, en]; omega) (by rw [eq, en]; omega), eq, en]
  have e9 : (999 : Int64).toInt = 999 := by decide
  have ek : (1000 : Int64).toInt = 1000 := by decide
  have o1 : (1 : Int32).toInt = 1 := by decide
  have o0 : (0 : Int32).toInt = 0 := by decide
  have es : ((q.toInt64 * (4 : Int32).toInt64) + (999 : Int64)).toInt = q.toInt * 4 + 999 := by rw [Jvm.Kit.i64_add (by rw [ep, e9]; omega) (by rw [ep, e9]; omega), ep, e9]
  have ed : (((q.toInt64 * (4 : Int32).toInt64) + (999 : Int64)) / (1000 : Int64)).toInt = (q.toInt * 4 + 999) / 1000 := by
    rw [Jvm.Kit.i64_div (by rw [ek]; omega), es, ek]; exact Int.tdiv_eq_ediv_of_nonneg (by omega)
  have er : (((q.toInt64 * (4 : Int32).toInt64) + (999 : Int64)) / (1000 : Int64)).toInt32.toInt = (q.toInt * 4 + 999) / 1000 := by rw [Jvm.Kit.i32_of_i64 (by rw [ed]; omega) (by rw [ed]; omega), ed]
  have ex : ((((((q.toInt64) * ((4 : Int32).toInt64)) + (999 : Int64)) / (1000 : Int64)).toInt32) - (1 : Int32)).toInt = (q.toInt * 4 + 999) / 1000 - 1 := by rw [Jvm.Kit.i32_sub (by rw [er, o1]; omega) (by rw [er, o1]; omega), er, o1]
  have b0 : (0 : Int32).toInt = 0 := o0
  have k1 : (1000 : Int64).toInt = 1000 := by decide
  have b1 : (1000 < q.toInt * 4 → i1.toInt = (0 : Int32).toInt + 1) ∧ (¬ 1000 < q.toInt * 4 → i1.toInt = (0 : Int32).toInt) ∧ 0 ≤ i1.toInt ∧ i1.toInt ≤ 1 := by
    rw [h1]
    by_cases c : (1000 : Int64) < (q.toInt64 * (4 : Int32).toInt64)
    · rw [if_pos c]; rw [Int64.lt_iff_toInt_lt, ep, k1] at c; rw [Jvm.Kit.i32_add (by omega) (by omega), o1]; omega
    · rw [if_neg c]; rw [Int64.lt_iff_toInt_lt, ep, k1] at c; omega
  have k2 : (2000 : Int64).toInt = 2000 := by decide
  have b2 : (2000 < q.toInt * 4 → i2.toInt = i1.toInt + 1) ∧ (¬ 2000 < q.toInt * 4 → i2.toInt = i1.toInt) ∧ 0 ≤ i2.toInt ∧ i2.toInt ≤ 2 := by
    rw [h2]
    by_cases c : (2000 : Int64) < (q.toInt64 * (4 : Int32).toInt64)
    · rw [if_pos c]; rw [Int64.lt_iff_toInt_lt, ep, k2] at c; rw [Jvm.Kit.i32_add (by omega) (by omega), o1]; omega
    · rw [if_neg c]; rw [Int64.lt_iff_toInt_lt, ep, k2] at c; omega
  have k3 : (3000 : Int64).toInt = 3000 := by decide
  have b3 : (3000 < q.toInt * 4 → i3.toInt = i2.toInt + 1) ∧ (¬ 3000 < q.toInt * 4 → i3.toInt = i2.toInt) ∧ 0 ≤ i3.toInt ∧ i3.toInt ≤ 3 := by
    rw [h3]
    by_cases c : (3000 : Int64) < (q.toInt64 * (4 : Int32).toInt64)
    · rw [if_pos c]; rw [Int64.lt_iff_toInt_lt, ep, k3] at c; rw [Jvm.Kit.i32_add (by omega) (by omega), o1]; omega
    · rw [if_neg c]; rw [Int64.lt_iff_toInt_lt, ep, k3] at c; omega
  rw [ex]; omega
theorem own_g4 {lo : Int64} {i x : Int32} (he : i.toInt = x.toInt) (h0 : 0 ≤ i.toInt) (h1 : i.toInt < 4) : ([(.long lo), (.long (lo + (1 : Int64))), (.long (lo + (2 : Int64))), (.long (lo + (3 : Int64)))] : List Value).getD x.toNatClampNeg (.long (0 : Int64)) = .long (lo + i.toInt64) := by
  have e : x = i := Int32.toInt_inj.mp he.symm
  subst e
  have q : x.toInt = 0 ∨ x.toInt = 1 ∨ x.toInt = 2 ∨ x.toInt = 3 := by omega
  rcases q with q | q | q | q
  · have e : x = (0 : Int32) := Int32.toInt_inj.mp q
    subst e; show Value.long lo = Value.long (lo + 0); rw [Int64.add_zero]
  · have e : x = (1 : Int32) := Int32.toInt_inj.mp q
    subst e; rfl
  · have e : x = (2 : Int32) := Int32.toInt_inj.mp q
    subst e; rfl
  · have e : x = (3 : Int32) := Int32.toInt_inj.mp q
    subst e; rfl
theorem own_i4 {x i : Int32} (he : i.toInt = x.toInt) (h0 : 0 ≤ i.toInt) (h1 : i.toInt < 4) : ¬ x < 0 ∧ x < (4 : Int32) := by
  have e : (4 : Int32).toInt = 4 := by decide
  rw [Int32.lt_iff_toInt_lt, Int32.lt_iff_toInt_lt, Int32.toInt_zero, e]; omega
theorem own_c5 {q : Int32} (hq : 1 ≤ q.toInt ∧ q.toInt ≤ 1000) {i1 i2 i3 i4 : Int32} (h1 : i1 = (if (1000 : Int64) < (q.toInt64 * (5 : Int32).toInt64) then ((0 : Int32) + (1 : Int32)) else (0 : Int32))) (h2 : i2 = (if (2000 : Int64) < (q.toInt64 * (5 : Int32).toInt64) then (i1 + (1 : Int32)) else i1)) (h3 : i3 = (if (3000 : Int64) < (q.toInt64 * (5 : Int32).toInt64) then (i2 + (1 : Int32)) else i2)) (h4 : i4 = (if (4000 : Int64) < (q.toInt64 * (5 : Int32).toInt64) then (i3 + (1 : Int32)) else i3)) : i4.toInt = ((((((q.toInt64) * ((5 : Int32).toInt64)) + (999 : Int64)) / (1000 : Int64)).toInt32) - (1 : Int32)).toInt ∧ 0 ≤ i4.toInt ∧ i4.toInt < 5 := by
  have en : ((5 : Int32).toInt64).toInt = 5 := by decide
  have eq : (q.toInt64).toInt = q.toInt := Jvm.Kit.i64_of_i32 q
  have ep : (q.toInt64 * (5 : Int32).toInt64).toInt = q.toInt * 5 := by rw [Jvm.Kit.i64_mul (by rw [eq, en]; omega) (by rw [eq, en]; omega), eq, en]
  have e9 : (999 : Int64).toInt = 999 := by decide
  have ek : (1000 : Int64).toInt = 1000 := by decide
  have o1 : (1 : Int32).toInt = 1 := by decide
  have o0 : (0 : Int32).toInt = 0 := by decide
  have es : ((q.toInt64 * (5 : Int32).toInt64) + (999 : Int64)).toInt = q.toInt * 5 + 999 := by rw [Jvm.Kit.i64_add (by rw [ep, e9]; omega) (by rw [ep, e9]; omega), ep, e9]
  have ed : (((q.toInt64 * (5 : Int32).toInt64) + (999 : Int64)) / (1000 : Int64)).toInt = (q.toInt * 5 + 999) / 1000 := by
    rw [Jvm.Kit.i64_div (by rw [ek]; omega), es, ek]; exact Int.tdiv_eq_ediv_of_nonneg (by omega)
  have er : (((q.toInt64 * (5 : Int32).toInt64) + (999 : Int64)) / (1000 : Int64)).toInt32.toInt = (q.toInt * 5 + 999) / 1000 := by rw [Jvm.Kit.i32_of_i64 (by rw [ed]; omega) (by rw [ed]; omega), ed]
  have ex : ((((((q.toInt64) * ((5 : Int32).toInt64)) + (999 : Int64)) / (1000 : Int64)).toInt32) - (1 : Int32)).toInt = (q.toInt * 5 + 999) / 1000 - 1 := by rw [Jvm.Kit.i32_sub (by rw [er, o1]; omega) (by rw [er, o1]; omega), er, o1]
  have b0 : (0 : Int32).toInt = 0 := o0
  have k1 : (1000 : Int64).toInt = 1000 := by decide
  have b1 : (1000 < q.toInt * 5 → i1.toInt = (0 : Int32).toInt + 1) ∧ (¬ 1000 < q.toInt * 5 → i1.toInt = (0 : Int32).toInt) ∧ 0 ≤ i1.toInt ∧ i1.toInt ≤ 1 := by
    rw [h1]
    by_cases c : (1000 : Int64) < (q.toInt64 * (5 : Int32).toInt64)
    · rw [if_pos c]; rw [Int64.lt_iff_toInt_lt, ep, k1] at c; rw [Jvm.Kit.i32_add (by omega) (by omega), o1]; omega
    · rw [if_neg c]; rw [Int64.lt_iff_toInt_lt, ep, k1] at c; omega
  have k2 : (2000 : Int64).toInt = 2000 := by decide
  have b2 : (2000 < q.toInt * 5 → i2.toInt = i1.toInt + 1) ∧ (¬ 2000 < q.toInt * 5 → i2.toInt = i1.toInt) ∧ 0 ≤ i2.toInt ∧ i2.toInt ≤ 2 := by
    rw [h2]
    by_cases c : (2000 : Int64) < (q.toInt64 * (5 : Int32).toInt64)
    · rw [if_pos c]; rw [Int64.lt_iff_toInt_lt, ep, k2] at c; rw [Jvm.Kit.i32_add (by omega) (by omega), o1]; omega
    · rw [if_neg c]; rw [Int64.lt_iff_toInt_lt, ep, k2] at c; omega
  have k3 : (3000 : Int64).toInt = 3000 := by decide
  have b3 : (3000 < q.toInt * 5 → i3.toInt = i2.toInt + 1) ∧ (¬ 3000 < q.toInt * 5 → i3.toInt = i2.toInt) ∧ 0 ≤ i3.toInt ∧ i3.toInt ≤ 3 := by
    rw [h3]
    by_cases c : (3000 : Int64) < (q.toInt64 * (5 : Int32).toInt64)
    · rw [if_pos c]; rw [Int64.lt_iff_toInt_lt, ep, k3] at c; rw [Jvm.Kit.i32_add (by omega) (by omega), o1]; omega
    · rw [if_neg c]; rw [Int64.lt_iff_toInt_lt, ep, k3] at c; omega
  have k4 : (4000 : Int64).toInt = 4000 := by decide
  have b4 : (4000 < q.toInt * 5 → i4.toInt = i3.toInt + 1) ∧ (¬ 4000 < q.toInt * 5 → i4.toInt = i3.toInt) ∧ 0 ≤ i4.toInt ∧ i4.toInt ≤ 4 := by
    rw [h4]
    by_cases c : (4000 : Int64) < (q.toInt64 * (5 : Int32).toInt64)
    · rw [if_pos c]; rw [Int64.lt_iff_toInt_lt, ep, k4] at c; rw [Jvm.Kit.i32_add (by omega) (by omega), o1]; omega
    · rw [if_neg c]; rw [Int64.lt_iff_toInt_lt, ep, k4] at c; omega
  rw [ex]; omega
theorem own_g5 {lo : Int64} {i x : Int32} (he : i.toInt = x.toInt) (h0 : 0 ≤ i.toInt) (h1 : i.toInt < 5) : ([(.long lo), (.long (lo + (1 : Int64))), (.long (lo + (2 : Int64))), (.long (lo + (3 : Int64))), (.long (lo + (4 : Int64)))] : List Value).getD x.toNatClampNeg (.long (0 : Int64)) = .long (lo + i.toInt64) := by
  have e : x = i := Int32.toInt_inj.mp he.symm
  subst e
  have q : x.toInt = 0 ∨ x.toInt = 1 ∨ x.toInt = 2 ∨ x.toInt = 3 ∨ x.toInt = 4 := by omega
  rcases q with q | q | q | q | q
  · have e : x = (0 : Int32) := Int32.toInt_inj.mp q
    subst e; show Value.long lo = Value.long (lo + 0); rw [Int64.add_zero]
  · have e : x = (1 : Int32) := Int32.toInt_inj.mp q
    subst e; rfl
  · have e : x = (2 : Int32) := Int32.toInt_inj.mp q
    subst e; rfl
  · have e : x = (3 : Int32) := Int32.toInt_inj.mp q
    subst e; rfl
  · have e : x = (4 : Int32) := Int32.toInt_inj.mp q
    subst e; rfl
theorem own_i5 {x i : Int32} (he : i.toInt = x.toInt) (h0 : 0 ≤ i.toInt) (h1 : i.toInt < 5) : ¬ x < 0 ∧ x < (5 : Int32) := by
  have e : (5 : Int32).toInt = 5 := by decide
  rw [Int32.lt_iff_toInt_lt, Int32.lt_iff_toInt_lt, Int32.toInt_zero, e]; omega
theorem own_c6 {q : Int32} (hq : 1 ≤ q.toInt ∧ q.toInt ≤ 1000) {i1 i2 i3 i4 i5 : Int32} (h1 : i1 = (if (1000 : Int64) < (q.toInt64 * (6 : Int32).toInt64) then ((0 : Int32) + (1 : Int32)) else (0 : Int32))) (h2 : i2 = (if (2000 : Int64) < (q.toInt64 * (6 : Int32).toInt64) then (i1 + (1 : Int32)) else i1)) (h3 : i3 = (if (3000 : Int64) < (q.toInt64 * (6 : Int32).toInt64) then (i2 + (1 : Int32)) else i2)) (h4 : i4 = (if (4000 : Int64) < (q.toInt64 * (6 : Int32).toInt64) then (i3 + (1 : Int32)) else i3)) (h5 : i5 = (if (5000 : Int64) < (q.toInt64 * (6 : Int32).toInt64) then (i4 + (1 : Int32)) else i4)) : i5.toInt = ((((((q.toInt64) * ((6 : Int32).toInt64)) + (999 : Int64)) / (1000 : Int64)).toInt32) - (1 : Int32)).toInt ∧ 0 ≤ i5.toInt ∧ i5.toInt < 6 := by
  have en : ((6 : Int32).toInt64).toInt = 6 := by decide
  have eq : (q.toInt64).toInt = q.toInt := Jvm.Kit.i64_of_i32 q
  have ep : (q.toInt64 * (6 : Int32).toInt64).toInt = q.toInt * 6 := by rw [Jvm.Kit.i64_mul (by rw [eq, en]; omega) (by rw [eq, en]; omega), eq, en]
  have e9 : (999 : Int64).toInt = 999 := by decide
  have ek : (1000 : Int64).toInt = 1000 := by decide
  have o1 : (1 : Int32).toInt = 1 := by decide
  have o0 : (0 : Int32).toInt = 0 := by decide
  have es : ((q.toInt64 * (6 : Int32).toInt64) + (999 : Int64)).toInt = q.toInt * 6 + 999 := by rw [Jvm.Kit.i64_add (by rw [ep, e9]; omega) (by rw [ep, e9]; omega), ep, e9]
  have ed : (((q.toInt64 * (6 : Int32).toInt64) + (999 : Int64)) / (1000 : Int64)).toInt = (q.toInt * 6 + 999) / 1000 := by
    rw [Jvm.Kit.i64_div (by rw [ek]; omega), es, ek]; exact Int.tdiv_eq_ediv_of_nonneg (by omega)
  have er : (((q.toInt64 * (6 : Int32).toInt64) + (999 : Int64)) / (1000 : Int64)).toInt32.toInt = (q.toInt * 6 + 999) / 1000 := by rw [Jvm.Kit.i32_of_i64 (by rw [ed]; omega) (by rw [ed]; omega), ed]
  have ex : ((((((q.toInt64) * ((6 : Int32).toInt64)) + (999 : Int64)) / (1000 : Int64)).toInt32) - (1 : Int32)).toInt = (q.toInt * 6 + 999) / 1000 - 1 := by rw [Jvm.Kit.i32_sub (by rw [er, o1]; omega) (by rw [er, o1]; omega), er, o1]
  have b0 : (0 : Int32).toInt = 0 := o0
  have k1 : (1000 : Int64).toInt = 1000 := by decide
  have b1 : (1000 < q.toInt * 6 → i1.toInt = (0 : Int32).toInt + 1) ∧ (¬ 1000 < q.toInt * 6 → i1.toInt = (0 : Int32).toInt) ∧ 0 ≤ i1.toInt ∧ i1.toInt ≤ 1 := by
    rw [h1]
    by_cases c : (1000 : Int64) < (q.toInt64 * (6 : Int32).toInt64)
    · rw [if_pos c]; rw [Int64.lt_iff_toInt_lt, ep, k1] at c; rw [Jvm.Kit.i32_add (by omega) (by omega), o1]; omega
    · rw [if_neg c]; rw [Int64.lt_iff_toInt_lt, ep, k1] at c; omega
  have k2 : (2000 : Int64).toInt = 2000 := by decide
  have b2 : (2000 < q.toInt * 6 → i2.toInt = i1.toInt + 1) ∧ (¬ 2000 < q.toInt * 6 → i2.toInt = i1.toInt) ∧ 0 ≤ i2.toInt ∧ i2.toInt ≤ 2 := by
    rw [h2]
    by_cases c : (2000 : Int64) < (q.toInt64 * (6 : Int32).toInt64)
    · rw [if_pos c]; rw [Int64.lt_iff_toInt_lt, ep, k2] at c; rw [Jvm.Kit.i32_add (by omega) (by omega), o1]; omega
    · rw [if_neg c]; rw [Int64.lt_iff_toInt_lt, ep, k2] at c; omega
  have k3 : (3000 : Int64).toInt = 3000 := by decide
  have b3 : (3000 < q.toInt * 6 → i3.toInt = i2.toInt + 1) ∧ (¬ 3000 < q.toInt * 6 → i3.toInt = i2.toInt) ∧ 0 ≤ i3.toInt ∧ i3.toInt ≤ 3 := by
    rw [h3]
    by_cases c : (3000 : Int64) < (q.toInt64 * (6 : Int32).toInt64)
    · rw [if_pos c]; rw [Int64.lt_iff_toInt_lt, ep, k3] at c; rw [Jvm.Kit.i32_add (by omega) (by omega), o1]; omega
    · rw [if_neg c]; rw [Int64.lt_iff_toInt_lt, ep, k3] at c; omega
  have k4 : (4000 : Int64).toInt = 4000 := by decide
  have b4 : (4000 < q.toInt * 6 → i4.toInt = i3.toInt + 1) ∧ (¬ 4000 < q.toInt * 6 → i4.toInt = i3.toInt) ∧ 0 ≤ i4.toInt ∧ i4.toInt ≤ 4 := by
    rw [h4]
    by_cases c : (4000 : Int64) < (q.toInt64 * (6 : Int32).toInt64)
    · rw [if_pos c]; rw [Int64.lt_iff_toInt_lt, ep, k4] at c; rw [Jvm.Kit.i32_add (by omega) (by omega), o1]; omega
    · rw [if_neg c]; rw [Int64.lt_iff_toInt_lt, ep, k4] at c; omega
  have k5 : (5000 : Int64).toInt = 5000 := by decide
  have b5 : (5000 < q.toInt * 6 → i5.toInt = i4.toInt + 1) ∧ (¬ 5000 < q.toInt * 6 → i5.toInt = i4.toInt) ∧ 0 ≤ i5.toInt ∧ i5.toInt ≤ 5 := by
    rw [h5]
    by_cases c : (5000 : Int64) < (q.toInt64 * (6 : Int32).toInt64)
    · rw [if_pos c]; rw [Int64.lt_iff_toInt_lt, ep, k5] at c; rw [Jvm.Kit.i32_add (by omega) (by omega), o1]; omega
    · rw [if_neg c]; rw [Int64.lt_iff_toInt_lt, ep, k5] at c; omega
  rw [ex]; omega
theorem own_g6 {lo : Int64} {i x : Int32} (he : i.toInt = x.toInt) (h0 : 0 ≤ i.toInt) (h1 : i.toInt < 6) : ([(.long lo), (.long (lo + (1 : Int64))), (.long (lo + (2 : Int64))), (.long (lo + (3 : Int64))), (.long (lo + (4 : Int64))), (.long (lo + (5 : Int64)))] : List Value).getD x.toNatClampNeg (.long (0 : Int64)) = .long (lo + i.toInt64) := by
  have e : x = i := Int32.toInt_inj.mp he.symm
  subst e
  have q : x.toInt = 0 ∨ x.toInt = 1 ∨ x.toInt = 2 ∨ x.toInt = 3 ∨ x.toInt = 4 ∨ x.toInt = 5 := by omega
  rcases q with q | q | q | q | q | q
  · have e : x = (0 : Int32) := Int32.toInt_inj.mp q
    subst e; show Value.long lo = Value.long (lo + 0); rw [Int64.add_zero]
  · have e : x = (1 : Int32) := Int32.toInt_inj.mp q
    subst e; rfl
  · have e : x = (2 : Int32) := Int32.toInt_inj.mp q
    subst e; rfl
  · have e : x = (3 : Int32) := Int32.toInt_inj.mp q
    subst e; rfl
  · have e : x = (4 : Int32) := Int32.toInt_inj.mp q
    subst e; rfl
  · have e : x = (5 : Int32) := Int32.toInt_inj.mp q
    subst e; rfl
theorem own_i6 {x i : Int32} (he : i.toInt = x.toInt) (h0 : 0 ≤ i.toInt) (h1 : i.toInt < 6) : ¬ x < 0 ∧ x < (6 : Int32) := by
  have e : (6 : Int32).toInt = 6 := by decide
  rw [Int32.lt_iff_toInt_lt, Int32.lt_iff_toInt_lt, Int32.toInt_zero, e]; omega
theorem own_c7 {q : Int32} (hq : 1 ≤ q.toInt ∧ q.toInt ≤ 1000) {i1 i2 i3 i4 i5 i6 : Int32} (h1 : i1 = (if (1000 : Int64) < (q.toInt64 * (7 : Int32).toInt64) then ((0 : Int32) + (1 : Int32)) else (0 : Int32))) (h2 : i2 = (if (2000 : Int64) < (q.toInt64 * (7 : Int32).toInt64) then (i1 + (1 : Int32)) else i1)) (h3 : i3 = (if (3000 : Int64) < (q.toInt64 * (7 : Int32).toInt64) then (i2 + (1 : Int32)) else i2)) (h4 : i4 = (if (4000 : Int64) < (q.toInt64 * (7 : Int32).toInt64) then (i3 + (1 : Int32)) else i3)) (h5 : i5 = (if (5000 : Int64) < (q.toInt64 * (7 : Int32).toInt64) then (i4 + (1 : Int32)) else i4)) (h6 : i6 = (if (6000 : Int64) < (q.toInt64 * (7 : Int32).toInt64) then (i5 + (1 : Int32)) else i5)) : i6.toInt = ((((((q.toInt64) * ((7 : Int32).toInt64)) + (999 : Int64)) / (1000 : Int64)).toInt32) - (1 : Int32)).toInt ∧ 0 ≤ i6.toInt ∧ i6.toInt < 7 := by
  have en : ((7 : Int32).toInt64).toInt = 7 := by decide
  have eq : (q.toInt64).toInt = q.toInt := Jvm.Kit.i64_of_i32 q
  have ep : (q.toInt64 * (7 : Int32).toInt64).toInt = q.toInt * 7 := by rw [Jvm.Kit.i64_mul (by rw [eq, en]; omega) (by rw [eq, en]; omega), eq, en]
  have e9 : (999 : Int64).toInt = 999 := by decide
  have ek : (1000 : Int64).toInt = 1000 := by decide
  have o1 : (1 : Int32).toInt = 1 := by decide
  have o0 : (0 : Int32).toInt = 0 := by decide
  have es : ((q.toInt64 * (7 : Int32).toInt64) + (999 : Int64)).toInt = q.toInt * 7 + 999 := by rw [Jvm.Kit.i64_add (by rw [ep, e9]; omega) (by rw [ep, e9]; omega), ep, e9]
  have ed : (((q.toInt64 * (7 : Int32).toInt64) + (999 : Int64)) / (1000 : Int64)).toInt = (q.toInt * 7 + 999) / 1000 := by
    rw [Jvm.Kit.i64_div (by rw [ek]; omega), es, ek]; exact Int.tdiv_eq_ediv_of_nonneg (by omega)
  have er : (((q.toInt64 * (7 : Int32).toInt64) + (999 : Int64)) / (1000 : Int64)).toInt32.toInt = (q.toInt * 7 + 999) / 1000 := by rw [Jvm.Kit.i32_of_i64 (by rw [ed]; omega) (by rw [ed]; omega), ed]
  have ex : ((((((q.toInt64) * ((7 : Int32).toInt64)) + (999 : Int64)) / (1000 : Int64)).toInt32) - (1 : Int32)).toInt = (q.toInt * 7 + 999) / 1000 - 1 := by rw [Jvm.Kit.i32_sub (by rw [er, o1]; omega) (by rw [er, o1]; omega), er, o1]
  have b0 : (0 : Int32).toInt = 0 := o0
  have k1 : (1000 : Int64).toInt = 1000 := by decide
  have b1 : (1000 < q.toInt * 7 → i1.toInt = (0 : Int32).toInt + 1) ∧ (¬ 1000 < q.toInt * 7 → i1.toInt = (0 : Int32).toInt) ∧ 0 ≤ i1.toInt ∧ i1.toInt ≤ 1 := by
    rw [h1]
    by_cases c : (1000 : Int64) < (q.toInt64 * (7 : Int32).toInt64)
    · rw [if_pos c]; rw [Int64.lt_iff_toInt_lt, ep, k1] at c; rw [Jvm.Kit.i32_add (by omega) (by omega), o1]; omega
    · rw [if_neg c]; rw [Int64.lt_iff_toInt_lt, ep, k1] at c; omega
  have k2 : (2000 : Int64).toInt = 2000 := by decide
  have b2 : (2000 < q.toInt * 7 → i2.toInt = i1.toInt + 1) ∧ (¬ 2000 < q.toInt * 7 → i2.toInt = i1.toInt) ∧ 0 ≤ i2.toInt ∧ i2.toInt ≤ 2 := by
    rw [h2]
    by_cases c : (2000 : Int64) < (q.toInt64 * (7 : Int32).toInt64)
    · rw [if_pos c]; rw [Int64.lt_iff_toInt_lt, ep, k2] at c; rw [Jvm.Kit.i32_add (by omega) (by omega), o1]; omega
    · rw [if_neg c]; rw [Int64.lt_iff_toInt_lt, ep, k2] at c; omega
  have k3 : (3000 : Int64).toInt = 3000 := by decide
  have b3 : (3000 < q.toInt * 7 → i3.toInt = i2.toInt + 1) ∧ (¬ 3000 < q.toInt * 7 → i3.toInt = i2.toInt) ∧ 0 ≤ i3.toInt ∧ i3.toInt ≤ 3 := by
    rw [h3]
    by_cases c : (3000 : Int64) < (q.toInt64 * (7 : Int32).toInt64)
    · rw [if_pos c]; rw [Int64.lt_iff_toInt_lt, ep, k3] at c; rw [Jvm.Kit.i32_add (by omega) (by omega), o1]; omega
    · rw [if_neg c]; rw [Int64.lt_iff_toInt_lt, ep, k3] at c; omega
  have k4 : (4000 : Int64).toInt = 4000 := by decide
  have b4 : (4000 < q.toInt * 7 → i4.toInt = i3.toInt + 1) ∧ (¬ 4000 < q.toInt * 7 → i4.toInt = i3.toInt) ∧ 0 ≤ i4.toInt ∧ i4.toInt ≤ 4 := by
    rw [h4]
    by_cases c : (4000 : Int64) < (q.toInt64 * (7 : Int32).toInt64)
    · rw [if_pos c]; rw [Int64.lt_iff_toInt_lt, ep, k4] at c; rw [Jvm.Kit.i32_add (by omega) (by omega), o1]; omega
    · rw [if_neg c]; rw [Int64.lt_iff_toInt_lt, ep, k4] at c; omega
  have k5 : (5000 : Int64).toInt = 5000 := by decide
  have b5 : (5000 < q.toInt * 7 → i5.toInt = i4.toInt + 1) ∧ (¬ 5000 < q.toInt * 7 → i5.toInt = i4.toInt) ∧ 0 ≤ i5.toInt ∧ i5.toInt ≤ 5 := by
    rw [h5]
    by_cases c : (5000 : Int64) < (q.toInt64 * (7 : Int32).toInt64)
    · rw [if_pos c]; rw [Int64.lt_iff_toInt_lt, ep, k5] at c; rw [Jvm.Kit.i32_add (by omega) (by omega), o1]; omega
    · rw [if_neg c]; rw [Int64.lt_iff_toInt_lt, ep, k5] at c; omega
  have k6 : (6000 : Int64).toInt = 6000 := by decide
  have b6 : (6000 < q.toInt * 7 → i6.toInt = i5.toInt + 1) ∧ (¬ 6000 < q.toInt * 7 → i6.toInt = i5.toInt) ∧ 0 ≤ i6.toInt ∧ i6.toInt ≤ 6 := by
    rw [h6]
    by_cases c : (6000 : Int64) < (q.toInt64 * (7 : Int32).toInt64)
    · rw [if_pos c]; rw [Int64.lt_iff_toInt_lt, ep, k6] at c; rw [Jvm.Kit.i32_add (by omega) (by omega), o1]; omega
    · rw [if_neg c]; rw [Int64.lt_iff_toInt_lt, ep, k6] at c; omega
  rw [ex]; omega
theorem own_g7 {lo : Int64} {i x : Int32} (he : i.toInt = x.toInt) (h0 : 0 ≤ i.toInt) (h1 : i.toInt < 7) : ([(.long lo), (.long (lo + (1 : Int64))), (.long (lo + (2 : Int64))), (.long (lo + (3 : Int64))), (.long (lo + (4 : Int64))), (.long (lo + (5 : Int64))), (.long (lo + (6 : Int64)))] : List Value).getD x.toNatClampNeg (.long (0 : Int64)) = .long (lo + i.toInt64) := by
  have e : x = i := Int32.toInt_inj.mp he.symm
  subst e
  have q : x.toInt = 0 ∨ x.toInt = 1 ∨ x.toInt = 2 ∨ x.toInt = 3 ∨ x.toInt = 4 ∨ x.toInt = 5 ∨ x.toInt = 6 := by omega
  rcases q with q | q | q | q | q | q | q
  · have e : x = (0 : Int32) := Int32.toInt_inj.mp q
    subst e; show Value.long lo = Value.long (lo + 0); rw [Int64.add_zero]
  · have e : x = (1 : Int32) := Int32.toInt_inj.mp q
    subst e; rfl
  · have e : x = (2 : Int32) := Int32.toInt_inj.mp q
    subst e; rfl
  · have e : x = (3 : Int32) := Int32.toInt_inj.mp q
    subst e; rfl
  · have e : x = (4 : Int32) := Int32.toInt_inj.mp q
    subst e; rfl
  · have e : x = (5 : Int32) := Int32.toInt_inj.mp q
    subst e; rfl
  · have e : x = (6 : Int32) := Int32.toInt_inj.mp q
    subst e; rfl
theorem own_i7 {x i : Int32} (he : i.toInt = x.toInt) (h0 : 0 ≤ i.toInt) (h1 : i.toInt < 7) : ¬ x < 0 ∧ x < (7 : Int32) := by
  have e : (7 : Int32).toInt = 7 := by decide
  rw [Int32.lt_iff_toInt_lt, Int32.lt_iff_toInt_lt, Int32.toInt_zero, e]; omega
theorem own_c8 {q : Int32} (hq : 1 ≤ q.toInt ∧ q.toInt ≤ 1000) {i1 i2 i3 i4 i5 i6 i7 : Int32} (h1 : i1 = (if (1000 : Int64) < (q.toInt64 * (8 : Int32).toInt64) then ((0 : Int32) + (1 : Int32)) else (0 : Int32))) (h2 : i2 = (if (2000 : Int64) < (q.toInt64 * (8 : Int32).toInt64) then (i1 + (1 : Int32)) else i1)) (h3 : i3 = (if (3000 : Int64) < (q.toInt64 * (8 : Int32).toInt64) then (i2 + (1 : Int32)) else i2)) (h4 : i4 = (if (4000 : Int64) < (q.toInt64 * (8 : Int32).toInt64) then (i3 + (1 : Int32)) else i3)) (h5 : i5 = (if (5000 : Int64) < (q.toInt64 * (8 : Int32).toInt64) then (i4 + (1 : Int32)) else i4)) (h6 : i6 = (if (6000 : Int64) < (q.toInt64 * (8 : Int32).toInt64) then (i5 + (1 : Int32)) else i5)) (h7 : i7 = (if (7000 : Int64) < (q.toInt64 * (8 : Int32).toInt64) then (i6 + (1 : Int32)) else i6)) : i7.toInt = ((((((q.toInt64) * ((8 : Int32).toInt64)) + (999 : Int64)) / (1000 : Int64)).toInt32) - (1 : Int32)).toInt ∧ 0 ≤ i7.toInt ∧ i7.toInt < 8 := by
  have en : ((8 : Int32).toInt64).toInt = 8 := by decide
  have eq : (q.toInt64).toInt = q.toInt := Jvm.Kit.i64_of_i32 q
  have ep : (q.toInt64 * (8 : Int32).toInt64).toInt = q.toInt * 8 := by rw [Jvm.Kit.i64_mul (by rw [eq, en]; omega) (by rw [eq, en]; omega), eq, en]
  have e9 : (999 : Int64).toInt = 999 := by decide
  have ek : (1000 : Int64).toInt = 1000 := by decide
  have o1 : (1 : Int32).toInt = 1 := by decide
  have o0 : (0 : Int32).toInt = 0 := by decide
  have es : ((q.toInt64 * (8 : Int32).toInt64) + (999 : Int64)).toInt = q.toInt * 8 + 999 := by rw [Jvm.Kit.i64_add (by rw [ep, e9]; omega) (by rw [ep, e9]; omega), ep, e9]
  have ed : (((q.toInt64 * (8 : Int32).toInt64) + (999 : Int64)) / (1000 : Int64)).toInt = (q.toInt * 8 + 999) / 1000 := by
    rw [Jvm.Kit.i64_div (by rw [ek]; omega), es, ek]; exact Int.tdiv_eq_ediv_of_nonneg (by omega)
  have er : (((q.toInt64 * (8 : Int32).toInt64) + (999 : Int64)) / (1000 : Int64)).toInt32.toInt = (q.toInt * 8 + 999) / 1000 := by rw [Jvm.Kit.i32_of_i64 (by rw [ed]; omega) (by rw [ed]; omega), ed]
  have ex : ((((((q.toInt64) * ((8 : Int32).toInt64)) + (999 : Int64)) / (1000 : Int64)).toInt32) - (1 : Int32)).toInt = (q.toInt * 8 + 999) / 1000 - 1 := by rw [Jvm.Kit.i32_sub (by rw [er, o1]; omega) (by rw [er, o1]; omega), er, o1]
  have b0 : (0 : Int32).toInt = 0 := o0
  have k1 : (1000 : Int64).toInt = 1000 := by decide
  have b1 : (1000 < q.toInt * 8 → i1.toInt = (0 : Int32).toInt + 1) ∧ (¬ 1000 < q.toInt * 8 → i1.toInt = (0 : Int32).toInt) ∧ 0 ≤ i1.toInt ∧ i1.toInt ≤ 1 := by
    rw [h1]
    by_cases c : (1000 : Int64) < (q.toInt64 * (8 : Int32).toInt64)
    · rw [if_pos c]; rw [Int64.lt_iff_toInt_lt, ep, k1] at c; rw [Jvm.Kit.i32_add (by omega) (by omega), o1]; omega
    · rw [if_neg c]; rw [Int64.lt_iff_toInt_lt, ep, k1] at c; omega
  have k2 : (2000 : Int64).toInt = 2000 := by decide
  have b2 : (2000 < q.toInt * 8 → i2.toInt = i1.toInt + 1) ∧ (¬ 2000 < q.toInt * 8 → i2.toInt = i1.toInt) ∧ 0 ≤ i2.toInt ∧ i2.toInt ≤ 2 := by
    rw [h2]
    by_cases c : (2000 : Int64) < (q.toInt64 * (8 : Int32).toInt64)
    · rw [if_pos c]; rw [Int64.lt_iff_toInt_lt, ep, k2] at c; rw [Jvm.Kit.i32_add (by omega) (by omega), o1]; omega
    · rw [if_neg c]; rw [Int64.lt_iff_toInt_lt, ep, k2] at c; omega
  have k3 : (3000 : Int64).toInt = 3000 := by decide
  have b3 : (3000 < q.toInt * 8 → i3.toInt = i2.toInt + 1) ∧ (¬ 3000 < q.toInt * 8 → i3.toInt = i2.toInt) ∧ 0 ≤ i3.toInt ∧ i3.toInt ≤ 3 := by
    rw [h3]
    by_cases c : (3000 : Int64) < (q.toInt64 * (8 : Int32).toInt64)
    · rw [if_pos c]; rw [Int64.lt_iff_toInt_lt, ep, k3] at c; rw [Jvm.Kit.i32_add (by omega) (by omega), o1]; omega
    · rw [if_neg c]; rw [Int64.lt_iff_toInt_lt, ep, k3] at c; omega
  have k4 : (4000 : Int64).toInt = 4000 := by decide
  have b4 : (4000 < q.toInt * 8 → i4.toInt = i3.toInt + 1) ∧ (¬ 4000 < q.toInt * 8 → i4.toInt = i3.toInt) ∧ 0 ≤ i4.toInt ∧ i4.toInt ≤ 4 := by
    rw [h4]
    by_cases c : (4000 : Int64) < (q.toInt64 * (8 : Int32).toInt64)
    · rw [if_pos c]; rw [Int64.lt_iff_toInt_lt, ep, k4] at c; rw [Jvm.Kit.i32_add (by omega) (by omega), o1]; omega
    · rw [if_neg c]; rw [Int64.lt_iff_toInt_lt, ep, k4] at c; omega
  have k5 : (5000 : Int64).toInt = 5000 := by decide
  have b5 : (5000 < q.toInt * 8 → i5.toInt = i4.toInt + 1) ∧ (¬ 5000 < q.toInt * 8 → i5.toInt = i4.toInt) ∧ 0 ≤ i5.toInt ∧ i5.toInt ≤ 5 := by
    rw [h5]
    by_cases c : (5000 : Int64) < (q.toInt64 * (8 : Int32).toInt64)
    · rw [if_pos c]; rw [Int64.lt_iff_toInt_lt, ep, k5] at c; rw [Jvm.Kit.i32_add (by omega) (by omega), o1]; omega
    · rw [if_neg c]; rw [Int64.lt_iff_toInt_lt, ep, k5] at c; omega
  have k6 : (6000 : Int64).toInt = 6000 := by decide
  have b6 : (6000 < q.toInt * 8 → i6.toInt = i5.toInt + 1) ∧ (¬ 6000 < q.toInt * 8 → i6.toInt = i5.toInt) ∧ 0 ≤ i6.toInt ∧ i6.toInt ≤ 6 := by
    rw [h6]
    by_cases c : (6000 : Int64) < (q.toInt64 * (8 : Int32).toInt64)
    · rw [if_pos c]; rw [Int64.lt_iff_toInt_lt, ep, k6] at c; rw [Jvm.Kit.i32_add (by omega) (by omega), o1]; omega
    · rw [if_neg c]; rw [Int64.lt_iff_toInt_lt, ep, k6] at c; omega
  have k7 : (7000 : Int64).toInt = 7000 := by decide
  have b7 : (7000 < q.toInt * 8 → i7.toInt = i6.toInt + 1) ∧ (¬ 7000 < q.toInt * 8 → i7.toInt = i6.toInt) ∧ 0 ≤ i7.toInt ∧ i7.toInt ≤ 7 := by
    rw [h7]
    by_cases c : (7000 : Int64) < (q.toInt64 * (8 : Int32).toInt64)
    · rw [if_pos c]; rw [Int64.lt_iff_toInt_lt, ep, k7] at c; rw [Jvm.Kit.i32_add (by omega) (by omega), o1]; omega
    · rw [if_neg c]; rw [Int64.lt_iff_toInt_lt, ep, k7] at c; omega
  rw [ex]; omega
theorem own_g8 {lo : Int64} {i x : Int32} (he : i.toInt = x.toInt) (h0 : 0 ≤ i.toInt) (h1 : i.toInt < 8) : ([(.long lo), (.long (lo + (1 : Int64))), (.long (lo + (2 : Int64))), (.long (lo + (3 : Int64))), (.long (lo + (4 : Int64))), (.long (lo + (5 : Int64))), (.long (lo + (6 : Int64))), (.long (lo + (7 : Int64)))] : List Value).getD x.toNatClampNeg (.long (0 : Int64)) = .long (lo + i.toInt64) := by
  have e : x = i := Int32.toInt_inj.mp he.symm
  subst e
  have q : x.toInt = 0 ∨ x.toInt = 1 ∨ x.toInt = 2 ∨ x.toInt = 3 ∨ x.toInt = 4 ∨ x.toInt = 5 ∨ x.toInt = 6 ∨ x.toInt = 7 := by omega
  rcases q with q | q | q | q | q | q | q | q
  · have e : x = (0 : Int32) := Int32.toInt_inj.mp q
    subst e; show Value.long lo = Value.long (lo + 0); rw [Int64.add_zero]
  · have e : x = (1 : Int32) := Int32.toInt_inj.mp q
    subst e; rfl
  · have e : x = (2 : Int32) := Int32.toInt_inj.mp q
    subst e; rfl
  · have e : x = (3 : Int32) := Int32.toInt_inj.mp q
    subst e; rfl
  · have e : x = (4 : Int32) := Int32.toInt_inj.mp q
    subst e; rfl
  · have e : x = (5 : Int32) := Int32.toInt_inj.mp q
    subst e; rfl
  · have e : x = (6 : Int32) := Int32.toInt_inj.mp q
    subst e; rfl
  · have e : x = (7 : Int32) := Int32.toInt_inj.mp q
    subst e; rfl
theorem own_i8 {x i : Int32} (he : i.toInt = x.toInt) (h0 : 0 ≤ i.toInt) (h1 : i.toInt < 8) : ¬ x < 0 ∧ x < (8 : Int32) := by
  have e : (8 : Int32).toInt = 8 := by decide
  rw [Int32.lt_iff_toInt_lt, Int32.lt_iff_toInt_lt, Int32.toInt_zero, e]; omega
theorem pd__28_5bJI_29J : parseMethodDescriptor "([JI)J" = some ⟨[(.array .long), .int], some .long⟩ := by decide +kernel
theorem pn_com_example_sandglass_sandglass_PercentilesNearestRankPinLaw : plainName "com/example/sandglass/sandglass/PercentilesNearestRankPinLaw" = true := by first | (simp [plainName, overriddenIn]; done) | decide +kernel
theorem ef_rm0 (m : MethodId) (p1 : Int32) (p2 : Int32) (q3 : Int64) : entryFrame m #[(.int p1), (.int p2), (.long q3)] maxLocals = mkF m 0 #[.val (.int p1), .val (.int p2), .val (.long q3), .second, .unset, .unset, .unset, .unset, .unset, .unset, .unset, .unset, .unset, .unset] [] := by first | (simp [entryFrame, mkF, argsToLocals, Value.category, maxLocals]; done) | rfl
def Q_rm0 (Z : State) (p1 : Int32) (p2 : Int32) (q3 : Int64) (h0 : Heap) (n0 : Nat) (v : Option Value) (h : Heap) (L : List Loc) : Prop := v = some (.int (1 : Int32)) ∧ Fr n0 L
set_option maxRecDepth 65536 in
set_option maxHeartbeats 40000000 in
theorem rm0 (l : Launch) (Z : State) (a0 : Array Value) (hw : ∀ d ∈ tables_1, d.before a0 Z = true) (ws : List Jvm.Cond) (p1 : Int32) (p2 : Int32) (q3 : Int64) (h0 : Heap) (n0 : Nat) (Z0 : n0 ≤ h0.size) :
    MetFree l x (head1 (Jvm.Cond.code x code maxLocals ret :: ws) room_1) (fun a U => a = #[(.int p1), (.int p2), (.long q3)] ∧ Z.Warmed39 U.vm ∧ U.heap = h0) (fun _ _ _ _ _ => True) (fun _ U o U' => ∃ v L, o = .returned v ∧ Q_rm0 Z p1 p2 q3 h0 n0 v U'.heap L ∧ FrameEnd U o U' L room_1.cells room_1.slots) := by
  refine MetFree.of_bodySF (plainFor_of_name pn_com_example_sandglass_sandglass_PercentilesNearestRankPinLaw) hisR ?_
  intro p e s m args below meth c s₁ Bd hml0 hP hK
  obtain ⟨rfl, hZ, hh⟩ := hP
  have hx := Bd.exec
  have hby := Bd.bytes
  have hml : c.maxLocals = 14 := hml0
  have hown : s.vm.findClass "com/example/sandglass/sandglass/PercentilesNearestRankPinLaw" = some m.cls := findClass_of_methodNamed Bd.named
  have hnm := (name_of_methodNamed Bd.named Bd.method).1
  have X0 : Stand p l e room_1 s m #[(.int p1), (.int p2), (.long q3)] below meth c s₁ [] 0 0 := Stand.of_body Bd
  have e0 : s₁.heap = h0 := by rw [← hh, Bd.state]; rfl
  have N0 := Fr.nil n0
  have pre0 : ∀ t, Steps p.tables e below (s₁.setTop (mkF m 0 #[.val (.int p1), .val (.int p2), .val (.long q3), .second, .unset, .unset, .unset, .unset, .unset, .unset, .unset, .unset, .unset, .unset] [])) t → Steps p.tables e below (s₁.setTop (entryFrame m #[(.int p1), (.int p2), (.long q3)] maxLocals)) t := fun t k => castTop (ef_rm0 m p1 p2 q3) k
  obtain ⟨nn, h_nn, pre1⟩ : ∃ z : Int32, z = ((p1 &&& (7 : Int32)) + (1 : Int32)) ∧ ∀ t, Steps p.tables e below (s₁.setTop (mkF m 25 #[.val (.int p1), .val (.int p2), .val (.long q3), .second, .val (.int z), .val (.int (((p2 &&& (2147483647 : Int32)) % (1000 : Int32)) + (1 : Int32))), .val (.long (q3 >>> ((3 : Int32) &&& 0x3f).toInt64)), .second, .unset, .unset, .unset, .unset, .unset, .unset] [])) t → Steps p.tables e below (s₁.setTop (entryFrame m #[(.int p1), (.int p2), (.long q3)] maxLocals)) t := ⟨_, rfl, fun t kt => by
    refine pre0 t ?_
    show Steps p.tables e below (s₁.setTop (mkF m 0 #[.val (.int p1), .val (.int p2), .val (.long q3), .second, .unset, .unset, .unset, .unset, .unset, .unset, .unset, .unset, .unset, .unset] [])) _
    refine XS.iloadN X0.here hx rfl (hb hby at_0) rfl ?_
    show Steps p.tables e below (s₁.setTop (mkF m 1 #[.val (.int p1), .val (.int p2), .val (.long q3), .second, .unset, .unset, .unset, .unset, .unset, .unset, .unset, .unset, .unset, .unset] [(.int p1)])) _
    refine XS.bipush X0.here hx rfl (hb hby at_1) ?_
    show Steps p.tables e below (s₁.setTop (mkF m 3 #[.val (.int p1), .val (.int p2), .val (.long q3), .second, .unset, .unset, .unset, .unset, .unset, .unset, .unset, .unset, .unset, .unset] [(.int (7 : Int32)), (.int p1)])) _
    refine XS.iand X0.here hx rfl (hb hby at_3) rfl ?_
    show Steps p.tables e below (s₁.setTop (mkF m 4 #[.val (.int p1), .val (.int p2), .val (.long q3), .second, .unset, .unset, .unset, .unset, .unset, .unset, .unset, .unset, .unset, .unset] [(.int (p1 &&& (7 : Int32)))])) _
    refine XS.iconst X0.here hx rfl (hb hby at_4) ?_
    show Steps p.tables e below (s₁.setTop (mkF m 5 #[.val (.int p1), .val (.int p2), .val (.long q3), .second, .unset, .unset, .unset, .unset, .unset, .unset, .unset, .unset, .unset, .unset] [(.int (1 : Int32)), (.int (p1 &&& (7 : Int32)))])) _
    refine XS.iadd X0.here hx rfl (hb hby at_5) rfl ?_
    show Steps p.tables e below (s₁.setTop (mkF m 6 #[.val (.int p1), .val (.int p2), .val (.long q3), .second, .unset, .unset, .unset, .unset, .unset, .unset, .unset, .unset, .unset, .unset] [(.int ((p1 &&& (7 : Int32)) + (1 : Int32)))])) _
    refine XS.istore X0.here hx rfl (hb hby at_6) rfl (l' := #[.val (.int p1), .val (.int p2), .val (.long q3), .second, .val (.int ((p1 &&& (7 : Int32)) + (1 : Int32))), .unset, .unset, .unset, .unset, .unset, .unset, .unset, .unset, .unset]) rfl ?_
    show Steps p.tables e below (s₁.setTop (mkF m 8 #[.val (.int p1), .val (.int p2), .val (.long q3), .second, .val (.int ((p1 &&& (7 : Int32)) + (1 : Int32))), .unset, .unset, .unset, .unset, .unset, .unset, .unset, .unset, .unset] [])) _
    refine XS.iloadN X0.here hx rfl (hb hby at_8) rfl ?_
    show Steps p.tables e below (s₁.setTop (mkF m 9 #[.val (.int p1), .val (.int p2), .val (.long q3), .second, .val (.int ((p1 &&& (7 : Int32)) + (1 : Int32))), .unset, .unset, .unset, .unset, .unset, .unset, .unset, .unset, .unset] [(.int p2)])) _
    refine X0.ldcInt hx hown (mvT hZ (hw _ (List.mem_of_getElem? (i := 0) rfl))) (g := (mkF m 9 #[.val (.int p1), .val (.int p2), .val (.long q3), .second, .val (.int ((p1 &&& (7 : Int32)) + (1 : Int32))), .unset, .unset, .unset, .unset, .unset, .unset, .unset, .unset, .unset] [(.int p2)])) rfl (hb hby at_9) _ ?_
    show Steps p.tables e below (s₁.setTop (mkF m 11 #[.val (.int p1), .val (.int p2), .val (.long q3), .second, .val (.int ((p1 &&& (7 : Int32)) + (1 : Int32))), .unset, .unset, .unset, .unset, .unset, .unset, .unset, .unset, .unset] [(.int (2147483647 : Int32)), (.int p2)])) _
    refine XS.iand X0.here hx rfl (hb hby at_11) rfl ?_
    show Steps p.tables e below (s₁.setTop (mkF m 12 #[.val (.int p1), .val (.int p2), .val (.long q3), .second, .val (.int ((p1 &&& (7 : Int32)) + (1 : Int32))), .unset, .unset, .unset, .unset, .unset, .unset, .unset, .unset, .unset] [(.int (p2 &&& (2147483647 : Int32)))])) _
    refine XS.sipush X0.here hx rfl (hb hby at_12) ?_
    show Steps p.tables e below (s₁.setTop (mkF m 15 #[.val (.int p1), .val (.int p2), .val (.long q3), .second, .val (.int ((p1 &&& (7 : Int32)) + (1 : Int32))), .unset, .unset, .unset, .unset, .unset, .unset, .unset, .unset, .unset] [(.int (1000 : Int32)), (.int (p2 &&& (2147483647 : Int32)))])) _
    refine iremM (g := (mkF m 15 #[.val (.int p1), .val (.int p2), .val (.long q3), .second, .val (.int ((p1 &&& (7 : Int32)) + (1 : Int32))), .unset, .unset, .unset, .unset, .unset, .unset, .unset, .unset, .unset] [(.int (1000 : Int32)), (.int (p2 &&& (2147483647 : Int32)))])) X0 hx rfl (hb hby at_15) rfl (by decide) ?_
    show Steps p.tables e below (s₁.setTop (mkF m 16 #[.val (.int p1), .val (.int p2), .val (.long q3), .second, .val (.int ((p1 &&& (7 : Int32)) + (1 : Int32))), .unset, .unset, .unset, .unset, .unset, .unset, .unset, .unset, .unset] [(.int ((p2 &&& (2147483647 : Int32)) % (1000 : Int32)))])) _
    refine XS.iconst X0.here hx rfl (hb hby at_16) ?_
    show Steps p.tables e below (s₁.setTop (mkF m 17 #[.val (.int p1), .val (.int p2), .val (.long q3), .second, .val (.int ((p1 &&& (7 : Int32)) + (1 : Int32))), .unset, .unset, .unset, .unset, .unset, .unset, .unset, .unset, .unset] [(.int (1 : Int32)), (.int ((p2 &&& (2147483647 : Int32)) % (1000 : Int32)))])) _
    refine XS.iadd X0.here hx rfl (hb hby at_17) rfl ?_
    show Steps p.tables e below (s₁.setTop (mkF m 18 #[.val (.int p1), .val (.int p2), .val (.long q3), .second, .val (.int ((p1 &&& (7 : Int32)) + (1 : Int32))), .unset, .unset, .unset, .unset, .unset, .unset, .unset, .unset, .unset] [(.int (((p2 &&& (2147483647 : Int32)) % (1000 : Int32)) + (1 : Int32)))])) _
    refine XS.istore X0.here hx rfl (hb hby at_18) rfl (l' := #[.val (.int p1), .val (.int p2), .val (.long q3), .second, .val (.int ((p1 &&& (7 : Int32)) + (1 : Int32))), .val (.int (((p2 &&& (2147483647 : Int32)) % (1000 : Int32)) + (1 : Int32))), .unset, .unset, .unset, .unset, .unset, .unset, .unset, .unset]) rfl ?_
    show Steps p.tables e below (s₁.setTop (mkF m 20 #[.val (.int p1), .val (.int p2), .val (.long q3), .second, .val (.int ((p1 &&& (7 : Int32)) + (1 : Int32))), .val (.int (((p2 &&& (2147483647 : Int32)) % (1000 : Int32)) + (1 : Int32))), .unset, .unset, .unset, .unset, .unset, .unset, .unset, .unset] [])) _
    refine XS.lloadN X0.here hx rfl (hb hby at_20) rfl ?_
    show Steps p.tables e below (s₁.setTop (mkF m 21 #[.val (.int p1), .val (.int p2), .val (.long q3), .second, .val (.int ((p1 &&& (7 : Int32)) + (1 : Int32))), .val (.int (((p2 &&& (2147483647 : Int32)) % (1000 : Int32)) + (1 : Int32))), .unset, .unset, .unset, .unset, .unset, .unset, .unset, .unset] [(.long q3)])) _
    refine XS.iconst X0.here hx rfl (hb hby at_21) ?_
    show Steps p.tables e below (s₁.setTop (mkF m 22 #[.val (.int p1), .val (.int p2), .val (.long q3), .second, .val (.int ((p1 &&& (7 : Int32)) + (1 : Int32))), .val (.int (((p2 &&& (2147483647 : Int32)) % (1000 : Int32)) + (1 : Int32))), .unset, .unset, .unset, .unset, .unset, .unset, .unset, .unset] [(.int (3 : Int32)), (.long q3)])) _
    refine XS.lshr X0.here hx rfl (hb hby at_22) rfl ?_
    show Steps p.tables e below (s₁.setTop (mkF m 23 #[.val (.int p1), .val (.int p2), .val (.long q3), .second, .val (.int ((p1 &&& (7 : Int32)) + (1 : Int32))), .val (.int (((p2 &&& (2147483647 : Int32)) % (1000 : Int32)) + (1 : Int32))), .unset, .unset, .unset, .unset, .unset, .unset, .unset, .unset] [(.long (q3 >>> ((3 : Int32) &&& 0x3f).toInt64))])) _
    refine XS.lstore X0.here hx rfl (hb hby at_23) rfl (l' := #[.val (.int p1), .val (.int p2), .val (.long q3), .second, .val (.int ((p1 &&& (7 : Int32)) + (1 : Int32))), .val (.int (((p2 &&& (2147483647 : Int32)) % (1000 : Int32)) + (1 : Int32))), .val (.long (q3 >>> ((3 : Int32) &&& 0x3f).toInt64)), .second, .unset, .unset, .unset, .unset, .unset, .unset]) rfl ?_
    exact kt⟩
  obtain ⟨qq, h_qq, pre2⟩ : ∃ z : Int32, z = (((p2 &&& (2147483647 : Int32)) % (1000 : Int32)) + (1 : Int32)) ∧ ∀ t, Steps p.tables e below (s₁.setTop (mkF m 25 #[.val (.int p1), .val (.int p2), .val (.long q3), .second, .val (.int nn), .val (.int z), .val (.long (q3 >>> ((3 : Int32) &&& 0x3f).toInt64)), .second, .unset, .unset, .unset, .unset, .unset, .unset] [])) t → Steps p.tables e below (s₁.setTop (entryFrame m #[(.int p1), (.int p2), (.long q3)] maxLocals)) t := ⟨_, rfl, fun t kt => by
    refine pre1 t ?_
    exact kt⟩
  obtain ⟨lo, h_lo, pre3⟩ : ∃ z : Int64, z = (q3 >>> ((3 : Int32) &&& 0x3f).toInt64) ∧ ∀ t, Steps p.tables e below (s₁.setTop (mkF m 25 #[.val (.int p1), .val (.int p2), .val (.long q3), .second, .val (.int nn), .val (.int qq), .val (.long z), .second, .unset, .unset, .unset, .unset, .unset, .unset] [])) t → Steps p.tables e below (s₁.setTop (entryFrame m #[(.int p1), (.int p2), (.long q3)] maxLocals)) t := ⟨_, rfl, fun t kt => by
    refine pre2 t ?_
    exact kt⟩
  have hq : 1 ≤ qq.toInt ∧ qq.toInt ≤ 1000 := by rw [h_qq]; exact own_q p2
  have hn := own_n p1
  rw [← h_nn] at hn
  rcases hn with hn | hn | hn | hn | hn | hn | hn | hn
  · rw [hn] at pre3
    obtain ⟨T4, h4, k4, X4, e4, E4, A4, st4⟩ := newP X0 hx hZ (hw _ (List.mem_of_getElem? (i := 1) rfl)) e0 (g := (mkF m 27 #[.val (.int p1), .val (.int p2), .val (.long q3), .second, .val (.int (1 : Int32)), .val (.int qq), .val (.long lo), .second, .unset, .unset, .unset, .unset, .unset, .unset] [(.int (1 : Int32))])) rfl (hb hby at_27) rfl (by decide) (cap := 1) (by decide) (by decide) (by decide) (by decide)
    obtain ⟨b4, g4⟩ : ∃ z, z = h0.size := ⟨_, rfl⟩
    rw [← g4] at A4 st4
    have g_b4 : n0 ≤ b4 := Nat.le_trans Z0 (Nat.le_of_eq g4.symm)
    have sz_b4 : h0.size ≤ b4 := Nat.le_trans (Keep.refl h0 []).1 (Nat.le_of_eq g4.symm)
    have K5 : Keep h0 h4 [] := (Keep.refl h0 []).ext E4
    have V_b4 : Arv Z h4 b4 k4 .long (1 : Int32) [(.long (0 : Int64))] (.long (0 : Int64)) := (Arv.new A4 (by decide)).pad (pad_rep [] (.long (0 : Int64)) 1)
    obtain ⟨c6, Ac6, qc6, Sc6, Nc6, Hc6, Gc6⟩ := id V_b4
    obtain ⟨T7, h7, X7, e7, W7, st7⟩ := stJ X4 hx hZ e4 Ac6 (j := (0 : Int32)) (inb_of Sc6 ⟨by decide, by decide⟩) (g := (mkF m 36 #[.val (.int p1), .val (.int p2), .val (.long q3), .second, .val (.int (1 : Int32)), .val (.int qq), .val (.long lo), .second, .val (.ref b4), .unset, .unset, .unset, .unset, .unset] [(.long lo), (.int (0 : Int32)), (.ref b4)])) rfl rfl (hb hby at_36)
    have K8 : Keep h0 h7 [] := K5.wr W7 (Or.inr sz_b4)
    have N9 := Fr.snoc X7 N0 g_b4
    have Vw7 := Arv.set Ac6 qc6 Sc6 Nc6 Hc6 Gc6 rfl W7 0 rfl (Nat.le_of_ble_eq_true rfl)
    change Arv Z h7 b4 k4 .long (1 : Int32) [(.long lo)] (.long (0 : Int64)) at Vw7
    have hcn := own_c1 hq 
    obtain ⟨_, _, ⟨T10, L10, k10, n10⟩, -, X10, ⟨Lc10, hQ10, l10, y10, z10⟩, st10⟩ := Jvm.LawKit.callS X7 hx (y := (⟨"com/example/sandglass/sandglass/Percentiles", "nearestRank", "([JI)J"⟩ : MethodName)) hown (mvT hZ (hw _ (List.mem_of_getElem? (i := 2) rfl))) (mvT hZ (hw _ (List.mem_of_getElem? (i := 3) rfl))) (mvT hZ (hw _ (List.mem_of_getElem? (i := 4) rfl))) (mvT hZ (hw _ (List.mem_of_getElem? (i := 5) rfl))) (by decide) (backOf (W := 0) (rm1 l Z a0 hw [] b4 qq k4 (1 : Int32) [(.long lo)] (lo + ((0 : Int32)).toInt64) h7 n0 (Nat.le_trans Z0 K8.1) Vw7 (own_i1 hcn.1 hcn.2.1 hcn.2.2) (own_g1 hcn.1 hcn.2.1 hcn.2.2)) hZ (hw _ (List.mem_of_getElem? (i := 5) rfl)) (hw _ (List.mem_of_getElem? (i := 4) rfl)) (by decide) (by decide)) (g := (mkF m 295 #[.val (.int p1), .val (.int p2), .val (.long q3), .second, .val (.int (1 : Int32)), .val (.int qq), .val (.long lo), .second, .val (.ref b4), .val (.long ((qq.toInt64) * ((1 : Int32).toInt64))), .second, .val (.int (0 : Int32)), .unset, .unset] [(.int qq), (.ref b4)])) rfl (by rw [hml]; rfl) (argsL := [(.ref b4), (.int qq)]) (rest := []) (lenOf pd__28_5bJI_29J rfl) rfl (by show 2 * 0 + _ ≤ _; exact Nat.le_of_eq rfl) (hb hby at_295) (fun _ _ => ⟨rfl, e7, (by decide : 1 + 0 ≤ _), (by decide : 1 + 0 ≤ _)⟩)
    dsimp only [Pt.U, Pt.locs, Pt.cells, Pt.slots] at X10 l10 y10 z10 st10 hQ10
    subst l10 y10 z10
    obtain ⟨rfl, N10q, e10⟩ := hQ10
    have N10 := Fr.app N9 N10q
    obtain ⟨fs, hr, hrun, hended, hW, hsame⟩ := X10.leave (v := some (.int (1 : Int32))) (fun h => by rw [Bd.returns] at h; cases h)
    refine ⟨_, _, pre3 _ ?_, hrun, hended, _, _, rfl, ?_, ⟨_, rfl⟩, hW, hsame.mono (by decide) (by decide)⟩
    · show Steps p.tables e below (s₁.setTop (mkF m 25 #[.val (.int p1), .val (.int p2), .val (.long q3), .second, .val (.int (1 : Int32)), .val (.int qq), .val (.long lo), .second, .unset, .unset, .unset, .unset, .unset, .unset] [])) _
      refine XS.iload X0.here hx rfl (hb hby at_25) rfl ?_
      show Steps p.tables e below (s₁.setTop (mkF m 27 #[.val (.int p1), .val (.int p2), .val (.long q3), .second, .val (.int (1 : Int32)), .val (.int qq), .val (.long lo), .second, .unset, .unset, .unset, .unset, .unset, .unset] [(.int (1 : Int32))])) _
      refine st4 _ ?_
      show Steps p.tables e below (T4.setTop (mkF m 29 #[.val (.int p1), .val (.int p2), .val (.long q3), .second, .val (.int (1 : Int32)), .val (.int qq), .val (.long lo), .second, .unset, .unset, .unset, .unset, .unset, .unset] [(.ref b4)])) _
      refine XS.astore X4.here hx rfl (hb hby at_29) rfl rfl (l' := #[.val (.int p1), .val (.int p2), .val (.long q3), .second, .val (.int (1 : Int32)), .val (.int qq), .val (.long lo), .second, .val (.ref b4), .unset, .unset, .unset, .unset, .unset]) rfl ?_
      show Steps p.tables e below (T4.setTop (mkF m 31 #[.val (.int p1), .val (.int p2), .val (.long q3), .second, .val (.int (1 : Int32)), .val (.int qq), .val (.long lo), .second, .val (.ref b4), .unset, .unset, .unset, .unset, .unset] [])) _
      refine XS.aload X4.here hx rfl (hb hby at_31) rfl rfl ?_
      show Steps p.tables e below (T4.setTop (mkF m 33 #[.val (.int p1), .val (.int p2), .val (.long q3), .second, .val (.int (1 : Int32)), .val (.int qq), .val (.long lo), .second, .val (.ref b4), .unset, .unset, .unset, .unset, .unset] [(.ref b4)])) _
      refine XS.iconst X4.here hx rfl (hb hby at_33) ?_
      show Steps p.tables e below (T4.setTop (mkF m 34 #[.val (.int p1), .val (.int p2), .val (.long q3), .second, .val (.int (1 : Int32)), .val (.int qq), .val (.long lo), .second, .val (.ref b4), .unset, .unset, .unset, .unset, .unset] [(.int (0 : Int32)), (.ref b4)])) _
      refine XS.lload X4.here hx rfl (hb hby at_34) rfl ?_
      show Steps p.tables e below (T4.setTop (mkF m 36 #[.val (.int p1), .val (.int p2), .val (.long q3), .second, .val (.int (1 : Int32)), .val (.int qq), .val (.long lo), .second, .val (.ref b4), .unset, .unset, .unset, .unset, .unset] [(.long lo), (.int (0 : Int32)), (.ref b4)])) _
      refine st7 _ ?_
      show Steps p.tables e below (T7.setTop (mkF m 37 #[.val (.int p1), .val (.int p2), .val (.long q3), .second, .val (.int (1 : Int32)), .val (.int qq), .val (.long lo), .second, .val (.ref b4), .unset, .unset, .unset, .unset, .unset] [])) _
      refine XS.iload X7.here hx rfl (hb hby at_37) rfl ?_
      show Steps p.tables e below (T7.setTop (mkF m 39 #[.val (.int p1), .val (.int p2), .val (.long q3), .second, .val (.int (1 : Int32)), .val (.int qq), .val (.long lo), .second, .val (.ref b4), .unset, .unset, .unset, .unset, .unset] [(.int (1 : Int32))])) _
      refine XS.iconst X7.here hx rfl (hb hby at_39) ?_
      show Steps p.tables e below (T7.setTop (mkF m 40 #[.val (.int p1), .val (.int p2), .val (.long q3), .second, .val (.int (1 : Int32)), .val (.int qq), .val (.long lo), .second, .val (.ref b4), .unset, .unset, .unset, .unset, .unset] [(.int (1 : Int32)), (.int (1 : Int32))])) _
      refine XS.icmpYes X7.here hx rfl (pc0 := 40) (pc' := 51) rfl (hb hby at_40) rfl (flt (by decide : ¬ ((1 : Int32) < (1 : Int32)))).2.2.2 (by decide) (by decide) ?_
      show Steps p.tables e below (T7.setTop (mkF m 51 #[.val (.int p1), .val (.int p2), .val (.long q3), .second, .val (.int (1 : Int32)), .val (.int qq), .val (.long lo), .second, .val (.ref b4), .unset, .unset, .unset, .unset, .unset] [])) _
      refine XS.iload X7.here hx rfl (hb hby at_51) rfl ?_
      show Steps p.tables e below (T7.setTop (mkF m 53 #[.val (.int p1), .val (.int p2), .val (.long q3), .second, .val (.int (1 : Int32)), .val (.int qq), .val (.long lo), .second, .val (.ref b4), .unset, .unset, .unset, .unset, .unset] [(.int (1 : Int32))])) _
      refine XS.iconst X7.here hx rfl (hb hby at_53) ?_
      show Steps p.tables e below (T7.setTop (mkF m 54 #[.val (.int p1), .val (.int p2), .val (.long q3), .second, .val (.int (1 : Int32)), .val (.int qq), .val (.long lo), .second, .val (.ref b4), .unset, .unset, .unset, .unset, .unset] [(.int (2 : Int32)), (.int (1 : Int32))])) _
      refine XS.icmpYes X7.here hx rfl (pc0 := 54) (pc' := 67) rfl (hb hby at_54) rfl (flt (by decide : ¬ ((2 : Int32) < (1 : Int32)))).2.2.2 (by decide) (by decide) ?_
      show Steps p.tables e below (T7.setTop (mkF m 67 #[.val (.int p1), .val (.int p2), .val (.long q3), .second, .val (.int (1 : Int32)), .val (.int qq), .val (.long lo), .second, .val (.ref b4), .unset, .unset, .unset, .unset, .unset] [])) _
      refine XS.iload X7.here hx rfl (hb hby at_67) rfl ?_
      show Steps p.tables e below (T7.setTop (mkF m 69 #[.val (.int p1), .val (.int p2), .val (.long q3), .second, .val (.int (1 : Int32)), .val (.int qq), .val (.long lo), .second, .val (.ref b4), .unset, .unset, .unset, .unset, .unset] [(.int (1 : Int32))])) _
      refine XS.iconst X7.here hx rfl (hb hby at_69) ?_
      show Steps p.tables e below (T7.setTop (mkF m 70 #[.val (.int p1), .val (.int p2), .val (.long q3), .second, .val (.int (1 : Int32)), .val (.int qq), .val (.long lo), .second, .val (.ref b4), .unset, .unset, .unset, .unset, .unset] [(.int (3 : Int32)), (.int (1 : Int32))])) _
      refine XS.icmpYes X7.here hx rfl (pc0 := 70) (pc' := 83) rfl (hb hby at_70) rfl (flt (by decide : ¬ ((3 : Int32) < (1 : Int32)))).2.2.2 (by decide) (by decide) ?_
      show Steps p.tables e below (T7.setTop (mkF m 83 #[.val (.int p1), .val (.int p2), .val (.long q3), .second, .val (.int (1 : Int32)), .val (.int qq), .val (.long lo), .second, .val (.ref b4), .unset, .unset, .unset, .unset, .unset] [])) _
      refine XS.iload X7.here hx rfl (hb hby at_83) rfl ?_
      show Steps p.tables e below (T7.setTop (mkF m 85 #[.val (.int p1), .val (.int p2), .val (.long q3), .second, .val (.int (1 : Int32)), .val (.int qq), .val (.long lo), .second, .val (.ref b4), .unset, .unset, .unset, .unset, .unset] [(.int (1 : Int32))])) _
      refine XS.iconst X7.here hx rfl (hb hby at_85) ?_
      show Steps p.tables e below (T7.setTop (mkF m 86 #[.val (.int p1), .val (.int p2), .val (.long q3), .second, .val (.int (1 : Int32)), .val (.int qq), .val (.long lo), .second, .val (.ref b4), .unset, .unset, .unset, .unset, .unset] [(.int (4 : Int32)), (.int (1 : Int32))])) _
      refine XS.icmpYes X7.here hx rfl (pc0 := 86) (pc' := 99) rfl (hb hby at_86) rfl (flt (by decide : ¬ ((4 : Int32) < (1 : Int32)))).2.2.2 (by decide) (by decide) ?_
      show Steps p.tables e below (T7.setTop (mkF m 99 #[.val (.int p1), .val (.int p2), .val (.long q3), .second, .val (.int (1 : Int32)), .val (.int qq), .val (.long lo), .second, .val (.ref b4), .unset, .unset, .unset, .unset, .unset] [])) _
      refine XS.iload X7.here hx rfl (hb hby at_99) rfl ?_
      show Steps p.tables e below (T7.setTop (mkF m 101 #[.val (.int p1), .val (.int p2), .val (.long q3), .second, .val (.int (1 : Int32)), .val (.int qq), .val (.long lo), .second, .val (.ref b4), .unset, .unset, .unset, .unset, .unset] [(.int (1 : Int32))])) _
      refine XS.iconst X7.here hx rfl (hb hby at_101) ?_
      show Steps p.tables e below (T7.setTop (mkF m 102 #[.val (.int p1), .val (.int p2), .val (.long q3), .second, .val (.int (1 : Int32)), .val (.int qq), .val (.long lo), .second, .val (.ref b4), .unset, .unset, .unset, .unset, .unset] [(.int (5 : Int32)), (.int (1 : Int32))])) _
      refine XS.icmpYes X7.here hx rfl (pc0 := 102) (pc' := 115) rfl (hb hby at_102) rfl (flt (by decide : ¬ ((5 : Int32) < (1 : Int32)))).2.2.2 (by decide) (by decide) ?_
      show Steps p.tables e below (T7.setTop (mkF m 115 #[.val (.int p1), .val (.int p2), .val (.long q3), .second, .val (.int (1 : Int32)), .val (.int qq), .val (.long lo), .second, .val (.ref b4), .unset, .unset, .unset, .unset, .unset] [])) _
      refine XS.iload X7.here hx rfl (hb hby at_115) rfl ?_
      show Steps p.tables e below (T7.setTop (mkF m 117 #[.val (.int p1), .val (.int p2), .val (.long q3), .second, .val (.int (1 : Int32)), .val (.int qq), .val (.long lo), .second, .val (.ref b4), .unset, .unset, .unset, .unset, .unset] [(.int (1 : Int32))])) _
      refine XS.bipush X7.here hx rfl (hb hby at_117) ?_
      show Steps p.tables e below (T7.setTop (mkF m 119 #[.val (.int p1), .val (.int p2), .val (.long q3), .second, .val (.int (1 : Int32)), .val (.int qq), .val (.long lo), .second, .val (.ref b4), .unset, .unset, .unset, .unset, .unset] [(.int (6 : Int32)), (.int (1 : Int32))])) _
      refine XS.icmpYes X7.here hx rfl (pc0 := 119) (pc' := 133) rfl (hb hby at_119) rfl (flt (by decide : ¬ ((6 : Int32) < (1 : Int32)))).2.2.2 (by decide) (by decide) ?_
      show Steps p.tables e below (T7.setTop (mkF m 133 #[.val (.int p1), .val (.int p2), .val (.long q3), .second, .val (.int (1 : Int32)), .val (.int qq), .val (.long lo), .second, .val (.ref b4), .unset, .unset, .unset, .unset, .unset] [])) _
      refine XS.iload X7.here hx rfl (hb hby at_133) rfl ?_
      show Steps p.tables e below (T7.setTop (mkF m 135 #[.val (.int p1), .val (.int p2), .val (.long q3), .second, .val (.int (1 : Int32)), .val (.int qq), .val (.long lo), .second, .val (.ref b4), .unset, .unset, .unset, .unset, .unset] [(.int (1 : Int32))])) _
      refine XS.bipush X7.here hx rfl (hb hby at_135) ?_
      show Steps p.tables e below (T7.setTop (mkF m 137 #[.val (.int p1), .val (.int p2), .val (.long q3), .second, .val (.int (1 : Int32)), .val (.int qq), .val (.long lo), .second, .val (.ref b4), .unset, .unset, .unset, .unset, .unset] [(.int (7 : Int32)), (.int (1 : Int32))])) _
      refine XS.icmpYes X7.here hx rfl (pc0 := 137) (pc' := 151) rfl (hb hby at_137) rfl (flt (by decide : ¬ ((7 : Int32) < (1 : Int32)))).2.2.2 (by decide) (by decide) ?_
      show Steps p.tables e below (T7.setTop (mkF m 151 #[.val (.int p1), .val (.int p2), .val (.long q3), .second, .val (.int (1 : Int32)), .val (.int qq), .val (.long lo), .second, .val (.ref b4), .unset, .unset, .unset, .unset, .unset] [])) _
      refine XS.iload X7.here hx rfl (hb hby at_151) rfl ?_
      show Steps p.tables e below (T7.setTop (mkF m 153 #[.val (.int p1), .val (.int p2), .val (.long q3), .second, .val (.int (1 : Int32)), .val (.int qq), .val (.long lo), .second, .val (.ref b4), .unset, .unset, .unset, .unset, .unset] [(.int qq)])) _
      refine XS.i2l X7.here hx rfl (hb hby at_153) rfl ?_
      show Steps p.tables e below (T7.setTop (mkF m 154 #[.val (.int p1), .val (.int p2), .val (.long q3), .second, .val (.int (1 : Int32)), .val (.int qq), .val (.long lo), .second, .val (.ref b4), .unset, .unset, .unset, .unset, .unset] [(.long (qq.toInt64))])) _
      refine XS.iload X7.here hx rfl (hb hby at_154) rfl ?_
      show Steps p.tables e below (T7.setTop (mkF m 156 #[.val (.int p1), .val (.int p2), .val (.long q3), .second, .val (.int (1 : Int32)), .val (.int qq), .val (.long lo), .second, .val (.ref b4), .unset, .unset, .unset, .unset, .unset] [(.int (1 : Int32)), (.long (qq.toInt64))])) _
      refine XS.i2l X7.here hx rfl (hb hby at_156) rfl ?_
      show Steps p.tables e below (T7.setTop (mkF m 157 #[.val (.int p1), .val (.int p2), .val (.long q3), .second, .val (.int (1 : Int32)), .val (.int qq), .val (.long lo), .second, .val (.ref b4), .unset, .unset, .unset, .unset, .unset] [(.long ((1 : Int32).toInt64)), (.long (qq.toInt64))])) _
      refine XS.lmul X7.here hx rfl (hb hby at_157) rfl ?_
      show Steps p.tables e below (T7.setTop (mkF m 158 #[.val (.int p1), .val (.int p2), .val (.long q3), .second, .val (.int (1 : Int32)), .val (.int qq), .val (.long lo), .second, .val (.ref b4), .unset, .unset, .unset, .unset, .unset] [(.long ((qq.toInt64) * ((1 : Int32).toInt64)))])) _
      refine XS.lstore X7.here hx rfl (hb hby at_158) rfl (l' := #[.val (.int p1), .val (.int p2), .val (.long q3), .second, .val (.int (1 : Int32)), .val (.int qq), .val (.long lo), .second, .val (.ref b4), .val (.long ((qq.toInt64) * ((1 : Int32).toInt64))), .second, .unset, .unset, .unset]) rfl ?_
      show Steps p.tables e below (T7.setTop (mkF m 160 #[.val (.int p1), .val (.int p2), .val (.long q3), .second, .val (.int (1 : Int32)), .val (.int qq), .val (.long lo), .second, .val (.ref b4), .val (.long ((qq.toInt64) * ((1 : Int32).toInt64))), .second, .unset, .unset, .unset] [])) _
      refine XS.iconst X7.here hx rfl (hb hby at_160) ?_
      show Steps p.tables e below (T7.setTop (mkF m 161 #[.val (.int p1), .val (.int p2), .val (.long q3), .second, .val (.int (1 : Int32)), .val (.int qq), .val (.long lo), .second, .val (.ref b4), .val (.long ((qq.toInt64) * ((1 : Int32).toInt64))), .second, .unset, .unset, .unset] [(.int (0 : Int32))])) _
      refine XS.istore X7.here hx rfl (hb hby at_161) rfl (l' := #[.val (.int p1), .val (.int p2), .val (.long q3), .second, .val (.int (1 : Int32)), .val (.int qq), .val (.long lo), .second, .val (.ref b4), .val (.long ((qq.toInt64) * ((1 : Int32).toInt64))), .second, .val (.int (0 : Int32)), .unset, .unset]) rfl ?_
      show Steps p.tables e below (T7.setTop (mkF m 163 #[.val (.int p1), .val (.int p2), .val (.long q3), .second, .val (.int (1 : Int32)), .val (.int qq), .val (.long lo), .second, .val (.ref b4), .val (.long ((qq.toInt64) * ((1 : Int32).toInt64))), .second, .val (.int (0 : Int32)), .unset, .unset] [])) _
      refine XS.iload X7.here hx rfl (hb hby at_163) rfl ?_
      show Steps p.tables e below (T7.setTop (mkF m 165 #[.val (.int p1), .val (.int p2), .val (.long q3), .second, .val (.int (1 : Int32)), .val (.int qq), .val (.long lo), .second, .val (.ref b4), .val (.long ((qq.toInt64) * ((1 : Int32).toInt64))), .second, .val (.int (0 : Int32)), .unset, .unset] [(.int (1 : Int32))])) _
      refine XS.iconst X7.here hx rfl (hb hby at_165) ?_
      show Steps p.tables e below (T7.setTop (mkF m 166 #[.val (.int p1), .val (.int p2), .val (.long q3), .second, .val (.int (1 : Int32)), .val (.int qq), .val (.long lo), .second, .val (.ref b4), .val (.long ((qq.toInt64) * ((1 : Int32).toInt64))), .second, .val (.int (0 : Int32)), .unset, .unset] [(.int (1 : Int32)), (.int (1 : Int32))])) _
      refine XS.icmpYes X7.here hx rfl (pc0 := 166) (pc' := 181) rfl (hb hby at_166) rfl (flt (by decide : ¬ ((1 : Int32) < (1 : Int32)))).2.2.2 (by decide) (by decide) ?_
      show Steps p.tables e below (T7.setTop (mkF m 181 #[.val (.int p1), .val (.int p2), .val (.long q3), .second, .val (.int (1 : Int32)), .val (.int qq), .val (.long lo), .second, .val (.ref b4), .val (.long ((qq.toInt64) * ((1 : Int32).toInt64))), .second, .val (.int (0 : Int32)), .unset, .unset] [])) _
      refine XS.iload X7.here hx rfl (hb hby at_181) rfl ?_
      show Steps p.tables e below (T7.setTop (mkF m 183 #[.val (.int p1), .val (.int p2), .val (.long q3), .second, .val (.int (1 : Int32)), .val (.int qq), .val (.long lo), .second, .val (.ref b4), .val (.long ((qq.toInt64) * ((1 : Int32).toInt64))), .second, .val (.int (0 : Int32)), .unset, .unset] [(.int (1 : Int32))])) _
      refine XS.iconst X7.here hx rfl (hb hby at_183) ?_
      show Steps p.tables e below (T7.setTop (mkF m 184 #[.val (.int p1), .val (.int p2), .val (.long q3), .second, .val (.int (1 : Int32)), .val (.int qq), .val (.long lo), .second, .val (.ref b4), .val (.long ((qq.toInt64) * ((1 : Int32).toInt64))), .second, .val (.int (0 : Int32)), .unset, .unset] [(.int (2 : Int32)), (.int (1 : Int32))])) _
      refine XS.icmpYes X7.here hx rfl (pc0 := 184) (pc' := 199) rfl (hb hby at_184) rfl (flt (by decide : ¬ ((2 : Int32) < (1 : Int32)))).2.2.2 (by decide) (by decide) ?_
      show Steps p.tables e below (T7.setTop (mkF m 199 #[.val (.int p1), .val (.int p2), .val (.long q3), .second, .val (.int (1 : Int32)), .val (.int qq), .val (.long lo), .second, .val (.ref b4), .val (.long ((qq.toInt64) * ((1 : Int32).toInt64))), .second, .val (.int (0 : Int32)), .unset, .unset] [])) _
      refine XS.iload X7.here hx rfl (hb hby at_199) rfl ?_
      show Steps p.tables e below (T7.setTop (mkF m 201 #[.val (.int p1), .val (.int p2), .val (.long q3), .second, .val (.int (1 : Int32)), .val (.int qq), .val (.long lo), .second, .val (.ref b4), .val (.long ((qq.toInt64) * ((1 : Int32).toInt64))), .second, .val (.int (0 : Int32)), .unset, .unset] [(.int (1 : Int32))])) _
      refine XS.iconst X7.here hx rfl (hb hby at_201) ?_
      show Steps p.tables e below (T7.setTop (mkF m 202 #[.val (.int p1), .val (.int p2), .val (.long q3), .second, .val (.int (1 : Int32)), .val (.int qq), .val (.long lo), .second, .val (.ref b4), .val (.long ((qq.toInt64) * ((1 : Int32).toInt64))), .second, .val (.int (0 : Int32)), .unset, .unset] [(.int (3 : Int32)), (.int (1 : Int32))])) _
      refine XS.icmpYes X7.here hx rfl (pc0 := 202) (pc' := 217) rfl (hb hby at_202) rfl (flt (by decide : ¬ ((3 : Int32) < (1 : Int32)))).2.2.2 (by decide) (by decide) ?_
      show Steps p.tables e below (T7.setTop (mkF m 217 #[.val (.int p1), .val (.int p2), .val (.long q3), .second, .val (.int (1 : Int32)), .val (.int qq), .val (.long lo), .second, .val (.ref b4), .val (.long ((qq.toInt64) * ((1 : Int32).toInt64))), .second, .val (.int (0 : Int32)), .unset, .unset] [])) _
      refine XS.iload X7.here hx rfl (hb hby at_217) rfl ?_
      show Steps p.tables e below (T7.setTop (mkF m 219 #[.val (.int p1), .val (.int p2), .val (.long q3), .second, .val (.int (1 : Int32)), .val (.int qq), .val (.long lo), .second, .val (.ref b4), .val (.long ((qq.toInt64) * ((1 : Int32).toInt64))), .second, .val (.int (0 : Int32)), .unset, .unset] [(.int (1 : Int32))])) _
      refine XS.iconst X7.here hx rfl (hb hby at_219) ?_
      show Steps p.tables e below (T7.setTop (mkF m 220 #[.val (.int p1), .val (.int p2), .val (.long q3), .second, .val (.int (1 : Int32)), .val (.int qq), .val (.long lo), .second, .val (.ref b4), .val (.long ((qq.toInt64) * ((1 : Int32).toInt64))), .second, .val (.int (0 : Int32)), .unset, .unset] [(.int (4 : Int32)), (.int (1 : Int32))])) _
      refine XS.icmpYes X7.here hx rfl (pc0 := 220) (pc' := 235) rfl (hb hby at_220) rfl (flt (by decide : ¬ ((4 : Int32) < (1 : Int32)))).2.2.2 (by decide) (by decide) ?_
      show Steps p.tables e below (T7.setTop (mkF m 235 #[.val (.int p1), .val (.int p2), .val (.long q3), .second, .val (.int (1 : Int32)), .val (.int qq), .val (.long lo), .second, .val (.ref b4), .val (.long ((qq.toInt64) * ((1 : Int32).toInt64))), .second, .val (.int (0 : Int32)), .unset, .unset] [])) _
      refine XS.iload X7.here hx rfl (hb hby at_235) rfl ?_
      show Steps p.tables e below (T7.setTop (mkF m 237 #[.val (.int p1), .val (.int p2), .val (.long q3), .second, .val (.int (1 : Int32)), .val (.int qq), .val (.long lo), .second, .val (.ref b4), .val (.long ((qq.toInt64) * ((1 : Int32).toInt64))), .second, .val (.int (0 : Int32)), .unset, .unset] [(.int (1 : Int32))])) _
      refine XS.iconst X7.here hx rfl (hb hby at_237) ?_
      show Steps p.tables e below (T7.setTop (mkF m 238 #[.val (.int p1), .val (.int p2), .val (.long q3), .second, .val (.int (1 : Int32)), .val (.int qq), .val (.long lo), .second, .val (.ref b4), .val (.long ((qq.toInt64) * ((1 : Int32).toInt64))), .second, .val (.int (0 : Int32)), .unset, .unset] [(.int (5 : Int32)), (.int (1 : Int32))])) _
      refine XS.icmpYes X7.here hx rfl (pc0 := 238) (pc' := 253) rfl (hb hby at_238) rfl (flt (by decide : ¬ ((5 : Int32) < (1 : Int32)))).2.2.2 (by decide) (by decide) ?_
      show Steps p.tables e below (T7.setTop (mkF m 253 #[.val (.int p1), .val (.int p2), .val (.long q3), .second, .val (.int (1 : Int32)), .val (.int qq), .val (.long lo), .second, .val (.ref b4), .val (.long ((qq.toInt64) * ((1 : Int32).toInt64))), .second, .val (.int (0 : Int32)), .unset, .unset] [])) _
      refine XS.iload X7.here hx rfl (hb hby at_253) rfl ?_
      show Steps p.tables e below (T7.setTop (mkF m 255 #[.val (.int p1), .val (.int p2), .val (.long q3), .second, .val (.int (1 : Int32)), .val (.int qq), .val (.long lo), .second, .val (.ref b4), .val (.long ((qq.toInt64) * ((1 : Int32).toInt64))), .second, .val (.int (0 : Int32)), .unset, .unset] [(.int (1 : Int32))])) _
      refine XS.bipush X7.here hx rfl (hb hby at_255) ?_
      show Steps p.tables e below (T7.setTop (mkF m 257 #[.val (.int p1), .val (.int p2), .val (.long q3), .second, .val (.int (1 : Int32)), .val (.int qq), .val (.long lo), .second, .val (.ref b4), .val (.long ((qq.toInt64) * ((1 : Int32).toInt64))), .second, .val (.int (0 : Int32)), .unset, .unset] [(.int (6 : Int32)), (.int (1 : Int32))])) _
      refine XS.icmpYes X7.here hx rfl (pc0 := 257) (pc' := 272) rfl (hb hby at_257) rfl (flt (by decide : ¬ ((6 : Int32) < (1 : Int32)))).2.2.2 (by decide) (by decide) ?_
      show Steps p.tables e below (T7.setTop (mkF m 272 #[.val (.int p1), .val (.int p2), .val (.long q3), .second, .val (.int (1 : Int32)), .val (.int qq), .val (.long lo), .second, .val (.ref b4), .val (.long ((qq.toInt64) * ((1 : Int32).toInt64))), .second, .val (.int (0 : Int32)), .unset, .unset] [])) _
      refine XS.iload X7.here hx rfl (hb hby at_272) rfl ?_
      show Steps p.tables e below (T7.setTop (mkF m 274 #[.val (.int p1), .val (.int p2), .val (.long q3), .second, .val (.int (1 : Int32)), .val (.int qq), .val (.long lo), .second, .val (.ref b4), .val (.long ((qq.toInt64) * ((1 : Int32).toInt64))), .second, .val (.int (0 : Int32)), .unset, .unset] [(.int (1 : Int32))])) _
      refine XS.bipush X7.here hx rfl (hb hby at_274) ?_
      show Steps p.tables e below (T7.setTop (mkF m 276 #[.val (.int p1), .val (.int p2), .val (.long q3), .second, .val (.int (1 : Int32)), .val (.int qq), .val (.long lo), .second, .val (.ref b4), .val (.long ((qq.toInt64) * ((1 : Int32).toInt64))), .second, .val (.int (0 : Int32)), .unset, .unset] [(.int (7 : Int32)), (.int (1 : Int32))])) _
      refine XS.icmpYes X7.here hx rfl (pc0 := 276) (pc' := 291) rfl (hb hby at_276) rfl (flt (by decide : ¬ ((7 : Int32) < (1 : Int32)))).2.2.2 (by decide) (by decide) ?_
      show Steps p.tables e below (T7.setTop (mkF m 291 #[.val (.int p1), .val (.int p2), .val (.long q3), .second, .val (.int (1 : Int32)), .val (.int qq), .val (.long lo), .second, .val (.ref b4), .val (.long ((qq.toInt64) * ((1 : Int32).toInt64))), .second, .val (.int (0 : Int32)), .unset, .unset] [])) _
      refine XS.aload X7.here hx rfl (hb hby at_291) rfl rfl ?_
      show Steps p.tables e below (T7.setTop (mkF m 293 #[.val (.int p1), .val (.int p2), .val (.long q3), .second, .val (.int (1 : Int32)), .val (.int qq), .val (.long lo), .second, .val (.ref b4), .val (.long ((qq.toInt64) * ((1 : Int32).toInt64))), .second, .val (.int (0 : Int32)), .unset, .unset] [(.ref b4)])) _
      refine XS.iload X7.here hx rfl (hb hby at_293) rfl ?_
      show Steps p.tables e below (T7.setTop (mkF m 295 #[.val (.int p1), .val (.int p2), .val (.long q3), .second, .val (.int (1 : Int32)), .val (.int qq), .val (.long lo), .second, .val (.ref b4), .val (.long ((qq.toInt64) * ((1 : Int32).toInt64))), .second, .val (.int (0 : Int32)), .unset, .unset] [(.int qq), (.ref b4)])) _
      refine st10 _ ?_
      show Steps p.tables e below (T10.setTop (mkF m 298 #[.val (.int p1), .val (.int p2), .val (.long q3), .second, .val (.int (1 : Int32)), .val (.int qq), .val (.long lo), .second, .val (.ref b4), .val (.long ((qq.toInt64) * ((1 : Int32).toInt64))), .second, .val (.int (0 : Int32)), .unset, .unset] [(.long (lo + ((0 : Int32)).toInt64))])) _
      refine XS.lstore X10.here hx rfl (hb hby at_298) rfl (l' := #[.val (.int p1), .val (.int p2), .val (.long q3), .second, .val (.int (1 : Int32)), .val (.int qq), .val (.long lo), .second, .val (.ref b4), .val (.long ((qq.toInt64) * ((1 : Int32).toInt64))), .second, .val (.int (0 : Int32)), .val (.long (lo + ((0 : Int32)).toInt64)), .second]) rfl ?_
      show Steps p.tables e below (T10.setTop (mkF m 300 #[.val (.int p1), .val (.int p2), .val (.long q3), .second, .val (.int (1 : Int32)), .val (.int qq), .val (.long lo), .second, .val (.ref b4), .val (.long ((qq.toInt64) * ((1 : Int32).toInt64))), .second, .val (.int (0 : Int32)), .val (.long (lo + ((0 : Int32)).toInt64)), .second] [])) _
      refine XS.lload X10.here hx rfl (hb hby at_300) rfl ?_
      show Steps p.tables e below (T10.setTop (mkF m 302 #[.val (.int p1), .val (.int p2), .val (.long q3), .second, .val (.int (1 : Int32)), .val (.int qq), .val (.long lo), .second, .val (.ref b4), .val (.long ((qq.toInt64) * ((1 : Int32).toInt64))), .second, .val (.int (0 : Int32)), .val (.long (lo + ((0 : Int32)).toInt64)), .second] [(.long (lo + ((0 : Int32)).toInt64))])) _
      refine XS.lload X10.here hx rfl (hb hby at_302) rfl ?_
      show Steps p.tables e below (T10.setTop (mkF m 304 #[.val (.int p1), .val (.int p2), .val (.long q3), .second, .val (.int (1 : Int32)), .val (.int qq), .val (.long lo), .second, .val (.ref b4), .val (.long ((qq.toInt64) * ((1 : Int32).toInt64))), .second, .val (.int (0 : Int32)), .val (.long (lo + ((0 : Int32)).toInt64)), .second] [(.long lo), (.long (lo + ((0 : Int32)).toInt64))])) _
      refine XS.iload X10.here hx rfl (hb hby at_304) rfl ?_
      show Steps p.tables e below (T10.setTop (mkF m 306 #[.val (.int p1), .val (.int p2), .val (.long q3), .second, .val (.int (1 : Int32)), .val (.int qq), .val (.long lo), .second, .val (.ref b4), .val (.long ((qq.toInt64) * ((1 : Int32).toInt64))), .second, .val (.int (0 : Int32)), .val (.long (lo + ((0 : Int32)).toInt64)), .second] [(.int (0 : Int32)), (.long lo), (.long (lo + ((0 : Int32)).toInt64))])) _
      refine XS.i2l X10.here hx rfl (hb hby at_306) rfl ?_
      show Steps p.tables e below (T10.setTop (mkF m 307 #[.val (.int p1), .val (.int p2), .val (.long q3), .second, .val (.int (1 : Int32)), .val (.int qq), .val (.long lo), .second, .val (.ref b4), .val (.long ((qq.toInt64) * ((1 : Int32).toInt64))), .second, .val (.int (0 : Int32)), .val (.long (lo + ((0 : Int32)).toInt64)), .second] [(.long ((0 : Int32).toInt64)), (.long lo), (.long (lo + ((0 : Int32)).toInt64))])) _
      refine XS.ladd X10.here hx rfl (hb hby at_307) rfl ?_
      show Steps p.tables e below (T10.setTop (mkF m 308 #[.val (.int p1), .val (.int p2), .val (.long q3), .second, .val (.int (1 : Int32)), .val (.int qq), .val (.long lo), .second, .val (.ref b4), .val (.long ((qq.toInt64) * ((1 : Int32).toInt64))), .second, .val (.int (0 : Int32)), .val (.long (lo + ((0 : Int32)).toInt64)), .second] [(.long (lo + ((0 : Int32).toInt64))), (.long (lo + ((0 : Int32)).toInt64))])) _
      refine XS.lcmp X10.here hx rfl (hb hby at_308) rfl ?_
      show Steps p.tables e below (T10.setTop (mkF m 309 #[.val (.int p1), .val (.int p2), .val (.long q3), .second, .val (.int (1 : Int32)), .val (.int qq), .val (.long lo), .second, .val (.ref b4), .val (.long ((qq.toInt64) * ((1 : Int32).toInt64))), .second, .val (.int (0 : Int32)), .val (.long (lo + ((0 : Int32)).toInt64)), .second] [(.int (lcmpW (lo + ((0 : Int32)).toInt64) (lo + ((0 : Int32).toInt64))))])) _
      refine XS.ifNo X10.here hx rfl (hb hby at_309) rfl (own_lneF rfl) ?_
      show Steps p.tables e below (T10.setTop (mkF m 312 #[.val (.int p1), .val (.int p2), .val (.long q3), .second, .val (.int (1 : Int32)), .val (.int qq), .val (.long lo), .second, .val (.ref b4), .val (.long ((qq.toInt64) * ((1 : Int32).toInt64))), .second, .val (.int (0 : Int32)), .val (.long (lo + ((0 : Int32)).toInt64)), .second] [])) _
      refine XS.iconst X10.here hx rfl (hb hby at_312) ?_
      show Steps p.tables e below (T10.setTop (mkF m 313 #[.val (.int p1), .val (.int p2), .val (.long q3), .second, .val (.int (1 : Int32)), .val (.int qq), .val (.long lo), .second, .val (.ref b4), .val (.long ((qq.toInt64) * ((1 : Int32).toInt64))), .second, .val (.int (0 : Int32)), .val (.long (lo + ((0 : Int32)).toInt64)), .second] [(.int (1 : Int32))])) _
      refine XS.goto X10.here hx rfl (pc0 := 313) (pc' := 317) rfl (hb hby at_313) (by decide) (by decide) ?_
      show Steps p.tables e below (T10.setTop (mkF m 317 #[.val (.int p1), .val (.int p2), .val (.long q3), .second, .val (.int (1 : Int32)), .val (.int qq), .val (.long lo), .second, .val (.ref b4), .val (.long ((qq.toInt64) * ((1 : Int32).toInt64))), .second, .val (.int (0 : Int32)), .val (.long (lo + ((0 : Int32)).toInt64)), .second] [(.int (1 : Int32))])) _
      exact retN X10 hx (t := .boolean) Bd.returns (by simp) (hb hby at_317) hr
    · show Q_rm0 Z p1 p2 q3 h0 n0 _ T10.heap _
      rw [e10]
      exact ⟨rfl, N10⟩
  · rw [hn] at pre3
    obtain ⟨T11, h11, k11, X11, e11, E11, A11, st11⟩ := newP X0 hx hZ (hw _ (List.mem_of_getElem? (i := 1) rfl)) e0 (g := (mkF m 27 #[.val (.int p1), .val (.int p2), .val (.long q3), .second, .val (.int (2 : Int32)), .val (.int qq), .val (.long lo), .second, .unset, .unset, .unset, .unset, .unset, .unset] [(.int (2 : Int32))])) rfl (hb hby at_27) rfl (by decide) (cap := 2) (by decide) (by decide) (by decide) (by decide)
    obtain ⟨b11, g11⟩ : ∃ z, z = h0.size := ⟨_, rfl⟩
    rw [← g11] at A11 st11
    have g_b11 : n0 ≤ b11 := Nat.le_trans Z0 (Nat.le_of_eq g11.symm)
    have sz_b11 : h0.size ≤ b11 := Nat.le_trans (Keep.refl h0 []).1 (Nat.le_of_eq g11.symm)
    have K12 : Keep h0 h11 [] := (Keep.refl h0 []).ext E11
    have V_b11 : Arv Z h11 b11 k11 .long (2 : Int32) [(.long (0 : Int64)), (.long (0 : Int64))] (.long (0 : Int64)) := (Arv.new A11 (by decide)).pad (pad_rep [] (.long (0 : Int64)) 2)
    obtain ⟨c13, Ac13, qc13, Sc13, Nc13, Hc13, Gc13⟩ := id V_b11
    obtain ⟨T14, h14, X14, e14, W14, st14⟩ := stJ X11 hx hZ e11 Ac13 (j := (0 : Int32)) (inb_of Sc13 ⟨by decide, by decide⟩) (g := (mkF m 36 #[.val (.int p1), .val (.int p2), .val (.long q3), .second, .val (.int (2 : Int32)), .val (.int qq), .val (.long lo), .second, .val (.ref b11), .unset, .unset, .unset, .unset, .unset] [(.long lo), (.int (0 : Int32)), (.ref b11)])) rfl rfl (hb hby at_36)
    have K15 : Keep h0 h14 [] := K12.wr W14 (Or.inr sz_b11)
    have N16 := Fr.snoc X14 N0 g_b11
    have Vw14 := Arv.set Ac13 qc13 Sc13 Nc13 Hc13 Gc13 rfl W14 0 rfl (Nat.le_of_ble_eq_true rfl)
    change Arv Z h14 b11 k11 .long (2 : Int32) [(.long lo), (.long (0 : Int64))] (.long (0 : Int64)) at Vw14
    obtain ⟨c17, Ac17, qc17, Sc17, Nc17, Hc17, Gc17⟩ := id Vw14
    obtain ⟨T18, h18, X18, e18, W18, st18⟩ := stJ X14 hx hZ e14 Ac17 (j := (1 : Int32)) (inb_of Sc17 ⟨by decide, by decide⟩) (g := (mkF m 50 #[.val (.int p1), .val (.int p2), .val (.long q3), .second, .val (.int (2 : Int32)), .val (.int qq), .val (.long lo), .second, .val (.ref b11), .unset, .unset, .unset, .unset, .unset] [(.long (lo + (1 : Int64))), (.int (1 : Int32)), (.ref b11)])) rfl rfl (hb hby at_50)
    have K19 : Keep h0 h18 [] := K15.wr W18 (Or.inr sz_b11)
    have N20 := Fr.snoc X18 N16 g_b11
    have Vw18 := Arv.set Ac17 qc17 Sc17 Nc17 Hc17 Gc17 rfl W18 1 rfl (Nat.le_of_ble_eq_true rfl)
    change Arv Z h18 b11 k11 .long (2 : Int32) [(.long lo), (.long (lo + (1 : Int64)))] (.long (0 : Int64)) at Vw18
    have pre21 : ∀ t, Steps p.tables e below (T18.setTop (mkF m 163 #[.val (.int p1), .val (.int p2), .val (.long q3), .second, .val (.int (2 : Int32)), .val (.int qq), .val (.long lo), .second, .val (.ref b11), .val (.long ((qq.toInt64) * ((2 : Int32).toInt64))), .second, .val (.int (0 : Int32)), .unset, .unset] [])) t → Steps p.tables e below (s₁.setTop (entryFrame m #[(.int p1), (.int p2), (.long q3)] maxLocals)) t := fun t kt => by
      refine pre3 t ?_
      show Steps p.tables e below (s₁.setTop (mkF m 25 #[.val (.int p1), .val (.int p2), .val (.long q3), .second, .val (.int (2 : Int32)), .val (.int qq), .val (.long lo), .second, .unset, .unset, .unset, .unset, .unset, .unset] [])) _
      refine XS.iload X0.here hx rfl (hb hby at_25) rfl ?_
      show Steps p.tables e below (s₁.setTop (mkF m 27 #[.val (.int p1), .val (.int p2), .val (.long q3), .second, .val (.int (2 : Int32)), .val (.int qq), .val (.long lo), .second, .unset, .unset, .unset, .unset, .unset, .unset] [(.int (2 : Int32))])) _
      refine st11 _ ?_
      show Steps p.tables e below (T11.setTop (mkF m 29 #[.val (.int p1), .val (.int p2), .val (.long q3), .second, .val (.int (2 : Int32)), .val (.int qq), .val (.long lo), .second, .unset, .unset, .unset, .unset, .unset, .unset] [(.ref b11)])) _
      refine XS.astore X11.here hx rfl (hb hby at_29) rfl rfl (l' := #[.val (.int p1), .val (.int p2), .val (.long q3), .second, .val (.int (2 : Int32)), .val (.int qq), .val (.long lo), .second, .val (.ref b11), .unset, .unset, .unset, .unset, .unset]) rfl ?_
      show Steps p.tables e below (T11.setTop (mkF m 31 #[.val (.int p1), .val (.int p2), .val (.long q3), .second, .val (.int (2 : Int32)), .val (.int qq), .val (.long lo), .second, .val (.ref b11), .unset, .unset, .unset, .unset, .unset] [])) _
      refine XS.aload X11.here hx rfl (hb hby at_31) rfl rfl ?_
      show Steps p.tables e below (T11.setTop (mkF m 33 #[.val (.int p1), .val (.int p2), .val (.long q3), .second, .val (.int (2 : Int32)), .val (.int qq), .val (.long lo), .second, .val (.ref b11), .unset, .unset, .unset, .unset, .unset] [(.ref b11)])) _
      refine XS.iconst X11.here hx rfl (hb hby at_33) ?_
      show Steps p.tables e below (T11.setTop (mkF m 34 #[.val (.int p1), .val (.int p2), .val (.long q3), .second, .val (.int (2 : Int32)), .val (.int qq), .val (.long lo), .second, .val (.ref b11), .unset, .unset, .unset, .unset, .unset] [(.int (0 : Int32)), (.ref b11)])) _
      refine XS.lload X11.here hx rfl (hb hby at_34) rfl ?_
      show Steps p.tables e below (T11.setTop (mkF m 36 #[.val (.int p1), .val (.int p2), .val (.long q3), .second, .val (.int (2 : Int32)), .val (.int qq), .val (.long lo), .second, .val (.ref b11), .unset, .unset, .unset, .unset, .unset] [(.long lo), (.int (0 : Int32)), (.ref b11)])) _
      refine st14 _ ?_
      show Steps p.tables e below (T14.setTop (mkF m 37 #[.val (.int p1), .val (.int p2), .val (.long q3), .second, .val (.int (2 : Int32)), .val (.int qq), .val (.long lo), .second, .val (.ref b11), .unset, .unset, .unset, .unset, .unset] [])) _
      refine XS.iload X14.here hx rfl (hb hby at_37) rfl ?_
      show Steps p.tables e below (T14.setTop (mkF m 39 #[.val (.int p1), .val (.int p2), .val (.long q3), .second, .val (.int (2 : Int32)), .val (.int qq), .val (.long lo), .second, .val (.ref b11), .unset, .unset, .unset, .unset, .unset] [(.int (2 : Int32))])) _
      refine XS.iconst X14.here hx rfl (hb hby at_39) ?_
      show Steps p.tables e below (T14.setTop (mkF m 40 #[.val (.int p1), .val (.int p2), .val (.long q3), .second, .val (.int (2 : Int32)), .val (.int qq), .val (.long lo), .second, .val (.ref b11), .unset, .unset, .unset, .unset, .unset] [(.int (1 : Int32)), (.int (2 : Int32))])) _
      refine XS.icmpNo X14.here hx rfl (hb hby at_40) rfl (tlt (by decide : (1 : Int32) < (2 : Int32))).2.2.2 ?_
      show Steps p.tables e below (T14.setTop (mkF m 43 #[.val (.int p1), .val (.int p2), .val (.long q3), .second, .val (.int (2 : Int32)), .val (.int qq), .val (.long lo), .second, .val (.ref b11), .unset, .unset, .unset, .unset, .unset] [])) _
      refine XS.aload X14.here hx rfl (hb hby at_43) rfl rfl ?_
      show Steps p.tables e below (T14.setTop (mkF m 45 #[.val (.int p1), .val (.int p2), .val (.long q3), .second, .val (.int (2 : Int32)), .val (.int qq), .val (.long lo), .second, .val (.ref b11), .unset, .unset, .unset, .unset, .unset] [(.ref b11)])) _
      refine XS.iconst X14.here hx rfl (hb hby at_45) ?_
      show Steps p.tables e below (T14.setTop (mkF m 46 #[.val (.int p1), .val (.int p2), .val (.long q3), .second, .val (.int (2 : Int32)), .val (.int qq), .val (.long lo), .second, .val (.ref b11), .unset, .unset, .unset, .unset, .unset] [(.int (1 : Int32)), (.ref b11)])) _
      refine XS.lload X14.here hx rfl (hb hby at_46) rfl ?_
      show Steps p.tables e below (T14.setTop (mkF m 48 #[.val (.int p1), .val (.int p2), .val (.long q3), .second, .val (.int (2 : Int32)), .val (.int qq), .val (.long lo), .second, .val (.ref b11), .unset, .unset, .unset, .unset, .unset] [(.long lo), (.int (1 : Int32)), (.ref b11)])) _
      refine XS.lconst X14.here hx rfl (hb hby at_48) ?_
      show Steps p.tables e below (T14.setTop (mkF m 49 #[.val (.int p1), .val (.int p2), .val (.long q3), .second, .val (.int (2 : Int32)), .val (.int qq), .val (.long lo), .second, .val (.ref b11), .unset, .unset, .unset, .unset, .unset] [(.long (1 : Int64)), (.long lo), (.int (1 : Int32)), (.ref b11)])) _
      refine XS.ladd X14.here hx rfl (hb hby at_49) rfl ?_
      show Steps p.tables e below (T14.setTop (mkF m 50 #[.val (.int p1), .val (.int p2), .val (.long q3), .second, .val (.int (2 : Int32)), .val (.int qq), .val (.long lo), .second, .val (.ref b11), .unset, .unset, .unset, .unset, .unset] [(.long (lo + (1 : Int64))), (.int (1 : Int32)), (.ref b11)])) _
      refine st18 _ ?_
      show Steps p.tables e below (T18.setTop (mkF m 51 #[.val (.int p1), .val (.int p2), .val (.long q3), .second, .val (.int (2 : Int32)), .val (.int qq), .val (.long lo), .second, .val (.ref b11), .unset, .unset, .unset, .unset, .unset] [])) _
      refine XS.iload X18.here hx rfl (hb hby at_51) rfl ?_
      show Steps p.tables e below (T18.setTop (mkF m 53 #[.val (.int p1), .val (.int p2), .val (.long q3), .second, .val (.int (2 : Int32)), .val (.int qq), .val (.long lo), .second, .val (.ref b11), .unset, .unset, .unset, .unset, .unset] [(.int (2 : Int32))])) _
      refine XS.iconst X18.here hx rfl (hb hby at_53) ?_
      show Steps p.tables e below (T18.setTop (mkF m 54 #[.val (.int p1), .val (.int p2), .val (.long q3), .second, .val (.int (2 : Int32)), .val (.int qq), .val (.long lo), .second, .val (.ref b11), .unset, .unset, .unset, .unset, .unset] [(.int (2 : Int32)), (.int (2 : Int32))])) _
      refine XS.icmpYes X18.here hx rfl (pc0 := 54) (pc' := 67) rfl (hb hby at_54) rfl (flt (by decide : ¬ ((2 : Int32) < (2 : Int32)))).2.2.2 (by decide) (by decide) ?_
      show Steps p.tables e below (T18.setTop (mkF m 67 #[.val (.int p1), .val (.int p2), .val (.long q3), .second, .val (.int (2 : Int32)), .val (.int qq), .val (.long lo), .second, .val (.ref b11), .unset, .unset, .unset, .unset, .unset] [])) _
      refine XS.iload X18.here hx rfl (hb hby at_67) rfl ?_
      show Steps p.tables e below (T18.setTop (mkF m 69 #[.val (.int p1), .val (.int p2), .val (.long q3), .second, .val (.int (2 : Int32)), .val (.int qq), .val (.long lo), .second, .val (.ref b11), .unset, .unset, .unset, .unset, .unset] [(.int (2 : Int32))])) _
      refine XS.iconst X18.here hx rfl (hb hby at_69) ?_
      show Steps p.tables e below (T18.setTop (mkF m 70 #[.val (.int p1), .val (.int p2), .val (.long q3), .second, .val (.int (2 : Int32)), .val (.int qq), .val (.long lo), .second, .val (.ref b11), .unset, .unset, .unset, .unset, .unset] [(.int (3 : Int32)), (.int (2 : Int32))])) _
      refine XS.icmpYes X18.here hx rfl (pc0 := 70) (pc' := 83) rfl (hb hby at_70) rfl (flt (by decide : ¬ ((3 : Int32) < (2 : Int32)))).2.2.2 (by decide) (by decide) ?_
      show Steps p.tables e below (T18.setTop (mkF m 83 #[.val (.int p1), .val (.int p2), .val (.long q3), .second, .val (.int (2 : Int32)), .val (.int qq), .val (.long lo), .second, .val (.ref b11), .unset, .unset, .unset, .unset, .unset] [])) _
      refine XS.iload X18.here hx rfl (hb hby at_83) rfl ?_
      show Steps p.tables e below (T18.setTop (mkF m 85 #[.val (.int p1), .val (.int p2), .val (.long q3), .second, .val (.int (2 : Int32)), .val (.int qq), .val (.long lo), .second, .val (.ref b11), .unset, .unset, .unset, .unset, .unset] [(.int (2 : Int32))])) _
      refine XS.iconst X18.here hx rfl (hb hby at_85) ?_
      show Steps p.tables e below (T18.setTop (mkF m 86 #[.val (.int p1), .val (.int p2), .val (.long q3), .second, .val (.int (2 : Int32)), .val (.int qq), .val (.long lo), .second, .val (.ref b11), .unset, .unset, .unset, .unset, .unset] [(.int (4 : Int32)), (.int (2 : Int32))])) _
      refine XS.icmpYes X18.here hx rfl (pc0 := 86) (pc' := 99) rfl (hb hby at_86) rfl (flt (by decide : ¬ ((4 : Int32) < (2 : Int32)))).2.2.2 (by decide) (by decide) ?_
      show Steps p.tables e below (T18.setTop (mkF m 99 #[.val (.int p1), .val (.int p2), .val (.long q3), .second, .val (.int (2 : Int32)), .val (.int qq), .val (.long lo), .second, .val (.ref b11), .unset, .unset, .unset, .unset, .unset] [])) _
      refine XS.iload X18.here hx rfl (hb hby at_99) rfl ?_
      show Steps p.tables e below (T18.setTop (mkF m 101 #[.val (.int p1), .val (.int p2), .val (.long q3), .second, .val (.int (2 : Int32)), .val (.int qq), .val (.long lo), .second, .val (.ref b11), .unset, .unset, .unset, .unset, .unset] [(.int (2 : Int32))])) _
      refine XS.iconst X18.here hx rfl (hb hby at_101) ?_
      show Steps p.tables e below (T18.setTop (mkF m 102 #[.val (.int p1), .val (.int p2), .val (.long q3), .second, .val (.int (2 : Int32)), .val (.int qq), .val (.long lo), .second, .val (.ref b11), .unset, .unset, .unset, .unset, .unset] [(.int (5 : Int32)), (.int (2 : Int32))])) _
      refine XS.icmpYes X18.here hx rfl (pc0 := 102) (pc' := 115) rfl (hb hby at_102) rfl (flt (by decide : ¬ ((5 : Int32) < (2 : Int32)))).2.2.2 (by decide) (by decide) ?_
      show Steps p.tables e below (T18.setTop (mkF m 115 #[.val (.int p1), .val (.int p2), .val (.long q3), .second, .val (.int (2 : Int32)), .val (.int qq), .val (.long lo), .second, .val (.ref b11), .unset, .unset, .unset, .unset, .unset] [])) _
      refine XS.iload X18.here hx rfl (hb hby at_115) rfl ?_
      show Steps p.tables e below (T18.setTop (mkF m 117 #[.val (.int p1), .val (.int p2), .val (.long q3), .second, .val (.int (2 : Int32)), .val (.int qq), .val (.long lo), .second, .val (.ref b11), .unset, .unset, .unset, .unset, .unset] [(.int (2 : Int32))])) _
      refine XS.bipush X18.here hx rfl (hb hby at_117) ?_
      show Steps p.tables e below (T18.setTop (mkF m 119 #[.val (.int p1), .val (.int p2), .val (.long q3), .second, .val (.int (2 : Int32)), .val (.int qq), .val (.long lo), .second, .val (.ref b11), .unset, .unset, .unset, .unset, .unset] [(.int (6 : Int32)), (.int (2 : Int32))])) _
      refine XS.icmpYes X18.here hx rfl (pc0 := 119) (pc' := 133) rfl (hb hby at_119) rfl (flt (by decide : ¬ ((6 : Int32) < (2 : Int32)))).2.2.2 (by decide) (by decide) ?_
      show Steps p.tables e below (T18.setTop (mkF m 133 #[.val (.int p1), .val (.int p2), .val (.long q3), .second, .val (.int (2 : Int32)), .val (.int qq), .val (.long lo), .second, .val (.ref b11), .unset, .unset, .unset, .unset, .unset] [])) _
      refine XS.iload X18.here hx rfl (hb hby at_133) rfl ?_
      show Steps p.tables e below (T18.setTop (mkF m 135 #[.val (.int p1), .val (.int p2), .val (.long q3), .second, .val (.int (2 : Int32)), .val (.int qq), .val (.long lo), .second, .val (.ref b11), .unset, .unset, .unset, .unset, .unset] [(.int (2 : Int32))])) _
      refine XS.bipush X18.here hx rfl (hb hby at_135) ?_
      show Steps p.tables e below (T18.setTop (mkF m 137 #[.val (.int p1), .val (.int p2), .val (.long q3), .second, .val (.int (2 : Int32)), .val (.int qq), .val (.long lo), .second, .val (.ref b11), .unset, .unset, .unset, .unset, .unset] [(.int (7 : Int32)), (.int (2 : Int32))])) _
      refine XS.icmpYes X18.here hx rfl (pc0 := 137) (pc' := 151) rfl (hb hby at_137) rfl (flt (by decide : ¬ ((7 : Int32) < (2 : Int32)))).2.2.2 (by decide) (by decide) ?_
      show Steps p.tables e below (T18.setTop (mkF m 151 #[.val (.int p1), .val (.int p2), .val (.long q3), .second, .val (.int (2 : Int32)), .val (.int qq), .val (.long lo), .second, .val (.ref b11), .unset, .unset, .unset, .unset, .unset] [])) _
      refine XS.iload X18.here hx rfl (hb hby at_151) rfl ?_
      show Steps p.tables e below (T18.setTop (mkF m 153 #[.val (.int p1), .val (.int p2), .val (.long q3), .second, .val (.int (2 : Int32)), .val (.int qq), .val (.long lo), .second, .val (.ref b11), .unset, .unset, .unset, .unset, .unset] [(.int qq)])) _
      refine XS.i2l X18.here hx rfl (hb hby at_153) rfl ?_
      show Steps p.tables e below (T18.setTop (mkF m 154 #[.val (.int p1), .val (.int p2), .val (.long q3), .second, .val (.int (2 : Int32)), .val (.int qq), .val (.long lo), .second, .val (.ref b11), .unset, .unset, .unset, .unset, .unset] [(.long (qq.toInt64))])) _
      refine XS.iload X18.here hx rfl (hb hby at_154) rfl ?_
      show Steps p.tables e below (T18.setTop (mkF m 156 #[.val (.int p1), .val (.int p2), .val (.long q3), .second, .val (.int (2 : Int32)), .val (.int qq), .val (.long lo), .second, .val (.ref b11), .unset, .unset, .unset, .unset, .unset] [(.int (2 : Int32)), (.long (qq.toInt64))])) _
      refine XS.i2l X18.here hx rfl (hb hby at_156) rfl ?_
      show Steps p.tables e below (T18.setTop (mkF m 157 #[.val (.int p1), .val (.int p2), .val (.long q3), .second, .val (.int (2 : Int32)), .val (.int qq), .val (.long lo), .second, .val (.ref b11), .unset, .unset, .unset, .unset, .unset] [(.long ((2 : Int32).toInt64)), (.long (qq.toInt64))])) _
      refine XS.lmul X18.here hx rfl (hb hby at_157) rfl ?_
      show Steps p.tables e below (T18.setTop (mkF m 158 #[.val (.int p1), .val (.int p2), .val (.long q3), .second, .val (.int (2 : Int32)), .val (.int qq), .val (.long lo), .second, .val (.ref b11), .unset, .unset, .unset, .unset, .unset] [(.long ((qq.toInt64) * ((2 : Int32).toInt64)))])) _
      refine XS.lstore X18.here hx rfl (hb hby at_158) rfl (l' := #[.val (.int p1), .val (.int p2), .val (.long q3), .second, .val (.int (2 : Int32)), .val (.int qq), .val (.long lo), .second, .val (.ref b11), .val (.long ((qq.toInt64) * ((2 : Int32).toInt64))), .second, .unset, .unset, .unset]) rfl ?_
      show Steps p.tables e below (T18.setTop (mkF m 160 #[.val (.int p1), .val (.int p2), .val (.long q3), .second, .val (.int (2 : Int32)), .val (.int qq), .val (.long lo), .second, .val (.ref b11), .val (.long ((qq.toInt64) * ((2 : Int32).toInt64))), .second, .unset, .unset, .unset] [])) _
      refine XS.iconst X18.here hx rfl (hb hby at_160) ?_
      show Steps p.tables e below (T18.setTop (mkF m 161 #[.val (.int p1), .val (.int p2), .val (.long q3), .second, .val (.int (2 : Int32)), .val (.int qq), .val (.long lo), .second, .val (.ref b11), .val (.long ((qq.toInt64) * ((2 : Int32).toInt64))), .second, .unset, .unset, .unset] [(.int (0 : Int32))])) _
      refine XS.istore X18.here hx rfl (hb hby at_161) rfl (l' := #[.val (.int p1), .val (.int p2), .val (.long q3), .second, .val (.int (2 : Int32)), .val (.int qq), .val (.long lo), .second, .val (.ref b11), .val (.long ((qq.toInt64) * ((2 : Int32).toInt64))), .second, .val (.int (0 : Int32)), .unset, .unset]) rfl ?_
      exact kt
    have pre22 : ∀ t, Steps p.tables e below (T18.setTop (mkF m 166 #[.val (.int p1), .val (.int p2), .val (.long q3), .second, .val (.int (2 : Int32)), .val (.int qq), .val (.long lo), .second, .val (.ref b11), .val (.long ((qq.toInt64) * ((2 : Int32).toInt64))), .second, .val (.int (0 : Int32)), .unset, .unset] [(.int (1 : Int32)), (.int (2 : Int32))])) t → Steps p.tables e below (s₁.setTop (entryFrame m #[(.int p1), (.int p2), (.long q3)] maxLocals)) t := fun t kt => by
      refine pre21 t ?_
      show Steps p.tables e below (T18.setTop (mkF m 163 #[.val (.int p1), .val (.int p2), .val (.long q3), .second, .val (.int (2 : Int32)), .val (.int qq), .val (.long lo), .second, .val (.ref b11), .val (.long ((qq.toInt64) * ((2 : Int32).toInt64))), .second, .val (.int (0 : Int32)), .unset, .unset] [])) _
      refine XS.iload X18.here hx rfl (hb hby at_163) rfl ?_
      show Steps p.tables e below (T18.setTop (mkF m 165 #[.val (.int p1), .val (.int p2), .val (.long q3), .second, .val (.int (2 : Int32)), .val (.int qq), .val (.long lo), .second, .val (.ref b11), .val (.long ((qq.toInt64) * ((2 : Int32).toInt64))), .second, .val (.int (0 : Int32)), .unset, .unset] [(.int (2 : Int32))])) _
      refine XS.iconst X18.here hx rfl (hb hby at_165) ?_
      exact kt
    obtain ⟨i1, h_i1, pre24⟩ : ∃ z : Int32, z = (if (1000 : Int64) < ((qq.toInt64) * ((2 : Int32).toInt64)) then (1 : Int32) else (0 : Int32)) ∧ ∀ t, Steps p.tables e below (T18.setTop (mkF m 181 #[.val (.int p1), .val (.int p2), .val (.long q3), .second, .val (.int (2 : Int32)), .val (.int qq), .val (.long lo), .second, .val (.ref b11), .val (.long ((qq.toInt64) * ((2 : Int32).toInt64))), .second, .val (.int z), .unset, .unset] [])) t → Steps p.tables e below (s₁.setTop (entryFrame m #[(.int p1), (.int p2), (.long q3)] maxLocals)) t := by
      by_cases hj175_23 : (1000 : Int64) < ((qq.toInt64) * ((2 : Int32).toInt64))
      · exact ⟨_, by rw [if_pos hj175_23], fun t kt => by
          refine pre22 t ?_
          show Steps p.tables e below (T18.setTop (mkF m 166 #[.val (.int p1), .val (.int p2), .val (.long q3), .second, .val (.int (2 : Int32)), .val (.int qq), .val (.long lo), .second, .val (.ref b11), .val (.long ((qq.toInt64) * ((2 : Int32).toInt64))), .second, .val (.int (0 : Int32)), .unset, .unset] [(.int (1 : Int32)), (.int (2 : Int32))])) _
          refine XS.icmpNo X18.here hx rfl (hb hby at_166) rfl (tlt (by decide : (1 : Int32) < (2 : Int32))).2.2.2 ?_
          show Steps p.tables e below (T18.setTop (mkF m 169 #[.val (.int p1), .val (.int p2), .val (.long q3), .second, .val (.int (2 : Int32)), .val (.int qq), .val (.long lo), .second, .val (.ref b11), .val (.long ((qq.toInt64) * ((2 : Int32).toInt64))), .second, .val (.int (0 : Int32)), .unset, .unset] [])) _
          refine X18.ldc2Long hx hown (mvT hZ (hw _ (List.mem_of_getElem? (i := 11) rfl))) (g := (mkF m 169 #[.val (.int p1), .val (.int p2), .val (.long q3), .second, .val (.int (2 : Int32)), .val (.int qq), .val (.long lo), .second, .val (.ref b11), .val (.long ((qq.toInt64) * ((2 : Int32).toInt64))), .second, .val (.int (0 : Int32)), .unset, .unset] [])) rfl (hb hby at_169) _ ?_
          show Steps p.tables e below (T18.setTop (mkF m 172 #[.val (.int p1), .val (.int p2), .val (.long q3), .second, .val (.int (2 : Int32)), .val (.int qq), .val (.long lo), .second, .val (.ref b11), .val (.long ((qq.toInt64) * ((2 : Int32).toInt64))), .second, .val (.int (0 : Int32)), .unset, .unset] [(.long (1000 : Int64))])) _
          refine XS.lload X18.here hx rfl (hb hby at_172) rfl ?_
          show Steps p.tables e below (T18.setTop (mkF m 174 #[.val (.int p1), .val (.int p2), .val (.long q3), .second, .val (.int (2 : Int32)), .val (.int qq), .val (.long lo), .second, .val (.ref b11), .val (.long ((qq.toInt64) * ((2 : Int32).toInt64))), .second, .val (.int (0 : Int32)), .unset, .unset] [(.long ((qq.toInt64) * ((2 : Int32).toInt64))), (.long (1000 : Int64))])) _
          refine XS.lcmp X18.here hx rfl (hb hby at_174) rfl ?_
          show Steps p.tables e below (T18.setTop (mkF m 175 #[.val (.int p1), .val (.int p2), .val (.long q3), .second, .val (.int (2 : Int32)), .val (.int qq), .val (.long lo), .second, .val (.ref b11), .val (.long ((qq.toInt64) * ((2 : Int32).toInt64))), .second, .val (.int (0 : Int32)), .unset, .unset] [(.int (lcmpW (1000 : Int64) ((qq.toInt64) * ((2 : Int32).toInt64))))])) _
          refine XS.ifNo X18.here hx rfl (hb hby at_175) rfl (own_lgeF hj175_23) ?_
          show Steps p.tables e below (T18.setTop (mkF m 178 #[.val (.int p1), .val (.int p2), .val (.long q3), .second, .val (.int (2 : Int32)), .val (.int qq), .val (.long lo), .second, .val (.ref b11), .val (.long ((qq.toInt64) * ((2 : Int32).toInt64))), .second, .val (.int (0 : Int32)), .unset, .unset] [])) _
          refine XS.iinc X18.here hx rfl (hb hby at_178) rfl (l' := #[.val (.int p1), .val (.int p2), .val (.long q3), .second, .val (.int (2 : Int32)), .val (.int qq), .val (.long lo), .second, .val (.ref b11), .val (.long ((qq.toInt64) * ((2 : Int32).toInt64))), .second, .val (.int (1 : Int32)), .unset, .unset]) rfl ?_
          exact kt⟩
      · exact ⟨_, by rw [if_neg hj175_23], fun t kt => by
          refine pre22 t ?_
          show Steps p.tables e below (T18.setTop (mkF m 166 #[.val (.int p1), .val (.int p2), .val (.long q3), .second, .val (.int (2 : Int32)), .val (.int qq), .val (.long lo), .second, .val (.ref b11), .val (.long ((qq.toInt64) * ((2 : Int32).toInt64))), .second, .val (.int (0 : Int32)), .unset, .unset] [(.int (1 : Int32)), (.int (2 : Int32))])) _
          refine XS.icmpNo X18.here hx rfl (hb hby at_166) rfl (tlt (by decide : (1 : Int32) < (2 : Int32))).2.2.2 ?_
          show Steps p.tables e below (T18.setTop (mkF m 169 #[.val (.int p1), .val (.int p2), .val (.long q3), .second, .val (.int (2 : Int32)), .val (.int qq), .val (.long lo), .second, .val (.ref b11), .val (.long ((qq.toInt64) * ((2 : Int32).toInt64))), .second, .val (.int (0 : Int32)), .unset, .unset] [])) _
          refine X18.ldc2Long hx hown (mvT hZ (hw _ (List.mem_of_getElem? (i := 11) rfl))) (g := (mkF m 169 #[.val (.int p1), .val (.int p2), .val (.long q3), .second, .val (.int (2 : Int32)), .val (.int qq), .val (.long lo), .second, .val (.ref b11), .val (.long ((qq.toInt64) * ((2 : Int32).toInt64))), .second, .val (.int (0 : Int32)), .unset, .unset] [])) rfl (hb hby at_169) _ ?_
          show Steps p.tables e below (T18.setTop (mkF m 172 #[.val (.int p1), .val (.int p2), .val (.long q3), .second, .val (.int (2 : Int32)), .val (.int qq), .val (.long lo), .second, .val (.ref b11), .val (.long ((qq.toInt64) * ((2 : Int32).toInt64))), .second, .val (.int (0 : Int32)), .unset, .unset] [(.long (1000 : Int64))])) _
          refine XS.lload X18.here hx rfl (hb hby at_172) rfl ?_
          show Steps p.tables e below (T18.setTop (mkF m 174 #[.val (.int p1), .val (.int p2), .val (.long q3), .second, .val (.int (2 : Int32)), .val (.int qq), .val (.long lo), .second, .val (.ref b11), .val (.long ((qq.toInt64) * ((2 : Int32).toInt64))), .second, .val (.int (0 : Int32)), .unset, .unset] [(.long ((qq.toInt64) * ((2 : Int32).toInt64))), (.long (1000 : Int64))])) _
          refine XS.lcmp X18.here hx rfl (hb hby at_174) rfl ?_
          show Steps p.tables e below (T18.setTop (mkF m 175 #[.val (.int p1), .val (.int p2), .val (.long q3), .second, .val (.int (2 : Int32)), .val (.int qq), .val (.long lo), .second, .val (.ref b11), .val (.long ((qq.toInt64) * ((2 : Int32).toInt64))), .second, .val (.int (0 : Int32)), .unset, .unset] [(.int (lcmpW (1000 : Int64) ((qq.toInt64) * ((2 : Int32).toInt64))))])) _
          refine XS.ifYes X18.here hx rfl (pc0 := 175) (pc' := 181) rfl (hb hby at_175) rfl (own_lgeT hj175_23) (by decide) (by decide) ?_
          exact kt⟩
    have hcn := own_c2 hq h_i1
    obtain ⟨_, _, ⟨T25, L25, k25, n25⟩, -, X25, ⟨Lc25, hQ25, l25, y25, z25⟩, st25⟩ := Jvm.LawKit.callS X18 hx (y := (⟨"com/example/sandglass/sandglass/Percentiles", "nearestRank", "([JI)J"⟩ : MethodName)) hown (mvT hZ (hw _ (List.mem_of_getElem? (i := 2) rfl))) (mvT hZ (hw _ (List.mem_of_getElem? (i := 3) rfl))) (mvT hZ (hw _ (List.mem_of_getElem? (i := 4) rfl))) (mvT hZ (hw _ (List.mem_of_getElem? (i := 5) rfl))) (by decide) (backOf (W := 0) (rm1 l Z a0 hw [] b11 qq k11 (2 : Int32) [(.long lo), (.long (lo + (1 : Int64)))] (lo + (i1).toInt64) h18 n0 (Nat.le_trans Z0 K19.1) Vw18 (own_i2 hcn.1 hcn.2.1 hcn.2.2) (own_g2 hcn.1 hcn.2.1 hcn.2.2)) hZ (hw _ (List.mem_of_getElem? (i := 5) rfl)) (hw _ (List.mem_of_getElem? (i := 4) rfl)) (by decide) (by decide)) (g := (mkF m 295 #[.val (.int p1), .val (.int p2), .val (.long q3), .second, .val (.int (2 : Int32)), .val (.int qq), .val (.long lo), .second, .val (.ref b11), .val (.long ((qq.toInt64) * ((2 : Int32).toInt64))), .second, .val (.int i1), .unset, .unset] [(.int qq), (.ref b11)])) rfl (by rw [hml]; rfl) (argsL := [(.ref b11), (.int qq)]) (rest := []) (lenOf pd__28_5bJI_29J rfl) rfl (by show 2 * 0 + _ ≤ _; exact Nat.le_of_eq rfl) (hb hby at_295) (fun _ _ => ⟨rfl, e18, (by decide : 1 + 0 ≤ _), (by decide : 2 + 0 ≤ _)⟩)
    dsimp only [Pt.U, Pt.locs, Pt.cells, Pt.slots] at X25 l25 y25 z25 st25 hQ25
    subst l25 y25 z25
    obtain ⟨rfl, N25q, e25⟩ := hQ25
    have N25 := Fr.app N20 N25q
    obtain ⟨fs, hr, hrun, hended, hW, hsame⟩ := X25.leave (v := some (.int (1 : Int32))) (fun h => by rw [Bd.returns] at h; cases h)
    refine ⟨_, _, pre24 _ ?_, hrun, hended, _, _, rfl, ?_, ⟨_, rfl⟩, hW, hsame.mono (by decide) (by decide)⟩
    · show Steps p.tables e below (T18.setTop (mkF m 181 #[.val (.int p1), .val (.int p2), .val (.long q3), .second, .val (.int (2 : Int32)), .val (.int qq), .val (.long lo), .second, .val (.ref b11), .val (.long ((qq.toInt64) * ((2 : Int32).toInt64))), .second, .val (.int i1), .unset, .unset] [])) _
      refine XS.iload X18.here hx rfl (hb hby at_181) rfl ?_
      show Steps p.tables e below (T18.setTop (mkF m 183 #[.val (.int p1), .val (.int p2), .val (.long q3), .second, .val (.int (2 : Int32)), .val (.int qq), .val (.long lo), .second, .val (.ref b11), .val (.long ((qq.toInt64) * ((2 : Int32).toInt64))), .second, .val (.int i1), .unset, .unset] [(.int (2 : Int32))])) _
      refine XS.iconst X18.here hx rfl (hb hby at_183) ?_
      show Steps p.tables e below (T18.setTop (mkF m 184 #[.val (.int p1), .val (.int p2), .val (.long q3), .second, .val (.int (2 : Int32)), .val (.int qq), .val (.long lo), .second, .val (.ref b11), .val (.long ((qq.toInt64) * ((2 : Int32).toInt64))), .second, .val (.int i1), .unset, .unset] [(.int (2 : Int32)), (.int (2 : Int32))])) _
      refine XS.icmpYes X18.here hx rfl (pc0 := 184) (pc' := 199) rfl (hb hby at_184) rfl (flt (by decide : ¬ ((2 : Int32) < (2 : Int32)))).2.2.2 (by decide) (by decide) ?_
      show Steps p.tables e below (T18.setTop (mkF m 199 #[.val (.int p1), .val (.int p2), .val (.long q3), .second, .val (.int (2 : Int32)), .val (.int qq), .val (.long lo), .second, .val (.ref b11), .val (.long ((qq.toInt64) * ((2 : Int32).toInt64))), .second, .val (.int i1), .unset, .unset] [])) _
      refine XS.iload X18.here hx rfl (hb hby at_199) rfl ?_
      show Steps p.tables e below (T18.setTop (mkF m 201 #[.val (.int p1), .val (.int p2), .val (.long q3), .second, .val (.int (2 : Int32)), .val (.int qq), .val (.long lo), .second, .val (.ref b11), .val (.long ((qq.toInt64) * ((2 : Int32).toInt64))), .second, .val (.int i1), .unset, .unset] [(.int (2 : Int32))])) _
      refine XS.iconst X18.here hx rfl (hb hby at_201) ?_
      show Steps p.tables e below (T18.setTop (mkF m 202 #[.val (.int p1), .val (.int p2), .val (.long q3), .second, .val (.int (2 : Int32)), .val (.int qq), .val (.long lo), .second, .val (.ref b11), .val (.long ((qq.toInt64) * ((2 : Int32).toInt64))), .second, .val (.int i1), .unset, .unset] [(.int (3 : Int32)), (.int (2 : Int32))])) _
      refine XS.icmpYes X18.here hx rfl (pc0 := 202) (pc' := 217) rfl (hb hby at_202) rfl (flt (by decide : ¬ ((3 : Int32) < (2 : Int32)))).2.2.2 (by decide) (by decide) ?_
      show Steps p.tables e below (T18.setTop (mkF m 217 #[.val (.int p1), .val (.int p2), .val (.long q3), .second, .val (.int (2 : Int32)), .val (.int qq), .val (.long lo), .second, .val (.ref b11), .val (.long ((qq.toInt64) * ((2 : Int32).toInt64))), .second, .val (.int i1), .unset, .unset] [])) _
      refine XS.iload X18.here hx rfl (hb hby at_217) rfl ?_
      show Steps p.tables e below (T18.setTop (mkF m 219 #[.val (.int p1), .val (.int p2), .val (.long q3), .second, .val (.int (2 : Int32)), .val (.int qq), .val (.long lo), .second, .val (.ref b11), .val (.long ((qq.toInt64) * ((2 : Int32).toInt64))), .second, .val (.int i1), .unset, .unset] [(.int (2 : Int32))])) _
      refine XS.iconst X18.here hx rfl (hb hby at_219) ?_
      show Steps p.tables e below (T18.setTop (mkF m 220 #[.val (.int p1), .val (.int p2), .val (.long q3), .second, .val (.int (2 : Int32)), .val (.int qq), .val (.long lo), .second, .val (.ref b11), .val (.long ((qq.toInt64) * ((2 : Int32).toInt64))), .second, .val (.int i1), .unset, .unset] [(.int (4 : Int32)), (.int (2 : Int32))])) _
      refine XS.icmpYes X18.here hx rfl (pc0 := 220) (pc' := 235) rfl (hb hby at_220) rfl (flt (by decide : ¬ ((4 : Int32) < (2 : Int32)))).2.2.2 (by decide) (by decide) ?_
      show Steps p.tables e below (T18.setTop (mkF m 235 #[.val (.int p1), .val (.int p2), .val (.long q3), .second, .val (.int (2 : Int32)), .val (.int qq), .val (.long lo), .second, .val (.ref b11), .val (.long ((qq.toInt64) * ((2 : Int32).toInt64))), .second, .val (.int i1), .unset, .unset] [])) _
      refine XS.iload X18.here hx rfl (hb hby at_235) rfl ?_
      show Steps p.tables e below (T18.setTop (mkF m 237 #[.val (.int p1), .val (.int p2), .val (.long q3), .second, .val (.int (2 : Int32)), .val (.int qq), .val (.long lo), .second, .val (.ref b11), .val (.long ((qq.toInt64) * ((2 : Int32).toInt64))), .second, .val (.int i1), .unset, .unset] [(.int (2 : Int32))])) _
      refine XS.iconst X18.here hx rfl (hb hby at_237) ?_
      show Steps p.tables e below (T18.setTop (mkF m 238 #[.val (.int p1), .val (.int p2), .val (.long q3), .second, .val (.int (2 : Int32)), .val (.int qq), .val (.long lo), .second, .val (.ref b11), .val (.long ((qq.toInt64) * ((2 : Int32).toInt64))), .second, .val (.int i1), .unset, .unset] [(.int (5 : Int32)), (.int (2 : Int32))])) _
      refine XS.icmpYes X18.here hx rfl (pc0 := 238) (pc' := 253) rfl (hb hby at_238) rfl (flt (by decide : ¬ ((5 : Int32) < (2 : Int32)))).2.2.2 (by decide) (by decide) ?_
      show Steps p.tables e below (T18.setTop (mkF m 253 #[.val (.int p1), .val (.int p2), .val (.long q3), .second, .val (.int (2 : Int32)), .val (.int qq), .val (.long lo), .second, .val (.ref b11), .val (.long ((qq.toInt64) * ((2 : Int32).toInt64))), .second, .val (.int i1), .unset, .unset] [])) _
      refine XS.iload X18.here hx rfl (hb hby at_253) rfl ?_
      show Steps p.tables e below (T18.setTop (mkF m 255 #[.val (.int p1), .val (.int p2), .val (.long q3), .second, .val (.int (2 : Int32)), .val (.int qq), .val (.long lo), .second, .val (.ref b11), .val (.long ((qq.toInt64) * ((2 : Int32).toInt64))), .second, .val (.int i1), .unset, .unset] [(.int (2 : Int32))])) _
      refine XS.bipush X18.here hx rfl (hb hby at_255) ?_
      show Steps p.tables e below (T18.setTop (mkF m 257 #[.val (.int p1), .val (.int p2), .val (.long q3), .second, .val (.int (2 : Int32)), .val (.int qq), .val (.long lo), .second, .val (.ref b11), .val (.long ((qq.toInt64) * ((2 : Int32).toInt64))), .second, .val (.int i1), .unset, .unset] [(.int (6 : Int32)), (.int (2 : Int32))])) _
      refine XS.icmpYes X18.here hx rfl (pc0 := 257) (pc' := 272) rfl (hb hby at_257) rfl (flt (by decide : ¬ ((6 : Int32) < (2 : Int32)))).2.2.2 (by decide) (by decide) ?_
      show Steps p.tables e below (T18.setTop (mkF m 272 #[.val (.int p1), .val (.int p2), .val (.long q3), .second, .val (.int (2 : Int32)), .val (.int qq), .val (.long lo), .second, .val (.ref b11), .val (.long ((qq.toInt64) * ((2 : Int32).toInt64))), .second, .val (.int i1), .unset, .unset] [])) _
      refine XS.iload X18.here hx rfl (hb hby at_272) rfl ?_
      show Steps p.tables e below (T18.setTop (mkF m 274 #[.val (.int p1), .val (.int p2), .val (.long q3), .second, .val (.int (2 : Int32)), .val (.int qq), .val (.long lo), .second, .val (.ref b11), .val (.long ((qq.toInt64) * ((2 : Int32).toInt64))), .second, .val (.int i1), .unset, .unset] [(.int (2 : Int32))])) _
      refine XS.bipush X18.here hx rfl (hb hby at_274) ?_
      show Steps p.tables e below (T18.setTop (mkF m 276 #[.val (.int p1), .val (.int p2), .val (.long q3), .second, .val (.int (2 : Int32)), .val (.int qq), .val (.long lo), .second, .val (.ref b11), .val (.long ((qq.toInt64) * ((2 : Int32).toInt64))), .second, .val (.int i1), .unset, .unset] [(.int (7 : Int32)), (.int (2 : Int32))])) _
      refine XS.icmpYes X18.here hx rfl (pc0 := 276) (pc' := 291) rfl (hb hby at_276) rfl (flt (by decide : ¬ ((7 : Int32) < (2 : Int32)))).2.2.2 (by decide) (by decide) ?_
      show Steps p.tables e below (T18.setTop (mkF m 291 #[.val (.int p1), .val (.int p2), .val (.long q3), .second, .val (.int (2 : Int32)), .val (.int qq), .val (.long lo), .second, .val (.ref b11), .val (.long ((qq.toInt64) * ((2 : Int32).toInt64))), .second, .val (.int i1), .unset, .unset] [])) _
      refine XS.aload X18.here hx rfl (hb hby at_291) rfl rfl ?_
      show Steps p.tables e below (T18.setTop (mkF m 293 #[.val (.int p1), .val (.int p2), .val (.long q3), .second, .val (.int (2 : Int32)), .val (.int qq), .val (.long lo), .second, .val (.ref b11), .val (.long ((qq.toInt64) * ((2 : Int32).toInt64))), .second, .val (.int i1), .unset, .unset] [(.ref b11)])) _
      refine XS.iload X18.here hx rfl (hb hby at_293) rfl ?_
      show Steps p.tables e below (T18.setTop (mkF m 295 #[.val (.int p1), .val (.int p2), .val (.long q3), .second, .val (.int (2 : Int32)), .val (.int qq), .val (.long lo), .second, .val (.ref b11), .val (.long ((qq.toInt64) * ((2 : Int32).toInt64))), .second, .val (.int i1), .unset, .unset] [(.int qq), (.ref b11)])) _
      refine st25 _ ?_
      show Steps p.tables e below (T25.setTop (mkF m 298 #[.val (.int p1), .val (.int p2), .val (.long q3), .second, .val (.int (2 : Int32)), .val (.int qq), .val (.long lo), .second, .val (.ref b11), .val (.long ((qq.toInt64) * ((2 : Int32).toInt64))), .second, .val (.int i1), .unset, .unset] [(.long (lo + (i1).toInt64))])) _
      refine XS.lstore X25.here hx rfl (hb hby at_298) rfl (l' := #[.val (.int p1), .val (.int p2), .val (.long q3), .second, .val (.int (2 : Int32)), .val (.int qq), .val (.long lo), .second, .val (.ref b11), .val (.long ((qq.toInt64) * ((2 : Int32).toInt64))), .second, .val (.int i1), .val (.long (lo + (i1).toInt64)), .second]) rfl ?_
      show Steps p.tables e below (T25.setTop (mkF m 300 #[.val (.int p1), .val (.int p2), .val (.long q3), .second, .val (.int (2 : Int32)), .val (.int qq), .val (.long lo), .second, .val (.ref b11), .val (.long ((qq.toInt64) * ((2 : Int32).toInt64))), .second, .val (.int i1), .val (.long (lo + (i1).toInt64)), .second] [])) _
      refine XS.lload X25.here hx rfl (hb hby at_300) rfl ?_
      show Steps p.tables e below (T25.setTop (mkF m 302 #[.val (.int p1), .val (.int p2), .val (.long q3), .second, .val (.int (2 : Int32)), .val (.int qq), .val (.long lo), .second, .val (.ref b11), .val (.long ((qq.toInt64) * ((2 : Int32).toInt64))), .second, .val (.int i1), .val (.long (lo + (i1).toInt64)), .second] [(.long (lo + (i1).toInt64))])) _
      refine XS.lload X25.here hx rfl (hb hby at_302) rfl ?_
      show Steps p.tables e below (T25.setTop (mkF m 304 #[.val (.int p1), .val (.int p2), .val (.long q3), .second, .val (.int (2 : Int32)), .val (.int qq), .val (.long lo), .second, .val (.ref b11), .val (.long ((qq.toInt64) * ((2 : Int32).toInt64))), .second, .val (.int i1), .val (.long (lo + (i1).toInt64)), .second] [(.long lo), (.long (lo + (i1).toInt64))])) _
      refine XS.iload X25.here hx rfl (hb hby at_304) rfl ?_
      show Steps p.tables e below (T25.setTop (mkF m 306 #[.val (.int p1), .val (.int p2), .val (.long q3), .second, .val (.int (2 : Int32)), .val (.int qq), .val (.long lo), .second, .val (.ref b11), .val (.long ((qq.toInt64) * ((2 : Int32).toInt64))), .second, .val (.int i1), .val (.long (lo + (i1).toInt64)), .second] [(.int i1), (.long lo), (.long (lo + (i1).toInt64))])) _
      refine XS.i2l X25.here hx rfl (hb hby at_306) rfl ?_
      show Steps p.tables e below (T25.setTop (mkF m 307 #[.val (.int p1), .val (.int p2), .val (.long q3), .second, .val (.int (2 : Int32)), .val (.int qq), .val (.long lo), .second, .val (.ref b11), .val (.long ((qq.toInt64) * ((2 : Int32).toInt64))), .second, .val (.int i1), .val (.long (lo + (i1).toInt64)), .second] [(.long (i1.toInt64)), (.long lo), (.long (lo + (i1).toInt64))])) _
      refine XS.ladd X25.here hx rfl (hb hby at_307) rfl ?_
      show Steps p.tables e below (T25.setTop (mkF m 308 #[.val (.int p1), .val (.int p2), .val (.long q3), .second, .val (.int (2 : Int32)), .val (.int qq), .val (.long lo), .second, .val (.ref b11), .val (.long ((qq.toInt64) * ((2 : Int32).toInt64))), .second, .val (.int i1), .val (.long (lo + (i1).toInt64)), .second] [(.long (lo + (i1.toInt64))), (.long (lo + (i1).toInt64))])) _
      refine XS.lcmp X25.here hx rfl (hb hby at_308) rfl ?_
      show Steps p.tables e below (T25.setTop (mkF m 309 #[.val (.int p1), .val (.int p2), .val (.long q3), .second, .val (.int (2 : Int32)), .val (.int qq), .val (.long lo), .second, .val (.ref b11), .val (.long ((qq.toInt64) * ((2 : Int32).toInt64))), .second, .val (.int i1), .val (.long (lo + (i1).toInt64)), .second] [(.int (lcmpW (lo + (i1).toInt64) (lo + (i1.toInt64))))])) _
      refine XS.ifNo X25.here hx rfl (hb hby at_309) rfl (own_lneF rfl) ?_
      show Steps p.tables e below (T25.setTop (mkF m 312 #[.val (.int p1), .val (.int p2), .val (.long q3), .second, .val (.int (2 : Int32)), .val (.int qq), .val (.long lo), .second, .val (.ref b11), .val (.long ((qq.toInt64) * ((2 : Int32).toInt64))), .second, .val (.int i1), .val (.long (lo + (i1).toInt64)), .second] [])) _
      refine XS.iconst X25.here hx rfl (hb hby at_312) ?_
      show Steps p.tables e below (T25.setTop (mkF m 313 #[.val (.int p1), .val (.int p2), .val (.long q3), .second, .val (.int (2 : Int32)), .val (.int qq), .val (.long lo), .second, .val (.ref b11), .val (.long ((qq.toInt64) * ((2 : Int32).toInt64))), .second, .val (.int i1), .val (.long (lo + (i1).toInt64)), .second] [(.int (1 : Int32))])) _
      refine XS.goto X25.here hx rfl (pc0 := 313) (pc' := 317) rfl (hb hby at_313) (by decide) (by decide) ?_
      show Steps p.tables e below (T25.setTop (mkF m 317 #[.val (.int p1), .val (.int p2), .val (.long q3), .second, .val (.int (2 : Int32)), .val (.int qq), .val (.long lo), .second, .val (.ref b11), .val (.long ((qq.toInt64) * ((2 : Int32).toInt64))), .second, .val (.int i1), .val (.long (lo + (i1).toInt64)), .second] [(.int (1 : Int32))])) _
      exact retN X25 hx (t := .boolean) Bd.returns (by simp) (hb hby at_317) hr
    · show Q_rm0 Z p1 p2 q3 h0 n0 _ T25.heap _
      rw [e25]
      exact ⟨rfl, N25⟩
  · rw [hn] at pre3
    obtain ⟨T26, h26, k26, X26, e26, E26, A26, st26⟩ := newP X0 hx hZ (hw _ (List.mem_of_getElem? (i := 1) rfl)) e0 (g := (mkF m 27 #[.val (.int p1), .val (.int p2), .val (.long q3), .second, .val (.int (3 : Int32)), .val (.int qq), .val (.long lo), .second, .unset, .unset, .unset, .unset, .unset, .unset] [(.int (3 : Int32))])) rfl (hb hby at_27) rfl (by decide) (cap := 3) (by decide) (by decide) (by decide) (by decide)
    obtain ⟨b26, g26⟩ : ∃ z, z = h0.size := ⟨_, rfl⟩
    rw [← g26] at A26 st26
    have g_b26 : n0 ≤ b26 := Nat.le_trans Z0 (Nat.le_of_eq g26.symm)
    have sz_b26 : h0.size ≤ b26 := Nat.le_trans (Keep.refl h0 []).1 (Nat.le_of_eq g26.symm)
    have K27 : Keep h0 h26 [] := (Keep.refl h0 []).ext E26
    have V_b26 : Arv Z h26 b26 k26 .long (3 : Int32) [(.long (0 : Int64)), (.long (0 : Int64)), (.long (0 : Int64))] (.long (0 : Int64)) := (Arv.new A26 (by decide)).pad (pad_rep [] (.long (0 : Int64)) 3)
    obtain ⟨c28, Ac28, qc28, Sc28, Nc28, Hc28, Gc28⟩ := id V_b26
    obtain ⟨T29, h29, X29, e29, W29, st29⟩ := stJ X26 hx hZ e26 Ac28 (j := (0 : Int32)) (inb_of Sc28 ⟨by decide, by decide⟩) (g := (mkF m 36 #[.val (.int p1), .val (.int p2), .val (.long q3), .second, .val (.int (3 : Int32)), .val (.int qq), .val (.long lo), .second, .val (.ref b26), .unset, .unset, .unset, .unset, .unset] [(.long lo), (.int (0 : Int32)), (.ref b26)])) rfl rfl (hb hby at_36)
    have K30 : Keep h0 h29 [] := K27.wr W29 (Or.inr sz_b26)
    have N31 := Fr.snoc X29 N0 g_b26
    have Vw29 := Arv.set Ac28 qc28 Sc28 Nc28 Hc28 Gc28 rfl W29 0 rfl (Nat.le_of_ble_eq_true rfl)
    change Arv Z h29 b26 k26 .long (3 : Int32) [(.long lo), (.long (0 : Int64)), (.long (0 : Int64))] (.long (0 : Int64)) at Vw29
    obtain ⟨c32, Ac32, qc32, Sc32, Nc32, Hc32, Gc32⟩ := id Vw29
    obtain ⟨T33, h33, X33, e33, W33, st33⟩ := stJ X29 hx hZ e29 Ac32 (j := (1 : Int32)) (inb_of Sc32 ⟨by decide, by decide⟩) (g := (mkF m 50 #[.val (.int p1), .val (.int p2), .val (.long q3), .second, .val (.int (3 : Int32)), .val (.int qq), .val (.long lo), .second, .val (.ref b26), .unset, .unset, .unset, .unset, .unset] [(.long (lo + (1 : Int64))), (.int (1 : Int32)), (.ref b26)])) rfl rfl (hb hby at_50)
    have K34 : Keep h0 h33 [] := K30.wr W33 (Or.inr sz_b26)
    have N35 := Fr.snoc X33 N31 g_b26
    have Vw33 := Arv.set Ac32 qc32 Sc32 Nc32 Hc32 Gc32 rfl W33 1 rfl (Nat.le_of_ble_eq_true rfl)
    change Arv Z h33 b26 k26 .long (3 : Int32) [(.long lo), (.long (lo + (1 : Int64))), (.long (0 : Int64))] (.long (0 : Int64)) at Vw33
    obtain ⟨c36, Ac36, qc36, Sc36, Nc36, Hc36, Gc36⟩ := id Vw33
    obtain ⟨T37, h37, X37, e37, W37, st37⟩ := stJ X33 hx hZ e33 Ac36 (j := (2 : Int32)) (inb_of Sc36 ⟨by decide, by decide⟩) (g := (mkF m 66 #[.val (.int p1), .val (.int p2), .val (.long q3), .second, .val (.int (3 : Int32)), .val (.int qq), .val (.long lo), .second, .val (.ref b26), .unset, .unset, .unset, .unset, .unset] [(.long (lo + (2 : Int64))), (.int (2 : Int32)), (.ref b26)])) rfl rfl (hb hby at_66)
    have K38 : Keep h0 h37 [] := K34.wr W37 (Or.inr sz_b26)
    have N39 := Fr.snoc X37 N35 g_b26
    have Vw37 := Arv.set Ac36 qc36 Sc36 Nc36 Hc36 Gc36 rfl W37 2 rfl (Nat.le_of_ble_eq_true rfl)
    change Arv Z h37 b26 k26 .long (3 : Int32) [(.long lo), (.long (lo + (1 : Int64))), (.long (lo + (2 : Int64)))] (.long (0 : Int64)) at Vw37
    have pre40 : ∀ t, Steps p.tables e below (T37.setTop (mkF m 163 #[.val (.int p1), .val (.int p2), .val (.long q3), .second, .val (.int (3 : Int32)), .val (.int qq), .val (.long lo), .second, .val (.ref b26), .val (.long ((qq.toInt64) * ((3 : Int32).toInt64))), .second, .val (.int (0 : Int32)), .unset, .unset] [])) t → Steps p.tables e below (s₁.setTop (entryFrame m #[(.int p1), (.int p2), (.long q3)] maxLocals)) t := fun t kt => by
      refine pre3 t ?_
      show Steps p.tables e below (s₁.setTop (mkF m 25 #[.val (.int p1), .val (.int p2), .val (.long q3), .second, .val (.int (3 : Int32)), .val (.int qq), .val (.long lo), .second, .unset, .unset, .unset, .unset, .unset, .unset] [])) _
      refine XS.iload X0.here hx rfl (hb hby at_25) rfl ?_
      show Steps p.tables e below (s₁.setTop (mkF m 27 #[.val (.int p1), .val (.int p2), .val (.long q3), .second, .val (.int (3 : Int32)), .val (.int qq), .val (.long lo), .second, .unset, .unset, .unset, .unset, .unset, .unset] [(.int (3 : Int32))])) _
      refine st26 _ ?_
      show Steps p.tables e below (T26.setTop (mkF m 29 #[.val (.int p1), .val (.int p2), .val (.long q3), .second, .val (.int (3 : Int32)), .val (.int qq), .val (.long lo), .second, .unset, .unset, .unset, .unset, .unset, .unset] [(.ref b26)])) _
      refine XS.astore X26.here hx rfl (hb hby at_29) rfl rfl (l' := #[.val (.int p1), .val (.int p2), .val (.long q3), .second, .val (.int (3 : Int32)), .val (.int qq), .val (.long lo), .second, .val (.ref b26), .unset, .unset, .unset, .unset, .unset]) rfl ?_
      show Steps p.tables e below (T26.setTop (mkF m 31 #[.val (.int p1), .val (.int p2), .val (.long q3), .second, .val (.int (3 : Int32)), .val (.int qq), .val (.long lo), .second, .val (.ref b26), .unset, .unset, .unset, .unset, .unset] [])) _
      refine XS.aload X26.here hx rfl (hb hby at_31) rfl rfl ?_
      show Steps p.tables e below (T26.setTop (mkF m 33 #[.val (.int p1), .val (.int p2), .val (.long q3), .second, .val (.int (3 : Int32)), .val (.int qq), .val (.long lo), .second, .val (.ref b26), .unset, .unset, .unset, .unset, .unset] [(.ref b26)])) _
      refine XS.iconst X26.here hx rfl (hb hby at_33) ?_
      show Steps p.tables e below (T26.setTop (mkF m 34 #[.val (.int p1), .val (.int p2), .val (.long q3), .second, .val (.int (3 : Int32)), .val (.int qq), .val (.long lo), .second, .val (.ref b26), .unset, .unset, .unset, .unset, .unset] [(.int (0 : Int32)), (.ref b26)])) _
      refine XS.lload X26.here hx rfl (hb hby at_34) rfl ?_
      show Steps p.tables e below (T26.setTop (mkF m 36 #[.val (.int p1), .val (.int p2), .val (.long q3), .second, .val (.int (3 : Int32)), .val (.int qq), .val (.long lo), .second, .val (.ref b26), .unset, .unset, .unset, .unset, .unset] [(.long lo), (.int (0 : Int32)), (.ref b26)])) _
      refine st29 _ ?_
      show Steps p.tables e below (T29.setTop (mkF m 37 #[.val (.int p1), .val (.int p2), .val (.long q3), .second, .val (.int (3 : Int32)), .val (.int qq), .val (.long lo), .second, .val (.ref b26), .unset, .unset, .unset, .unset, .unset] [])) _
      refine XS.iload X29.here hx rfl (hb hby at_37) rfl ?_
      show Steps p.tables e below (T29.setTop (mkF m 39 #[.val (.int p1), .val (.int p2), .val (.long q3), .second, .val (.int (3 : Int32)), .val (.int qq), .val (.long lo), .second, .val (.ref b26), .unset, .unset, .unset, .unset, .unset] [(.int (3 : Int32))])) _
      refine XS.iconst X29.here hx rfl (hb hby at_39) ?_
      show Steps p.tables e below (T29.setTop (mkF m 40 #[.val (.int p1), .val (.int p2), .val (.long q3), .second, .val (.int (3 : Int32)), .val (.int qq), .val (.long lo), .second, .val (.ref b26), .unset, .unset, .unset, .unset, .unset] [(.int (1 : Int32)), (.int (3 : Int32))])) _
      refine XS.icmpNo X29.here hx rfl (hb hby at_40) rfl (tlt (by decide : (1 : Int32) < (3 : Int32))).2.2.2 ?_
      show Steps p.tables e below (T29.setTop (mkF m 43 #[.val (.int p1), .val (.int p2), .val (.long q3), .second, .val (.int (3 : Int32)), .val (.int qq), .val (.long lo), .second, .val (.ref b26), .unset, .unset, .unset, .unset, .unset] [])) _
      refine XS.aload X29.here hx rfl (hb hby at_43) rfl rfl ?_
      show Steps p.tables e below (T29.setTop (mkF m 45 #[.val (.int p1), .val (.int p2), .val (.long q3), .second, .val (.int (3 : Int32)), .val (.int qq), .val (.long lo), .second, .val (.ref b26), .unset, .unset, .unset, .unset, .unset] [(.ref b26)])) _
      refine XS.iconst X29.here hx rfl (hb hby at_45) ?_
      show Steps p.tables e below (T29.setTop (mkF m 46 #[.val (.int p1), .val (.int p2), .val (.long q3), .second, .val (.int (3 : Int32)), .val (.int qq), .val (.long lo), .second, .val (.ref b26), .unset, .unset, .unset, .unset, .unset] [(.int (1 : Int32)), (.ref b26)])) _
      refine XS.lload X29.here hx rfl (hb hby at_46) rfl ?_
      show Steps p.tables e below (T29.setTop (mkF m 48 #[.val (.int p1), .val (.int p2), .val (.long q3), .second, .val (.int (3 : Int32)), .val (.int qq), .val (.long lo), .second, .val (.ref b26), .unset, .unset, .unset, .unset, .unset] [(.long lo), (.int (1 : Int32)), (.ref b26)])) _
      refine XS.lconst X29.here hx rfl (hb hby at_48) ?_
      show Steps p.tables e below (T29.setTop (mkF m 49 #[.val (.int p1), .val (.int p2), .val (.long q3), .second, .val (.int (3 : Int32)), .val (.int qq), .val (.long lo), .second, .val (.ref b26), .unset, .unset, .unset, .unset, .unset] [(.long (1 : Int64)), (.long lo), (.int (1 : Int32)), (.ref b26)])) _
      refine XS.ladd X29.here hx rfl (hb hby at_49) rfl ?_
      show Steps p.tables e below (T29.setTop (mkF m 50 #[.val (.int p1), .val (.int p2), .val (.long q3), .second, .val (.int (3 : Int32)), .val (.int qq), .val (.long lo), .second, .val (.ref b26), .unset, .unset, .unset, .unset, .unset] [(.long (lo + (1 : Int64))), (.int (1 : Int32)), (.ref b26)])) _
      refine st33 _ ?_
      show Steps p.tables e below (T33.setTop (mkF m 51 #[.val (.int p1), .val (.int p2), .val (.long q3), .second, .val (.int (3 : Int32)), .val (.int qq), .val (.long lo), .second, .val (.ref b26), .unset, .unset, .unset, .unset, .unset] [])) _
      refine XS.iload X33.here hx rfl (hb hby at_51) rfl ?_
      show Steps p.tables e below (T33.setTop (mkF m 53 #[.val (.int p1), .val (.int p2), .val (.long q3), .second, .val (.int (3 : Int32)), .val (.int qq), .val (.long lo), .second, .val (.ref b26), .unset, .unset, .unset, .unset, .unset] [(.int (3 : Int32))])) _
      refine XS.iconst X33.here hx rfl (hb hby at_53) ?_
      show Steps p.tables e below (T33.setTop (mkF m 54 #[.val (.int p1), .val (.int p2), .val (.long q3), .second, .val (.int (3 : Int32)), .val (.int qq), .val (.long lo), .second, .val (.ref b26), .unset, .unset, .unset, .unset, .unset] [(.int (2 : Int32)), (.int (3 : Int32))])) _
      refine XS.icmpNo X33.here hx rfl (hb hby at_54) rfl (tlt (by decide : (2 : Int32) < (3 : Int32))).2.2.2 ?_
      show Steps p.tables e below (T33.setTop (mkF m 57 #[.val (.int p1), .val (.int p2), .val (.long q3), .second, .val (.int (3 : Int32)), .val (.int qq), .val (.long lo), .second, .val (.ref b26), .unset, .unset, .unset, .unset, .unset] [])) _
      refine XS.aload X33.here hx rfl (hb hby at_57) rfl rfl ?_
      show Steps p.tables e below (T33.setTop (mkF m 59 #[.val (.int p1), .val (.int p2), .val (.long q3), .second, .val (.int (3 : Int32)), .val (.int qq), .val (.long lo), .second, .val (.ref b26), .unset, .unset, .unset, .unset, .unset] [(.ref b26)])) _
      refine XS.iconst X33.here hx rfl (hb hby at_59) ?_
      show Steps p.tables e below (T33.setTop (mkF m 60 #[.val (.int p1), .val (.int p2), .val (.long q3), .second, .val (.int (3 : Int32)), .val (.int qq), .val (.long lo), .second, .val (.ref b26), .unset, .unset, .unset, .unset, .unset] [(.int (2 : Int32)), (.ref b26)])) _
      refine XS.lload X33.here hx rfl (hb hby at_60) rfl ?_
      show Steps p.tables e below (T33.setTop (mkF m 62 #[.val (.int p1), .val (.int p2), .val (.long q3), .second, .val (.int (3 : Int32)), .val (.int qq), .val (.long lo), .second, .val (.ref b26), .unset, .unset, .unset, .unset, .unset] [(.long lo), (.int (2 : Int32)), (.ref b26)])) _
      refine X33.ldc2Long hx hown (mvT hZ (hw _ (List.mem_of_getElem? (i := 8) rfl))) (g := (mkF m 62 #[.val (.int p1), .val (.int p2), .val (.long q3), .second, .val (.int (3 : Int32)), .val (.int qq), .val (.long lo), .second, .val (.ref b26), .unset, .unset, .unset, .unset, .unset] [(.long lo), (.int (2 : Int32)), (.ref b26)])) rfl (hb hby at_62) _ ?_
      show Steps p.tables e below (T33.setTop (mkF m 65 #[.val (.int p1), .val (.int p2), .val (.long q3), .second, .val (.int (3 : Int32)), .val (.int qq), .val (.long lo), .second, .val (.ref b26), .unset, .unset, .unset, .unset, .unset] [(.long (2 : Int64)), (.long lo), (.int (2 : Int32)), (.ref b26)])) _
      refine XS.ladd X33.here hx rfl (hb hby at_65) rfl ?_
      show Steps p.tables e below (T33.setTop (mkF m 66 #[.val (.int p1), .val (.int p2), .val (.long q3), .second, .val (.int (3 : Int32)), .val (.int qq), .val (.long lo), .second, .val (.ref b26), .unset, .unset, .unset, .unset, .unset] [(.long (lo + (2 : Int64))), (.int (2 : Int32)), (.ref b26)])) _
      refine st37 _ ?_
      show Steps p.tables e below (T37.setTop (mkF m 67 #[.val (.int p1), .val (.int p2), .val (.long q3), .second, .val (.int (3 : Int32)), .val (.int qq), .val (.long lo), .second, .val (.ref b26), .unset, .unset, .unset, .unset, .unset] [])) _
      refine XS.iload X37.here hx rfl (hb hby at_67) rfl ?_
      show Steps p.tables e below (T37.setTop (mkF m 69 #[.val (.int p1), .val (.int p2), .val (.long q3), .second, .val (.int (3 : Int32)), .val (.int qq), .val (.long lo), .second, .val (.ref b26), .unset, .unset, .unset, .unset, .unset] [(.int (3 : Int32))])) _
      refine XS.iconst X37.here hx rfl (hb hby at_69) ?_
      show Steps p.tables e below (T37.setTop (mkF m 70 #[.val (.int p1), .val (.int p2), .val (.long q3), .second, .val (.int (3 : Int32)), .val (.int qq), .val (.long lo), .second, .val (.ref b26), .unset, .unset, .unset, .unset, .unset] [(.int (3 : Int32)), (.int (3 : Int32))])) _
      refine XS.icmpYes X37.here hx rfl (pc0 := 70) (pc' := 83) rfl (hb hby at_70) rfl (flt (by decide : ¬ ((3 : Int32) < (3 : Int32)))).2.2.2 (by decide) (by decide) ?_
      show Steps p.tables e below (T37.setTop (mkF m 83 #[.val (.int p1), .val (.int p2), .val (.long q3), .second, .val (.int (3 : Int32)), .val (.int qq), .val (.long lo), .second, .val (.ref b26), .unset, .unset, .unset, .unset, .unset] [])) _
      refine XS.iload X37.here hx rfl (hb hby at_83) rfl ?_
      show Steps p.tables e below (T37.setTop (mkF m 85 #[.val (.int p1), .val (.int p2), .val (.long q3), .second, .val (.int (3 : Int32)), .val (.int qq), .val (.long lo), .second, .val (.ref b26), .unset, .unset, .unset, .unset, .unset] [(.int (3 : Int32))])) _
      refine XS.iconst X37.here hx rfl (hb hby at_85) ?_
      show Steps p.tables e below (T37.setTop (mkF m 86 #[.val (.int p1), .val (.int p2), .val (.long q3), .second, .val (.int (3 : Int32)), .val (.int qq), .val (.long lo), .second, .val (.ref b26), .unset, .unset, .unset, .unset, .unset] [(.int (4 : Int32)), (.int (3 : Int32))])) _
      refine XS.icmpYes X37.here hx rfl (pc0 := 86) (pc' := 99) rfl (hb hby at_86) rfl (flt (by decide : ¬ ((4 : Int32) < (3 : Int32)))).2.2.2 (by decide) (by decide) ?_
      show Steps p.tables e below (T37.setTop (mkF m 99 #[.val (.int p1), .val (.int p2), .val (.long q3), .second, .val (.int (3 : Int32)), .val (.int qq), .val (.long lo), .second, .val (.ref b26), .unset, .unset, .unset, .unset, .unset] [])) _
      refine XS.iload X37.here hx rfl (hb hby at_99) rfl ?_
      show Steps p.tables e below (T37.setTop (mkF m 101 #[.val (.int p1), .val (.int p2), .val (.long q3), .second, .val (.int (3 : Int32)), .val (.int qq), .val (.long lo), .second, .val (.ref b26), .unset, .unset, .unset, .unset, .unset] [(.int (3 : Int32))])) _
      refine XS.iconst X37.here hx rfl (hb hby at_101) ?_
      show Steps p.tables e below (T37.setTop (mkF m 102 #[.val (.int p1), .val (.int p2), .val (.long q3), .second, .val (.int (3 : Int32)), .val (.int qq), .val (.long lo), .second, .val (.ref b26), .unset, .unset, .unset, .unset, .unset] [(.int (5 : Int32)), (.int (3 : Int32))])) _
      refine XS.icmpYes X37.here hx rfl (pc0 := 102) (pc' := 115) rfl (hb hby at_102) rfl (flt (by decide : ¬ ((5 : Int32) < (3 : Int32)))).2.2.2 (by decide) (by decide) ?_
      show Steps p.tables e below (T37.setTop (mkF m 115 #[.val (.int p1), .val (.int p2), .val (.long q3), .second, .val (.int (3 : Int32)), .val (.int qq), .val (.long lo), .second, .val (.ref b26), .unset, .unset, .unset, .unset, .unset] [])) _
      refine XS.iload X37.here hx rfl (hb hby at_115) rfl ?_
      show Steps p.tables e below (T37.setTop (mkF m 117 #[.val (.int p1), .val (.int p2), .val (.long q3), .second, .val (.int (3 : Int32)), .val (.int qq), .val (.long lo), .second, .val (.ref b26), .unset, .unset, .unset, .unset, .unset] [(.int (3 : Int32))])) _
      refine XS.bipush X37.here hx rfl (hb hby at_117) ?_
      show Steps p.tables e below (T37.setTop (mkF m 119 #[.val (.int p1), .val (.int p2), .val (.long q3), .second, .val (.int (3 : Int32)), .val (.int qq), .val (.long lo), .second, .val (.ref b26), .unset, .unset, .unset, .unset, .unset] [(.int (6 : Int32)), (.int (3 : Int32))])) _
      refine XS.icmpYes X37.here hx rfl (pc0 := 119) (pc' := 133) rfl (hb hby at_119) rfl (flt (by decide : ¬ ((6 : Int32) < (3 : Int32)))).2.2.2 (by decide) (by decide) ?_
      show Steps p.tables e below (T37.setTop (mkF m 133 #[.val (.int p1), .val (.int p2), .val (.long q3), .second, .val (.int (3 : Int32)), .val (.int qq), .val (.long lo), .second, .val (.ref b26), .unset, .unset, .unset, .unset, .unset] [])) _
      refine XS.iload X37.here hx rfl (hb hby at_133) rfl ?_
      show Steps p.tables e below (T37.setTop (mkF m 135 #[.val (.int p1), .val (.int p2), .val (.long q3), .second, .val (.int (3 : Int32)), .val (.int qq), .val (.long lo), .second, .val (.ref b26), .unset, .unset, .unset, .unset, .unset] [(.int (3 : Int32))])) _
      refine XS.bipush X37.here hx rfl (hb hby at_135) ?_
      show Steps p.tables e below (T37.setTop (mkF m 137 #[.val (.int p1), .val (.int p2), .val (.long q3), .second, .val (.int (3 : Int32)), .val (.int qq), .val (.long lo), .second, .val (.ref b26), .unset, .unset, .unset, .unset, .unset] [(.int (7 : Int32)), (.int (3 : Int32))])) _
      refine XS.icmpYes X37.here hx rfl (pc0 := 137) (pc' := 151) rfl (hb hby at_137) rfl (flt (by decide : ¬ ((7 : Int32) < (3 : Int32)))).2.2.2 (by decide) (by decide) ?_
      show Steps p.tables e below (T37.setTop (mkF m 151 #[.val (.int p1), .val (.int p2), .val (.long q3), .second, .val (.int (3 : Int32)), .val (.int qq), .val (.long lo), .second, .val (.ref b26), .unset, .unset, .unset, .unset, .unset] [])) _
      refine XS.iload X37.here hx rfl (hb hby at_151) rfl ?_
      show Steps p.tables e below (T37.setTop (mkF m 153 #[.val (.int p1), .val (.int p2), .val (.long q3), .second, .val (.int (3 : Int32)), .val (.int qq), .val (.long lo), .second, .val (.ref b26), .unset, .unset, .unset, .unset, .unset] [(.int qq)])) _
      refine XS.i2l X37.here hx rfl (hb hby at_153) rfl ?_
      show Steps p.tables e below (T37.setTop (mkF m 154 #[.val (.int p1), .val (.int p2), .val (.long q3), .second, .val (.int (3 : Int32)), .val (.int qq), .val (.long lo), .second, .val (.ref b26), .unset, .unset, .unset, .unset, .unset] [(.long (qq.toInt64))])) _
      refine XS.iload X37.here hx rfl (hb hby at_154) rfl ?_
      show Steps p.tables e below (T37.setTop (mkF m 156 #[.val (.int p1), .val (.int p2), .val (.long q3), .second, .val (.int (3 : Int32)), .val (.int qq), .val (.long lo), .second, .val (.ref b26), .unset, .unset, .unset, .unset, .unset] [(.int (3 : Int32)), (.long (qq.toInt64))])) _
      refine XS.i2l X37.here hx rfl (hb hby at_156) rfl ?_
      show Steps p.tables e below (T37.setTop (mkF m 157 #[.val (.int p1), .val (.int p2), .val (.long q3), .second, .val (.int (3 : Int32)), .val (.int qq), .val (.long lo), .second, .val (.ref b26), .unset, .unset, .unset, .unset, .unset] [(.long ((3 : Int32).toInt64)), (.long (qq.toInt64))])) _
      refine XS.lmul X37.here hx rfl (hb hby at_157) rfl ?_
      show Steps p.tables e below (T37.setTop (mkF m 158 #[.val (.int p1), .val (.int p2), .val (.long q3), .second, .val (.int (3 : Int32)), .val (.int qq), .val (.long lo), .second, .val (.ref b26), .unset, .unset, .unset, .unset, .unset] [(.long ((qq.toInt64) * ((3 : Int32).toInt64)))])) _
      refine XS.lstore X37.here hx rfl (hb hby at_158) rfl (l' := #[.val (.int p1), .val (.int p2), .val (.long q3), .second, .val (.int (3 : Int32)), .val (.int qq), .val (.long lo), .second, .val (.ref b26), .val (.long ((qq.toInt64) * ((3 : Int32).toInt64))), .second, .unset, .unset, .unset]) rfl ?_
      show Steps p.tables e below (T37.setTop (mkF m 160 #[.val (.int p1), .val (.int p2), .val (.long q3), .second, .val (.int (3 : Int32)), .val (.int qq), .val (.long lo), .second, .val (.ref b26), .val (.long ((qq.toInt64) * ((3 : Int32).toInt64))), .second, .unset, .unset, .unset] [])) _
      refine XS.iconst X37.here hx rfl (hb hby at_160) ?_
      show Steps p.tables e below (T37.setTop (mkF m 161 #[.val (.int p1), .val (.int p2), .val (.long q3), .second, .val (.int (3 : Int32)), .val (.int qq), .val (.long lo), .second, .val (.ref b26), .val (.long ((qq.toInt64) * ((3 : Int32).toInt64))), .second, .unset, .unset, .unset] [(.int (0 : Int32))])) _
      refine XS.istore X37.here hx rfl (hb hby at_161) rfl (l' := #[.val (.int p1), .val (.int p2), .val (.long q3), .second, .val (.int (3 : Int32)), .val (.int qq), .val (.long lo), .second, .val (.ref b26), .val (.long ((qq.toInt64) * ((3 : Int32).toInt64))), .second, .val (.int (0 : Int32)), .unset, .unset]) rfl ?_
      exact kt
    have pre41 : ∀ t, Steps p.tables e below (T37.setTop (mkF m 166 #[.val (.int p1), .val (.int p2), .val (.long q3), .second, .val (.int (3 : Int32)), .val (.int qq), .val (.long lo), .second, .val (.ref b26), .val (.long ((qq.toInt64) * ((3 : Int32).toInt64))), .second, .val (.int (0 : Int32)), .unset, .unset] [(.int (1 : Int32)), (.int (3 : Int32))])) t → Steps p.tables e below (s₁.setTop (entryFrame m #[(.int p1), (.int p2), (.long q3)] maxLocals)) t := fun t kt => by
      refine pre40 t ?_
      show Steps p.tables e below (T37.setTop (mkF m 163 #[.val (.int p1), .val (.int p2), .val (.long q3), .second, .val (.int (3 : Int32)), .val (.int qq), .val (.long lo), .second, .val (.ref b26), .val (.long ((qq.toInt64) * ((3 : Int32).toInt64))), .second, .val (.int (0 : Int32)), .unset, .unset] [])) _
      refine XS.iload X37.here hx rfl (hb hby at_163) rfl ?_
      show Steps p.tables e below (T37.setTop (mkF m 165 #[.val (.int p1), .val (.int p2), .val (.long q3), .second, .val (.int (3 : Int32)), .val (.int qq), .val (.long lo), .second, .val (.ref b26), .val (.long ((qq.toInt64) * ((3 : Int32).toInt64))), .second, .val (.int (0 : Int32)), .unset, .unset] [(.int (3 : Int32))])) _
      refine XS.iconst X37.here hx rfl (hb hby at_165) ?_
      exact kt
    obtain ⟨i1, h_i1, pre43⟩ : ∃ z : Int32, z = (if (1000 : Int64) < ((qq.toInt64) * ((3 : Int32).toInt64)) then (1 : Int32) else (0 : Int32)) ∧ ∀ t, Steps p.tables e below (T37.setTop (mkF m 181 #[.val (.int p1), .val (.int p2), .val (.long q3), .second, .val (.int (3 : Int32)), .val (.int qq), .val (.long lo), .second, .val (.ref b26), .val (.long ((qq.toInt64) * ((3 : Int32).toInt64))), .second, .val (.int z), .unset, .unset] [])) t → Steps p.tables e below (s₁.setTop (entryFrame m #[(.int p1), (.int p2), (.long q3)] maxLocals)) t := by
      by_cases hj175_42 : (1000 : Int64) < ((qq.toInt64) * ((3 : Int32).toInt64))
      · exact ⟨_, by rw [if_pos hj175_42], fun t kt => by
          refine pre41 t ?_
          show Steps p.tables e below (T37.setTop (mkF m 166 #[.val (.int p1), .val (.int p2), .val (.long q3), .second, .val (.int (3 : Int32)), .val (.int qq), .val (.long lo), .second, .val (.ref b26), .val (.long ((qq.toInt64) * ((3 : Int32).toInt64))), .second, .val (.int (0 : Int32)), .unset, .unset] [(.int (1 : Int32)), (.int (3 : Int32))])) _
          refine XS.icmpNo X37.here hx rfl (hb hby at_166) rfl (tlt (by decide : (1 : Int32) < (3 : Int32))).2.2.2 ?_
          show Steps p.tables e below (T37.setTop (mkF m 169 #[.val (.int p1), .val (.int p2), .val (.long q3), .second, .val (.int (3 : Int32)), .val (.int qq), .val (.long lo), .second, .val (.ref b26), .val (.long ((qq.toInt64) * ((3 : Int32).toInt64))), .second, .val (.int (0 : Int32)), .unset, .unset] [])) _
          refine X37.ldc2Long hx hown (mvT hZ (hw _ (List.mem_of_getElem? (i := 11) rfl))) (g := (mkF m 169 #[.val (.int p1), .val (.int p2), .val (.long q3), .second, .val (.int (3 : Int32)), .val (.int qq), .val (.long lo), .second, .val (.ref b26), .val (.long ((qq.toInt64) * ((3 : Int32).toInt64))), .second, .val (.int (0 : Int32)), .unset, .unset] [])) rfl (hb hby at_169) _ ?_
          show Steps p.tables e below (T37.setTop (mkF m 172 #[.val (.int p1), .val (.int p2), .val (.long q3), .second, .val (.int (3 : Int32)), .val (.int qq), .val (.long lo), .second, .val (.ref b26), .val (.long ((qq.toInt64) * ((3 : Int32).toInt64))), .second, .val (.int (0 : Int32)), .unset, .unset] [(.long (1000 : Int64))])) _
          refine XS.lload X37.here hx rfl (hb hby at_172) rfl ?_
          show Steps p.tables e below (T37.setTop (mkF m 174 #[.val (.int p1), .val (.int p2), .val (.long q3), .second, .val (.int (3 : Int32)), .val (.int qq), .val (.long lo), .second, .val (.ref b26), .val (.long ((qq.toInt64) * ((3 : Int32).toInt64))), .second, .val (.int (0 : Int32)), .unset, .unset] [(.long ((qq.toInt64) * ((3 : Int32).toInt64))), (.long (1000 : Int64))])) _
          refine XS.lcmp X37.here hx rfl (hb hby at_174) rfl ?_
          show Steps p.tables e below (T37.setTop (mkF m 175 #[.val (.int p1), .val (.int p2), .val (.long q3), .second, .val (.int (3 : Int32)), .val (.int qq), .val (.long lo), .second, .val (.ref b26), .val (.long ((qq.toInt64) * ((3 : Int32).toInt64))), .second, .val (.int (0 : Int32)), .unset, .unset] [(.int (lcmpW (1000 : Int64) ((qq.toInt64) * ((3 : Int32).toInt64))))])) _
          refine XS.ifNo X37.here hx rfl (hb hby at_175) rfl (own_lgeF hj175_42) ?_
          show Steps p.tables e below (T37.setTop (mkF m 178 #[.val (.int p1), .val (.int p2), .val (.long q3), .second, .val (.int (3 : Int32)), .val (.int qq), .val (.long lo), .second, .val (.ref b26), .val (.long ((qq.toInt64) * ((3 : Int32).toInt64))), .second, .val (.int (0 : Int32)), .unset, .unset] [])) _
          refine XS.iinc X37.here hx rfl (hb hby at_178) rfl (l' := #[.val (.int p1), .val (.int p2), .val (.long q3), .second, .val (.int (3 : Int32)), .val (.int qq), .val (.long lo), .second, .val (.ref b26), .val (.long ((qq.toInt64) * ((3 : Int32).toInt64))), .second, .val (.int (1 : Int32)), .unset, .unset]) rfl ?_
          exact kt⟩
      · exact ⟨_, by rw [if_neg hj175_42], fun t kt => by
          refine pre41 t ?_
          show Steps p.tables e below (T37.setTop (mkF m 166 #[.val (.int p1), .val (.int p2), .val (.long q3), .second, .val (.int (3 : Int32)), .val (.int qq), .val (.long lo), .second, .val (.ref b26), .val (.long ((qq.toInt64) * ((3 : Int32).toInt64))), .second, .val (.int (0 : Int32)), .unset, .unset] [(.int (1 : Int32)), (.int (3 : Int32))])) _
          refine XS.icmpNo X37.here hx rfl (hb hby at_166) rfl (tlt (by decide : (1 : Int32) < (3 : Int32))).2.2.2 ?_
          show Steps p.tables e below (T37.setTop (mkF m 169 #[.val (.int p1), .val (.int p2), .val (.long q3), .second, .val (.int (3 : Int32)), .val (.int qq), .val (.long lo), .second, .val (.ref b26), .val (.long ((qq.toInt64) * ((3 : Int32).toInt64))), .second, .val (.int (0 : Int32)), .unset, .unset] [])) _
          refine X37.ldc2Long hx hown (mvT hZ (hw _ (List.mem_of_getElem? (i := 11) rfl))) (g := (mkF m 169 #[.val (.int p1), .val (.int p2), .val (.long q3), .second, .val (.int (3 : Int32)), .val (.int qq), .val (.long lo), .second, .val (.ref b26), .val (.long ((qq.toInt64) * ((3 : Int32).toInt64))), .second, .val (.int (0 : Int32)), .unset, .unset] [])) rfl (hb hby at_169) _ ?_
          show Steps p.tables e below (T37.setTop (mkF m 172 #[.val (.int p1), .val (.int p2), .val (.long q3), .second, .val (.int (3 : Int32)), .val (.int qq), .val (.long lo), .second, .val (.ref b26), .val (.long ((qq.toInt64) * ((3 : Int32).toInt64))), .second, .val (.int (0 : Int32)), .unset, .unset] [(.long (1000 : Int64))])) _
          refine XS.lload X37.here hx rfl (hb hby at_172) rfl ?_
          show Steps p.tables e below (T37.setTop (mkF m 174 #[.val (.int p1), .val (.int p2), .val (.long q3), .second, .val (.int (3 : Int32)), .val (.int qq), .val (.long lo), .second, .val (.ref b26), .val (.long ((qq.toInt64) * ((3 : Int32).toInt64))), .second, .val (.int (0 : Int32)), .unset, .unset] [(.long ((qq.toInt64) * ((3 : Int32).toInt64))), (.long (1000 : Int64))])) _
          refine XS.lcmp X37.here hx rfl (hb hby at_174) rfl ?_
          show Steps p.tables e below (T37.setTop (mkF m 175 #[.val (.int p1), .val (.int p2), .val (.long q3), .second, .val (.int (3 : Int32)), .val (.int qq), .val (.long lo), .second, .val (.ref b26), .val (.long ((qq.toInt64) * ((3 : Int32).toInt64))), .second, .val (.int (0 : Int32)), .unset, .unset] [(.int (lcmpW (1000 : Int64) ((qq.toInt64) * ((3 : Int32).toInt64))))])) _
          refine XS.ifYes X37.here hx rfl (pc0 := 175) (pc' := 181) rfl (hb hby at_175) rfl (own_lgeT hj175_42) (by decide) (by decide) ?_
          exact kt⟩
    have pre44 : ∀ t, Steps p.tables e below (T37.setTop (mkF m 184 #[.val (.int p1), .val (.int p2), .val (.long q3), .second, .val (.int (3 : Int32)), .val (.int qq), .val (.long lo), .second, .val (.ref b26), .val (.long ((qq.toInt64) * ((3 : Int32).toInt64))), .second, .val (.int i1), .unset, .unset] [(.int (2 : Int32)), (.int (3 : Int32))])) t → Steps p.tables e below (s₁.setTop (entryFrame m #[(.int p1), (.int p2), (.long q3)] maxLocals)) t := fun t kt => by
      refine pre43 t ?_
      show Steps p.tables e below (T37.setTop (mkF m 181 #[.val (.int p1), .val (.int p2), .val (.long q3), .second, .val (.int (3 : Int32)), .val (.int qq), .val (.long lo), .second, .val (.ref b26), .val (.long ((qq.toInt64) * ((3 : Int32).toInt64))), .second, .val (.int i1), .unset, .unset] [])) _
      refine XS.iload X37.here hx rfl (hb hby at_181) rfl ?_
      show Steps p.tables e below (T37.setTop (mkF m 183 #[.val (.int p1), .val (.int p2), .val (.long q3), .second, .val (.int (3 : Int32)), .val (.int qq), .val (.long lo), .second, .val (.ref b26), .val (.long ((qq.toInt64) * ((3 : Int32).toInt64))), .second, .val (.int i1), .unset, .unset] [(.int (3 : Int32))])) _
      refine XS.iconst X37.here hx rfl (hb hby at_183) ?_
      exact kt
    obtain ⟨i2, h_i2, pre46⟩ : ∃ z : Int32, z = (if (2000 : Int64) < ((qq.toInt64) * ((3 : Int32).toInt64)) then (i1 + (1 : Int32)) else i1) ∧ ∀ t, Steps p.tables e below (T37.setTop (mkF m 199 #[.val (.int p1), .val (.int p2), .val (.long q3), .second, .val (.int (3 : Int32)), .val (.int qq), .val (.long lo), .second, .val (.ref b26), .val (.long ((qq.toInt64) * ((3 : Int32).toInt64))), .second, .val (.int z), .unset, .unset] [])) t → Steps p.tables e below (s₁.setTop (entryFrame m #[(.int p1), (.int p2), (.long q3)] maxLocals)) t := by
      by_cases hj193_45 : (2000 : Int64) < ((qq.toInt64) * ((3 : Int32).toInt64))
      · exact ⟨_, by rw [if_pos hj193_45], fun t kt => by
          refine pre44 t ?_
          show Steps p.tables e below (T37.setTop (mkF m 184 #[.val (.int p1), .val (.int p2), .val (.long q3), .second, .val (.int (3 : Int32)), .val (.int qq), .val (.long lo), .second, .val (.ref b26), .val (.long ((qq.toInt64) * ((3 : Int32).toInt64))), .second, .val (.int i1), .unset, .unset] [(.int (2 : Int32)), (.int (3 : Int32))])) _
          refine XS.icmpNo X37.here hx rfl (hb hby at_184) rfl (tlt (by decide : (2 : Int32) < (3 : Int32))).2.2.2 ?_
          show Steps p.tables e below (T37.setTop (mkF m 187 #[.val (.int p1), .val (.int p2), .val (.long q3), .second, .val (.int (3 : Int32)), .val (.int qq), .val (.long lo), .second, .val (.ref b26), .val (.long ((qq.toInt64) * ((3 : Int32).toInt64))), .second, .val (.int i1), .unset, .unset] [])) _
          refine X37.ldc2Long hx hown (mvT hZ (hw _ (List.mem_of_getElem? (i := 12) rfl))) (g := (mkF m 187 #[.val (.int p1), .val (.int p2), .val (.long q3), .second, .val (.int (3 : Int32)), .val (.int qq), .val (.long lo), .second, .val (.ref b26), .val (.long ((qq.toInt64) * ((3 : Int32).toInt64))), .second, .val (.int i1), .unset, .unset] [])) rfl (hb hby at_187) _ ?_
          show Steps p.tables e below (T37.setTop (mkF m 190 #[.val (.int p1), .val (.int p2), .val (.long q3), .second, .val (.int (3 : Int32)), .val (.int qq), .val (.long lo), .second, .val (.ref b26), .val (.long ((qq.toInt64) * ((3 : Int32).toInt64))), .second, .val (.int i1), .unset, .unset] [(.long (2000 : Int64))])) _
          refine XS.lload X37.here hx rfl (hb hby at_190) rfl ?_
          show Steps p.tables e below (T37.setTop (mkF m 192 #[.val (.int p1), .val (.int p2), .val (.long q3), .second, .val (.int (3 : Int32)), .val (.int qq), .val (.long lo), .second, .val (.ref b26), .val (.long ((qq.toInt64) * ((3 : Int32).toInt64))), .second, .val (.int i1), .unset, .unset] [(.long ((qq.toInt64) * ((3 : Int32).toInt64))), (.long (2000 : Int64))])) _
          refine XS.lcmp X37.here hx rfl (hb hby at_192) rfl ?_
          show Steps p.tables e below (T37.setTop (mkF m 193 #[.val (.int p1), .val (.int p2), .val (.long q3), .second, .val (.int (3 : Int32)), .val (.int qq), .val (.long lo), .second, .val (.ref b26), .val (.long ((qq.toInt64) * ((3 : Int32).toInt64))), .second, .val (.int i1), .unset, .unset] [(.int (lcmpW (2000 : Int64) ((qq.toInt64) * ((3 : Int32).toInt64))))])) _
          refine XS.ifNo X37.here hx rfl (hb hby at_193) rfl (own_lgeF hj193_45) ?_
          show Steps p.tables e below (T37.setTop (mkF m 196 #[.val (.int p1), .val (.int p2), .val (.long q3), .second, .val (.int (3 : Int32)), .val (.int qq), .val (.long lo), .second, .val (.ref b26), .val (.long ((qq.toInt64) * ((3 : Int32).toInt64))), .second, .val (.int i1), .unset, .unset] [])) _
          refine XS.iinc X37.here hx rfl (hb hby at_196) rfl (l' := #[.val (.int p1), .val (.int p2), .val (.long q3), .second, .val (.int (3 : Int32)), .val (.int qq), .val (.long lo), .second, .val (.ref b26), .val (.long ((qq.toInt64) * ((3 : Int32).toInt64))), .second, .val (.int (i1 + (1 : Int32))), .unset, .unset]) rfl ?_
          exact kt⟩
      · exact ⟨_, by rw [if_neg hj193_45], fun t kt => by
          refine pre44 t ?_
          show Steps p.tables e below (T37.setTop (mkF m 184 #[.val (.int p1), .val (.int p2), .val (.long q3), .second, .val (.int (3 : Int32)), .val (.int qq), .val (.long lo), .second, .val (.ref b26), .val (.long ((qq.toInt64) * ((3 : Int32).toInt64))), .second, .val (.int i1), .unset, .unset] [(.int (2 : Int32)), (.int (3 : Int32))])) _
          refine XS.icmpNo X37.here hx rfl (hb hby at_184) rfl (tlt (by decide : (2 : Int32) < (3 : Int32))).2.2.2 ?_
          show Steps p.tables e below (T37.setTop (mkF m 187 #[.val (.int p1), .val (.int p2), .val (.long q3), .second, .val (.int (3 : Int32)), .val (.int qq), .val (.long lo), .second, .val (.ref b26), .val (.long ((qq.toInt64) * ((3 : Int32).toInt64))), .second, .val (.int i1), .unset, .unset] [])) _
          refine X37.ldc2Long hx hown (mvT hZ (hw _ (List.mem_of_getElem? (i := 12) rfl))) (g := (mkF m 187 #[.val (.int p1), .val (.int p2), .val (.long q3), .second, .val (.int (3 : Int32)), .val (.int qq), .val (.long lo), .second, .val (.ref b26), .val (.long ((qq.toInt64) * ((3 : Int32).toInt64))), .second, .val (.int i1), .unset, .unset] [])) rfl (hb hby at_187) _ ?_
          show Steps p.tables e below (T37.setTop (mkF m 190 #[.val (.int p1), .val (.int p2), .val (.long q3), .second, .val (.int (3 : Int32)), .val (.int qq), .val (.long lo), .second, .val (.ref b26), .val (.long ((qq.toInt64) * ((3 : Int32).toInt64))), .second, .val (.int i1), .unset, .unset] [(.long (2000 : Int64))])) _
          refine XS.lload X37.here hx rfl (hb hby at_190) rfl ?_
          show Steps p.tables e below (T37.setTop (mkF m 192 #[.val (.int p1), .val (.int p2), .val (.long q3), .second, .val (.int (3 : Int32)), .val (.int qq), .val (.long lo), .second, .val (.ref b26), .val (.long ((qq.toInt64) * ((3 : Int32).toInt64))), .second, .val (.int i1), .unset, .unset] [(.long ((qq.toInt64) * ((3 : Int32).toInt64))), (.long (2000 : Int64))])) _
          refine XS.lcmp X37.here hx rfl (hb hby at_192) rfl ?_
          show Steps p.tables e below (T37.setTop (mkF m 193 #[.val (.int p1), .val (.int p2), .val (.long q3), .second, .val (.int (3 : Int32)), .val (.int qq), .val (.long lo), .second, .val (.ref b26), .val (.long ((qq.toInt64) * ((3 : Int32).toInt64))), .second, .val (.int i1), .unset, .unset] [(.int (lcmpW (2000 : Int64) ((qq.toInt64) * ((3 : Int32).toInt64))))])) _
          refine XS.ifYes X37.here hx rfl (pc0 := 193) (pc' := 199) rfl (hb hby at_193) rfl (own_lgeT hj193_45) (by decide) (by decide) ?_
          exact kt⟩
    have hcn := own_c3 hq h_i1 h_i2
    obtain ⟨_, _, ⟨T47, L47, k47, n47⟩, -, X47, ⟨Lc47, hQ47, l47, y47, z47⟩, st47⟩ := Jvm.LawKit.callS X37 hx (y := (⟨"com/example/sandglass/sandglass/Percentiles", "nearestRank", "([JI)J"⟩ : MethodName)) hown (mvT hZ (hw _ (List.mem_of_getElem? (i := 2) rfl))) (mvT hZ (hw _ (List.mem_of_getElem? (i := 3) rfl))) (mvT hZ (hw _ (List.mem_of_getElem? (i := 4) rfl))) (mvT hZ (hw _ (List.mem_of_getElem? (i := 5) rfl))) (by decide) (backOf (W := 0) (rm1 l Z a0 hw [] b26 qq k26 (3 : Int32) [(.long lo), (.long (lo + (1 : Int64))), (.long (lo + (2 : Int64)))] (lo + (i2).toInt64) h37 n0 (Nat.le_trans Z0 K38.1) Vw37 (own_i3 hcn.1 hcn.2.1 hcn.2.2) (own_g3 hcn.1 hcn.2.1 hcn.2.2)) hZ (hw _ (List.mem_of_getElem? (i := 5) rfl)) (hw _ (List.mem_of_getElem? (i := 4) rfl)) (by decide) (by decide)) (g := (mkF m 295 #[.val (.int p1), .val (.int p2), .val (.long q3), .second, .val (.int (3 : Int32)), .val (.int qq), .val (.long lo), .second, .val (.ref b26), .val (.long ((qq.toInt64) * ((3 : Int32).toInt64))), .second, .val (.int i2), .unset, .unset] [(.int qq), (.ref b26)])) rfl (by rw [hml]; rfl) (argsL := [(.ref b26), (.int qq)]) (rest := []) (lenOf pd__28_5bJI_29J rfl) rfl (by show 2 * 0 + _ ≤ _; exact Nat.le_of_eq rfl) (hb hby at_295) (fun _ _ => ⟨rfl, e37, (by decide : 1 + 0 ≤ _), (by decide : 3 + 0 ≤ _)⟩)
    dsimp only [Pt.U, Pt.locs, Pt.cells, Pt.slots] at X47 l47 y47 z47 st47 hQ47
    subst l47 y47 z47
    obtain ⟨rfl, N47q, e47⟩ := hQ47
    have N47 := Fr.app N39 N47q
    obtain ⟨fs, hr, hrun, hended, hW, hsame⟩ := X47.leave (v := some (.int (1 : Int32))) (fun h => by rw [Bd.returns] at h; cases h)
    refine ⟨_, _, pre46 _ ?_, hrun, hended, _, _, rfl, ?_, ⟨_, rfl⟩, hW, hsame.mono (by decide) (by decide)⟩
    · show Steps p.tables e below (T37.setTop (mkF m 199 #[.val (.int p1), .val (.int p2), .val (.long q3), .second, .val (.int (3 : Int32)), .val (.int qq), .val (.long lo), .second, .val (.ref b26), .val (.long ((qq.toInt64) * ((3 : Int32).toInt64))), .second, .val (.int i2), .unset, .unset] [])) _
      refine XS.iload X37.here hx rfl (hb hby at_199) rfl ?_
      show Steps p.tables e below (T37.setTop (mkF m 201 #[.val (.int p1), .val (.int p2), .val (.long q3), .second, .val (.int (3 : Int32)), .val (.int qq), .val (.long lo), .second, .val (.ref b26), .val (.long ((qq.toInt64) * ((3 : Int32).toInt64))), .second, .val (.int i2), .unset, .unset] [(.int (3 : Int32))])) _
      refine XS.iconst X37.here hx rfl (hb hby at_201) ?_
      show Steps p.tables e below (T37.setTop (mkF m 202 #[.val (.int p1), .val (.int p2), .val (.long q3), .second, .val (.int (3 : Int32)), .val (.int qq), .val (.long lo), .second, .val (.ref b26), .val (.long ((qq.toInt64) * ((3 : Int32).toInt64))), .second, .val (.int i2), .unset, .unset] [(.int (3 : Int32)), (.int (3 : Int32))])) _
      refine XS.icmpYes X37.here hx rfl (pc0 := 202) (pc' := 217) rfl (hb hby at_202) rfl (flt (by decide : ¬ ((3 : Int32) < (3 : Int32)))).2.2.2 (by decide) (by decide) ?_
      show Steps p.tables e below (T37.setTop (mkF m 217 #[.val (.int p1), .val (.int p2), .val (.long q3), .second, .val (.int (3 : Int32)), .val (.int qq), .val (.long lo), .second, .val (.ref b26), .val (.long ((qq.toInt64) * ((3 : Int32).toInt64))), .second, .val (.int i2), .unset, .unset] [])) _
      refine XS.iload X37.here hx rfl (hb hby at_217) rfl ?_
      show Steps p.tables e below (T37.setTop (mkF m 219 #[.val (.int p1), .val (.int p2), .val (.long q3), .second, .val (.int (3 : Int32)), .val (.int qq), .val (.long lo), .second, .val (.ref b26), .val (.long ((qq.toInt64) * ((3 : Int32).toInt64))), .second, .val (.int i2), .unset, .unset] [(.int (3 : Int32))])) _
      refine XS.iconst X37.here hx rfl (hb hby at_219) ?_
      show Steps p.tables e below (T37.setTop (mkF m 220 #[.val (.int p1), .val (.int p2), .val (.long q3), .second, .val (.int (3 : Int32)), .val (.int qq), .val (.long lo), .second, .val (.ref b26), .val (.long ((qq.toInt64) * ((3 : Int32).toInt64))), .second, .val (.int i2), .unset, .unset] [(.int (4 : Int32)), (.int (3 : Int32))])) _
      refine XS.icmpYes X37.here hx rfl (pc0 := 220) (pc' := 235) rfl (hb hby at_220) rfl (flt (by decide : ¬ ((4 : Int32) < (3 : Int32)))).2.2.2 (by decide) (by decide) ?_
      show Steps p.tables e below (T37.setTop (mkF m 235 #[.val (.int p1), .val (.int p2), .val (.long q3), .second, .val (.int (3 : Int32)), .val (.int qq), .val (.long lo), .second, .val (.ref b26), .val (.long ((qq.toInt64) * ((3 : Int32).toInt64))), .second, .val (.int i2), .unset, .unset] [])) _
      refine XS.iload X37.here hx rfl (hb hby at_235) rfl ?_
      show Steps p.tables e below (T37.setTop (mkF m 237 #[.val (.int p1), .val (.int p2), .val (.long q3), .second, .val (.int (3 : Int32)), .val (.int qq), .val (.long lo), .second, .val (.ref b26), .val (.long ((qq.toInt64) * ((3 : Int32).toInt64))), .second, .val (.int i2), .unset, .unset] [(.int (3 : Int32))])) _
      refine XS.iconst X37.here hx rfl (hb hby at_237) ?_
      show Steps p.tables e below (T37.setTop (mkF m 238 #[.val (.int p1), .val (.int p2), .val (.long q3), .second, .val (.int (3 : Int32)), .val (.int qq), .val (.long lo), .second, .val (.ref b26), .val (.long ((qq.toInt64) * ((3 : Int32).toInt64))), .second, .val (.int i2), .unset, .unset] [(.int (5 : Int32)), (.int (3 : Int32))])) _
      refine XS.icmpYes X37.here hx rfl (pc0 := 238) (pc' := 253) rfl (hb hby at_238) rfl (flt (by decide : ¬ ((5 : Int32) < (3 : Int32)))).2.2.2 (by decide) (by decide) ?_
      show Steps p.tables e below (T37.setTop (mkF m 253 #[.val (.int p1), .val (.int p2), .val (.long q3), .second, .val (.int (3 : Int32)), .val (.int qq), .val (.long lo), .second, .val (.ref b26), .val (.long ((qq.toInt64) * ((3 : Int32).toInt64))), .second, .val (.int i2), .unset, .unset] [])) _
      refine XS.iload X37.here hx rfl (hb hby at_253) rfl ?_
      show Steps p.tables e below (T37.setTop (mkF m 255 #[.val (.int p1), .val (.int p2), .val (.long q3), .second, .val (.int (3 : Int32)), .val (.int qq), .val (.long lo), .second, .val (.ref b26), .val (.long ((qq.toInt64) * ((3 : Int32).toInt64))), .second, .val (.int i2), .unset, .unset] [(.int (3 : Int32))])) _
      refine XS.bipush X37.here hx rfl (hb hby at_255) ?_
      show Steps p.tables e below (T37.setTop (mkF m 257 #[.val (.int p1), .val (.int p2), .val (.long q3), .second, .val (.int (3 : Int32)), .val (.int qq), .val (.long lo), .second, .val (.ref b26), .val (.long ((qq.toInt64) * ((3 : Int32).toInt64))), .second, .val (.int i2), .unset, .unset] [(.int (6 : Int32)), (.int (3 : Int32))])) _
      refine XS.icmpYes X37.here hx rfl (pc0 := 257) (pc' := 272) rfl (hb hby at_257) rfl (flt (by decide : ¬ ((6 : Int32) < (3 : Int32)))).2.2.2 (by decide) (by decide) ?_
      show Steps p.tables e below (T37.setTop (mkF m 272 #[.val (.int p1), .val (.int p2), .val (.long q3), .second, .val (.int (3 : Int32)), .val (.int qq), .val (.long lo), .second, .val (.ref b26), .val (.long ((qq.toInt64) * ((3 : Int32).toInt64))), .second, .val (.int i2), .unset, .unset] [])) _
      refine XS.iload X37.here hx rfl (hb hby at_272) rfl ?_
      show Steps p.tables e below (T37.setTop (mkF m 274 #[.val (.int p1), .val (.int p2), .val (.long q3), .second, .val (.int (3 : Int32)), .val (.int qq), .val (.long lo), .second, .val (.ref b26), .val (.long ((qq.toInt64) * ((3 : Int32).toInt64))), .second, .val (.int i2), .unset, .unset] [(.int (3 : Int32))])) _
      refine XS.bipush X37.here hx rfl (hb hby at_274) ?_
      show Steps p.tables e below (T37.setTop (mkF m 276 #[.val (.int p1), .val (.int p2), .val (.long q3), .second, .val (.int (3 : Int32)), .val (.int qq), .val (.long lo), .second, .val (.ref b26), .val (.long ((qq.toInt64) * ((3 : Int32).toInt64))), .second, .val (.int i2), .unset, .unset] [(.int (7 : Int32)), (.int (3 : Int32))])) _
      refine XS.icmpYes X37.here hx rfl (pc0 := 276) (pc' := 291) rfl (hb hby at_276) rfl (flt (by decide : ¬ ((7 : Int32) < (3 : Int32)))).2.2.2 (by decide) (by decide) ?_
      show Steps p.tables e below (T37.setTop (mkF m 291 #[.val (.int p1), .val (.int p2), .val (.long q3), .second, .val (.int (3 : Int32)), .val (.int qq), .val (.long lo), .second, .val (.ref b26), .val (.long ((qq.toInt64) * ((3 : Int32).toInt64))), .second, .val (.int i2), .unset, .unset] [])) _
      refine XS.aload X37.here hx rfl (hb hby at_291) rfl rfl ?_
      show Steps p.tables e below (T37.setTop (mkF m 293 #[.val (.int p1), .val (.int p2), .val (.long q3), .second, .val (.int (3 : Int32)), .val (.int qq), .val (.long lo), .second, .val (.ref b26), .val (.long ((qq.toInt64) * ((3 : Int32).toInt64))), .second, .val (.int i2), .unset, .unset] [(.ref b26)])) _
      refine XS.iload X37.here hx rfl (hb hby at_293) rfl ?_
      show Steps p.tables e below (T37.setTop (mkF m 295 #[.val (.int p1), .val (.int p2), .val (.long q3), .second, .val (.int (3 : Int32)), .val (.int qq), .val (.long lo), .second, .val (.ref b26), .val (.long ((qq.toInt64) * ((3 : Int32).toInt64))), .second, .val (.int i2), .unset, .unset] [(.int qq), (.ref b26)])) _
      refine st47 _ ?_
      show Steps p.tables e below (T47.setTop (mkF m 298 #[.val (.int p1), .val (.int p2), .val (.long q3), .second, .val (.int (3 : Int32)), .val (.int qq), .val (.long lo), .second, .val (.ref b26), .val (.long ((qq.toInt64) * ((3 : Int32).toInt64))), .second, .val (.int i2), .unset, .unset] [(.long (lo + (i2).toInt64))])) _
      refine XS.lstore X47.here hx rfl (hb hby at_298) rfl (l' := #[.val (.int p1), .val (.int p2), .val (.long q3), .second, .val (.int (3 : Int32)), .val (.int qq), .val (.long lo), .second, .val (.ref b26), .val (.long ((qq.toInt64) * ((3 : Int32).toInt64))), .second, .val (.int i2), .val (.long (lo + (i2).toInt64)), .second]) rfl ?_
      show Steps p.tables e below (T47.setTop (mkF m 300 #[.val (.int p1), .val (.int p2), .val (.long q3), .second, .val (.int (3 : Int32)), .val (.int qq), .val (.long lo), .second, .val (.ref b26), .val (.long ((qq.toInt64) * ((3 : Int32).toInt64))), .second, .val (.int i2), .val (.long (lo + (i2).toInt64)), .second] [])) _
      refine XS.lload X47.here hx rfl (hb hby at_300) rfl ?_
      show Steps p.tables e below (T47.setTop (mkF m 302 #[.val (.int p1), .val (.int p2), .val (.long q3), .second, .val (.int (3 : Int32)), .val (.int qq), .val (.long lo), .second, .val (.ref b26), .val (.long ((qq.toInt64) * ((3 : Int32).toInt64))), .second, .val (.int i2), .val (.long (lo + (i2).toInt64)), .second] [(.long (lo + (i2).toInt64))])) _
      refine XS.lload X47.here hx rfl (hb hby at_302) rfl ?_
      show Steps p.tables e below (T47.setTop (mkF m 304 #[.val (.int p1), .val (.int p2), .val (.long q3), .second, .val (.int (3 : Int32)), .val (.int qq), .val (.long lo), .second, .val (.ref b26), .val (.long ((qq.toInt64) * ((3 : Int32).toInt64))), .second, .val (.int i2), .val (.long (lo + (i2).toInt64)), .second] [(.long lo), (.long (lo + (i2).toInt64))])) _
      refine XS.iload X47.here hx rfl (hb hby at_304) rfl ?_
      show Steps p.tables e below (T47.setTop (mkF m 306 #[.val (.int p1), .val (.int p2), .val (.long q3), .second, .val (.int (3 : Int32)), .val (.int qq), .val (.long lo), .second, .val (.ref b26), .val (.long ((qq.toInt64) * ((3 : Int32).toInt64))), .second, .val (.int i2), .val (.long (lo + (i2).toInt64)), .second] [(.int i2), (.long lo), (.long (lo + (i2).toInt64))])) _
      refine XS.i2l X47.here hx rfl (hb hby at_306) rfl ?_
      show Steps p.tables e below (T47.setTop (mkF m 307 #[.val (.int p1), .val (.int p2), .val (.long q3), .second, .val (.int (3 : Int32)), .val (.int qq), .val (.long lo), .second, .val (.ref b26), .val (.long ((qq.toInt64) * ((3 : Int32).toInt64))), .second, .val (.int i2), .val (.long (lo + (i2).toInt64)), .second] [(.long (i2.toInt64)), (.long lo), (.long (lo + (i2).toInt64))])) _
      refine XS.ladd X47.here hx rfl (hb hby at_307) rfl ?_
      show Steps p.tables e below (T47.setTop (mkF m 308 #[.val (.int p1), .val (.int p2), .val (.long q3), .second, .val (.int (3 : Int32)), .val (.int qq), .val (.long lo), .second, .val (.ref b26), .val (.long ((qq.toInt64) * ((3 : Int32).toInt64))), .second, .val (.int i2), .val (.long (lo + (i2).toInt64)), .second] [(.long (lo + (i2.toInt64))), (.long (lo + (i2).toInt64))])) _
      refine XS.lcmp X47.here hx rfl (hb hby at_308) rfl ?_
      show Steps p.tables e below (T47.setTop (mkF m 309 #[.val (.int p1), .val (.int p2), .val (.long q3), .second, .val (.int (3 : Int32)), .val (.int qq), .val (.long lo), .second, .val (.ref b26), .val (.long ((qq.toInt64) * ((3 : Int32).toInt64))), .second, .val (.int i2), .val (.long (lo + (i2).toInt64)), .second] [(.int (lcmpW (lo + (i2).toInt64) (lo + (i2.toInt64))))])) _
      refine XS.ifNo X47.here hx rfl (hb hby at_309) rfl (own_lneF rfl) ?_
      show Steps p.tables e below (T47.setTop (mkF m 312 #[.val (.int p1), .val (.int p2), .val (.long q3), .second, .val (.int (3 : Int32)), .val (.int qq), .val (.long lo), .second, .val (.ref b26), .val (.long ((qq.toInt64) * ((3 : Int32).toInt64))), .second, .val (.int i2), .val (.long (lo + (i2).toInt64)), .second] [])) _
      refine XS.iconst X47.here hx rfl (hb hby at_312) ?_
      show Steps p.tables e below (T47.setTop (mkF m 313 #[.val (.int p1), .val (.int p2), .val (.long q3), .second, .val (.int (3 : Int32)), .val (.int qq), .val (.long lo), .second, .val (.ref b26), .val (.long ((qq.toInt64) * ((3 : Int32).toInt64))), .second, .val (.int i2), .val (.long (lo + (i2).toInt64)), .second] [(.int (1 : Int32))])) _
      refine XS.goto X47.here hx rfl (pc0 := 313) (pc' := 317) rfl (hb hby at_313) (by decide) (by decide) ?_
      show Steps p.tables e below (T47.setTop (mkF m 317 #[.val (.int p1), .val (.int p2), .val (.long q3), .second, .val (.int (3 : Int32)), .val (.int qq), .val (.long lo), .second, .val (.ref b26), .val (.long ((qq.toInt64) * ((3 : Int32).toInt64))), .second, .val (.int i2), .val (.long (lo + (i2).toInt64)), .second] [(.int (1 : Int32))])) _
      exact retN X47 hx (t := .boolean) Bd.returns (by simp) (hb hby at_317) hr
    · show Q_rm0 Z p1 p2 q3 h0 n0 _ T47.heap _
      rw [e47]
      exact ⟨rfl, N47⟩
  · rw [hn] at pre3
    obtain ⟨T48, h48, k48, X48, e48, E48, A48, st48⟩ := newP X0 hx hZ (hw _ (List.mem_of_getElem? (i := 1) rfl)) e0 (g := (mkF m 27 #[.val (.int p1), .val (.int p2), .val (.long q3), .second, .val (.int (4 : Int32)), .val (.int qq), .val (.long lo), .second, .unset, .unset, .unset, .unset, .unset, .unset] [(.int (4 : Int32))])) rfl (hb hby at_27) rfl (by decide) (cap := 4) (by decide) (by decide) (by decide) (by decide)
    obtain ⟨b48, g48⟩ : ∃ z, z = h0.size := ⟨_, rfl⟩
    rw [← g48] at A48 st48
    have g_b48 : n0 ≤ b48 := Nat.le_trans Z0 (Nat.le_of_eq g48.symm)
    have sz_b48 : h0.size ≤ b48 := Nat.le_trans (Keep.refl h0 []).1 (Nat.le_of_eq g48.symm)
    have K49 : Keep h0 h48 [] := (Keep.refl h0 []).ext E48
    have V_b48 : Arv Z h48 b48 k48 .long (4 : Int32) [(.long (0 : Int64)), (.long (0 : Int64)), (.long (0 : Int64)), (.long (0 : Int64))] (.long (0 : Int64)) := (Arv.new A48 (by decide)).pad (pad_rep [] (.long (0 : Int64)) 4)
    obtain ⟨c50, Ac50, qc50, Sc50, Nc50, Hc50, Gc50⟩ := id V_b48
    obtain ⟨T51, h51, X51, e51, W51, st51⟩ := stJ X48 hx hZ e48 Ac50 (j := (0 : Int32)) (inb_of Sc50 ⟨by decide, by decide⟩) (g := (mkF m 36 #[.val (.int p1), .val (.int p2), .val (.long q3), .second, .val (.int (4 : Int32)), .val (.int qq), .val (.long lo), .second, .val (.ref b48), .unset, .unset, .unset, .unset, .unset] [(.long lo), (.int (0 : Int32)), (.ref b48)])) rfl rfl (hb hby at_36)
    have K52 : Keep h0 h51 [] := K49.wr W51 (Or.inr sz_b48)
    have N53 := Fr.snoc X51 N0 g_b48
    have Vw51 := Arv.set Ac50 qc50 Sc50 Nc50 Hc50 Gc50 rfl W51 0 rfl (Nat.le_of_ble_eq_true rfl)
    change Arv Z h51 b48 k48 .long (4 : Int32) [(.long lo), (.long (0 : Int64)), (.long (0 : Int64)), (.long (0 : Int64))] (.long (0 : Int64)) at Vw51
    obtain ⟨c54, Ac54, qc54, Sc54, Nc54, Hc54, Gc54⟩ := id Vw51
    obtain ⟨T55, h55, X55, e55, W55, st55⟩ := stJ X51 hx hZ e51 Ac54 (j := (1 : Int32)) (inb_of Sc54 ⟨by decide, by decide⟩) (g := (mkF m 50 #[.val (.int p1), .val (.int p2), .val (.long q3), .second, .val (.int (4 : Int32)), .val (.int qq), .val (.long lo), .second, .val (.ref b48), .unset, .unset, .unset, .unset, .unset] [(.long (lo + (1 : Int64))), (.int (1 : Int32)), (.ref b48)])) rfl rfl (hb hby at_50)
    have K56 : Keep h0 h55 [] := K52.wr W55 (Or.inr sz_b48)
    have N57 := Fr.snoc X55 N53 g_b48
    have Vw55 := Arv.set Ac54 qc54 Sc54 Nc54 Hc54 Gc54 rfl W55 1 rfl (Nat.le_of_ble_eq_true rfl)
    change Arv Z h55 b48 k48 .long (4 : Int32) [(.long lo), (.long (lo + (1 : Int64))), (.long (0 : Int64)), (.long (0 : Int64))] (.long (0 : Int64)) at Vw55
    obtain ⟨c58, Ac58, qc58, Sc58, Nc58, Hc58, Gc58⟩ := id Vw55
    obtain ⟨T59, h59, X59, e59, W59, st59⟩ := stJ X55 hx hZ e55 Ac58 (j := (2 : Int32)) (inb_of Sc58 ⟨by decide, by decide⟩) (g := (mkF m 66 #[.val (.int p1), .val (.int p2), .val (.long q3), .second, .val (.int (4 : Int32)), .val (.int qq), .val (.long lo), .second, .val (.ref b48), .unset, .unset, .unset, .unset, .unset] [(.long (lo + (2 : Int64))), (.int (2 : Int32)), (.ref b48)])) rfl rfl (hb hby at_66)
    have K60 : Keep h0 h59 [] := K56.wr W59 (Or.inr sz_b48)
    have N61 := Fr.snoc X59 N57 g_b48
    have Vw59 := Arv.set Ac58 qc58 Sc58 Nc58 Hc58 Gc58 rfl W59 2 rfl (Nat.le_of_ble_eq_true rfl)
    change Arv Z h59 b48 k48 .long (4 : Int32) [(.long lo), (.long (lo + (1 : Int64))), (.long (lo + (2 : Int64))), (.long (0 : Int64))] (.long (0 : Int64)) at Vw59
    obtain ⟨c62, Ac62, qc62, Sc62, Nc62, Hc62, Gc62⟩ := id Vw59
    obtain ⟨T63, h63, X63, e63, W63, st63⟩ := stJ X59 hx hZ e59 Ac62 (j := (3 : Int32)) (inb_of Sc62 ⟨by decide, by decide⟩) (g := (mkF m 82 #[.val (.int p1), .val (.int p2), .val (.long q3), .second, .val (.int (4 : Int32)), .val (.int qq), .val (.long lo), .second, .val (.ref b48), .unset, .unset, .unset, .unset, .unset] [(.long (lo + (3 : Int64))), (.int (3 : Int32)), (.ref b48)])) rfl rfl (hb hby at_82)
    have K64 : Keep h0 h63 [] := K60.wr W63 (Or.inr sz_b48)
    have N65 := Fr.snoc X63 N61 g_b48
    have Vw63 := Arv.set Ac62 qc62 Sc62 Nc62 Hc62 Gc62 rfl W63 3 rfl (Nat.le_of_ble_eq_true rfl)
    change Arv Z h63 b48 k48 .long (4 : Int32) [(.long lo), (.long (lo + (1 : Int64))), (.long (lo + (2 : Int64))), (.long (lo + (3 : Int64)))] (.long (0 : Int64)) at Vw63
    have pre66 : ∀ t, Steps p.tables e below (T63.setTop (mkF m 163 #[.val (.int p1), .val (.int p2), .val (.long q3), .second, .val (.int (4 : Int32)), .val (.int qq), .val (.long lo), .second, .val (.ref b48), .val (.long ((qq.toInt64) * ((4 : Int32).toInt64))), .second, .val (.int (0 : Int32)), .unset, .unset] [])) t → Steps p.tables e below (s₁.setTop (entryFrame m #[(.int p1), (.int p2), (.long q3)] maxLocals)) t := fun t kt => by
      refine pre3 t ?_
      show Steps p.tables e below (s₁.setTop (mkF m 25 #[.val (.int p1), .val (.int p2), .val (.long q3), .second, .val (.int (4 : Int32)), .val (.int qq), .val (.long lo), .second, .unset, .unset, .unset, .unset, .unset, .unset] [])) _
      refine XS.iload X0.here hx rfl (hb hby at_25) rfl ?_
      show Steps p.tables e below (s₁.setTop (mkF m 27 #[.val (.int p1), .val (.int p2), .val (.long q3), .second, .val (.int (4 : Int32)), .val (.int qq), .val (.long lo), .second, .unset, .unset, .unset, .unset, .unset, .unset] [(.int (4 : Int32))])) _
      refine st48 _ ?_
      show Steps p.tables e below (T48.setTop (mkF m 29 #[.val (.int p1), .val (.int p2), .val (.long q3), .second, .val (.int (4 : Int32)), .val (.int qq), .val (.long lo), .second, .unset, .unset, .unset, .unset, .unset, .unset] [(.ref b48)])) _
      refine XS.astore X48.here hx rfl (hb hby at_29) rfl rfl (l' := #[.val (.int p1), .val (.int p2), .val (.long q3), .second, .val (.int (4 : Int32)), .val (.int qq), .val (.long lo), .second, .val (.ref b48), .unset, .unset, .unset, .unset, .unset]) rfl ?_
      show Steps p.tables e below (T48.setTop (mkF m 31 #[.val (.int p1), .val (.int p2), .val (.long q3), .second, .val (.int (4 : Int32)), .val (.int qq), .val (.long lo), .second, .val (.ref b48), .unset, .unset, .unset, .unset, .unset] [])) _
      refine XS.aload X48.here hx rfl (hb hby at_31) rfl rfl ?_
      show Steps p.tables e below (T48.setTop (mkF m 33 #[.val (.int p1), .val (.int p2), .val (.long q3), .second, .val (.int (4 : Int32)), .val (.int qq), .val (.long lo), .second, .val (.ref b48), .unset, .unset, .unset, .unset, .unset] [(.ref b48)])) _
      refine XS.iconst X48.here hx rfl (hb hby at_33) ?_
      show Steps p.tables e below (T48.setTop (mkF m 34 #[.val (.int p1), .val (.int p2), .val (.long q3), .second, .val (.int (4 : Int32)), .val (.int qq), .val (.long lo), .second, .val (.ref b48), .unset, .unset, .unset, .unset, .unset] [(.int (0 : Int32)), (.ref b48)])) _
      refine XS.lload X48.here hx rfl (hb hby at_34) rfl ?_
      show Steps p.tables e below (T48.setTop (mkF m 36 #[.val (.int p1), .val (.int p2), .val (.long q3), .second, .val (.int (4 : Int32)), .val (.int qq), .val (.long lo), .second, .val (.ref b48), .unset, .unset, .unset, .unset, .unset] [(.long lo), (.int (0 : Int32)), (.ref b48)])) _
      refine st51 _ ?_
      show Steps p.tables e below (T51.setTop (mkF m 37 #[.val (.int p1), .val (.int p2), .val (.long q3), .second, .val (.int (4 : Int32)), .val (.int qq), .val (.long lo), .second, .val (.ref b48), .unset, .unset, .unset, .unset, .unset] [])) _
      refine XS.iload X51.here hx rfl (hb hby at_37) rfl ?_
      show Steps p.tables e below (T51.setTop (mkF m 39 #[.val (.int p1), .val (.int p2), .val (.long q3), .second, .val (.int (4 : Int32)), .val (.int qq), .val (.long lo), .second, .val (.ref b48), .unset, .unset, .unset, .unset, .unset] [(.int (4 : Int32))])) _
      refine XS.iconst X51.here hx rfl (hb hby at_39) ?_
      show Steps p.tables e below (T51.setTop (mkF m 40 #[.val (.int p1), .val (.int p2), .val (.long q3), .second, .val (.int (4 : Int32)), .val (.int qq), .val (.long lo), .second, .val (.ref b48), .unset, .unset, .unset, .unset, .unset] [(.int (1 : Int32)), (.int (4 : Int32))])) _
      refine XS.icmpNo X51.here hx rfl (hb hby at_40) rfl (tlt (by decide : (1 : Int32) < (4 : Int32))).2.2.2 ?_
      show Steps p.tables e below (T51.setTop (mkF m 43 #[.val (.int p1), .val (.int p2), .val (.long q3), .second, .val (.int (4 : Int32)), .val (.int qq), .val (.long lo), .second, .val (.ref b48), .unset, .unset, .unset, .unset, .unset] [])) _
      refine XS.aload X51.here hx rfl (hb hby at_43) rfl rfl ?_
      show Steps p.tables e below (T51.setTop (mkF m 45 #[.val (.int p1), .val (.int p2), .val (.long q3), .second, .val (.int (4 : Int32)), .val (.int qq), .val (.long lo), .second, .val (.ref b48), .unset, .unset, .unset, .unset, .unset] [(.ref b48)])) _
      refine XS.iconst X51.here hx rfl (hb hby at_45) ?_
      show Steps p.tables e below (T51.setTop (mkF m 46 #[.val (.int p1), .val (.int p2), .val (.long q3), .second, .val (.int (4 : Int32)), .val (.int qq), .val (.long lo), .second, .val (.ref b48), .unset, .unset, .unset, .unset, .unset] [(.int (1 : Int32)), (.ref b48)])) _
      refine XS.lload X51.here hx rfl (hb hby at_46) rfl ?_
      show Steps p.tables e below (T51.setTop (mkF m 48 #[.val (.int p1), .val (.int p2), .val (.long q3), .second, .val (.int (4 : Int32)), .val (.int qq), .val (.long lo), .second, .val (.ref b48), .unset, .unset, .unset, .unset, .unset] [(.long lo), (.int (1 : Int32)), (.ref b48)])) _
      refine XS.lconst X51.here hx rfl (hb hby at_48) ?_
      show Steps p.tables e below (T51.setTop (mkF m 49 #[.val (.int p1), .val (.int p2), .val (.long q3), .second, .val (.int (4 : Int32)), .val (.int qq), .val (.long lo), .second, .val (.ref b48), .unset, .unset, .unset, .unset, .unset] [(.long (1 : Int64)), (.long lo), (.int (1 : Int32)), (.ref b48)])) _
      refine XS.ladd X51.here hx rfl (hb hby at_49) rfl ?_
      show Steps p.tables e below (T51.setTop (mkF m 50 #[.val (.int p1), .val (.int p2), .val (.long q3), .second, .val (.int (4 : Int32)), .val (.int qq), .val (.long lo), .second, .val (.ref b48), .unset, .unset, .unset, .unset, .unset] [(.long (lo + (1 : Int64))), (.int (1 : Int32)), (.ref b48)])) _
      refine st55 _ ?_
      show Steps p.tables e below (T55.setTop (mkF m 51 #[.val (.int p1), .val (.int p2), .val (.long q3), .second, .val (.int (4 : Int32)), .val (.int qq), .val (.long lo), .second, .val (.ref b48), .unset, .unset, .unset, .unset, .unset] [])) _
      refine XS.iload X55.here hx rfl (hb hby at_51) rfl ?_
      show Steps p.tables e below (T55.setTop (mkF m 53 #[.val (.int p1), .val (.int p2), .val (.long q3), .second, .val (.int (4 : Int32)), .val (.int qq), .val (.long lo), .second, .val (.ref b48), .unset, .unset, .unset, .unset, .unset] [(.int (4 : Int32))])) _
      refine XS.iconst X55.here hx rfl (hb hby at_53) ?_
      show Steps p.tables e below (T55.setTop (mkF m 54 #[.val (.int p1), .val (.int p2), .val (.long q3), .second, .val (.int (4 : Int32)), .val (.int qq), .val (.long lo), .second, .val (.ref b48), .unset, .unset, .unset, .unset, .unset] [(.int (2 : Int32)), (.int (4 : Int32))])) _
      refine XS.icmpNo X55.here hx rfl (hb hby at_54) rfl (tlt (by decide : (2 : Int32) < (4 : Int32))).2.2.2 ?_
      show Steps p.tables e below (T55.setTop (mkF m 57 #[.val (.int p1), .val (.int p2), .val (.long q3), .second, .val (.int (4 : Int32)), .val (.int qq), .val (.long lo), .second, .val (.ref b48), .unset, .unset, .unset, .unset, .unset] [])) _
      refine XS.aload X55.here hx rfl (hb hby at_57) rfl rfl ?_
      show Steps p.tables e below (T55.setTop (mkF m 59 #[.val (.int p1), .val (.int p2), .val (.long q3), .second, .val (.int (4 : Int32)), .val (.int qq), .val (.long lo), .second, .val (.ref b48), .unset, .unset, .unset, .unset, .unset] [(.ref b48)])) _
      refine XS.iconst X55.here hx rfl (hb hby at_59) ?_
      show Steps p.tables e below (T55.setTop (mkF m 60 #[.val (.int p1), .val (.int p2), .val (.long q3), .second, .val (.int (4 : Int32)), .val (.int qq), .val (.long lo), .second, .val (.ref b48), .unset, .unset, .unset, .unset, .unset] [(.int (2 : Int32)), (.ref b48)])) _
      refine XS.lload X55.here hx rfl (hb hby at_60) rfl ?_
      show Steps p.tables e below (T55.setTop (mkF m 62 #[.val (.int p1), .val (.int p2), .val (.long q3), .second, .val (.int (4 : Int32)), .val (.int qq), .val (.long lo), .second, .val (.ref b48), .unset, .unset, .unset, .unset, .unset] [(.long lo), (.int (2 : Int32)), (.ref b48)])) _
      refine X55.ldc2Long hx hown (mvT hZ (hw _ (List.mem_of_getElem? (i := 8) rfl))) (g := (mkF m 62 #[.val (.int p1), .val (.int p2), .val (.long q3), .second, .val (.int (4 : Int32)), .val (.int qq), .val (.long lo), .second, .val (.ref b48), .unset, .unset, .unset, .unset, .unset] [(.long lo), (.int (2 : Int32)), (.ref b48)])) rfl (hb hby at_62) _ ?_
      show Steps p.tables e below (T55.setTop (mkF m 65 #[.val (.int p1), .val (.int p2), .val (.long q3), .second, .val (.int (4 : Int32)), .val (.int qq), .val (.long lo), .second, .val (.ref b48), .unset, .unset, .unset, .unset, .unset] [(.long (2 : Int64)), (.long lo), (.int (2 : Int32)), (.ref b48)])) _
      refine XS.ladd X55.here hx rfl (hb hby at_65) rfl ?_
      show Steps p.tables e below (T55.setTop (mkF m 66 #[.val (.int p1), .val (.int p2), .val (.long q3), .second, .val (.int (4 : Int32)), .val (.int qq), .val (.long lo), .second, .val (.ref b48), .unset, .unset, .unset, .unset, .unset] [(.long (lo + (2 : Int64))), (.int (2 : Int32)), (.ref b48)])) _
      refine st59 _ ?_
      show Steps p.tables e below (T59.setTop (mkF m 67 #[.val (.int p1), .val (.int p2), .val (.long q3), .second, .val (.int (4 : Int32)), .val (.int qq), .val (.long lo), .second, .val (.ref b48), .unset, .unset, .unset, .unset, .unset] [])) _
      refine XS.iload X59.here hx rfl (hb hby at_67) rfl ?_
      show Steps p.tables e below (T59.setTop (mkF m 69 #[.val (.int p1), .val (.int p2), .val (.long q3), .second, .val (.int (4 : Int32)), .val (.int qq), .val (.long lo), .second, .val (.ref b48), .unset, .unset, .unset, .unset, .unset] [(.int (4 : Int32))])) _
      refine XS.iconst X59.here hx rfl (hb hby at_69) ?_
      show Steps p.tables e below (T59.setTop (mkF m 70 #[.val (.int p1), .val (.int p2), .val (.long q3), .second, .val (.int (4 : Int32)), .val (.int qq), .val (.long lo), .second, .val (.ref b48), .unset, .unset, .unset, .unset, .unset] [(.int (3 : Int32)), (.int (4 : Int32))])) _
      refine XS.icmpNo X59.here hx rfl (hb hby at_70) rfl (tlt (by decide : (3 : Int32) < (4 : Int32))).2.2.2 ?_
      show Steps p.tables e below (T59.setTop (mkF m 73 #[.val (.int p1), .val (.int p2), .val (.long q3), .second, .val (.int (4 : Int32)), .val (.int qq), .val (.long lo), .second, .val (.ref b48), .unset, .unset, .unset, .unset, .unset] [])) _
      refine XS.aload X59.here hx rfl (hb hby at_73) rfl rfl ?_
      show Steps p.tables e below (T59.setTop (mkF m 75 #[.val (.int p1), .val (.int p2), .val (.long q3), .second, .val (.int (4 : Int32)), .val (.int qq), .val (.long lo), .second, .val (.ref b48), .unset, .unset, .unset, .unset, .unset] [(.ref b48)])) _
      refine XS.iconst X59.here hx rfl (hb hby at_75) ?_
      show Steps p.tables e below (T59.setTop (mkF m 76 #[.val (.int p1), .val (.int p2), .val (.long q3), .second, .val (.int (4 : Int32)), .val (.int qq), .val (.long lo), .second, .val (.ref b48), .unset, .unset, .unset, .unset, .unset] [(.int (3 : Int32)), (.ref b48)])) _
      refine XS.lload X59.here hx rfl (hb hby at_76) rfl ?_
      show Steps p.tables e below (T59.setTop (mkF m 78 #[.val (.int p1), .val (.int p2), .val (.long q3), .second, .val (.int (4 : Int32)), .val (.int qq), .val (.long lo), .second, .val (.ref b48), .unset, .unset, .unset, .unset, .unset] [(.long lo), (.int (3 : Int32)), (.ref b48)])) _
      refine X59.ldc2Long hx hown (mvT hZ (hw _ (List.mem_of_getElem? (i := 9) rfl))) (g := (mkF m 78 #[.val (.int p1), .val (.int p2), .val (.long q3), .second, .val (.int (4 : Int32)), .val (.int qq), .val (.long lo), .second, .val (.ref b48), .unset, .unset, .unset, .unset, .unset] [(.long lo), (.int (3 : Int32)), (.ref b48)])) rfl (hb hby at_78) _ ?_
      show Steps p.tables e below (T59.setTop (mkF m 81 #[.val (.int p1), .val (.int p2), .val (.long q3), .second, .val (.int (4 : Int32)), .val (.int qq), .val (.long lo), .second, .val (.ref b48), .unset, .unset, .unset, .unset, .unset] [(.long (3 : Int64)), (.long lo), (.int (3 : Int32)), (.ref b48)])) _
      refine XS.ladd X59.here hx rfl (hb hby at_81) rfl ?_
      show Steps p.tables e below (T59.setTop (mkF m 82 #[.val (.int p1), .val (.int p2), .val (.long q3), .second, .val (.int (4 : Int32)), .val (.int qq), .val (.long lo), .second, .val (.ref b48), .unset, .unset, .unset, .unset, .unset] [(.long (lo + (3 : Int64))), (.int (3 : Int32)), (.ref b48)])) _
      refine st63 _ ?_
      show Steps p.tables e below (T63.setTop (mkF m 83 #[.val (.int p1), .val (.int p2), .val (.long q3), .second, .val (.int (4 : Int32)), .val (.int qq), .val (.long lo), .second, .val (.ref b48), .unset, .unset, .unset, .unset, .unset] [])) _
      refine XS.iload X63.here hx rfl (hb hby at_83) rfl ?_
      show Steps p.tables e below (T63.setTop (mkF m 85 #[.val (.int p1), .val (.int p2), .val (.long q3), .second, .val (.int (4 : Int32)), .val (.int qq), .val (.long lo), .second, .val (.ref b48), .unset, .unset, .unset, .unset, .unset] [(.int (4 : Int32))])) _
      refine XS.iconst X63.here hx rfl (hb hby at_85) ?_
      show Steps p.tables e below (T63.setTop (mkF m 86 #[.val (.int p1), .val (.int p2), .val (.long q3), .second, .val (.int (4 : Int32)), .val (.int qq), .val (.long lo), .second, .val (.ref b48), .unset, .unset, .unset, .unset, .unset] [(.int (4 : Int32)), (.int (4 : Int32))])) _
      refine XS.icmpYes X63.here hx rfl (pc0 := 86) (pc' := 99) rfl (hb hby at_86) rfl (flt (by decide : ¬ ((4 : Int32) < (4 : Int32)))).2.2.2 (by decide) (by decide) ?_
      show Steps p.tables e below (T63.setTop (mkF m 99 #[.val (.int p1), .val (.int p2), .val (.long q3), .second, .val (.int (4 : Int32)), .val (.int qq), .val (.long lo), .second, .val (.ref b48), .unset, .unset, .unset, .unset, .unset] [])) _
      refine XS.iload X63.here hx rfl (hb hby at_99) rfl ?_
      show Steps p.tables e below (T63.setTop (mkF m 101 #[.val (.int p1), .val (.int p2), .val (.long q3), .second, .val (.int (4 : Int32)), .val (.int qq), .val (.long lo), .second, .val (.ref b48), .unset, .unset, .unset, .unset, .unset] [(.int (4 : Int32))])) _
      refine XS.iconst X63.here hx rfl (hb hby at_101) ?_
      show Steps p.tables e below (T63.setTop (mkF m 102 #[.val (.int p1), .val (.int p2), .val (.long q3), .second, .val (.int (4 : Int32)), .val (.int qq), .val (.long lo), .second, .val (.ref b48), .unset, .unset, .unset, .unset, .unset] [(.int (5 : Int32)), (.int (4 : Int32))])) _
      refine XS.icmpYes X63.here hx rfl (pc0 := 102) (pc' := 115) rfl (hb hby at_102) rfl (flt (by decide : ¬ ((5 : Int32) < (4 : Int32)))).2.2.2 (by decide) (by decide) ?_
      show Steps p.tables e below (T63.setTop (mkF m 115 #[.val (.int p1), .val (.int p2), .val (.long q3), .second, .val (.int (4 : Int32)), .val (.int qq), .val (.long lo), .second, .val (.ref b48), .unset, .unset, .unset, .unset, .unset] [])) _
      refine XS.iload X63.here hx rfl (hb hby at_115) rfl ?_
      show Steps p.tables e below (T63.setTop (mkF m 117 #[.val (.int p1), .val (.int p2), .val (.long q3), .second, .val (.int (4 : Int32)), .val (.int qq), .val (.long lo), .second, .val (.ref b48), .unset, .unset, .unset, .unset, .unset] [(.int (4 : Int32))])) _
      refine XS.bipush X63.here hx rfl (hb hby at_117) ?_
      show Steps p.tables e below (T63.setTop (mkF m 119 #[.val (.int p1), .val (.int p2), .val (.long q3), .second, .val (.int (4 : Int32)), .val (.int qq), .val (.long lo), .second, .val (.ref b48), .unset, .unset, .unset, .unset, .unset] [(.int (6 : Int32)), (.int (4 : Int32))])) _
      refine XS.icmpYes X63.here hx rfl (pc0 := 119) (pc' := 133) rfl (hb hby at_119) rfl (flt (by decide : ¬ ((6 : Int32) < (4 : Int32)))).2.2.2 (by decide) (by decide) ?_
      show Steps p.tables e below (T63.setTop (mkF m 133 #[.val (.int p1), .val (.int p2), .val (.long q3), .second, .val (.int (4 : Int32)), .val (.int qq), .val (.long lo), .second, .val (.ref b48), .unset, .unset, .unset, .unset, .unset] [])) _
      refine XS.iload X63.here hx rfl (hb hby at_133) rfl ?_
      show Steps p.tables e below (T63.setTop (mkF m 135 #[.val (.int p1), .val (.int p2), .val (.long q3), .second, .val (.int (4 : Int32)), .val (.int qq), .val (.long lo), .second, .val (.ref b48), .unset, .unset, .unset, .unset, .unset] [(.int (4 : Int32))])) _
      refine XS.bipush X63.here hx rfl (hb hby at_135) ?_
      show Steps p.tables e below (T63.setTop (mkF m 137 #[.val (.int p1), .val (.int p2), .val (.long q3), .second, .val (.int (4 : Int32)), .val (.int qq), .val (.long lo), .second, .val (.ref b48), .unset, .unset, .unset, .unset, .unset] [(.int (7 : Int32)), (.int (4 : Int32))])) _
      refine XS.icmpYes X63.here hx rfl (pc0 := 137) (pc' := 151) rfl (hb hby at_137) rfl (flt (by decide : ¬ ((7 : Int32) < (4 : Int32)))).2.2.2 (by decide) (by decide) ?_
      show Steps p.tables e below (T63.setTop (mkF m 151 #[.val (.int p1), .val (.int p2), .val (.long q3), .second, .val (.int (4 : Int32)), .val (.int qq), .val (.long lo), .second, .val (.ref b48), .unset, .unset, .unset, .unset, .unset] [])) _
      refine XS.iload X63.here hx rfl (hb hby at_151) rfl ?_
      show Steps p.tables e below (T63.setTop (mkF m 153 #[.val (.int p1), .val (.int p2), .val (.long q3), .second, .val (.int (4 : Int32)), .val (.int qq), .val (.long lo), .second, .val (.ref b48), .unset, .unset, .unset, .unset, .unset] [(.int qq)])) _
      refine XS.i2l X63.here hx rfl (hb hby at_153) rfl ?_
      show Steps p.tables e below (T63.setTop (mkF m 154 #[.val (.int p1), .val (.int p2), .val (.long q3), .second, .val (.int (4 : Int32)), .val (.int qq), .val (.long lo), .second, .val (.ref b48), .unset, .unset, .unset, .unset, .unset] [(.long (qq.toInt64))])) _
      refine XS.iload X63.here hx rfl (hb hby at_154) rfl ?_
      show Steps p.tables e below (T63.setTop (mkF m 156 #[.val (.int p1), .val (.int p2), .val (.long q3), .second, .val (.int (4 : Int32)), .val (.int qq), .val (.long lo), .second, .val (.ref b48), .unset, .unset, .unset, .unset, .unset] [(.int (4 : Int32)), (.long (qq.toInt64))])) _
      refine XS.i2l X63.here hx rfl (hb hby at_156) rfl ?_
      show Steps p.tables e below (T63.setTop (mkF m 157 #[.val (.int p1), .val (.int p2), .val (.long q3), .second, .val (.int (4 : Int32)), .val (.int qq), .val (.long lo), .second, .val (.ref b48), .unset, .unset, .unset, .unset, .unset] [(.long ((4 : Int32).toInt64)), (.long (qq.toInt64))])) _
      refine XS.lmul X63.here hx rfl (hb hby at_157) rfl ?_
      show Steps p.tables e below (T63.setTop (mkF m 158 #[.val (.int p1), .val (.int p2), .val (.long q3), .second, .val (.int (4 : Int32)), .val (.int qq), .val (.long lo), .second, .val (.ref b48), .unset, .unset, .unset, .unset, .unset] [(.long ((qq.toInt64) * ((4 : Int32).toInt64)))])) _
      refine XS.lstore X63.here hx rfl (hb hby at_158) rfl (l' := #[.val (.int p1), .val (.int p2), .val (.long q3), .second, .val (.int (4 : Int32)), .val (.int qq), .val (.long lo), .second, .val (.ref b48), .val (.long ((qq.toInt64) * ((4 : Int32).toInt64))), .second, .unset, .unset, .unset]) rfl ?_
      show Steps p.tables e below (T63.setTop (mkF m 160 #[.val (.int p1), .val (.int p2), .val (.long q3), .second, .val (.int (4 : Int32)), .val (.int qq), .val (.long lo), .second, .val (.ref b48), .val (.long ((qq.toInt64) * ((4 : Int32).toInt64))), .second, .unset, .unset, .unset] [])) _
      refine XS.iconst X63.here hx rfl (hb hby at_160) ?_
      show Steps p.tables e below (T63.setTop (mkF m 161 #[.val (.int p1), .val (.int p2), .val (.long q3), .second, .val (.int (4 : Int32)), .val (.int qq), .val (.long lo), .second, .val (.ref b48), .val (.long ((qq.toInt64) * ((4 : Int32).toInt64))), .second, .unset, .unset, .unset] [(.int (0 : Int32))])) _
      refine XS.istore X63.here hx rfl (hb hby at_161) rfl (l' := #[.val (.int p1), .val (.int p2), .val (.long q3), .second, .val (.int (4 : Int32)), .val (.int qq), .val (.long lo), .second, .val (.ref b48), .val (.long ((qq.toInt64) * ((4 : Int32).toInt64))), .second, .val (.int (0 : Int32)), .unset, .unset]) rfl ?_
      exact kt
    have pre67 : ∀ t, Steps p.tables e below (T63.setTop (mkF m 166 #[.val (.int p1), .val (.int p2), .val (.long q3), .second, .val (.int (4 : Int32)), .val (.int qq), .val (.long lo), .second, .val (.ref b48), .val (.long ((qq.toInt64) * ((4 : Int32).toInt64))), .second, .val (.int (0 : Int32)), .unset, .unset] [(.int (1 : Int32)), (.int (4 : Int32))])) t → Steps p.tables e below (s₁.setTop (entryFrame m #[(.int p1), (.int p2), (.long q3)] maxLocals)) t := fun t kt => by
      refine pre66 t ?_
      show Steps p.tables e below (T63.setTop (mkF m 163 #[.val (.int p1), .val (.int p2), .val (.long q3), .second, .val (.int (4 : Int32)), .val (.int qq), .val (.long lo), .second, .val (.ref b48), .val (.long ((qq.toInt64) * ((4 : Int32).toInt64))), .second, .val (.int (0 : Int32)), .unset, .unset] [])) _
      refine XS.iload X63.here hx rfl (hb hby at_163) rfl ?_
      show Steps p.tables e below (T63.setTop (mkF m 165 #[.val (.int p1), .val (.int p2), .val (.long q3), .second, .val (.int (4 : Int32)), .val (.int qq), .val (.long lo), .second, .val (.ref b48), .val (.long ((qq.toInt64) * ((4 : Int32).toInt64))), .second, .val (.int (0 : Int32)), .unset, .unset] [(.int (4 : Int32))])) _
      refine XS.iconst X63.here hx rfl (hb hby at_165) ?_
      exact kt
    obtain ⟨i1, h_i1, pre69⟩ : ∃ z : Int32, z = (if (1000 : Int64) < ((qq.toInt64) * ((4 : Int32).toInt64)) then (1 : Int32) else (0 : Int32)) ∧ ∀ t, Steps p.tables e below (T63.setTop (mkF m 181 #[.val (.int p1), .val (.int p2), .val (.long q3), .second, .val (.int (4 : Int32)), .val (.int qq), .val (.long lo), .second, .val (.ref b48), .val (.long ((qq.toInt64) * ((4 : Int32).toInt64))), .second, .val (.int z), .unset, .unset] [])) t → Steps p.tables e below (s₁.setTop (entryFrame m #[(.int p1), (.int p2), (.long q3)] maxLocals)) t := by
      by_cases hj175_68 : (1000 : Int64) < ((qq.toInt64) * ((4 : Int32).toInt64))
      · exact ⟨_, by rw [if_pos hj175_68], fun t kt => by
          refine pre67 t ?_
          show Steps p.tables e below (T63.setTop (mkF m 166 #[.val (.int p1), .val (.int p2), .val (.long q3), .second, .val (.int (4 : Int32)), .val (.int qq), .val (.long lo), .second, .val (.ref b48), .val (.long ((qq.toInt64) * ((4 : Int32).toInt64))), .second, .val (.int (0 : Int32)), .unset, .unset] [(.int (1 : Int32)), (.int (4 : Int32))])) _
          refine XS.icmpNo X63.here hx rfl (hb hby at_166) rfl (tlt (by decide : (1 : Int32) < (4 : Int32))).2.2.2 ?_
          show Steps p.tables e below (T63.setTop (mkF m 169 #[.val (.int p1), .val (.int p2), .val (.long q3), .second, .val (.int (4 : Int32)), .val (.int qq), .val (.long lo), .second, .val (.ref b48), .val (.long ((qq.toInt64) * ((4 : Int32).toInt64))), .second, .val (.int (0 : Int32)), .unset, .unset] [])) _
          refine X63.ldc2Long hx hown (mvT hZ (hw _ (List.mem_of_getElem? (i := 11) rfl))) (g := (mkF m 169 #[.val (.int p1), .val (.int p2), .val (.long q3), .second, .val (.int (4 : Int32)), .val (.int qq), .val (.long lo), .second, .val (.ref b48), .val (.long ((qq.toInt64) * ((4 : Int32).toInt64))), .second, .val (.int (0 : Int32)), .unset, .unset] [])) rfl (hb hby at_169) _ ?_
          show Steps p.tables e below (T63.setTop (mkF m 172 #[.val (.int p1), .val (.int p2), .val (.long q3), .second, .val (.int (4 : Int32)), .val (.int qq), .val (.long lo), .second, .val (.ref b48), .val (.long ((qq.toInt64) * ((4 : Int32).toInt64))), .second, .val (.int (0 : Int32)), .unset, .unset] [(.long (1000 : Int64))])) _
          refine XS.lload X63.here hx rfl (hb hby at_172) rfl ?_
          show Steps p.tables e below (T63.setTop (mkF m 174 #[.val (.int p1), .val (.int p2), .val (.long q3), .second, .val (.int (4 : Int32)), .val (.int qq), .val (.long lo), .second, .val (.ref b48), .val (.long ((qq.toInt64) * ((4 : Int32).toInt64))), .second, .val (.int (0 : Int32)), .unset, .unset] [(.long ((qq.toInt64) * ((4 : Int32).toInt64))), (.long (1000 : Int64))])) _
          refine XS.lcmp X63.here hx rfl (hb hby at_174) rfl ?_
          show Steps p.tables e below (T63.setTop (mkF m 175 #[.val (.int p1), .val (.int p2), .val (.long q3), .second, .val (.int (4 : Int32)), .val (.int qq), .val (.long lo), .second, .val (.ref b48), .val (.long ((qq.toInt64) * ((4 : Int32).toInt64))), .second, .val (.int (0 : Int32)), .unset, .unset] [(.int (lcmpW (1000 : Int64) ((qq.toInt64) * ((4 : Int32).toInt64))))])) _
          refine XS.ifNo X63.here hx rfl (hb hby at_175) rfl (own_lgeF hj175_68) ?_
          show Steps p.tables e below (T63.setTop (mkF m 178 #[.val (.int p1), .val (.int p2), .val (.long q3), .second, .val (.int (4 : Int32)), .val (.int qq), .val (.long lo), .second, .val (.ref b48), .val (.long ((qq.toInt64) * ((4 : Int32).toInt64))), .second, .val (.int (0 : Int32)), .unset, .unset] [])) _
          refine XS.iinc X63.here hx rfl (hb hby at_178) rfl (l' := #[.val (.int p1), .val (.int p2), .val (.long q3), .second, .val (.int (4 : Int32)), .val (.int qq), .val (.long lo), .second, .val (.ref b48), .val (.long ((qq.toInt64) * ((4 : Int32).toInt64))), .second, .val (.int (1 : Int32)), .unset, .unset]) rfl ?_
          exact kt⟩
      · exact ⟨_, by rw [if_neg hj175_68], fun t kt => by
          refine pre67 t ?_
          show Steps p.tables e below (T63.setTop (mkF m 166 #[.val (.int p1), .val (.int p2), .val (.long q3), .second, .val (.int (4 : Int32)), .val (.int qq), .val (.long lo), .second, .val (.ref b48), .val (.long ((qq.toInt64) * ((4 : Int32).toInt64))), .second, .val (.int (0 : Int32)), .unset, .unset] [(.int (1 : Int32)), (.int (4 : Int32))])) _
          refine XS.icmpNo X63.here hx rfl (hb hby at_166) rfl (tlt (by decide : (1 : Int32) < (4 : Int32))).2.2.2 ?_
          show Steps p.tables e below (T63.setTop (mkF m 169 #[.val (.int p1), .val (.int p2), .val (.long q3), .second, .val (.int (4 : Int32)), .val (.int qq), .val (.long lo), .second, .val (.ref b48), .val (.long ((qq.toInt64) * ((4 : Int32).toInt64))), .second, .val (.int (0 : Int32)), .unset, .unset] [])) _
          refine X63.ldc2Long hx hown (mvT hZ (hw _ (List.mem_of_getElem? (i := 11) rfl))) (g := (mkF m 169 #[.val (.int p1), .val (.int p2), .val (.long q3), .second, .val (.int (4 : Int32)), .val (.int qq), .val (.long lo), .second, .val (.ref b48), .val (.long ((qq.toInt64) * ((4 : Int32).toInt64))), .second, .val (.int (0 : Int32)), .unset, .unset] [])) rfl (hb hby at_169) _ ?_
          show Steps p.tables e below (T63.setTop (mkF m 172 #[.val (.int p1), .val (.int p2), .val (.long q3), .second, .val (.int (4 : Int32)), .val (.int qq), .val (.long lo), .second, .val (.ref b48), .val (.long ((qq.toInt64) * ((4 : Int32).toInt64))), .second, .val (.int (0 : Int32)), .unset, .unset] [(.long (1000 : Int64))])) _
          refine XS.lload X63.here hx rfl (hb hby at_172) rfl ?_
          show Steps p.tables e below (T63.setTop (mkF m 174 #[.val (.int p1), .val (.int p2), .val (.long q3), .second, .val (.int (4 : Int32)), .val (.int qq), .val (.long lo), .second, .val (.ref b48), .val (.long ((qq.toInt64) * ((4 : Int32).toInt64))), .second, .val (.int (0 : Int32)), .unset, .unset] [(.long ((qq.toInt64) * ((4 : Int32).toInt64))), (.long (1000 : Int64))])) _
          refine XS.lcmp X63.here hx rfl (hb hby at_174) rfl ?_
          show Steps p.tables e below (T63.setTop (mkF m 175 #[.val (.int p1), .val (.int p2), .val (.long q3), .second, .val (.int (4 : Int32)), .val (.int qq), .val (.long lo), .second, .val (.ref b48), .val (.long ((qq.toInt64) * ((4 : Int32).toInt64))), .second, .val (.int (0 : Int32)), .unset, .unset] [(.int (lcmpW (1000 : Int64) ((qq.toInt64) * ((4 : Int32).toInt64))))])) _
          refine XS.ifYes X63.here hx rfl (pc0 := 175) (pc' := 181) rfl (hb hby at_175) rfl (own_lgeT hj175_68) (by decide) (by decide) ?_
          exact kt⟩
    have pre70 : ∀ t, Steps p.tables e below (T63.setTop (mkF m 184 #[.val (.int p1), .val (.int p2), .val (.long q3), .second, .val (.int (4 : Int32)), .val (.int qq), .val (.long lo), .second, .val (.ref b48), .val (.long ((qq.toInt64) * ((4 : Int32).toInt64))), .second, .val (.int i1), .unset, .unset] [(.int (2 : Int32)), (.int (4 : Int32))])) t → Steps p.tables e below (s₁.setTop (entryFrame m #[(.int p1), (.int p2), (.long q3)] maxLocals)) t := fun t kt => by
      refine pre69 t ?_
      show Steps p.tables e below (T63.setTop (mkF m 181 #[.val (.int p1), .val (.int p2), .val (.long q3), .second, .val (.int (4 : Int32)), .val (.int qq), .val (.long lo), .second, .val (.ref b48), .val (.long ((qq.toInt64) * ((4 : Int32).toInt64))), .second, .val (.int i1), .unset, .unset] [])) _
      refine XS.iload X63.here hx rfl (hb hby at_181) rfl ?_
      show Steps p.tables e below (T63.setTop (mkF m 183 #[.val (.int p1), .val (.int p2), .val (.long q3), .second, .val (.int (4 : Int32)), .val (.int qq), .val (.long lo), .second, .val (.ref b48), .val (.long ((qq.toInt64) * ((4 : Int32).toInt64))), .second, .val (.int i1), .unset, .unset] [(.int (4 : Int32))])) _
      refine XS.iconst X63.here hx rfl (hb hby at_183) ?_
      exact kt
    obtain ⟨i2, h_i2, pre72⟩ : ∃ z : Int32, z = (if (2000 : Int64) < ((qq.toInt64) * ((4 : Int32).toInt64)) then (i1 + (1 : Int32)) else i1) ∧ ∀ t, Steps p.tables e below (T63.setTop (mkF m 199 #[.val (.int p1), .val (.int p2), .val (.long q3), .second, .val (.int (4 : Int32)), .val (.int qq), .val (.long lo), .second, .val (.ref b48), .val (.long ((qq.toInt64) * ((4 : Int32).toInt64))), .second, .val (.int z), .unset, .unset] [])) t → Steps p.tables e below (s₁.setTop (entryFrame m #[(.int p1), (.int p2), (.long q3)] maxLocals)) t := by
      by_cases hj193_71 : (2000 : Int64) < ((qq.toInt64) * ((4 : Int32).toInt64))
      · exact ⟨_, by rw [if_pos hj193_71], fun t kt => by
          refine pre70 t ?_
          show Steps p.tables e below (T63.setTop (mkF m 184 #[.val (.int p1), .val (.int p2), .val (.long q3), .second, .val (.int (4 : Int32)), .val (.int qq), .val (.long lo), .second, .val (.ref b48), .val (.long ((qq.toInt64) * ((4 : Int32).toInt64))), .second, .val (.int i1), .unset, .unset] [(.int (2 : Int32)), (.int (4 : Int32))])) _
          refine XS.icmpNo X63.here hx rfl (hb hby at_184) rfl (tlt (by decide : (2 : Int32) < (4 : Int32))).2.2.2 ?_
          show Steps p.tables e below (T63.setTop (mkF m 187 #[.val (.int p1), .val (.int p2), .val (.long q3), .second, .val (.int (4 : Int32)), .val (.int qq), .val (.long lo), .second, .val (.ref b48), .val (.long ((qq.toInt64) * ((4 : Int32).toInt64))), .second, .val (.int i1), .unset, .unset] [])) _
          refine X63.ldc2Long hx hown (mvT hZ (hw _ (List.mem_of_getElem? (i := 12) rfl))) (g := (mkF m 187 #[.val (.int p1), .val (.int p2), .val (.long q3), .second, .val (.int (4 : Int32)), .val (.int qq), .val (.long lo), .second, .val (.ref b48), .val (.long ((qq.toInt64) * ((4 : Int32).toInt64))), .second, .val (.int i1), .unset, .unset] [])) rfl (hb hby at_187) _ ?_
          show Steps p.tables e below (T63.setTop (mkF m 190 #[.val (.int p1), .val (.int p2), .val (.long q3), .second, .val (.int (4 : Int32)), .val (.int qq), .val (.long lo), .second, .val (.ref b48), .val (.long ((qq.toInt64) * ((4 : Int32).toInt64))), .second, .val (.int i1), .unset, .unset] [(.long (2000 : Int64))])) _
          refine XS.lload X63.here hx rfl (hb hby at_190) rfl ?_
          show Steps p.tables e below (T63.setTop (mkF m 192 #[.val (.int p1), .val (.int p2), .val (.long q3), .second, .val (.int (4 : Int32)), .val (.int qq), .val (.long lo), .second, .val (.ref b48), .val (.long ((qq.toInt64) * ((4 : Int32).toInt64))), .second, .val (.int i1), .unset, .unset] [(.long ((qq.toInt64) * ((4 : Int32).toInt64))), (.long (2000 : Int64))])) _
          refine XS.lcmp X63.here hx rfl (hb hby at_192) rfl ?_
          show Steps p.tables e below (T63.setTop (mkF m 193 #[.val (.int p1), .val (.int p2), .val (.long q3), .second, .val (.int (4 : Int32)), .val (.int qq), .val (.long lo), .second, .val (.ref b48), .val (.long ((qq.toInt64) * ((4 : Int32).toInt64))), .second, .val (.int i1), .unset, .unset] [(.int (lcmpW (2000 : Int64) ((qq.toInt64) * ((4 : Int32).toInt64))))])) _
          refine XS.ifNo X63.here hx rfl (hb hby at_193) rfl (own_lgeF hj193_71) ?_
          show Steps p.tables e below (T63.setTop (mkF m 196 #[.val (.int p1), .val (.int p2), .val (.long q3), .second, .val (.int (4 : Int32)), .val (.int qq), .val (.long lo), .second, .val (.ref b48), .val (.long ((qq.toInt64) * ((4 : Int32).toInt64))), .second, .val (.int i1), .unset, .unset] [])) _
          refine XS.iinc X63.here hx rfl (hb hby at_196) rfl (l' := #[.val (.int p1), .val (.int p2), .val (.long q3), .second, .val (.int (4 : Int32)), .val (.int qq), .val (.long lo), .second, .val (.ref b48), .val (.long ((qq.toInt64) * ((4 : Int32).toInt64))), .second, .val (.int (i1 + (1 : Int32))), .unset, .unset]) rfl ?_
          exact kt⟩
      · exact ⟨_, by rw [if_neg hj193_71], fun t kt => by
          refine pre70 t ?_
          show Steps p.tables e below (T63.setTop (mkF m 184 #[.val (.int p1), .val (.int p2), .val (.long q3), .second, .val (.int (4 : Int32)), .val (.int qq), .val (.long lo), .second, .val (.ref b48), .val (.long ((qq.toInt64) * ((4 : Int32).toInt64))), .second, .val (.int i1), .unset, .unset] [(.int (2 : Int32)), (.int (4 : Int32))])) _
          refine XS.icmpNo X63.here hx rfl (hb hby at_184) rfl (tlt (by decide : (2 : Int32) < (4 : Int32))).2.2.2 ?_
          show Steps p.tables e below (T63.setTop (mkF m 187 #[.val (.int p1), .val (.int p2), .val (.long q3), .second, .val (.int (4 : Int32)), .val (.int qq), .val (.long lo), .second, .val (.ref b48), .val (.long ((qq.toInt64) * ((4 : Int32).toInt64))), .second, .val (.int i1), .unset, .unset] [])) _
          refine X63.ldc2Long hx hown (mvT hZ (hw _ (List.mem_of_getElem? (i := 12) rfl))) (g := (mkF m 187 #[.val (.int p1), .val (.int p2), .val (.long q3), .second, .val (.int (4 : Int32)), .val (.int qq), .val (.long lo), .second, .val (.ref b48), .val (.long ((qq.toInt64) * ((4 : Int32).toInt64))), .second, .val (.int i1), .unset, .unset] [])) rfl (hb hby at_187) _ ?_
          show Steps p.tables e below (T63.setTop (mkF m 190 #[.val (.int p1), .val (.int p2), .val (.long q3), .second, .val (.int (4 : Int32)), .val (.int qq), .val (.long lo), .second, .val (.ref b48), .val (.long ((qq.toInt64) * ((4 : Int32).toInt64))), .second, .val (.int i1), .unset, .unset] [(.long (2000 : Int64))])) _
          refine XS.lload X63.here hx rfl (hb hby at_190) rfl ?_
          show Steps p.tables e below (T63.setTop (mkF m 192 #[.val (.int p1), .val (.int p2), .val (.long q3), .second, .val (.int (4 : Int32)), .val (.int qq), .val (.long lo), .second, .val (.ref b48), .val (.long ((qq.toInt64) * ((4 : Int32).toInt64))), .second, .val (.int i1), .unset, .unset] [(.long ((qq.toInt64) * ((4 : Int32).toInt64))), (.long (2000 : Int64))])) _
          refine XS.lcmp X63.here hx rfl (hb hby at_192) rfl ?_
          show Steps p.tables e below (T63.setTop (mkF m 193 #[.val (.int p1), .val (.int p2), .val (.long q3), .second, .val (.int (4 : Int32)), .val (.int qq), .val (.long lo), .second, .val (.ref b48), .val (.long ((qq.toInt64) * ((4 : Int32).toInt64))), .second, .val (.int i1), .unset, .unset] [(.int (lcmpW (2000 : Int64) ((qq.toInt64) * ((4 : Int32).toInt64))))])) _
          refine XS.ifYes X63.here hx rfl (pc0 := 193) (pc' := 199) rfl (hb hby at_193) rfl (own_lgeT hj193_71) (by decide) (by decide) ?_
          exact kt⟩
    have pre73 : ∀ t, Steps p.tables e below (T63.setTop (mkF m 202 #[.val (.int p1), .val (.int p2), .val (.long q3), .second, .val (.int (4 : Int32)), .val (.int qq), .val (.long lo), .second, .val (.ref b48), .val (.long ((qq.toInt64) * ((4 : Int32).toInt64))), .second, .val (.int i2), .unset, .unset] [(.int (3 : Int32)), (.int (4 : Int32))])) t → Steps p.tables e below (s₁.setTop (entryFrame m #[(.int p1), (.int p2), (.long q3)] maxLocals)) t := fun t kt => by
      refine pre72 t ?_
      show Steps p.tables e below (T63.setTop (mkF m 199 #[.val (.int p1), .val (.int p2), .val (.long q3), .second, .val (.int (4 : Int32)), .val (.int qq), .val (.long lo), .second, .val (.ref b48), .val (.long ((qq.toInt64) * ((4 : Int32).toInt64))), .second, .val (.int i2), .unset, .unset] [])) _
      refine XS.iload X63.here hx rfl (hb hby at_199) rfl ?_
      show Steps p.tables e below (T63.setTop (mkF m 201 #[.val (.int p1), .val (.int p2), .val (.long q3), .second, .val (.int (4 : Int32)), .val (.int qq), .val (.long lo), .second, .val (.ref b48), .val (.long ((qq.toInt64) * ((4 : Int32).toInt64))), .second, .val (.int i2), .unset, .unset] [(.int (4 : Int32))])) _
      refine XS.iconst X63.here hx rfl (hb hby at_201) ?_
      exact kt
    obtain ⟨i3, h_i3, pre75⟩ : ∃ z : Int32, z = (if (3000 : Int64) < ((qq.toInt64) * ((4 : Int32).toInt64)) then (i2 + (1 : Int32)) else i2) ∧ ∀ t, Steps p.tables e below (T63.setTop (mkF m 217 #[.val (.int p1), .val (.int p2), .val (.long q3), .second, .val (.int (4 : Int32)), .val (.int qq), .val (.long lo), .second, .val (.ref b48), .val (.long ((qq.toInt64) * ((4 : Int32).toInt64))), .second, .val (.int z), .unset, .unset] [])) t → Steps p.tables e below (s₁.setTop (entryFrame m #[(.int p1), (.int p2), (.long q3)] maxLocals)) t := by
      by_cases hj211_74 : (3000 : Int64) < ((qq.toInt64) * ((4 : Int32).toInt64))
      · exact ⟨_, by rw [if_pos hj211_74], fun t kt => by
          refine pre73 t ?_
          show Steps p.tables e below (T63.setTop (mkF m 202 #[.val (.int p1), .val (.int p2), .val (.long q3), .second, .val (.int (4 : Int32)), .val (.int qq), .val (.long lo), .second, .val (.ref b48), .val (.long ((qq.toInt64) * ((4 : Int32).toInt64))), .second, .val (.int i2), .unset, .unset] [(.int (3 : Int32)), (.int (4 : Int32))])) _
          refine XS.icmpNo X63.here hx rfl (hb hby at_202) rfl (tlt (by decide : (3 : Int32) < (4 : Int32))).2.2.2 ?_
          show Steps p.tables e below (T63.setTop (mkF m 205 #[.val (.int p1), .val (.int p2), .val (.long q3), .second, .val (.int (4 : Int32)), .val (.int qq), .val (.long lo), .second, .val (.ref b48), .val (.long ((qq.toInt64) * ((4 : Int32).toInt64))), .second, .val (.int i2), .unset, .unset] [])) _
          refine X63.ldc2Long hx hown (mvT hZ (hw _ (List.mem_of_getElem? (i := 13) rfl))) (g := (mkF m 205 #[.val (.int p1), .val (.int p2), .val (.long q3), .second, .val (.int (4 : Int32)), .val (.int qq), .val (.long lo), .second, .val (.ref b48), .val (.long ((qq.toInt64) * ((4 : Int32).toInt64))), .second, .val (.int i2), .unset, .unset] [])) rfl (hb hby at_205) _ ?_
          show Steps p.tables e below (T63.setTop (mkF m 208 #[.val (.int p1), .val (.int p2), .val (.long q3), .second, .val (.int (4 : Int32)), .val (.int qq), .val (.long lo), .second, .val (.ref b48), .val (.long ((qq.toInt64) * ((4 : Int32).toInt64))), .second, .val (.int i2), .unset, .unset] [(.long (3000 : Int64))])) _
          refine XS.lload X63.here hx rfl (hb hby at_208) rfl ?_
          show Steps p.tables e below (T63.setTop (mkF m 210 #[.val (.int p1), .val (.int p2), .val (.long q3), .second, .val (.int (4 : Int32)), .val (.int qq), .val (.long lo), .second, .val (.ref b48), .val (.long ((qq.toInt64) * ((4 : Int32).toInt64))), .second, .val (.int i2), .unset, .unset] [(.long ((qq.toInt64) * ((4 : Int32).toInt64))), (.long (3000 : Int64))])) _
          refine XS.lcmp X63.here hx rfl (hb hby at_210) rfl ?_
          show Steps p.tables e below (T63.setTop (mkF m 211 #[.val (.int p1), .val (.int p2), .val (.long q3), .second, .val (.int (4 : Int32)), .val (.int qq), .val (.long lo), .second, .val (.ref b48), .val (.long ((qq.toInt64) * ((4 : Int32).toInt64))), .second, .val (.int i2), .unset, .unset] [(.int (lcmpW (3000 : Int64) ((qq.toInt64) * ((4 : Int32).toInt64))))])) _
          refine XS.ifNo X63.here hx rfl (hb hby at_211) rfl (own_lgeF hj211_74) ?_
          show Steps p.tables e below (T63.setTop (mkF m 214 #[.val (.int p1), .val (.int p2), .val (.long q3), .second, .val (.int (4 : Int32)), .val (.int qq), .val (.long lo), .second, .val (.ref b48), .val (.long ((qq.toInt64) * ((4 : Int32).toInt64))), .second, .val (.int i2), .unset, .unset] [])) _
          refine XS.iinc X63.here hx rfl (hb hby at_214) rfl (l' := #[.val (.int p1), .val (.int p2), .val (.long q3), .second, .val (.int (4 : Int32)), .val (.int qq), .val (.long lo), .second, .val (.ref b48), .val (.long ((qq.toInt64) * ((4 : Int32).toInt64))), .second, .val (.int (i2 + (1 : Int32))), .unset, .unset]) rfl ?_
          exact kt⟩
      · exact ⟨_, by rw [if_neg hj211_74], fun t kt => by
          refine pre73 t ?_
          show Steps p.tables e below (T63.setTop (mkF m 202 #[.val (.int p1), .val (.int p2), .val (.long q3), .second, .val (.int (4 : Int32)), .val (.int qq), .val (.long lo), .second, .val (.ref b48), .val (.long ((qq.toInt64) * ((4 : Int32).toInt64))), .second, .val (.int i2), .unset, .unset] [(.int (3 : Int32)), (.int (4 : Int32))])) _
          refine XS.icmpNo X63.here hx rfl (hb hby at_202) rfl (tlt (by decide : (3 : Int32) < (4 : Int32))).2.2.2 ?_
          show Steps p.tables e below (T63.setTop (mkF m 205 #[.val (.int p1), .val (.int p2), .val (.long q3), .second, .val (.int (4 : Int32)), .val (.int qq), .val (.long lo), .second, .val (.ref b48), .val (.long ((qq.toInt64) * ((4 : Int32).toInt64))), .second, .val (.int i2), .unset, .unset] [])) _
          refine X63.ldc2Long hx hown (mvT hZ (hw _ (List.mem_of_getElem? (i := 13) rfl))) (g := (mkF m 205 #[.val (.int p1), .val (.int p2), .val (.long q3), .second, .val (.int (4 : Int32)), .val (.int qq), .val (.long lo), .second, .val (.ref b48), .val (.long ((qq.toInt64) * ((4 : Int32).toInt64))), .second, .val (.int i2), .unset, .unset] [])) rfl (hb hby at_205) _ ?_
          show Steps p.tables e below (T63.setTop (mkF m 208 #[.val (.int p1), .val (.int p2), .val (.long q3), .second, .val (.int (4 : Int32)), .val (.int qq), .val (.long lo), .second, .val (.ref b48), .val (.long ((qq.toInt64) * ((4 : Int32).toInt64))), .second, .val (.int i2), .unset, .unset] [(.long (3000 : Int64))])) _
          refine XS.lload X63.here hx rfl (hb hby at_208) rfl ?_
          show Steps p.tables e below (T63.setTop (mkF m 210 #[.val (.int p1), .val (.int p2), .val (.long q3), .second, .val (.int (4 : Int32)), .val (.int qq), .val (.long lo), .second, .val (.ref b48), .val (.long ((qq.toInt64) * ((4 : Int32).toInt64))), .second, .val (.int i2), .unset, .unset] [(.long ((qq.toInt64) * ((4 : Int32).toInt64))), (.long (3000 : Int64))])) _
          refine XS.lcmp X63.here hx rfl (hb hby at_210) rfl ?_
          show Steps p.tables e below (T63.setTop (mkF m 211 #[.val (.int p1), .val (.int p2), .val (.long q3), .second, .val (.int (4 : Int32)), .val (.int qq), .val (.long lo), .second, .val (.ref b48), .val (.long ((qq.toInt64) * ((4 : Int32).toInt64))), .second, .val (.int i2), .unset, .unset] [(.int (lcmpW (3000 : Int64) ((qq.toInt64) * ((4 : Int32).toInt64))))])) _
          refine XS.ifYes X63.here hx rfl (pc0 := 211) (pc' := 217) rfl (hb hby at_211) rfl (own_lgeT hj211_74) (by decide) (by decide) ?_
          exact kt⟩
    have hcn := own_c4 hq h_i1 h_i2 h_i3
    obtain ⟨_, _, ⟨T76, L76, k76, n76⟩, -, X76, ⟨Lc76, hQ76, l76, y76, z76⟩, st76⟩ := Jvm.LawKit.callS X63 hx (y := (⟨"com/example/sandglass/sandglass/Percentiles", "nearestRank", "([JI)J"⟩ : MethodName)) hown (mvT hZ (hw _ (List.mem_of_getElem? (i := 2) rfl))) (mvT hZ (hw _ (List.mem_of_getElem? (i := 3) rfl))) (mvT hZ (hw _ (List.mem_of_getElem? (i := 4) rfl))) (mvT hZ (hw _ (List.mem_of_getElem? (i := 5) rfl))) (by decide) (backOf (W := 0) (rm1 l Z a0 hw [] b48 qq k48 (4 : Int32) [(.long lo), (.long (lo + (1 : Int64))), (.long (lo + (2 : Int64))), (.long (lo + (3 : Int64)))] (lo + (i3).toInt64) h63 n0 (Nat.le_trans Z0 K64.1) Vw63 (own_i4 hcn.1 hcn.2.1 hcn.2.2) (own_g4 hcn.1 hcn.2.1 hcn.2.2)) hZ (hw _ (List.mem_of_getElem? (i := 5) rfl)) (hw _ (List.mem_of_getElem? (i := 4) rfl)) (by decide) (by decide)) (g := (mkF m 295 #[.val (.int p1), .val (.int p2), .val (.long q3), .second, .val (.int (4 : Int32)), .val (.int qq), .val (.long lo), .second, .val (.ref b48), .val (.long ((qq.toInt64) * ((4 : Int32).toInt64))), .second, .val (.int i3), .unset, .unset] [(.int qq), (.ref b48)])) rfl (by rw [hml]; rfl) (argsL := [(.ref b48), (.int qq)]) (rest := []) (lenOf pd__28_5bJI_29J rfl) rfl (by show 2 * 0 + _ ≤ _; exact Nat.le_of_eq rfl) (hb hby at_295) (fun _ _ => ⟨rfl, e63, (by decide : 1 + 0 ≤ _), (by decide : 4 + 0 ≤ _)⟩)
    dsimp only [Pt.U, Pt.locs, Pt.cells, Pt.slots] at X76 l76 y76 z76 st76 hQ76
    subst l76 y76 z76
    obtain ⟨rfl, N76q, e76⟩ := hQ76
    have N76 := Fr.app N65 N76q
    obtain ⟨fs, hr, hrun, hended, hW, hsame⟩ := X76.leave (v := some (.int (1 : Int32))) (fun h => by rw [Bd.returns] at h; cases h)
    refine ⟨_, _, pre75 _ ?_, hrun, hended, _, _, rfl, ?_, ⟨_, rfl⟩, hW, hsame.mono (by decide) (by decide)⟩
    · show Steps p.tables e below (T63.setTop (mkF m 217 #[.val (.int p1), .val (.int p2), .val (.long q3), .second, .val (.int (4 : Int32)), .val (.int qq), .val (.long lo), .second, .val (.ref b48), .val (.long ((qq.toInt64) * ((4 : Int32).toInt64))), .second, .val (.int i3), .unset, .unset] [])) _
      refine XS.iload X63.here hx rfl (hb hby at_217) rfl ?_
      show Steps p.tables e below (T63.setTop (mkF m 219 #[.val (.int p1), .val (.int p2), .val (.long q3), .second, .val (.int (4 : Int32)), .val (.int qq), .val (.long lo), .second, .val (.ref b48), .val (.long ((qq.toInt64) * ((4 : Int32).toInt64))), .second, .val (.int i3), .unset, .unset] [(.int (4 : Int32))])) _
      refine XS.iconst X63.here hx rfl (hb hby at_219) ?_
      show Steps p.tables e below (T63.setTop (mkF m 220 #[.val (.int p1), .val (.int p2), .val (.long q3), .second, .val (.int (4 : Int32)), .val (.int qq), .val (.long lo), .second, .val (.ref b48), .val (.long ((qq.toInt64) * ((4 : Int32).toInt64))), .second, .val (.int i3), .unset, .unset] [(.int (4 : Int32)), (.int (4 : Int32))])) _
      refine XS.icmpYes X63.here hx rfl (pc0 := 220) (pc' := 235) rfl (hb hby at_220) rfl (flt (by decide : ¬ ((4 : Int32) < (4 : Int32)))).2.2.2 (by decide) (by decide) ?_
      show Steps p.tables e below (T63.setTop (mkF m 235 #[.val (.int p1), .val (.int p2), .val (.long q3), .second, .val (.int (4 : Int32)), .val (.int qq), .val (.long lo), .second, .val (.ref b48), .val (.long ((qq.toInt64) * ((4 : Int32).toInt64))), .second, .val (.int i3), .unset, .unset] [])) _
      refine XS.iload X63.here hx rfl (hb hby at_235) rfl ?_
      show Steps p.tables e below (T63.setTop (mkF m 237 #[.val (.int p1), .val (.int p2), .val (.long q3), .second, .val (.int (4 : Int32)), .val (.int qq), .val (.long lo), .second, .val (.ref b48), .val (.long ((qq.toInt64) * ((4 : Int32).toInt64))), .second, .val (.int i3), .unset, .unset] [(.int (4 : Int32))])) _
      refine XS.iconst X63.here hx rfl (hb hby at_237) ?_
      show Steps p.tables e below (T63.setTop (mkF m 238 #[.val (.int p1), .val (.int p2), .val (.long q3), .second, .val (.int (4 : Int32)), .val (.int qq), .val (.long lo), .second, .val (.ref b48), .val (.long ((qq.toInt64) * ((4 : Int32).toInt64))), .second, .val (.int i3), .unset, .unset] [(.int (5 : Int32)), (.int (4 : Int32))])) _
      refine XS.icmpYes X63.here hx rfl (pc0 := 238) (pc' := 253) rfl (hb hby at_238) rfl (flt (by decide : ¬ ((5 : Int32) < (4 : Int32)))).2.2.2 (by decide) (by decide) ?_
      show Steps p.tables e below (T63.setTop (mkF m 253 #[.val (.int p1), .val (.int p2), .val (.long q3), .second, .val (.int (4 : Int32)), .val (.int qq), .val (.long lo), .second, .val (.ref b48), .val (.long ((qq.toInt64) * ((4 : Int32).toInt64))), .second, .val (.int i3), .unset, .unset] [])) _
      refine XS.iload X63.here hx rfl (hb hby at_253) rfl ?_
      show Steps p.tables e below (T63.setTop (mkF m 255 #[.val (.int p1), .val (.int p2), .val (.long q3), .second, .val (.int (4 : Int32)), .val (.int qq), .val (.long lo), .second, .val (.ref b48), .val (.long ((qq.toInt64) * ((4 : Int32).toInt64))), .second, .val (.int i3), .unset, .unset] [(.int (4 : Int32))])) _
      refine XS.bipush X63.here hx rfl (hb hby at_255) ?_
      show Steps p.tables e below (T63.setTop (mkF m 257 #[.val (.int p1), .val (.int p2), .val (.long q3), .second, .val (.int (4 : Int32)), .val (.int qq), .val (.long lo), .second, .val (.ref b48), .val (.long ((qq.toInt64) * ((4 : Int32).toInt64))), .second, .val (.int i3), .unset, .unset] [(.int (6 : Int32)), (.int (4 : Int32))])) _
      refine XS.icmpYes X63.here hx rfl (pc0 := 257) (pc' := 272) rfl (hb hby at_257) rfl (flt (by decide : ¬ ((6 : Int32) < (4 : Int32)))).2.2.2 (by decide) (by decide) ?_
      show Steps p.tables e below (T63.setTop (mkF m 272 #[.val (.int p1), .val (.int p2), .val (.long q3), .second, .val (.int (4 : Int32)), .val (.int qq), .val (.long lo), .second, .val (.ref b48), .val (.long ((qq.toInt64) * ((4 : Int32).toInt64))), .second, .val (.int i3), .unset, .unset] [])) _
      refine XS.iload X63.here hx rfl (hb hby at_272) rfl ?_
      show Steps p.tables e below (T63.setTop (mkF m 274 #[.val (.int p1), .val (.int p2), .val (.long q3), .second, .val (.int (4 : Int32)), .val (.int qq), .val (.long lo), .second, .val (.ref b48), .val (.long ((qq.toInt64) * ((4 : Int32).toInt64))), .second, .val (.int i3), .unset, .unset] [(.int (4 : Int32))])) _
      refine XS.bipush X63.here hx rfl (hb hby at_274) ?_
      show Steps p.tables e below (T63.setTop (mkF m 276 #[.val (.int p1), .val (.int p2), .val (.long q3), .second, .val (.int (4 : Int32)), .val (.int qq), .val (.long lo), .second, .val (.ref b48), .val (.long ((qq.toInt64) * ((4 : Int32).toInt64))), .second, .val (.int i3), .unset, .unset] [(.int (7 : Int32)), (.int (4 : Int32))])) _
      refine XS.icmpYes X63.here hx rfl (pc0 := 276) (pc' := 291) rfl (hb hby at_276) rfl (flt (by decide : ¬ ((7 : Int32) < (4 : Int32)))).2.2.2 (by decide) (by decide) ?_
      show Steps p.tables e below (T63.setTop (mkF m 291 #[.val (.int p1), .val (.int p2), .val (.long q3), .second, .val (.int (4 : Int32)), .val (.int qq), .val (.long lo), .second, .val (.ref b48), .val (.long ((qq.toInt64) * ((4 : Int32).toInt64))), .second, .val (.int i3), .unset, .unset] [])) _
      refine XS.aload X63.here hx rfl (hb hby at_291) rfl rfl ?_
      show Steps p.tables e below (T63.setTop (mkF m 293 #[.val (.int p1), .val (.int p2), .val (.long q3), .second, .val (.int (4 : Int32)), .val (.int qq), .val (.long lo), .second, .val (.ref b48), .val (.long ((qq.toInt64) * ((4 : Int32).toInt64))), .second, .val (.int i3), .unset, .unset] [(.ref b48)])) _
      refine XS.iload X63.here hx rfl (hb hby at_293) rfl ?_
      show Steps p.tables e below (T63.setTop (mkF m 295 #[.val (.int p1), .val (.int p2), .val (.long q3), .second, .val (.int (4 : Int32)), .val (.int qq), .val (.long lo), .second, .val (.ref b48), .val (.long ((qq.toInt64) * ((4 : Int32).toInt64))), .second, .val (.int i3), .unset, .unset] [(.int qq), (.ref b48)])) _
      refine st76 _ ?_
      show Steps p.tables e below (T76.setTop (mkF m 298 #[.val (.int p1), .val (.int p2), .val (.long q3), .second, .val (.int (4 : Int32)), .val (.int qq), .val (.long lo), .second, .val (.ref b48), .val (.long ((qq.toInt64) * ((4 : Int32).toInt64))), .second, .val (.int i3), .unset, .unset] [(.long (lo + (i3).toInt64))])) _
      refine XS.lstore X76.here hx rfl (hb hby at_298) rfl (l' := #[.val (.int p1), .val (.int p2), .val (.long q3), .second, .val (.int (4 : Int32)), .val (.int qq), .val (.long lo), .second, .val (.ref b48), .val (.long ((qq.toInt64) * ((4 : Int32).toInt64))), .second, .val (.int i3), .val (.long (lo + (i3).toInt64)), .second]) rfl ?_
      show Steps p.tables e below (T76.setTop (mkF m 300 #[.val (.int p1), .val (.int p2), .val (.long q3), .second, .val (.int (4 : Int32)), .val (.int qq), .val (.long lo), .second, .val (.ref b48), .val (.long ((qq.toInt64) * ((4 : Int32).toInt64))), .second, .val (.int i3), .val (.long (lo + (i3).toInt64)), .second] [])) _
      refine XS.lload X76.here hx rfl (hb hby at_300) rfl ?_
      show Steps p.tables e below (T76.setTop (mkF m 302 #[.val (.int p1), .val (.int p2), .val (.long q3), .second, .val (.int (4 : Int32)), .val (.int qq), .val (.long lo), .second, .val (.ref b48), .val (.long ((qq.toInt64) * ((4 : Int32).toInt64))), .second, .val (.int i3), .val (.long (lo + (i3).toInt64)), .second] [(.long (lo + (i3).toInt64))])) _
      refine XS.lload X76.here hx rfl (hb hby at_302) rfl ?_
      show Steps p.tables e below (T76.setTop (mkF m 304 #[.val (.int p1), .val (.int p2), .val (.long q3), .second, .val (.int (4 : Int32)), .val (.int qq), .val (.long lo), .second, .val (.ref b48), .val (.long ((qq.toInt64) * ((4 : Int32).toInt64))), .second, .val (.int i3), .val (.long (lo + (i3).toInt64)), .second] [(.long lo), (.long (lo + (i3).toInt64))])) _
      refine XS.iload X76.here hx rfl (hb hby at_304) rfl ?_
      show Steps p.tables e below (T76.setTop (mkF m 306 #[.val (.int p1), .val (.int p2), .val (.long q3), .second, .val (.int (4 : Int32)), .val (.int qq), .val (.long lo), .second, .val (.ref b48), .val (.long ((qq.toInt64) * ((4 : Int32).toInt64))), .second, .val (.int i3), .val (.long (lo + (i3).toInt64)), .second] [(.int i3), (.long lo), (.long (lo + (i3).toInt64))])) _
      refine XS.i2l X76.here hx rfl (hb hby at_306) rfl ?_
      show Steps p.tables e below (T76.setTop (mkF m 307 #[.val (.int p1), .val (.int p2), .val (.long q3), .second, .val (.int (4 : Int32)), .val (.int qq), .val (.long lo), .second, .val (.ref b48), .val (.long ((qq.toInt64) * ((4 : Int32).toInt64))), .second, .val (.int i3), .val (.long (lo + (i3).toInt64)), .second] [(.long (i3.toInt64)), (.long lo), (.long (lo + (i3).toInt64))])) _
      refine XS.ladd X76.here hx rfl (hb hby at_307) rfl ?_
      show Steps p.tables e below (T76.setTop (mkF m 308 #[.val (.int p1), .val (.int p2), .val (.long q3), .second, .val (.int (4 : Int32)), .val (.int qq), .val (.long lo), .second, .val (.ref b48), .val (.long ((qq.toInt64) * ((4 : Int32).toInt64))), .second, .val (.int i3), .val (.long (lo + (i3).toInt64)), .second] [(.long (lo + (i3.toInt64))), (.long (lo + (i3).toInt64))])) _
      refine XS.lcmp X76.here hx rfl (hb hby at_308) rfl ?_
      show Steps p.tables e below (T76.setTop (mkF m 309 #[.val (.int p1), .val (.int p2), .val (.long q3), .second, .val (.int (4 : Int32)), .val (.int qq), .val (.long lo), .second, .val (.ref b48), .val (.long ((qq.toInt64) * ((4 : Int32).toInt64))), .second, .val (.int i3), .val (.long (lo + (i3).toInt64)), .second] [(.int (lcmpW (lo + (i3).toInt64) (lo + (i3.toInt64))))])) _
      refine XS.ifNo X76.here hx rfl (hb hby at_309) rfl (own_lneF rfl) ?_
      show Steps p.tables e below (T76.setTop (mkF m 312 #[.val (.int p1), .val (.int p2), .val (.long q3), .second, .val (.int (4 : Int32)), .val (.int qq), .val (.long lo), .second, .val (.ref b48), .val (.long ((qq.toInt64) * ((4 : Int32).toInt64))), .second, .val (.int i3), .val (.long (lo + (i3).toInt64)), .second] [])) _
      refine XS.iconst X76.here hx rfl (hb hby at_312) ?_
      show Steps p.tables e below (T76.setTop (mkF m 313 #[.val (.int p1), .val (.int p2), .val (.long q3), .second, .val (.int (4 : Int32)), .val (.int qq), .val (.long lo), .second, .val (.ref b48), .val (.long ((qq.toInt64) * ((4 : Int32).toInt64))), .second, .val (.int i3), .val (.long (lo + (i3).toInt64)), .second] [(.int (1 : Int32))])) _
      refine XS.goto X76.here hx rfl (pc0 := 313) (pc' := 317) rfl (hb hby at_313) (by decide) (by decide) ?_
      show Steps p.tables e below (T76.setTop (mkF m 317 #[.val (.int p1), .val (.int p2), .val (.long q3), .second, .val (.int (4 : Int32)), .val (.int qq), .val (.long lo), .second, .val (.ref b48), .val (.long ((qq.toInt64) * ((4 : Int32).toInt64))), .second, .val (.int i3), .val (.long (lo + (i3).toInt64)), .second] [(.int (1 : Int32))])) _
      exact retN X76 hx (t := .boolean) Bd.returns (by simp) (hb hby at_317) hr
    · show Q_rm0 Z p1 p2 q3 h0 n0 _ T76.heap _
      rw [e76]
      exact ⟨rfl, N76⟩
  · rw [hn] at pre3
    obtain ⟨T77, h77, k77, X77, e77, E77, A77, st77⟩ := newP X0 hx hZ (hw _ (List.mem_of_getElem? (i := 1) rfl)) e0 (g := (mkF m 27 #[.val (.int p1), .val (.int p2), .val (.long q3), .second, .val (.int (5 : Int32)), .val (.int qq), .val (.long lo), .second, .unset, .unset, .unset, .unset, .unset, .unset] [(.int (5 : Int32))])) rfl (hb hby at_27) rfl (by decide) (cap := 5) (by decide) (by decide) (by decide) (by decide)
    obtain ⟨b77, g77⟩ : ∃ z, z = h0.size := ⟨_, rfl⟩
    rw [← g77] at A77 st77
    have g_b77 : n0 ≤ b77 := Nat.le_trans Z0 (Nat.le_of_eq g77.symm)
    have sz_b77 : h0.size ≤ b77 := Nat.le_trans (Keep.refl h0 []).1 (Nat.le_of_eq g77.symm)
    have K78 : Keep h0 h77 [] := (Keep.refl h0 []).ext E77
    have V_b77 : Arv Z h77 b77 k77 .long (5 : Int32) [(.long (0 : Int64)), (.long (0 : Int64)), (.long (0 : Int64)), (.long (0 : Int64)), (.long (0 : Int64))] (.long (0 : Int64)) := (Arv.new A77 (by decide)).pad (pad_rep [] (.long (0 : Int64)) 5)
    obtain ⟨c79, Ac79, qc79, Sc79, Nc79, Hc79, Gc79⟩ := id V_b77
    obtain ⟨T80, h80, X80, e80, W80, st80⟩ := stJ X77 hx hZ e77 Ac79 (j := (0 : Int32)) (inb_of Sc79 ⟨by decide, by decide⟩) (g := (mkF m 36 #[.val (.int p1), .val (.int p2), .val (.long q3), .second, .val (.int (5 : Int32)), .val (.int qq), .val (.long lo), .second, .val (.ref b77), .unset, .unset, .unset, .unset, .unset] [(.long lo), (.int (0 : Int32)), (.ref b77)])) rfl rfl (hb hby at_36)
    have K81 : Keep h0 h80 [] := K78.wr W80 (Or.inr sz_b77)
    have N82 := Fr.snoc X80 N0 g_b77
    have Vw80 := Arv.set Ac79 qc79 Sc79 Nc79 Hc79 Gc79 rfl W80 0 rfl (Nat.le_of_ble_eq_true rfl)
    change Arv Z h80 b77 k77 .long (5 : Int32) [(.long lo), (.long (0 : Int64)), (.long (0 : Int64)), (.long (0 : Int64)), (.long (0 : Int64))] (.long (0 : Int64)) at Vw80
    obtain ⟨c83, Ac83, qc83, Sc83, Nc83, Hc83, Gc83⟩ := id Vw80
    obtain ⟨T84, h84, X84, e84, W84, st84⟩ := stJ X80 hx hZ e80 Ac83 (j := (1 : Int32)) (inb_of Sc83 ⟨by decide, by decide⟩) (g := (mkF m 50 #[.val (.int p1), .val (.int p2), .val (.long q3), .second, .val (.int (5 : Int32)), .val (.int qq), .val (.long lo), .second, .val (.ref b77), .unset, .unset, .unset, .unset, .unset] [(.long (lo + (1 : Int64))), (.int (1 : Int32)), (.ref b77)])) rfl rfl (hb hby at_50)
    have K85 : Keep h0 h84 [] := K81.wr W84 (Or.inr sz_b77)
    have N86 := Fr.snoc X84 N82 g_b77
    have Vw84 := Arv.set Ac83 qc83 Sc83 Nc83 Hc83 Gc83 rfl W84 1 rfl (Nat.le_of_ble_eq_true rfl)
    change Arv Z h84 b77 k77 .long (5 : Int32) [(.long lo), (.long (lo + (1 : Int64))), (.long (0 : Int64)), (.long (0 : Int64)), (.long (0 : Int64))] (.long (0 : Int64)) at Vw84
    obtain ⟨c87, Ac87, qc87, Sc87, Nc87, Hc87, Gc87⟩ := id Vw84
    obtain ⟨T88, h88, X88, e88, W88, st88⟩ := stJ X84 hx hZ e84 Ac87 (j := (2 : Int32)) (inb_of Sc87 ⟨by decide, by decide⟩) (g := (mkF m 66 #[.val (.int p1), .val (.int p2), .val (.long q3), .second, .val (.int (5 : Int32)), .val (.int qq), .val (.long lo), .second, .val (.ref b77), .unset, .unset, .unset, .unset, .unset] [(.long (lo + (2 : Int64))), (.int (2 : Int32)), (.ref b77)])) rfl rfl (hb hby at_66)
    have K89 : Keep h0 h88 [] := K85.wr W88 (Or.inr sz_b77)
    have N90 := Fr.snoc X88 N86 g_b77
    have Vw88 := Arv.set Ac87 qc87 Sc87 Nc87 Hc87 Gc87 rfl W88 2 rfl (Nat.le_of_ble_eq_true rfl)
    change Arv Z h88 b77 k77 .long (5 : Int32) [(.long lo), (.long (lo + (1 : Int64))), (.long (lo + (2 : Int64))), (.long (0 : Int64)), (.long (0 : Int64))] (.long (0 : Int64)) at Vw88
    obtain ⟨c91, Ac91, qc91, Sc91, Nc91, Hc91, Gc91⟩ := id Vw88
    obtain ⟨T92, h92, X92, e92, W92, st92⟩ := stJ X88 hx hZ e88 Ac91 (j := (3 : Int32)) (inb_of Sc91 ⟨by decide, by decide⟩) (g := (mkF m 82 #[.val (.int p1), .val (.int p2), .val (.long q3), .second, .val (.int (5 : Int32)), .val (.int qq), .val (.long lo), .second, .val (.ref b77), .unset, .unset, .unset, .unset, .unset] [(.long (lo + (3 : Int64))), (.int (3 : Int32)), (.ref b77)])) rfl rfl (hb hby at_82)
    have K93 : Keep h0 h92 [] := K89.wr W92 (Or.inr sz_b77)
    have N94 := Fr.snoc X92 N90 g_b77
    have Vw92 := Arv.set Ac91 qc91 Sc91 Nc91 Hc91 Gc91 rfl W92 3 rfl (Nat.le_of_ble_eq_true rfl)
    change Arv Z h92 b77 k77 .long (5 : Int32) [(.long lo), (.long (lo + (1 : Int64))), (.long (lo + (2 : Int64))), (.long (lo + (3 : Int64))), (.long (0 : Int64))] (.long (0 : Int64)) at Vw92
    obtain ⟨c95, Ac95, qc95, Sc95, Nc95, Hc95, Gc95⟩ := id Vw92
    obtain ⟨T96, h96, X96, e96, W96, st96⟩ := stJ X92 hx hZ e92 Ac95 (j := (4 : Int32)) (inb_of Sc95 ⟨by decide, by decide⟩) (g := (mkF m 98 #[.val (.int p1), .val (.int p2), .val (.long q3), .second, .val (.int (5 : Int32)), .val (.int qq), .val (.long lo), .second, .val (.ref b77), .unset, .unset, .unset, .unset, .unset] [(.long (lo + (4 : Int64))), (.int (4 : Int32)), (.ref b77)])) rfl rfl (hb hby at_98)
    have K97 : Keep h0 h96 [] := K93.wr W96 (Or.inr sz_b77)
    have N98 := Fr.snoc X96 N94 g_b77
    have Vw96 := Arv.set Ac95 qc95 Sc95 Nc95 Hc95 Gc95 rfl W96 4 rfl (Nat.le_of_ble_eq_true rfl)
    change Arv Z h96 b77 k77 .long (5 : Int32) [(.long lo), (.long (lo + (1 : Int64))), (.long (lo + (2 : Int64))), (.long (lo + (3 : Int64))), (.long (lo + (4 : Int64)))] (.long (0 : Int64)) at Vw96
    have pre99 : ∀ t, Steps p.tables e below (T96.setTop (mkF m 163 #[.val (.int p1), .val (.int p2), .val (.long q3), .second, .val (.int (5 : Int32)), .val (.int qq), .val (.long lo), .second, .val (.ref b77), .val (.long ((qq.toInt64) * ((5 : Int32).toInt64))), .second, .val (.int (0 : Int32)), .unset, .unset] [])) t → Steps p.tables e below (s₁.setTop (entryFrame m #[(.int p1), (.int p2), (.long q3)] maxLocals)) t := fun t kt => by
      refine pre3 t ?_
      show Steps p.tables e below (s₁.setTop (mkF m 25 #[.val (.int p1), .val (.int p2), .val (.long q3), .second, .val (.int (5 : Int32)), .val (.int qq), .val (.long lo), .second, .unset, .unset, .unset, .unset, .unset, .unset] [])) _
      refine XS.iload X0.here hx rfl (hb hby at_25) rfl ?_
      show Steps p.tables e below (s₁.setTop (mkF m 27 #[.val (.int p1), .val (.int p2), .val (.long q3), .second, .val (.int (5 : Int32)), .val (.int qq), .val (.long lo), .second, .unset, .unset, .unset, .unset, .unset, .unset] [(.int (5 : Int32))])) _
      refine st77 _ ?_
      show Steps p.tables e below (T77.setTop (mkF m 29 #[.val (.int p1), .val (.int p2), .val (.long q3), .second, .val (.int (5 : Int32)), .val (.int qq), .val (.long lo), .second, .unset, .unset, .unset, .unset, .unset, .unset] [(.ref b77)])) _
      refine XS.astore X77.here hx rfl (hb hby at_29) rfl rfl (l' := #[.val (.int p1), .val (.int p2), .val (.long q3), .second, .val (.int (5 : Int32)), .val (.int qq), .val (.long lo), .second, .val (.ref b77), .unset, .unset, .unset, .unset, .unset]) rfl ?_
      show Steps p.tables e below (T77.setTop (mkF m 31 #[.val (.int p1), .val (.int p2), .val (.long q3), .second, .val (.int (5 : Int32)), .val (.int qq), .val (.long lo), .second, .val (.ref b77), .unset, .unset, .unset, .unset, .unset] [])) _
      refine XS.aload X77.here hx rfl (hb hby at_31) rfl rfl ?_
      show Steps p.tables e below (T77.setTop (mkF m 33 #[.val (.int p1), .val (.int p2), .val (.long q3), .second, .val (.int (5 : Int32)), .val (.int qq), .val (.long lo), .second, .val (.ref b77), .unset, .unset, .unset, .unset, .unset] [(.ref b77)])) _
      refine XS.iconst X77.here hx rfl (hb hby at_33) ?_
      show Steps p.tables e below (T77.setTop (mkF m 34 #[.val (.int p1), .val (.int p2), .val (.long q3), .second, .val (.int (5 : Int32)), .val (.int qq), .val (.long lo), .second, .val (.ref b77), .unset, .unset, .unset, .unset, .unset] [(.int (0 : Int32)), (.ref b77)])) _
      refine XS.lload X77.here hx rfl (hb hby at_34) rfl ?_
      show Steps p.tables e below (T77.setTop (mkF m 36 #[.val (.int p1), .val (.int p2), .val (.long q3), .second, .val (.int (5 : Int32)), .val (.int qq), .val (.long lo), .second, .val (.ref b77), .unset, .unset, .unset, .unset, .unset] [(.long lo), (.int (0 : Int32)), (.ref b77)])) _
      refine st80 _ ?_
      show Steps p.tables e below (T80.setTop (mkF m 37 #[.val (.int p1), .val (.int p2), .val (.long q3), .second, .val (.int (5 : Int32)), .val (.int qq), .val (.long lo), .second, .val (.ref b77), .unset, .unset, .unset, .unset, .unset] [])) _
      refine XS.iload X80.here hx rfl (hb hby at_37) rfl ?_
      show Steps p.tables e below (T80.setTop (mkF m 39 #[.val (.int p1), .val (.int p2), .val (.long q3), .second, .val (.int (5 : Int32)), .val (.int qq), .val (.long lo), .second, .val (.ref b77), .unset, .unset, .unset, .unset, .unset] [(.int (5 : Int32))])) _
      refine XS.iconst X80.here hx rfl (hb hby at_39) ?_
      show Steps p.tables e below (T80.setTop (mkF m 40 #[.val (.int p1), .val (.int p2), .val (.long q3), .second, .val (.int (5 : Int32)), .val (.int qq), .val (.long lo), .second, .val (.ref b77), .unset, .unset, .unset, .unset, .unset] [(.int (1 : Int32)), (.int (5 : Int32))])) _
      refine XS.icmpNo X80.here hx rfl (hb hby at_40) rfl (tlt (by decide : (1 : Int32) < (5 : Int32))).2.2.2 ?_
      show Steps p.tables e below (T80.setTop (mkF m 43 #[.val (.int p1), .val (.int p2), .val (.long q3), .second, .val (.int (5 : Int32)), .val (.int qq), .val (.long lo), .second, .val (.ref b77), .unset, .unset, .unset, .unset, .unset] [])) _
      refine XS.aload X80.here hx rfl (hb hby at_43) rfl rfl ?_
      show Steps p.tables e below (T80.setTop (mkF m 45 #[.val (.int p1), .val (.int p2), .val (.long q3), .second, .val (.int (5 : Int32)), .val (.int qq), .val (.long lo), .second, .val (.ref b77), .unset, .unset, .unset, .unset, .unset] [(.ref b77)])) _
      refine XS.iconst X80.here hx rfl (hb hby at_45) ?_
      show Steps p.tables e below (T80.setTop (mkF m 46 #[.val (.int p1), .val (.int p2), .val (.long q3), .second, .val (.int (5 : Int32)), .val (.int qq), .val (.long lo), .second, .val (.ref b77), .unset, .unset, .unset, .unset, .unset] [(.int (1 : Int32)), (.ref b77)])) _
      refine XS.lload X80.here hx rfl (hb hby at_46) rfl ?_
      show Steps p.tables e below (T80.setTop (mkF m 48 #[.val (.int p1), .val (.int p2), .val (.long q3), .second, .val (.int (5 : Int32)), .val (.int qq), .val (.long lo), .second, .val (.ref b77), .unset, .unset, .unset, .unset, .unset] [(.long lo), (.int (1 : Int32)), (.ref b77)])) _
      refine XS.lconst X80.here hx rfl (hb hby at_48) ?_
      show Steps p.tables e below (T80.setTop (mkF m 49 #[.val (.int p1), .val (.int p2), .val (.long q3), .second, .val (.int (5 : Int32)), .val (.int qq), .val (.long lo), .second, .val (.ref b77), .unset, .unset, .unset, .unset, .unset] [(.long (1 : Int64)), (.long lo), (.int (1 : Int32)), (.ref b77)])) _
      refine XS.ladd X80.here hx rfl (hb hby at_49) rfl ?_
      show Steps p.tables e below (T80.setTop (mkF m 50 #[.val (.int p1), .val (.int p2), .val (.long q3), .second, .val (.int (5 : Int32)), .val (.int qq), .val (.long lo), .second, .val (.ref b77), .unset, .unset, .unset, .unset, .unset] [(.long (lo + (1 : Int64))), (.int (1 : Int32)), (.ref b77)])) _
      refine st84 _ ?_
      show Steps p.tables e below (T84.setTop (mkF m 51 #[.val (.int p1), .val (.int p2), .val (.long q3), .second, .val (.int (5 : Int32)), .val (.int qq), .val (.long lo), .second, .val (.ref b77), .unset, .unset, .unset, .unset, .unset] [])) _
      refine XS.iload X84.here hx rfl (hb hby at_51) rfl ?_
      show Steps p.tables e below (T84.setTop (mkF m 53 #[.val (.int p1), .val (.int p2), .val (.long q3), .second, .val (.int (5 : Int32)), .val (.int qq), .val (.long lo), .second, .val (.ref b77), .unset, .unset, .unset, .unset, .unset] [(.int (5 : Int32))])) _
      refine XS.iconst X84.here hx rfl (hb hby at_53) ?_
      show Steps p.tables e below (T84.setTop (mkF m 54 #[.val (.int p1), .val (.int p2), .val (.long q3), .second, .val (.int (5 : Int32)), .val (.int qq), .val (.long lo), .second, .val (.ref b77), .unset, .unset, .unset, .unset, .unset] [(.int (2 : Int32)), (.int (5 : Int32))])) _
      refine XS.icmpNo X84.here hx rfl (hb hby at_54) rfl (tlt (by decide : (2 : Int32) < (5 : Int32))).2.2.2 ?_
      show Steps p.tables e below (T84.setTop (mkF m 57 #[.val (.int p1), .val (.int p2), .val (.long q3), .second, .val (.int (5 : Int32)), .val (.int qq), .val (.long lo), .second, .val (.ref b77), .unset, .unset, .unset, .unset, .unset] [])) _
      refine XS.aload X84.here hx rfl (hb hby at_57) rfl rfl ?_
      show Steps p.tables e below (T84.setTop (mkF m 59 #[.val (.int p1), .val (.int p2), .val (.long q3), .second, .val (.int (5 : Int32)), .val (.int qq), .val (.long lo), .second, .val (.ref b77), .unset, .unset, .unset, .unset, .unset] [(.ref b77)])) _
      refine XS.iconst X84.here hx rfl (hb hby at_59) ?_
      show Steps p.tables e below (T84.setTop (mkF m 60 #[.val (.int p1), .val (.int p2), .val (.long q3), .second, .val (.int (5 : Int32)), .val (.int qq), .val (.long lo), .second, .val (.ref b77), .unset, .unset, .unset, .unset, .unset] [(.int (2 : Int32)), (.ref b77)])) _
      refine XS.lload X84.here hx rfl (hb hby at_60) rfl ?_
      show Steps p.tables e below (T84.setTop (mkF m 62 #[.val (.int p1), .val (.int p2), .val (.long q3), .second, .val (.int (5 : Int32)), .val (.int qq), .val (.long lo), .second, .val (.ref b77), .unset, .unset, .unset, .unset, .unset] [(.long lo), (.int (2 : Int32)), (.ref b77)])) _
      refine X84.ldc2Long hx hown (mvT hZ (hw _ (List.mem_of_getElem? (i := 8) rfl))) (g := (mkF m 62 #[.val (.int p1), .val (.int p2), .val (.long q3), .second, .val (.int (5 : Int32)), .val (.int qq), .val (.long lo), .second, .val (.ref b77), .unset, .unset, .unset, .unset, .unset] [(.long lo), (.int (2 : Int32)), (.ref b77)])) rfl (hb hby at_62) _ ?_
      show Steps p.tables e below (T84.setTop (mkF m 65 #[.val (.int p1), .val (.int p2), .val (.long q3), .second, .val (.int (5 : Int32)), .val (.int qq), .val (.long lo), .second, .val (.ref b77), .unset, .unset, .unset, .unset, .unset] [(.long (2 : Int64)), (.long lo), (.int (2 : Int32)), (.ref b77)])) _
      refine XS.ladd X84.here hx rfl (hb hby at_65) rfl ?_
      show Steps p.tables e below (T84.setTop (mkF m 66 #[.val (.int p1), .val (.int p2), .val (.long q3), .second, .val (.int (5 : Int32)), .val (.int qq), .val (.long lo), .second, .val (.ref b77), .unset, .unset, .unset, .unset, .unset] [(.long (lo + (2 : Int64))), (.int (2 : Int32)), (.ref b77)])) _
      refine st88 _ ?_
      show Steps p.tables e below (T88.setTop (mkF m 67 #[.val (.int p1), .val (.int p2), .val (.long q3), .second, .val (.int (5 : Int32)), .val (.int qq), .val (.long lo), .second, .val (.ref b77), .unset, .unset, .unset, .unset, .unset] [])) _
      refine XS.iload X88.here hx rfl (hb hby at_67) rfl ?_
      show Steps p.tables e below (T88.setTop (mkF m 69 #[.val (.int p1), .val (.int p2), .val (.long q3), .second, .val (.int (5 : Int32)), .val (.int qq), .val (.long lo), .second, .val (.ref b77), .unset, .unset, .unset, .unset, .unset] [(.int (5 : Int32))])) _
      refine XS.iconst X88.here hx rfl (hb hby at_69) ?_
      show Steps p.tables e below (T88.setTop (mkF m 70 #[.val (.int p1), .val (.int p2), .val (.long q3), .second, .val (.int (5 : Int32)), .val (.int qq), .val (.long lo), .second, .val (.ref b77), .unset, .unset, .unset, .unset, .unset] [(.int (3 : Int32)), (.int (5 : Int32))])) _
      refine XS.icmpNo X88.here hx rfl (hb hby at_70) rfl (tlt (by decide : (3 : Int32) < (5 : Int32))).2.2.2 ?_
      show Steps p.tables e below (T88.setTop (mkF m 73 #[.val (.int p1), .val (.int p2), .val (.long q3), .second, .val (.int (5 : Int32)), .val (.int qq), .val (.long lo), .second, .val (.ref b77), .unset, .unset, .unset, .unset, .unset] [])) _
      refine XS.aload X88.here hx rfl (hb hby at_73) rfl rfl ?_
      show Steps p.tables e below (T88.setTop (mkF m 75 #[.val (.int p1), .val (.int p2), .val (.long q3), .second, .val (.int (5 : Int32)), .val (.int qq), .val (.long lo), .second, .val (.ref b77), .unset, .unset, .unset, .unset, .unset] [(.ref b77)])) _
      refine XS.iconst X88.here hx rfl (hb hby at_75) ?_
      show Steps p.tables e below (T88.setTop (mkF m 76 #[.val (.int p1), .val (.int p2), .val (.long q3), .second, .val (.int (5 : Int32)), .val (.int qq), .val (.long lo), .second, .val (.ref b77), .unset, .unset, .unset, .unset, .unset] [(.int (3 : Int32)), (.ref b77)])) _
      refine XS.lload X88.here hx rfl (hb hby at_76) rfl ?_
      show Steps p.tables e below (T88.setTop (mkF m 78 #[.val (.int p1), .val (.int p2), .val (.long q3), .second, .val (.int (5 : Int32)), .val (.int qq), .val (.long lo), .second, .val (.ref b77), .unset, .unset, .unset, .unset, .unset] [(.long lo), (.int (3 : Int32)), (.ref b77)])) _
      refine X88.ldc2Long hx hown (mvT hZ (hw _ (List.mem_of_getElem? (i := 9) rfl))) (g := (mkF m 78 #[.val (.int p1), .val (.int p2), .val (.long q3), .second, .val (.int (5 : Int32)), .val (.int qq), .val (.long lo), .second, .val (.ref b77), .unset, .unset, .unset, .unset, .unset] [(.long lo), (.int (3 : Int32)), (.ref b77)])) rfl (hb hby at_78) _ ?_
      show Steps p.tables e below (T88.setTop (mkF m 81 #[.val (.int p1), .val (.int p2), .val (.long q3), .second, .val (.int (5 : Int32)), .val (.int qq), .val (.long lo), .second, .val (.ref b77), .unset, .unset, .unset, .unset, .unset] [(.long (3 : Int64)), (.long lo), (.int (3 : Int32)), (.ref b77)])) _
      refine XS.ladd X88.here hx rfl (hb hby at_81) rfl ?_
      show Steps p.tables e below (T88.setTop (mkF m 82 #[.val (.int p1), .val (.int p2), .val (.long q3), .second, .val (.int (5 : Int32)), .val (.int qq), .val (.long lo), .second, .val (.ref b77), .unset, .unset, .unset, .unset, .unset] [(.long (lo + (3 : Int64))), (.int (3 : Int32)), (.ref b77)])) _
      refine st92 _ ?_
      show Steps p.tables e below (T92.setTop (mkF m 83 #[.val (.int p1), .val (.int p2), .val (.long q3), .second, .val (.int (5 : Int32)), .val (.int qq), .val (.long lo), .second, .val (.ref b77), .unset, .unset, .unset, .unset, .unset] [])) _
      refine XS.iload X92.here hx rfl (hb hby at_83) rfl ?_
      show Steps p.tables e below (T92.setTop (mkF m 85 #[.val (.int p1), .val (.int p2), .val (.long q3), .second, .val (.int (5 : Int32)), .val (.int qq), .val (.long lo), .second, .val (.ref b77), .unset, .unset, .unset, .unset, .unset] [(.int (5 : Int32))])) _
      refine XS.iconst X92.here hx rfl (hb hby at_85) ?_
      show Steps p.tables e below (T92.setTop (mkF m 86 #[.val (.int p1), .val (.int p2), .val (.long q3), .second, .val (.int (5 : Int32)), .val (.int qq), .val (.long lo), .second, .val (.ref b77), .unset, .unset, .unset, .unset, .unset] [(.int (4 : Int32)), (.int (5 : Int32))])) _
      refine XS.icmpNo X92.here hx rfl (hb hby at_86) rfl (tlt (by decide : (4 : Int32) < (5 : Int32))).2.2.2 ?_
      show Steps p.tables e below (T92.setTop (mkF m 89 #[.val (.int p1), .val (.int p2), .val (.long q3), .second, .val (.int (5 : Int32)), .val (.int qq), .val (.long lo), .second, .val (.ref b77), .unset, .unset, .unset, .unset, .unset] [])) _
      refine XS.aload X92.here hx rfl (hb hby at_89) rfl rfl ?_
      show Steps p.tables e below (T92.setTop (mkF m 91 #[.val (.int p1), .val (.int p2), .val (.long q3), .second, .val (.int (5 : Int32)), .val (.int qq), .val (.long lo), .second, .val (.ref b77), .unset, .unset, .unset, .unset, .unset] [(.ref b77)])) _
      refine XS.iconst X92.here hx rfl (hb hby at_91) ?_
      show Steps p.tables e below (T92.setTop (mkF m 92 #[.val (.int p1), .val (.int p2), .val (.long q3), .second, .val (.int (5 : Int32)), .val (.int qq), .val (.long lo), .second, .val (.ref b77), .unset, .unset, .unset, .unset, .unset] [(.int (4 : Int32)), (.ref b77)])) _
      refine XS.lload X92.here hx rfl (hb hby at_92) rfl ?_
      show Steps p.tables e below (T92.setTop (mkF m 94 #[.val (.int p1), .val (.int p2), .val (.long q3), .second, .val (.int (5 : Int32)), .val (.int qq), .val (.long lo), .second, .val (.ref b77), .unset, .unset, .unset, .unset, .unset] [(.long lo), (.int (4 : Int32)), (.ref b77)])) _
      refine X92.ldc2Long hx hown (mvT hZ (hw _ (List.mem_of_getElem? (i := 10) rfl))) (g := (mkF m 94 #[.val (.int p1), .val (.int p2), .val (.long q3), .second, .val (.int (5 : Int32)), .val (.int qq), .val (.long lo), .second, .val (.ref b77), .unset, .unset, .unset, .unset, .unset] [(.long lo), (.int (4 : Int32)), (.ref b77)])) rfl (hb hby at_94) _ ?_
      show Steps p.tables e below (T92.setTop (mkF m 97 #[.val (.int p1), .val (.int p2), .val (.long q3), .second, .val (.int (5 : Int32)), .val (.int qq), .val (.long lo), .second, .val (.ref b77), .unset, .unset, .unset, .unset, .unset] [(.long (4 : Int64)), (.long lo), (.int (4 : Int32)), (.ref b77)])) _
      refine XS.ladd X92.here hx rfl (hb hby at_97) rfl ?_
      show Steps p.tables e below (T92.setTop (mkF m 98 #[.val (.int p1), .val (.int p2), .val (.long q3), .second, .val (.int (5 : Int32)), .val (.int qq), .val (.long lo), .second, .val (.ref b77), .unset, .unset, .unset, .unset, .unset] [(.long (lo + (4 : Int64))), (.int (4 : Int32)), (.ref b77)])) _
      refine st96 _ ?_
      show Steps p.tables e below (T96.setTop (mkF m 99 #[.val (.int p1), .val (.int p2), .val (.long q3), .second, .val (.int (5 : Int32)), .val (.int qq), .val (.long lo), .second, .val (.ref b77), .unset, .unset, .unset, .unset, .unset] [])) _
      refine XS.iload X96.here hx rfl (hb hby at_99) rfl ?_
      show Steps p.tables e below (T96.setTop (mkF m 101 #[.val (.int p1), .val (.int p2), .val (.long q3), .second, .val (.int (5 : Int32)), .val (.int qq), .val (.long lo), .second, .val (.ref b77), .unset, .unset, .unset, .unset, .unset] [(.int (5 : Int32))])) _
      refine XS.iconst X96.here hx rfl (hb hby at_101) ?_
      show Steps p.tables e below (T96.setTop (mkF m 102 #[.val (.int p1), .val (.int p2), .val (.long q3), .second, .val (.int (5 : Int32)), .val (.int qq), .val (.long lo), .second, .val (.ref b77), .unset, .unset, .unset, .unset, .unset] [(.int (5 : Int32)), (.int (5 : Int32))])) _
      refine XS.icmpYes X96.here hx rfl (pc0 := 102) (pc' := 115) rfl (hb hby at_102) rfl (flt (by decide : ¬ ((5 : Int32) < (5 : Int32)))).2.2.2 (by decide) (by decide) ?_
      show Steps p.tables e below (T96.setTop (mkF m 115 #[.val (.int p1), .val (.int p2), .val (.long q3), .second, .val (.int (5 : Int32)), .val (.int qq), .val (.long lo), .second, .val (.ref b77), .unset, .unset, .unset, .unset, .unset] [])) _
      refine XS.iload X96.here hx rfl (hb hby at_115) rfl ?_
      show Steps p.tables e below (T96.setTop (mkF m 117 #[.val (.int p1), .val (.int p2), .val (.long q3), .second, .val (.int (5 : Int32)), .val (.int qq), .val (.long lo), .second, .val (.ref b77), .unset, .unset, .unset, .unset, .unset] [(.int (5 : Int32))])) _
      refine XS.bipush X96.here hx rfl (hb hby at_117) ?_
      show Steps p.tables e below (T96.setTop (mkF m 119 #[.val (.int p1), .val (.int p2), .val (.long q3), .second, .val (.int (5 : Int32)), .val (.int qq), .val (.long lo), .second, .val (.ref b77), .unset, .unset, .unset, .unset, .unset] [(.int (6 : Int32)), (.int (5 : Int32))])) _
      refine XS.icmpYes X96.here hx rfl (pc0 := 119) (pc' := 133) rfl (hb hby at_119) rfl (flt (by decide : ¬ ((6 : Int32) < (5 : Int32)))).2.2.2 (by decide) (by decide) ?_
      show Steps p.tables e below (T96.setTop (mkF m 133 #[.val (.int p1), .val (.int p2), .val (.long q3), .second, .val (.int (5 : Int32)), .val (.int qq), .val (.long lo), .second, .val (.ref b77), .unset, .unset, .unset, .unset, .unset] [])) _
      refine XS.iload X96.here hx rfl (hb hby at_133) rfl ?_
      show Steps p.tables e below (T96.setTop (mkF m 135 #[.val (.int p1), .val (.int p2), .val (.long q3), .second, .val (.int (5 : Int32)), .val (.int qq), .val (.long lo), .second, .val (.ref b77), .unset, .unset, .unset, .unset, .unset] [(.int (5 : Int32))])) _
      refine XS.bipush X96.here hx rfl (hb hby at_135) ?_
      show Steps p.tables e below (T96.setTop (mkF m 137 #[.val (.int p1), .val (.int p2), .val (.long q3), .second, .val (.int (5 : Int32)), .val (.int qq), .val (.long lo), .second, .val (.ref b77), .unset, .unset, .unset, .unset, .unset] [(.int (7 : Int32)), (.int (5 : Int32))])) _
      refine XS.icmpYes X96.here hx rfl (pc0 := 137) (pc' := 151) rfl (hb hby at_137) rfl (flt (by decide : ¬ ((7 : Int32) < (5 : Int32)))).2.2.2 (by decide) (by decide) ?_
      show Steps p.tables e below (T96.setTop (mkF m 151 #[.val (.int p1), .val (.int p2), .val (.long q3), .second, .val (.int (5 : Int32)), .val (.int qq), .val (.long lo), .second, .val (.ref b77), .unset, .unset, .unset, .unset, .unset] [])) _
      refine XS.iload X96.here hx rfl (hb hby at_151) rfl ?_
      show Steps p.tables e below (T96.setTop (mkF m 153 #[.val (.int p1), .val (.int p2), .val (.long q3), .second, .val (.int (5 : Int32)), .val (.int qq), .val (.long lo), .second, .val (.ref b77), .unset, .unset, .unset, .unset, .unset] [(.int qq)])) _
      refine XS.i2l X96.here hx rfl (hb hby at_153) rfl ?_
      show Steps p.tables e below (T96.setTop (mkF m 154 #[.val (.int p1), .val (.int p2), .val (.long q3), .second, .val (.int (5 : Int32)), .val (.int qq), .val (.long lo), .second, .val (.ref b77), .unset, .unset, .unset, .unset, .unset] [(.long (qq.toInt64))])) _
      refine XS.iload X96.here hx rfl (hb hby at_154) rfl ?_
      show Steps p.tables e below (T96.setTop (mkF m 156 #[.val (.int p1), .val (.int p2), .val (.long q3), .second, .val (.int (5 : Int32)), .val (.int qq), .val (.long lo), .second, .val (.ref b77), .unset, .unset, .unset, .unset, .unset] [(.int (5 : Int32)), (.long (qq.toInt64))])) _
      refine XS.i2l X96.here hx rfl (hb hby at_156) rfl ?_
      show Steps p.tables e below (T96.setTop (mkF m 157 #[.val (.int p1), .val (.int p2), .val (.long q3), .second, .val (.int (5 : Int32)), .val (.int qq), .val (.long lo), .second, .val (.ref b77), .unset, .unset, .unset, .unset, .unset] [(.long ((5 : Int32).toInt64)), (.long (qq.toInt64))])) _
      refine XS.lmul X96.here hx rfl (hb hby at_157) rfl ?_
      show Steps p.tables e below (T96.setTop (mkF m 158 #[.val (.int p1), .val (.int p2), .val (.long q3), .second, .val (.int (5 : Int32)), .val (.int qq), .val (.long lo), .second, .val (.ref b77), .unset, .unset, .unset, .unset, .unset] [(.long ((qq.toInt64) * ((5 : Int32).toInt64)))])) _
      refine XS.lstore X96.here hx rfl (hb hby at_158) rfl (l' := #[.val (.int p1), .val (.int p2), .val (.long q3), .second, .val (.int (5 : Int32)), .val (.int qq), .val (.long lo), .second, .val (.ref b77), .val (.long ((qq.toInt64) * ((5 : Int32).toInt64))), .second, .unset, .unset, .unset]) rfl ?_
      show Steps p.tables e below (T96.setTop (mkF m 160 #[.val (.int p1), .val (.int p2), .val (.long q3), .second, .val (.int (5 : Int32)), .val (.int qq), .val (.long lo), .second, .val (.ref b77), .val (.long ((qq.toInt64) * ((5 : Int32).toInt64))), .second, .unset, .unset, .unset] [])) _
      refine XS.iconst X96.here hx rfl (hb hby at_160) ?_
      show Steps p.tables e below (T96.setTop (mkF m 161 #[.val (.int p1), .val (.int p2), .val (.long q3), .second, .val (.int (5 : Int32)), .val (.int qq), .val (.long lo), .second, .val (.ref b77), .val (.long ((qq.toInt64) * ((5 : Int32).toInt64))), .second, .unset, .unset, .unset] [(.int (0 : Int32))])) _
      refine XS.istore X96.here hx rfl (hb hby at_161) rfl (l' := #[.val (.int p1), .val (.int p2), .val (.long q3), .second, .val (.int (5 : Int32)), .val (.int qq), .val (.long lo), .second, .val (.ref b77), .val (.long ((qq.toInt64) * ((5 : Int32).toInt64))), .second, .val (.int (0 : Int32)), .unset, .unset]) rfl ?_
      exact kt
    have pre100 : ∀ t, Steps p.tables e below (T96.setTop (mkF m 166 #[.val (.int p1), .val (.int p2), .val (.long q3), .second, .val (.int (5 : Int32)), .val (.int qq), .val (.long lo), .second, .val (.ref b77), .val (.long ((qq.toInt64) * ((5 : Int32).toInt64))), .second, .val (.int (0 : Int32)), .unset, .unset] [(.int (1 : Int32)), (.int (5 : Int32))])) t → Steps p.tables e below (s₁.setTop (entryFrame m #[(.int p1), (.int p2), (.long q3)] maxLocals)) t := fun t kt => by
      refine pre99 t ?_
      show Steps p.tables e below (T96.setTop (mkF m 163 #[.val (.int p1), .val (.int p2), .val (.long q3), .second, .val (.int (5 : Int32)), .val (.int qq), .val (.long lo), .second, .val (.ref b77), .val (.long ((qq.toInt64) * ((5 : Int32).toInt64))), .second, .val (.int (0 : Int32)), .unset, .unset] [])) _
      refine XS.iload X96.here hx rfl (hb hby at_163) rfl ?_
      show Steps p.tables e below (T96.setTop (mkF m 165 #[.val (.int p1), .val (.int p2), .val (.long q3), .second, .val (.int (5 : Int32)), .val (.int qq), .val (.long lo), .second, .val (.ref b77), .val (.long ((qq.toInt64) * ((5 : Int32).toInt64))), .second, .val (.int (0 : Int32)), .unset, .unset] [(.int (5 : Int32))])) _
      refine XS.iconst X96.here hx rfl (hb hby at_165) ?_
      exact kt
    obtain ⟨i1, h_i1, pre102⟩ : ∃ z : Int32, z = (if (1000 : Int64) < ((qq.toInt64) * ((5 : Int32).toInt64)) then (1 : Int32) else (0 : Int32)) ∧ ∀ t, Steps p.tables e below (T96.setTop (mkF m 181 #[.val (.int p1), .val (.int p2), .val (.long q3), .second, .val (.int (5 : Int32)), .val (.int qq), .val (.long lo), .second, .val (.ref b77), .val (.long ((qq.toInt64) * ((5 : Int32).toInt64))), .second, .val (.int z), .unset, .unset] [])) t → Steps p.tables e below (s₁.setTop (entryFrame m #[(.int p1), (.int p2), (.long q3)] maxLocals)) t := by
      by_cases hj175_101 : (1000 : Int64) < ((qq.toInt64) * ((5 : Int32).toInt64))
      · exact ⟨_, by rw [if_pos hj175_101], fun t kt => by
          refine pre100 t ?_
          show Steps p.tables e below (T96.setTop (mkF m 166 #[.val (.int p1), .val (.int p2), .val (.long q3), .second, .val (.int (5 : Int32)), .val (.int qq), .val (.long lo), .second, .val (.ref b77), .val (.long ((qq.toInt64) * ((5 : Int32).toInt64))), .second, .val (.int (0 : Int32)), .unset, .unset] [(.int (1 : Int32)), (.int (5 : Int32))])) _
          refine XS.icmpNo X96.here hx rfl (hb hby at_166) rfl (tlt (by decide : (1 : Int32) < (5 : Int32))).2.2.2 ?_
          show Steps p.tables e below (T96.setTop (mkF m 169 #[.val (.int p1), .val (.int p2), .val (.long q3), .second, .val (.int (5 : Int32)), .val (.int qq), .val (.long lo), .second, .val (.ref b77), .val (.long ((qq.toInt64) * ((5 : Int32).toInt64))), .second, .val (.int (0 : Int32)), .unset, .unset] [])) _
          refine X96.ldc2Long hx hown (mvT hZ (hw _ (List.mem_of_getElem? (i := 11) rfl))) (g := (mkF m 169 #[.val (.int p1), .val (.int p2), .val (.long q3), .second, .val (.int (5 : Int32)), .val (.int qq), .val (.long lo), .second, .val (.ref b77), .val (.long ((qq.toInt64) * ((5 : Int32).toInt64))), .second, .val (.int (0 : Int32)), .unset, .unset] [])) rfl (hb hby at_169) _ ?_
          show Steps p.tables e below (T96.setTop (mkF m 172 #[.val (.int p1), .val (.int p2), .val (.long q3), .second, .val (.int (5 : Int32)), .val (.int qq), .val (.long lo), .second, .val (.ref b77), .val (.long ((qq.toInt64) * ((5 : Int32).toInt64))), .second, .val (.int (0 : Int32)), .unset, .unset] [(.long (1000 : Int64))])) _
          refine XS.lload X96.here hx rfl (hb hby at_172) rfl ?_
          show Steps p.tables e below (T96.setTop (mkF m 174 #[.val (.int p1), .val (.int p2), .val (.long q3), .second, .val (.int (5 : Int32)), .val (.int qq), .val (.long lo), .second, .val (.ref b77), .val (.long ((qq.toInt64) * ((5 : Int32).toInt64))), .second, .val (.int (0 : Int32)), .unset, .unset] [(.long ((qq.toInt64) * ((5 : Int32).toInt64))), (.long (1000 : Int64))])) _
          refine XS.lcmp X96.here hx rfl (hb hby at_174) rfl ?_
          show Steps p.tables e below (T96.setTop (mkF m 175 #[.val (.int p1), .val (.int p2), .val (.long q3), .second, .val (.int (5 : Int32)), .val (.int qq), .val (.long lo), .second, .val (.ref b77), .val (.long ((qq.toInt64) * ((5 : Int32).toInt64))), .second, .val (.int (0 : Int32)), .unset, .unset] [(.int (lcmpW (1000 : Int64) ((qq.toInt64) * ((5 : Int32).toInt64))))])) _
          refine XS.ifNo X96.here hx rfl (hb hby at_175) rfl (own_lgeF hj175_101) ?_
          show Steps p.tables e below (T96.setTop (mkF m 178 #[.val (.int p1), .val (.int p2), .val (.long q3), .second, .val (.int (5 : Int32)), .val (.int qq), .val (.long lo), .second, .val (.ref b77), .val (.long ((qq.toInt64) * ((5 : Int32).toInt64))), .second, .val (.int (0 : Int32)), .unset, .unset] [])) _
          refine XS.iinc X96.here hx rfl (hb hby at_178) rfl (l' := #[.val (.int p1), .val (.int p2), .val (.long q3), .second, .val (.int (5 : Int32)), .val (.int qq), .val (.long lo), .second, .val (.ref b77), .val (.long ((qq.toInt64) * ((5 : Int32).toInt64))), .second, .val (.int (1 : Int32)), .unset, .unset]) rfl ?_
          exact kt⟩
      · exact ⟨_, by rw [if_neg hj175_101], fun t kt => by
          refine pre100 t ?_
          show Steps p.tables e below (T96.setTop (mkF m 166 #[.val (.int p1), .val (.int p2), .val (.long q3), .second, .val (.int (5 : Int32)), .val (.int qq), .val (.long lo), .second, .val (.ref b77), .val (.long ((qq.toInt64) * ((5 : Int32).toInt64))), .second, .val (.int (0 : Int32)), .unset, .unset] [(.int (1 : Int32)), (.int (5 : Int32))])) _
          refine XS.icmpNo X96.here hx rfl (hb hby at_166) rfl (tlt (by decide : (1 : Int32) < (5 : Int32))).2.2.2 ?_
          show Steps p.tables e below (T96.setTop (mkF m 169 #[.val (.int p1), .val (.int p2), .val (.long q3), .second, .val (.int (5 : Int32)), .val (.int qq), .val (.long lo), .second, .val (.ref b77), .val (.long ((qq.toInt64) * ((5 : Int32).toInt64))), .second, .val (.int (0 : Int32)), .unset, .unset] [])) _
          refine X96.ldc2Long hx hown (mvT hZ (hw _ (List.mem_of_getElem? (i := 11) rfl))) (g := (mkF m 169 #[.val (.int p1), .val (.int p2), .val (.long q3), .second, .val (.int (5 : Int32)), .val (.int qq), .val (.long lo), .second, .val (.ref b77), .val (.long ((qq.toInt64) * ((5 : Int32).toInt64))), .second, .val (.int (0 : Int32)), .unset, .unset] [])) rfl (hb hby at_169) _ ?_
          show Steps p.tables e below (T96.setTop (mkF m 172 #[.val (.int p1), .val (.int p2), .val (.long q3), .second, .val (.int (5 : Int32)), .val (.int qq), .val (.long lo), .second, .val (.ref b77), .val (.long ((qq.toInt64) * ((5 : Int32).toInt64))), .second, .val (.int (0 : Int32)), .unset, .unset] [(.long (1000 : Int64))])) _
          refine XS.lload X96.here hx rfl (hb hby at_172) rfl ?_
          show Steps p.tables e below (T96.setTop (mkF m 174 #[.val (.int p1), .val (.int p2), .val (.long q3), .second, .val (.int (5 : Int32)), .val (.int qq), .val (.long lo), .second, .val (.ref b77), .val (.long ((qq.toInt64) * ((5 : Int32).toInt64))), .second, .val (.int (0 : Int32)), .unset, .unset] [(.long ((qq.toInt64) * ((5 : Int32).toInt64))), (.long (1000 : Int64))])) _
          refine XS.lcmp X96.here hx rfl (hb hby at_174) rfl ?_
          show Steps p.tables e below (T96.setTop (mkF m 175 #[.val (.int p1), .val (.int p2), .val (.long q3), .second, .val (.int (5 : Int32)), .val (.int qq), .val (.long lo), .second, .val (.ref b77), .val (.long ((qq.toInt64) * ((5 : Int32).toInt64))), .second, .val (.int (0 : Int32)), .unset, .unset] [(.int (lcmpW (1000 : Int64) ((qq.toInt64) * ((5 : Int32).toInt64))))])) _
          refine XS.ifYes X96.here hx rfl (pc0 := 175) (pc' := 181) rfl (hb hby at_175) rfl (own_lgeT hj175_101) (by decide) (by decide) ?_
          exact kt⟩
    have pre103 : ∀ t, Steps p.tables e below (T96.setTop (mkF m 184 #[.val (.int p1), .val (.int p2), .val (.long q3), .second, .val (.int (5 : Int32)), .val (.int qq), .val (.long lo), .second, .val (.ref b77), .val (.long ((qq.toInt64) * ((5 : Int32).toInt64))), .second, .val (.int i1), .unset, .unset] [(.int (2 : Int32)), (.int (5 : Int32))])) t → Steps p.tables e below (s₁.setTop (entryFrame m #[(.int p1), (.int p2), (.long q3)] maxLocals)) t := fun t kt => by
      refine pre102 t ?_
      show Steps p.tables e below (T96.setTop (mkF m 181 #[.val (.int p1), .val (.int p2), .val (.long q3), .second, .val (.int (5 : Int32)), .val (.int qq), .val (.long lo), .second, .val (.ref b77), .val (.long ((qq.toInt64) * ((5 : Int32).toInt64))), .second, .val (.int i1), .unset, .unset] [])) _
      refine XS.iload X96.here hx rfl (hb hby at_181) rfl ?_
      show Steps p.tables e below (T96.setTop (mkF m 183 #[.val (.int p1), .val (.int p2), .val (.long q3), .second, .val (.int (5 : Int32)), .val (.int qq), .val (.long lo), .second, .val (.ref b77), .val (.long ((qq.toInt64) * ((5 : Int32).toInt64))), .second, .val (.int i1), .unset, .unset] [(.int (5 : Int32))])) _
      refine XS.iconst X96.here hx rfl (hb hby at_183) ?_
      exact kt
    obtain ⟨i2, h_i2, pre105⟩ : ∃ z : Int32, z = (if (2000 : Int64) < ((qq.toInt64) * ((5 : Int32).toInt64)) then (i1 + (1 : Int32)) else i1) ∧ ∀ t, Steps p.tables e below (T96.setTop (mkF m 199 #[.val (.int p1), .val (.int p2), .val (.long q3), .second, .val (.int (5 : Int32)), .val (.int qq), .val (.long lo), .second, .val (.ref b77), .val (.long ((qq.toInt64) * ((5 : Int32).toInt64))), .second, .val (.int z), .unset, .unset] [])) t → Steps p.tables e below (s₁.setTop (entryFrame m #[(.int p1), (.int p2), (.long q3)] maxLocals)) t := by
      by_cases hj193_104 : (2000 : Int64) < ((qq.toInt64) * ((5 : Int32).toInt64))
      · exact ⟨_, by rw [if_pos hj193_104], fun t kt => by
          refine pre103 t ?_
          show Steps p.tables e below (T96.setTop (mkF m 184 #[.val (.int p1), .val (.int p2), .val (.long q3), .second, .val (.int (5 : Int32)), .val (.int qq), .val (.long lo), .second, .val (.ref b77), .val (.long ((qq.toInt64) * ((5 : Int32).toInt64))), .second, .val (.int i1), .unset, .unset] [(.int (2 : Int32)), (.int (5 : Int32))])) _
          refine XS.icmpNo X96.here hx rfl (hb hby at_184) rfl (tlt (by decide : (2 : Int32) < (5 : Int32))).2.2.2 ?_
          show Steps p.tables e below (T96.setTop (mkF m 187 #[.val (.int p1), .val (.int p2), .val (.long q3), .second, .val (.int (5 : Int32)), .val (.int qq), .val (.long lo), .second, .val (.ref b77), .val (.long ((qq.toInt64) * ((5 : Int32).toInt64))), .second, .val (.int i1), .unset, .unset] [])) _
          refine X96.ldc2Long hx hown (mvT hZ (hw _ (List.mem_of_getElem? (i := 12) rfl))) (g := (mkF m 187 #[.val (.int p1), .val (.int p2), .val (.long q3), .second, .val (.int (5 : Int32)), .val (.int qq), .val (.long lo), .second, .val (.ref b77), .val (.long ((qq.toInt64) * ((5 : Int32).toInt64))), .second, .val (.int i1), .unset, .unset] [])) rfl (hb hby at_187) _ ?_
          show Steps p.tables e below (T96.setTop (mkF m 190 #[.val (.int p1), .val (.int p2), .val (.long q3), .second, .val (.int (5 : Int32)), .val (.int qq), .val (.long lo), .second, .val (.ref b77), .val (.long ((qq.toInt64) * ((5 : Int32).toInt64))), .second, .val (.int i1), .unset, .unset] [(.long (2000 : Int64))])) _
          refine XS.lload X96.here hx rfl (hb hby at_190) rfl ?_
          show Steps p.tables e below (T96.setTop (mkF m 192 #[.val (.int p1), .val (.int p2), .val (.long q3), .second, .val (.int (5 : Int32)), .val (.int qq), .val (.long lo), .second, .val (.ref b77), .val (.long ((qq.toInt64) * ((5 : Int32).toInt64))), .second, .val (.int i1), .unset, .unset] [(.long ((qq.toInt64) * ((5 : Int32).toInt64))), (.long (2000 : Int64))])) _
          refine XS.lcmp X96.here hx rfl (hb hby at_192) rfl ?_
          show Steps p.tables e below (T96.setTop (mkF m 193 #[.val (.int p1), .val (.int p2), .val (.long q3), .second, .val (.int (5 : Int32)), .val (.int qq), .val (.long lo), .second, .val (.ref b77), .val (.long ((qq.toInt64) * ((5 : Int32).toInt64))), .second, .val (.int i1), .unset, .unset] [(.int (lcmpW (2000 : Int64) ((qq.toInt64) * ((5 : Int32).toInt64))))])) _
          refine XS.ifNo X96.here hx rfl (hb hby at_193) rfl (own_lgeF hj193_104) ?_
          show Steps p.tables e below (T96.setTop (mkF m 196 #[.val (.int p1), .val (.int p2), .val (.long q3), .second, .val (.int (5 : Int32)), .val (.int qq), .val (.long lo), .second, .val (.ref b77), .val (.long ((qq.toInt64) * ((5 : Int32).toInt64))), .second, .val (.int i1), .unset, .unset] [])) _
          refine XS.iinc X96.here hx rfl (hb hby at_196) rfl (l' := #[.val (.int p1), .val (.int p2), .val (.long q3), .second, .val (.int (5 : Int32)), .val (.int qq), .val (.long lo), .second, .val (.ref b77), .val (.long ((qq.toInt64) * ((5 : Int32).toInt64))), .second, .val (.int (i1 + (1 : Int32))), .unset, .unset]) rfl ?_
          exact kt⟩
      · exact ⟨_, by rw [if_neg hj193_104], fun t kt => by
          refine pre103 t ?_
          show Steps p.tables e below (T96.setTop (mkF m 184 #[.val (.int p1), .val (.int p2), .val (.long q3), .second, .val (.int (5 : Int32)), .val (.int qq), .val (.long lo), .second, .val (.ref b77), .val (.long ((qq.toInt64) * ((5 : Int32).toInt64))), .second, .val (.int i1), .unset, .unset] [(.int (2 : Int32)), (.int (5 : Int32))])) _
          refine XS.icmpNo X96.here hx rfl (hb hby at_184) rfl (tlt (by decide : (2 : Int32) < (5 : Int32))).2.2.2 ?_
          show Steps p.tables e below (T96.setTop (mkF m 187 #[.val (.int p1), .val (.int p2), .val (.long q3), .second, .val (.int (5 : Int32)), .val (.int qq), .val (.long lo), .second, .val (.ref b77), .val (.long ((qq.toInt64) * ((5 : Int32).toInt64))), .second, .val (.int i1), .unset, .unset] [])) _
          refine X96.ldc2Long hx hown (mvT hZ (hw _ (List.mem_of_getElem? (i := 12) rfl))) (g := (mkF m 187 #[.val (.int p1), .val (.int p2), .val (.long q3), .second, .val (.int (5 : Int32)), .val (.int qq), .val (.long lo), .second, .val (.ref b77), .val (.long ((qq.toInt64) * ((5 : Int32).toInt64))), .second, .val (.int i1), .unset, .unset] [])) rfl (hb hby at_187) _ ?_
          show Steps p.tables e below (T96.setTop (mkF m 190 #[.val (.int p1), .val (.int p2), .val (.long q3), .second, .val (.int (5 : Int32)), .val (.int qq), .val (.long lo), .second, .val (.ref b77), .val (.long ((qq.toInt64) * ((5 : Int32).toInt64))), .second, .val (.int i1), .unset, .unset] [(.long (2000 : Int64))])) _
          refine XS.lload X96.here hx rfl (hb hby at_190) rfl ?_
          show Steps p.tables e below (T96.setTop (mkF m 192 #[.val (.int p1), .val (.int p2), .val (.long q3), .second, .val (.int (5 : Int32)), .val (.int qq), .val (.long lo), .second, .val (.ref b77), .val (.long ((qq.toInt64) * ((5 : Int32).toInt64))), .second, .val (.int i1), .unset, .unset] [(.long ((qq.toInt64) * ((5 : Int32).toInt64))), (.long (2000 : Int64))])) _
          refine XS.lcmp X96.here hx rfl (hb hby at_192) rfl ?_
          show Steps p.tables e below (T96.setTop (mkF m 193 #[.val (.int p1), .val (.int p2), .val (.long q3), .second, .val (.int (5 : Int32)), .val (.int qq), .val (.long lo), .second, .val (.ref b77), .val (.long ((qq.toInt64) * ((5 : Int32).toInt64))), .second, .val (.int i1), .unset, .unset] [(.int (lcmpW (2000 : Int64) ((qq.toInt64) * ((5 : Int32).toInt64))))])) _
          refine XS.ifYes X96.here hx rfl (pc0 := 193) (pc' := 199) rfl (hb hby at_193) rfl (own_lgeT hj193_104) (by decide) (by decide) ?_
          exact kt⟩
    have pre106 : ∀ t, Steps p.tables e below (T96.setTop (mkF m 202 #[.val (.int p1), .val (.int p2), .val (.long q3), .second, .val (.int (5 : Int32)), .val (.int qq), .val (.long lo), .second, .val (.ref b77), .val (.long ((qq.toInt64) * ((5 : Int32).toInt64))), .second, .val (.int i2), .unset, .unset] [(.int (3 : Int32)), (.int (5 : Int32))])) t → Steps p.tables e below (s₁.setTop (entryFrame m #[(.int p1), (.int p2), (.long q3)] maxLocals)) t := fun t kt => by
      refine pre105 t ?_
      show Steps p.tables e below (T96.setTop (mkF m 199 #[.val (.int p1), .val (.int p2), .val (.long q3), .second, .val (.int (5 : Int32)), .val (.int qq), .val (.long lo), .second, .val (.ref b77), .val (.long ((qq.toInt64) * ((5 : Int32).toInt64))), .second, .val (.int i2), .unset, .unset] [])) _
      refine XS.iload X96.here hx rfl (hb hby at_199) rfl ?_
      show Steps p.tables e below (T96.setTop (mkF m 201 #[.val (.int p1), .val (.int p2), .val (.long q3), .second, .val (.int (5 : Int32)), .val (.int qq), .val (.long lo), .second, .val (.ref b77), .val (.long ((qq.toInt64) * ((5 : Int32).toInt64))), .second, .val (.int i2), .unset, .unset] [(.int (5 : Int32))])) _
      refine XS.iconst X96.here hx rfl (hb hby at_201) ?_
      exact kt
    obtain ⟨i3, h_i3, pre108⟩ : ∃ z : Int32, z = (if (3000 : Int64) < ((qq.toInt64) * ((5 : Int32).toInt64)) then (i2 + (1 : Int32)) else i2) ∧ ∀ t, Steps p.tables e below (T96.setTop (mkF m 217 #[.val (.int p1), .val (.int p2), .val (.long q3), .second, .val (.int (5 : Int32)), .val (.int qq), .val (.long lo), .second, .val (.ref b77), .val (.long ((qq.toInt64) * ((5 : Int32).toInt64))), .second, .val (.int z), .unset, .unset] [])) t → Steps p.tables e below (s₁.setTop (entryFrame m #[(.int p1), (.int p2), (.long q3)] maxLocals)) t := by
      by_cases hj211_107 : (3000 : Int64) < ((qq.toInt64) * ((5 : Int32).toInt64))
      · exact ⟨_, by rw [if_pos hj211_107], fun t kt => by
          refine pre106 t ?_
          show Steps p.tables e below (T96.setTop (mkF m 202 #[.val (.int p1), .val (.int p2), .val (.long q3), .second, .val (.int (5 : Int32)), .val (.int qq), .val (.long lo), .second, .val (.ref b77), .val (.long ((qq.toInt64) * ((5 : Int32).toInt64))), .second, .val (.int i2), .unset, .unset] [(.int (3 : Int32)), (.int (5 : Int32))])) _
          refine XS.icmpNo X96.here hx rfl (hb hby at_202) rfl (tlt (by decide : (3 : Int32) < (5 : Int32))).2.2.2 ?_
          show Steps p.tables e below (T96.setTop (mkF m 205 #[.val (.int p1), .val (.int p2), .val (.long q3), .second, .val (.int (5 : Int32)), .val (.int qq), .val (.long lo), .second, .val (.ref b77), .val (.long ((qq.toInt64) * ((5 : Int32).toInt64))), .second, .val (.int i2), .unset, .unset] [])) _
          refine X96.ldc2Long hx hown (mvT hZ (hw _ (List.mem_of_getElem? (i := 13) rfl))) (g := (mkF m 205 #[.val (.int p1), .val (.int p2), .val (.long q3), .second, .val (.int (5 : Int32)), .val (.int qq), .val (.long lo), .second, .val (.ref b77), .val (.long ((qq.toInt64) * ((5 : Int32).toInt64))), .second, .val (.int i2), .unset, .unset] [])) rfl (hb hby at_205) _ ?_
          show Steps p.tables e below (T96.setTop (mkF m 208 #[.val (.int p1), .val (.int p2), .val (.long q3), .second, .val (.int (5 : Int32)), .val (.int qq), .val (.long lo), .second, .val (.ref b77), .val (.long ((qq.toInt64) * ((5 : Int32).toInt64))), .second, .val (.int i2), .unset, .unset] [(.long (3000 : Int64))])) _
          refine XS.lload X96.here hx rfl (hb hby at_208) rfl ?_
          show Steps p.tables e below (T96.setTop (mkF m 210 #[.val (.int p1), .val (.int p2), .val (.long q3), .second, .val (.int (5 : Int32)), .val (.int qq), .val (.long lo), .second, .val (.ref b77), .val (.long ((qq.toInt64) * ((5 : Int32).toInt64))), .second, .val (.int i2), .unset, .unset] [(.long ((qq.toInt64) * ((5 : Int32).toInt64))), (.long (3000 : Int64))])) _
          refine XS.lcmp X96.here hx rfl (hb hby at_210) rfl ?_
          show Steps p.tables e below (T96.setTop (mkF m 211 #[.val (.int p1), .val (.int p2), .val (.long q3), .second, .val (.int (5 : Int32)), .val (.int qq), .val (.long lo), .second, .val (.ref b77), .val (.long ((qq.toInt64) * ((5 : Int32).toInt64))), .second, .val (.int i2), .unset, .unset] [(.int (lcmpW (3000 : Int64) ((qq.toInt64) * ((5 : Int32).toInt64))))])) _
          refine XS.ifNo X96.here hx rfl (hb hby at_211) rfl (own_lgeF hj211_107) ?_
          show Steps p.tables e below (T96.setTop (mkF m 214 #[.val (.int p1), .val (.int p2), .val (.long q3), .second, .val (.int (5 : Int32)), .val (.int qq), .val (.long lo), .second, .val (.ref b77), .val (.long ((qq.toInt64) * ((5 : Int32).toInt64))), .second, .val (.int i2), .unset, .unset] [])) _
          refine XS.iinc X96.here hx rfl (hb hby at_214) rfl (l' := #[.val (.int p1), .val (.int p2), .val (.long q3), .second, .val (.int (5 : Int32)), .val (.int qq), .val (.long lo), .second, .val (.ref b77), .val (.long ((qq.toInt64) * ((5 : Int32).toInt64))), .second, .val (.int (i2 + (1 : Int32))), .unset, .unset]) rfl ?_
          exact kt⟩
      · exact ⟨_, by rw [if_neg hj211_107], fun t kt => by
          refine pre106 t ?_
          show Steps p.tables e below (T96.setTop (mkF m 202 #[.val (.int p1), .val (.int p2), .val (.long q3), .second, .val (.int (5 : Int32)), .val (.int qq), .val (.long lo), .second, .val (.ref b77), .val (.long ((qq.toInt64) * ((5 : Int32).toInt64))), .second, .val (.int i2), .unset, .unset] [(.int (3 : Int32)), (.int (5 : Int32))])) _
          refine XS.icmpNo X96.here hx rfl (hb hby at_202) rfl (tlt (by decide : (3 : Int32) < (5 : Int32))).2.2.2 ?_
          show Steps p.tables e below (T96.setTop (mkF m 205 #[.val (.int p1), .val (.int p2), .val (.long q3), .second, .val (.int (5 : Int32)), .val (.int qq), .val (.long lo), .second, .val (.ref b77), .val (.long ((qq.toInt64) * ((5 : Int32).toInt64))), .second, .val (.int i2), .unset, .unset] [])) _
          refine X96.ldc2Long hx hown (mvT hZ (hw _ (List.mem_of_getElem? (i := 13) rfl))) (g := (mkF m 205 #[.val (.int p1), .val (.int p2), .val (.long q3), .second, .val (.int (5 : Int32)), .val (.int qq), .val (.long lo), .second, .val (.ref b77), .val (.long ((qq.toInt64) * ((5 : Int32).toInt64))), .second, .val (.int i2), .unset, .unset] [])) rfl (hb hby at_205) _ ?_
          show Steps p.tables e below (T96.setTop (mkF m 208 #[.val (.int p1), .val (.int p2), .val (.long q3), .second, .val (.int (5 : Int32)), .val (.int qq), .val (.long lo), .second, .val (.ref b77), .val (.long ((qq.toInt64) * ((5 : Int32).toInt64))), .second, .val (.int i2), .unset, .unset] [(.long (3000 : Int64))])) _
          refine XS.lload X96.here hx rfl (hb hby at_208) rfl ?_
          show Steps p.tables e below (T96.setTop (mkF m 210 #[.val (.int p1), .val (.int p2), .val (.long q3), .second, .val (.int (5 : Int32)), .val (.int qq), .val (.long lo), .second, .val (.ref b77), .val (.long ((qq.toInt64) * ((5 : Int32).toInt64))), .second, .val (.int i2), .unset, .unset] [(.long ((qq.toInt64) * ((5 : Int32).toInt64))), (.long (3000 : Int64))])) _
          refine XS.lcmp X96.here hx rfl (hb hby at_210) rfl ?_
          show Steps p.tables e below (T96.setTop (mkF m 211 #[.val (.int p1), .val (.int p2), .val (.long q3), .second, .val (.int (5 : Int32)), .val (.int qq), .val (.long lo), .second, .val (.ref b77), .val (.long ((qq.toInt64) * ((5 : Int32).toInt64))), .second, .val (.int i2), .unset, .unset] [(.int (lcmpW (3000 : Int64) ((qq.toInt64) * ((5 : Int32).toInt64))))])) _
          refine XS.ifYes X96.here hx rfl (pc0 := 211) (pc' := 217) rfl (hb hby at_211) rfl (own_lgeT hj211_107) (by decide) (by decide) ?_
          exact kt⟩
    have pre109 : ∀ t, Steps p.tables e below (T96.setTop (mkF m 220 #[.val (.int p1), .val (.int p2), .val (.long q3), .second, .val (.int (5 : Int32)), .val (.int qq), .val (.long lo), .second, .val (.ref b77), .val (.long ((qq.toInt64) * ((5 : Int32).toInt64))), .second, .val (.int i3), .unset, .unset] [(.int (4 : Int32)), (.int (5 : Int32))])) t → Steps p.tables e below (s₁.setTop (entryFrame m #[(.int p1), (.int p2), (.long q3)] maxLocals)) t := fun t kt => by
      refine pre108 t ?_
      show Steps p.tables e below (T96.setTop (mkF m 217 #[.val (.int p1), .val (.int p2), .val (.long q3), .second, .val (.int (5 : Int32)), .val (.int qq), .val (.long lo), .second, .val (.ref b77), .val (.long ((qq.toInt64) * ((5 : Int32).toInt64))), .second, .val (.int i3), .unset, .unset] [])) _
      refine XS.iload X96.here hx rfl (hb hby at_217) rfl ?_
      show Steps p.tables e below (T96.setTop (mkF m 219 #[.val (.int p1), .val (.int p2), .val (.long q3), .second, .val (.int (5 : Int32)), .val (.int qq), .val (.long lo), .second, .val (.ref b77), .val (.long ((qq.toInt64) * ((5 : Int32).toInt64))), .second, .val (.int i3), .unset, .unset] [(.int (5 : Int32))])) _
      refine XS.iconst X96.here hx rfl (hb hby at_219) ?_
      exact kt
    obtain ⟨i4, h_i4, pre111⟩ : ∃ z : Int32, z = (if (4000 : Int64) < ((qq.toInt64) * ((5 : Int32).toInt64)) then (i3 + (1 : Int32)) else i3) ∧ ∀ t, Steps p.tables e below (T96.setTop (mkF m 235 #[.val (.int p1), .val (.int p2), .val (.long q3), .second, .val (.int (5 : Int32)), .val (.int qq), .val (.long lo), .second, .val (.ref b77), .val (.long ((qq.toInt64) * ((5 : Int32).toInt64))), .second, .val (.int z), .unset, .unset] [])) t → Steps p.tables e below (s₁.setTop (entryFrame m #[(.int p1), (.int p2), (.long q3)] maxLocals)) t := by
      by_cases hj229_110 : (4000 : Int64) < ((qq.toInt64) * ((5 : Int32).toInt64))
      · exact ⟨_, by rw [if_pos hj229_110], fun t kt => by
          refine pre109 t ?_
          show Steps p.tables e below (T96.setTop (mkF m 220 #[.val (.int p1), .val (.int p2), .val (.long q3), .second, .val (.int (5 : Int32)), .val (.int qq), .val (.long lo), .second, .val (.ref b77), .val (.long ((qq.toInt64) * ((5 : Int32).toInt64))), .second, .val (.int i3), .unset, .unset] [(.int (4 : Int32)), (.int (5 : Int32))])) _
          refine XS.icmpNo X96.here hx rfl (hb hby at_220) rfl (tlt (by decide : (4 : Int32) < (5 : Int32))).2.2.2 ?_
          show Steps p.tables e below (T96.setTop (mkF m 223 #[.val (.int p1), .val (.int p2), .val (.long q3), .second, .val (.int (5 : Int32)), .val (.int qq), .val (.long lo), .second, .val (.ref b77), .val (.long ((qq.toInt64) * ((5 : Int32).toInt64))), .second, .val (.int i3), .unset, .unset] [])) _
          refine X96.ldc2Long hx hown (mvT hZ (hw _ (List.mem_of_getElem? (i := 14) rfl))) (g := (mkF m 223 #[.val (.int p1), .val (.int p2), .val (.long q3), .second, .val (.int (5 : Int32)), .val (.int qq), .val (.long lo), .second, .val (.ref b77), .val (.long ((qq.toInt64) * ((5 : Int32).toInt64))), .second, .val (.int i3), .unset, .unset] [])) rfl (hb hby at_223) _ ?_
          show Steps p.tables e below (T96.setTop (mkF m 226 #[.val (.int p1), .val (.int p2), .val (.long q3), .second, .val (.int (5 : Int32)), .val (.int qq), .val (.long lo), .second, .val (.ref b77), .val (.long ((qq.toInt64) * ((5 : Int32).toInt64))), .second, .val (.int i3), .unset, .unset] [(.long (4000 : Int64))])) _
          refine XS.lload X96.here hx rfl (hb hby at_226) rfl ?_
          show Steps p.tables e below (T96.setTop (mkF m 228 #[.val (.int p1), .val (.int p2), .val (.long q3), .second, .val (.int (5 : Int32)), .val (.int qq), .val (.long lo), .second, .val (.ref b77), .val (.long ((qq.toInt64) * ((5 : Int32).toInt64))), .second, .val (.int i3), .unset, .unset] [(.long ((qq.toInt64) * ((5 : Int32).toInt64))), (.long (4000 : Int64))])) _
          refine XS.lcmp X96.here hx rfl (hb hby at_228) rfl ?_
          show Steps p.tables e below (T96.setTop (mkF m 229 #[.val (.int p1), .val (.int p2), .val (.long q3), .second, .val (.int (5 : Int32)), .val (.int qq), .val (.long lo), .second, .val (.ref b77), .val (.long ((qq.toInt64) * ((5 : Int32).toInt64))), .second, .val (.int i3), .unset, .unset] [(.int (lcmpW (4000 : Int64) ((qq.toInt64) * ((5 : Int32).toInt64))))])) _
          refine XS.ifNo X96.here hx rfl (hb hby at_229) rfl (own_lgeF hj229_110) ?_
          show Steps p.tables e below (T96.setTop (mkF m 232 #[.val (.int p1), .val (.int p2), .val (.long q3), .second, .val (.int (5 : Int32)), .val (.int qq), .val (.long lo), .second, .val (.ref b77), .val (.long ((qq.toInt64) * ((5 : Int32).toInt64))), .second, .val (.int i3), .unset, .unset] [])) _
          refine XS.iinc X96.here hx rfl (hb hby at_232) rfl (l' := #[.val (.int p1), .val (.int p2), .val (.long q3), .second, .val (.int (5 : Int32)), .val (.int qq), .val (.long lo), .second, .val (.ref b77), .val (.long ((qq.toInt64) * ((5 : Int32).toInt64))), .second, .val (.int (i3 + (1 : Int32))), .unset, .unset]) rfl ?_
          exact kt⟩
      · exact ⟨_, by rw [if_neg hj229_110], fun t kt => by
          refine pre109 t ?_
          show Steps p.tables e below (T96.setTop (mkF m 220 #[.val (.int p1), .val (.int p2), .val (.long q3), .second, .val (.int (5 : Int32)), .val (.int qq), .val (.long lo), .second, .val (.ref b77), .val (.long ((qq.toInt64) * ((5 : Int32).toInt64))), .second, .val (.int i3), .unset, .unset] [(.int (4 : Int32)), (.int (5 : Int32))])) _
          refine XS.icmpNo X96.here hx rfl (hb hby at_220) rfl (tlt (by decide : (4 : Int32) < (5 : Int32))).2.2.2 ?_
          show Steps p.tables e below (T96.setTop (mkF m 223 #[.val (.int p1), .val (.int p2), .val (.long q3), .second, .val (.int (5 : Int32)), .val (.int qq), .val (.long lo), .second, .val (.ref b77), .val (.long ((qq.toInt64) * ((5 : Int32).toInt64))), .second, .val (.int i3), .unset, .unset] [])) _
          refine X96.ldc2Long hx hown (mvT hZ (hw _ (List.mem_of_getElem? (i := 14) rfl))) (g := (mkF m 223 #[.val (.int p1), .val (.int p2), .val (.long q3), .second, .val (.int (5 : Int32)), .val (.int qq), .val (.long lo), .second, .val (.ref b77), .val (.long ((qq.toInt64) * ((5 : Int32).toInt64))), .second, .val (.int i3), .unset, .unset] [])) rfl (hb hby at_223) _ ?_
          show Steps p.tables e below (T96.setTop (mkF m 226 #[.val (.int p1), .val (.int p2), .val (.long q3), .second, .val (.int (5 : Int32)), .val (.int qq), .val (.long lo), .second, .val (.ref b77), .val (.long ((qq.toInt64) * ((5 : Int32).toInt64))), .second, .val (.int i3), .unset, .unset] [(.long (4000 : Int64))])) _
          refine XS.lload X96.here hx rfl (hb hby at_226) rfl ?_
          show Steps p.tables e below (T96.setTop (mkF m 228 #[.val (.int p1), .val (.int p2), .val (.long q3), .second, .val (.int (5 : Int32)), .val (.int qq), .val (.long lo), .second, .val (.ref b77), .val (.long ((qq.toInt64) * ((5 : Int32).toInt64))), .second, .val (.int i3), .unset, .unset] [(.long ((qq.toInt64) * ((5 : Int32).toInt64))), (.long (4000 : Int64))])) _
          refine XS.lcmp X96.here hx rfl (hb hby at_228) rfl ?_
          show Steps p.tables e below (T96.setTop (mkF m 229 #[.val (.int p1), .val (.int p2), .val (.long q3), .second, .val (.int (5 : Int32)), .val (.int qq), .val (.long lo), .second, .val (.ref b77), .val (.long ((qq.toInt64) * ((5 : Int32).toInt64))), .second, .val (.int i3), .unset, .unset] [(.int (lcmpW (4000 : Int64) ((qq.toInt64) * ((5 : Int32).toInt64))))])) _
          refine XS.ifYes X96.here hx rfl (pc0 := 229) (pc' := 235) rfl (hb hby at_229) rfl (own_lgeT hj229_110) (by decide) (by decide) ?_
          exact kt⟩
    have hcn := own_c5 hq h_i1 h_i2 h_i3 h_i4
    obtain ⟨_, _, ⟨T112, L112, k112, n112⟩, -, X112, ⟨Lc112, hQ112, l112, y112, z112⟩, st112⟩ := Jvm.LawKit.callS X96 hx (y := (⟨"com/example/sandglass/sandglass/Percentiles", "nearestRank", "([JI)J"⟩ : MethodName)) hown (mvT hZ (hw _ (List.mem_of_getElem? (i := 2) rfl))) (mvT hZ (hw _ (List.mem_of_getElem? (i := 3) rfl))) (mvT hZ (hw _ (List.mem_of_getElem? (i := 4) rfl))) (mvT hZ (hw _ (List.mem_of_getElem? (i := 5) rfl))) (by decide) (backOf (W := 0) (rm1 l Z a0 hw [] b77 qq k77 (5 : Int32) [(.long lo), (.long (lo + (1 : Int64))), (.long (lo + (2 : Int64))), (.long (lo + (3 : Int64))), (.long (lo + (4 : Int64)))] (lo + (i4).toInt64) h96 n0 (Nat.le_trans Z0 K97.1) Vw96 (own_i5 hcn.1 hcn.2.1 hcn.2.2) (own_g5 hcn.1 hcn.2.1 hcn.2.2)) hZ (hw _ (List.mem_of_getElem? (i := 5) rfl)) (hw _ (List.mem_of_getElem? (i := 4) rfl)) (by decide) (by decide)) (g := (mkF m 295 #[.val (.int p1), .val (.int p2), .val (.long q3), .second, .val (.int (5 : Int32)), .val (.int qq), .val (.long lo), .second, .val (.ref b77), .val (.long ((qq.toInt64) * ((5 : Int32).toInt64))), .second, .val (.int i4), .unset, .unset] [(.int qq), (.ref b77)])) rfl (by rw [hml]; rfl) (argsL := [(.ref b77), (.int qq)]) (rest := []) (lenOf pd__28_5bJI_29J rfl) rfl (by show 2 * 0 + _ ≤ _; exact Nat.le_of_eq rfl) (hb hby at_295) (fun _ _ => ⟨rfl, e96, (by decide : 1 + 0 ≤ _), (by decide : 5 + 0 ≤ _)⟩)
    dsimp only [Pt.U, Pt.locs, Pt.cells, Pt.slots] at X112 l112 y112 z112 st112 hQ112
    subst l112 y112 z112
    obtain ⟨rfl, N112q, e112⟩ := hQ112
    have N112 := Fr.app N98 N112q
    obtain ⟨fs, hr, hrun, hended, hW, hsame⟩ := X112.leave (v := some (.int (1 : Int32))) (fun h => by rw [Bd.returns] at h; cases h)
    refine ⟨_, _, pre111 _ ?_, hrun, hended, _, _, rfl, ?_, ⟨_, rfl⟩, hW, hsame.mono (by decide) (by decide)⟩
    · show Steps p.tables e below (T96.setTop (mkF m 235 #[.val (.int p1), .val (.int p2), .val (.long q3), .second, .val (.int (5 : Int32)), .val (.int qq), .val (.long lo), .second, .val (.ref b77), .val (.long ((qq.toInt64) * ((5 : Int32).toInt64))), .second, .val (.int i4), .unset, .unset] [])) _
      refine XS.iload X96.here hx rfl (hb hby at_235) rfl ?_
      show Steps p.tables e below (T96.setTop (mkF m 237 #[.val (.int p1), .val (.int p2), .val (.long q3), .second, .val (.int (5 : Int32)), .val (.int qq), .val (.long lo), .second, .val (.ref b77), .val (.long ((qq.toInt64) * ((5 : Int32).toInt64))), .second, .val (.int i4), .unset, .unset] [(.int (5 : Int32))])) _
      refine XS.iconst X96.here hx rfl (hb hby at_237) ?_
      show Steps p.tables e below (T96.setTop (mkF m 238 #[.val (.int p1), .val (.int p2), .val (.long q3), .second, .val (.int (5 : Int32)), .val (.int qq), .val (.long lo), .second, .val (.ref b77), .val (.long ((qq.toInt64) * ((5 : Int32).toInt64))), .second, .val (.int i4), .unset, .unset] [(.int (5 : Int32)), (.int (5 : Int32))])) _
      refine XS.icmpYes X96.here hx rfl (pc0 := 238) (pc' := 253) rfl (hb hby at_238) rfl (flt (by decide : ¬ ((5 : Int32) < (5 : Int32)))).2.2.2 (by decide) (by decide) ?_
      show Steps p.tables e below (T96.setTop (mkF m 253 #[.val (.int p1), .val (.int p2), .val (.long q3), .second, .val (.int (5 : Int32)), .val (.int qq), .val (.long lo), .second, .val (.ref b77), .val (.long ((qq.toInt64) * ((5 : Int32).toInt64))), .second, .val (.int i4), .unset, .unset] [])) _
      refine XS.iload X96.here hx rfl (hb hby at_253) rfl ?_
      show Steps p.tables e below (T96.setTop (mkF m 255 #[.val (.int p1), .val (.int p2), .val (.long q3), .second, .val (.int (5 : Int32)), .val (.int qq), .val (.long lo), .second, .val (.ref b77), .val (.long ((qq.toInt64) * ((5 : Int32).toInt64))), .second, .val (.int i4), .unset, .unset] [(.int (5 : Int32))])) _
      refine XS.bipush X96.here hx rfl (hb hby at_255) ?_
      show Steps p.tables e below (T96.setTop (mkF m 257 #[.val (.int p1), .val (.int p2), .val (.long q3), .second, .val (.int (5 : Int32)), .val (.int qq), .val (.long lo), .second, .val (.ref b77), .val (.long ((qq.toInt64) * ((5 : Int32).toInt64))), .second, .val (.int i4), .unset, .unset] [(.int (6 : Int32)), (.int (5 : Int32))])) _
      refine XS.icmpYes X96.here hx rfl (pc0 := 257) (pc' := 272) rfl (hb hby at_257) rfl (flt (by decide : ¬ ((6 : Int32) < (5 : Int32)))).2.2.2 (by decide) (by decide) ?_
      show Steps p.tables e below (T96.setTop (mkF m 272 #[.val (.int p1), .val (.int p2), .val (.long q3), .second, .val (.int (5 : Int32)), .val (.int qq), .val (.long lo), .second, .val (.ref b77), .val (.long ((qq.toInt64) * ((5 : Int32).toInt64))), .second, .val (.int i4), .unset, .unset] [])) _
      refine XS.iload X96.here hx rfl (hb hby at_272) rfl ?_
      show Steps p.tables e below (T96.setTop (mkF m 274 #[.val (.int p1), .val (.int p2), .val (.long q3), .second, .val (.int (5 : Int32)), .val (.int qq), .val (.long lo), .second, .val (.ref b77), .val (.long ((qq.toInt64) * ((5 : Int32).toInt64))), .second, .val (.int i4), .unset, .unset] [(.int (5 : Int32))])) _
      refine XS.bipush X96.here hx rfl (hb hby at_274) ?_
      show Steps p.tables e below (T96.setTop (mkF m 276 #[.val (.int p1), .val (.int p2), .val (.long q3), .second, .val (.int (5 : Int32)), .val (.int qq), .val (.long lo), .second, .val (.ref b77), .val (.long ((qq.toInt64) * ((5 : Int32).toInt64))), .second, .val (.int i4), .unset, .unset] [(.int (7 : Int32)), (.int (5 : Int32))])) _
      refine XS.icmpYes X96.here hx rfl (pc0 := 276) (pc' := 291) rfl (hb hby at_276) rfl (flt (by decide : ¬ ((7 : Int32) < (5 : Int32)))).2.2.2 (by decide) (by decide) ?_
      show Steps p.tables e below (T96.setTop (mkF m 291 #[.val (.int p1), .val (.int p2), .val (.long q3), .second, .val (.int (5 : Int32)), .val (.int qq), .val (.long lo), .second, .val (.ref b77), .val (.long ((qq.toInt64) * ((5 : Int32).toInt64))), .second, .val (.int i4), .unset, .unset] [])) _
      refine XS.aload X96.here hx rfl (hb hby at_291) rfl rfl ?_
      show Steps p.tables e below (T96.setTop (mkF m 293 #[.val (.int p1), .val (.int p2), .val (.long q3), .second, .val (.int (5 : Int32)), .val (.int qq), .val (.long lo), .second, .val (.ref b77), .val (.long ((qq.toInt64) * ((5 : Int32).toInt64))), .second, .val (.int i4), .unset, .unset] [(.ref b77)])) _
      refine XS.iload X96.here hx rfl (hb hby at_293) rfl ?_
      show Steps p.tables e below (T96.setTop (mkF m 295 #[.val (.int p1), .val (.int p2), .val (.long q3), .second, .val (.int (5 : Int32)), .val (.int qq), .val (.long lo), .second, .val (.ref b77), .val (.long ((qq.toInt64) * ((5 : Int32).toInt64))), .second, .val (.int i4), .unset, .unset] [(.int qq), (.ref b77)])) _
      refine st112 _ ?_
      show Steps p.tables e below (T112.setTop (mkF m 298 #[.val (.int p1), .val (.int p2), .val (.long q3), .second, .val (.int (5 : Int32)), .val (.int qq), .val (.long lo), .second, .val (.ref b77), .val (.long ((qq.toInt64) * ((5 : Int32).toInt64))), .second, .val (.int i4), .unset, .unset] [(.long (lo + (i4).toInt64))])) _
      refine XS.lstore X112.here hx rfl (hb hby at_298) rfl (l' := #[.val (.int p1), .val (.int p2), .val (.long q3), .second, .val (.int (5 : Int32)), .val (.int qq), .val (.long lo), .second, .val (.ref b77), .val (.long ((qq.toInt64) * ((5 : Int32).toInt64))), .second, .val (.int i4), .val (.long (lo + (i4).toInt64)), .second]) rfl ?_
      show Steps p.tables e below (T112.setTop (mkF m 300 #[.val (.int p1), .val (.int p2), .val (.long q3), .second, .val (.int (5 : Int32)), .val (.int qq), .val (.long lo), .second, .val (.ref b77), .val (.long ((qq.toInt64) * ((5 : Int32).toInt64))), .second, .val (.int i4), .val (.long (lo + (i4).toInt64)), .second] [])) _
      refine XS.lload X112.here hx rfl (hb hby at_300) rfl ?_
      show Steps p.tables e below (T112.setTop (mkF m 302 #[.val (.int p1), .val (.int p2), .val (.long q3), .second, .val (.int (5 : Int32)), .val (.int qq), .val (.long lo), .second, .val (.ref b77), .val (.long ((qq.toInt64) * ((5 : Int32).toInt64))), .second, .val (.int i4), .val (.long (lo + (i4).toInt64)), .second] [(.long (lo + (i4).toInt64))])) _
      refine XS.lload X112.here hx rfl (hb hby at_302) rfl ?_
      show Steps p.tables e below (T112.setTop (mkF m 304 #[.val (.int p1), .val (.int p2), .val (.long q3), .second, .val (.int (5 : Int32)), .val (.int qq), .val (.long lo), .second, .val (.ref b77), .val (.long ((qq.toInt64) * ((5 : Int32).toInt64))), .second, .val (.int i4), .val (.long (lo + (i4).toInt64)), .second] [(.long lo), (.long (lo + (i4).toInt64))])) _
      refine XS.iload X112.here hx rfl (hb hby at_304) rfl ?_
      show Steps p.tables e below (T112.setTop (mkF m 306 #[.val (.int p1), .val (.int p2), .val (.long q3), .second, .val (.int (5 : Int32)), .val (.int qq), .val (.long lo), .second, .val (.ref b77), .val (.long ((qq.toInt64) * ((5 : Int32).toInt64))), .second, .val (.int i4), .val (.long (lo + (i4).toInt64)), .second] [(.int i4), (.long lo), (.long (lo + (i4).toInt64))])) _
      refine XS.i2l X112.here hx rfl (hb hby at_306) rfl ?_
      show Steps p.tables e below (T112.setTop (mkF m 307 #[.val (.int p1), .val (.int p2), .val (.long q3), .second, .val (.int (5 : Int32)), .val (.int qq), .val (.long lo), .second, .val (.ref b77), .val (.long ((qq.toInt64) * ((5 : Int32).toInt64))), .second, .val (.int i4), .val (.long (lo + (i4).toInt64)), .second] [(.long (i4.toInt64)), (.long lo), (.long (lo + (i4).toInt64))])) _
      refine XS.ladd X112.here hx rfl (hb hby at_307) rfl ?_
      show Steps p.tables e below (T112.setTop (mkF m 308 #[.val (.int p1), .val (.int p2), .val (.long q3), .second, .val (.int (5 : Int32)), .val (.int qq), .val (.long lo), .second, .val (.ref b77), .val (.long ((qq.toInt64) * ((5 : Int32).toInt64))), .second, .val (.int i4), .val (.long (lo + (i4).toInt64)), .second] [(.long (lo + (i4.toInt64))), (.long (lo + (i4).toInt64))])) _
      refine XS.lcmp X112.here hx rfl (hb hby at_308) rfl ?_
      show Steps p.tables e below (T112.setTop (mkF m 309 #[.val (.int p1), .val (.int p2), .val (.long q3), .second, .val (.int (5 : Int32)), .val (.int qq), .val (.long lo), .second, .val (.ref b77), .val (.long ((qq.toInt64) * ((5 : Int32).toInt64))), .second, .val (.int i4), .val (.long (lo + (i4).toInt64)), .second] [(.int (lcmpW (lo + (i4).toInt64) (lo + (i4.toInt64))))])) _
      refine XS.ifNo X112.here hx rfl (hb hby at_309) rfl (own_lneF rfl) ?_
      show Steps p.tables e below (T112.setTop (mkF m 312 #[.val (.int p1), .val (.int p2), .val (.long q3), .second, .val (.int (5 : Int32)), .val (.int qq), .val (.long lo), .second, .val (.ref b77), .val (.long ((qq.toInt64) * ((5 : Int32).toInt64))), .second, .val (.int i4), .val (.long (lo + (i4).toInt64)), .second] [])) _
      refine XS.iconst X112.here hx rfl (hb hby at_312) ?_
      show Steps p.tables e below (T112.setTop (mkF m 313 #[.val (.int p1), .val (.int p2), .val (.long q3), .second, .val (.int (5 : Int32)), .val (.int qq), .val (.long lo), .second, .val (.ref b77), .val (.long ((qq.toInt64) * ((5 : Int32).toInt64))), .second, .val (.int i4), .val (.long (lo + (i4).toInt64)), .second] [(.int (1 : Int32))])) _
      refine XS.goto X112.here hx rfl (pc0 := 313) (pc' := 317) rfl (hb hby at_313) (by decide) (by decide) ?_
      show Steps p.tables e below (T112.setTop (mkF m 317 #[.val (.int p1), .val (.int p2), .val (.long q3), .second, .val (.int (5 : Int32)), .val (.int qq), .val (.long lo), .second, .val (.ref b77), .val (.long ((qq.toInt64) * ((5 : Int32).toInt64))), .second, .val (.int i4), .val (.long (lo + (i4).toInt64)), .second] [(.int (1 : Int32))])) _
      exact retN X112 hx (t := .boolean) Bd.returns (by simp) (hb hby at_317) hr
    · show Q_rm0 Z p1 p2 q3 h0 n0 _ T112.heap _
      rw [e112]
      exact ⟨rfl, N112⟩
  · rw [hn] at pre3
    obtain ⟨T113, h113, k113, X113, e113, E113, A113, st113⟩ := newP X0 hx hZ (hw _ (List.mem_of_getElem? (i := 1) rfl)) e0 (g := (mkF m 27 #[.val (.int p1), .val (.int p2), .val (.long q3), .second, .val (.int (6 : Int32)), .val (.int qq), .val (.long lo), .second, .unset, .unset, .unset, .unset, .unset, .unset] [(.int (6 : Int32))])) rfl (hb hby at_27) rfl (by decide) (cap := 6) (by decide) (by decide) (by decide) (by decide)
    obtain ⟨b113, g113⟩ : ∃ z, z = h0.size := ⟨_, rfl⟩
    rw [← g113] at A113 st113
    have g_b113 : n0 ≤ b113 := Nat.le_trans Z0 (Nat.le_of_eq g113.symm)
    have sz_b113 : h0.size ≤ b113 := Nat.le_trans (Keep.refl h0 []).1 (Nat.le_of_eq g113.symm)
    have K114 : Keep h0 h113 [] := (Keep.refl h0 []).ext E113
    have V_b113 : Arv Z h113 b113 k113 .long (6 : Int32) [(.long (0 : Int64)), (.long (0 : Int64)), (.long (0 : Int64)), (.long (0 : Int64)), (.long (0 : Int64)), (.long (0 : Int64))] (.long (0 : Int64)) := (Arv.new A113 (by decide)).pad (pad_rep [] (.long (0 : Int64)) 6)
    obtain ⟨c115, Ac115, qc115, Sc115, Nc115, Hc115, Gc115⟩ := id V_b113
    obtain ⟨T116, h116, X116, e116, W116, st116⟩ := stJ X113 hx hZ e113 Ac115 (j := (0 : Int32)) (inb_of Sc115 ⟨by decide, by decide⟩) (g := (mkF m 36 #[.val (.int p1), .val (.int p2), .val (.long q3), .second, .val (.int (6 : Int32)), .val (.int qq), .val (.long lo), .second, .val (.ref b113), .unset, .unset, .unset, .unset, .unset] [(.long lo), (.int (0 : Int32)), (.ref b113)])) rfl rfl (hb hby at_36)
    have K117 : Keep h0 h116 [] := K114.wr W116 (Or.inr sz_b113)
    have N118 := Fr.snoc X116 N0 g_b113
    have Vw116 := Arv.set Ac115 qc115 Sc115 Nc115 Hc115 Gc115 rfl W116 0 rfl (Nat.le_of_ble_eq_true rfl)
    change Arv Z h116 b113 k113 .long (6 : Int32) [(.long lo), (.long (0 : Int64)), (.long (0 : Int64)), (.long (0 : Int64)), (.long (0 : Int64)), (.long (0 : Int64))] (.long (0 : Int64)) at Vw116
    obtain ⟨c119, Ac119, qc119, Sc119, Nc119, Hc119, Gc119⟩ := id Vw116
    obtain ⟨T120, h120, X120, e120, W120, st120⟩ := stJ X116 hx hZ e116 Ac119 (j := (1 : Int32)) (inb_of Sc119 ⟨by decide, by decide⟩) (g := (mkF m 50 #[.val (.int p1), .val (.int p2), .val (.long q3), .second, .val (.int (6 : Int32)), .val (.int qq), .val (.long lo), .second, .val (.ref b113), .unset, .unset, .unset, .unset, .unset] [(.long (lo + (1 : Int64))), (.int (1 : Int32)), (.ref b113)])) rfl rfl (hb hby at_50)
    have K121 : Keep h0 h120 [] := K117.wr W120 (Or.inr sz_b113)
    have N122 := Fr.snoc X120 N118 g_b113
    have Vw120 := Arv.set Ac119 qc119 Sc119 Nc119 Hc119 Gc119 rfl W120 1 rfl (Nat.le_of_ble_eq_true rfl)
    change Arv Z h120 b113 k113 .long (6 : Int32) [(.long lo), (.long (lo + (1 : Int64))), (.long (0 : Int64)), (.long (0 : Int64)), (.long (0 : Int64)), (.long (0 : Int64))] (.long (0 : Int64)) at Vw120
    obtain ⟨c123, Ac123, qc123, Sc123, Nc123, Hc123, Gc123⟩ := id Vw120
    obtain ⟨T124, h124, X124, e124, W124, st124⟩ := stJ X120 hx hZ e120 Ac123 (j := (2 : Int32)) (inb_of Sc123 ⟨by decide, by decide⟩) (g := (mkF m 66 #[.val (.int p1), .val (.int p2), .val (.long q3), .second, .val (.int (6 : Int32)), .val (.int qq), .val (.long lo), .second, .val (.ref b113), .unset, .unset, .unset, .unset, .unset] [(.long (lo + (2 : Int64))), (.int (2 : Int32)), (.ref b113)])) rfl rfl (hb hby at_66)
    have K125 : Keep h0 h124 [] := K121.wr W124 (Or.inr sz_b113)
    have N126 := Fr.snoc X124 N122 g_b113
    have Vw124 := Arv.set Ac123 qc123 Sc123 Nc123 Hc123 Gc123 rfl W124 2 rfl (Nat.le_of_ble_eq_true rfl)
    change Arv Z h124 b113 k113 .long (6 : Int32) [(.long lo), (.long (lo + (1 : Int64))), (.long (lo + (2 : Int64))), (.long (0 : Int64)), (.long (0 : Int64)), (.long (0 : Int64))] (.long (0 : Int64)) at Vw124
    obtain ⟨c127, Ac127, qc127, Sc127, Nc127, Hc127, Gc127⟩ := id Vw124
    obtain ⟨T128, h128, X128, e128, W128, st128⟩ := stJ X124 hx hZ e124 Ac127 (j := (3 : Int32)) (inb_of Sc127 ⟨by decide, by decide⟩) (g := (mkF m 82 #[.val (.int p1), .val (.int p2), .val (.long q3), .second, .val (.int (6 : Int32)), .val (.int qq), .val (.long lo), .second, .val (.ref b113), .unset, .unset, .unset, .unset, .unset] [(.long (lo + (3 : Int64))), (.int (3 : Int32)), (.ref b113)])) rfl rfl (hb hby at_82)
    have K129 : Keep h0 h128 [] := K125.wr W128 (Or.inr sz_b113)
    have N130 := Fr.snoc X128 N126 g_b113
    have Vw128 := Arv.set Ac127 qc127 Sc127 Nc127 Hc127 Gc127 rfl W128 3 rfl (Nat.le_of_ble_eq_true rfl)
    change Arv Z h128 b113 k113 .long (6 : Int32) [(.long lo), (.long (lo + (1 : Int64))), (.long (lo + (2 : Int64))), (.long (lo + (3 : Int64))), (.long (0 : Int64)), (.long (0 : Int64))] (.long (0 : Int64)) at Vw128
    obtain ⟨c131, Ac131, qc131, Sc131, Nc131, Hc131, Gc131⟩ := id Vw128
    obtain ⟨T132, h132, X132, e132, W132, st132⟩ := stJ X128 hx hZ e128 Ac131 (j := (4 : Int32)) (inb_of Sc131 ⟨by decide, by decide⟩) (g := (mkF m 98 #[.val (.int p1), .val (.int p2), .val (.long q3), .second, .val (.int (6 : Int32)), .val (.int qq), .val (.long lo), .second, .val (.ref b113), .unset, .unset, .unset, .unset, .unset] [(.long (lo + (4 : Int64))), (.int (4 : Int32)), (.ref b113)])) rfl rfl (hb hby at_98)
    have K133 : Keep h0 h132 [] := K129.wr W132 (Or.inr sz_b113)
    have N134 := Fr.snoc X132 N130 g_b113
    have Vw132 := Arv.set Ac131 qc131 Sc131 Nc131 Hc131 Gc131 rfl W132 4 rfl (Nat.le_of_ble_eq_true rfl)
    change Arv Z h132 b113 k113 .long (6 : Int32) [(.long lo), (.long (lo + (1 : Int64))), (.long (lo + (2 : Int64))), (.long (lo + (3 : Int64))), (.long (lo + (4 : Int64))), (.long (0 : Int64))] (.long (0 : Int64)) at Vw132
    obtain ⟨c135, Ac135, qc135, Sc135, Nc135, Hc135, Gc135⟩ := id Vw132
    obtain ⟨T136, h136, X136, e136, W136, st136⟩ := stJ X132 hx hZ e132 Ac135 (j := (5 : Int32)) (inb_of Sc135 ⟨by decide, by decide⟩) (g := (mkF m 114 #[.val (.int p1), .val (.int p2), .val (.long q3), .second, .val (.int (6 : Int32)), .val (.int qq), .val (.long lo), .second, .val (.ref b113), .unset, .unset, .unset, .unset, .unset] [(.long (lo + (5 : Int64))), (.int (5 : Int32)), (.ref b113)])) rfl rfl (hb hby at_114)
    have K137 : Keep h0 h136 [] := K133.wr W136 (Or.inr sz_b113)
    have N138 := Fr.snoc X136 N134 g_b113
    have Vw136 := Arv.set Ac135 qc135 Sc135 Nc135 Hc135 Gc135 rfl W136 5 rfl (Nat.le_of_ble_eq_true rfl)
    change Arv Z h136 b113 k113 .long (6 : Int32) [(.long lo), (.long (lo + (1 : Int64))), (.long (lo + (2 : Int64))), (.long (lo + (3 : Int64))), (.long (lo + (4 : Int64))), (.long (lo + (5 : Int64)))] (.long (0 : Int64)) at Vw136
    have pre139 : ∀ t, Steps p.tables e below (T136.setTop (mkF m 163 #[.val (.int p1), .val (.int p2), .val (.long q3), .second, .val (.int (6 : Int32)), .val (.int qq), .val (.long lo), .second, .val (.ref b113), .val (.long ((qq.toInt64) * ((6 : Int32).toInt64))), .second, .val (.int (0 : Int32)), .unset, .unset] [])) t → Steps p.tables e below (s₁.setTop (entryFrame m #[(.int p1), (.int p2), (.long q3)] maxLocals)) t := fun t kt => by
      refine pre3 t ?_
      show Steps p.tables e below (s₁.setTop (mkF m 25 #[.val (.int p1), .val (.int p2), .val (.long q3), .second, .val (.int (6 : Int32)), .val (.int qq), .val (.long lo), .second, .unset, .unset, .unset, .unset, .unset, .unset] [])) _
      refine XS.iload X0.here hx rfl (hb hby at_25) rfl ?_
      show Steps p.tables e below (s₁.setTop (mkF m 27 #[.val (.int p1), .val (.int p2), .val (.long q3), .second, .val (.int (6 : Int32)), .val (.int qq), .val (.long lo), .second, .unset, .unset, .unset, .unset, .unset, .unset] [(.int (6 : Int32))])) _
      refine st113 _ ?_
      show Steps p.tables e below (T113.setTop (mkF m 29 #[.val (.int p1), .val (.int p2), .val (.long q3), .second, .val (.int (6 : Int32)), .val (.int qq), .val (.long lo), .second, .unset, .unset, .unset, .unset, .unset, .unset] [(.ref b113)])) _
      refine XS.astore X113.here hx rfl (hb hby at_29) rfl rfl (l' := #[.val (.int p1), .val (.int p2), .val (.long q3), .second, .val (.int (6 : Int32)), .val (.int qq), .val (.long lo), .second, .val (.ref b113), .unset, .unset, .unset, .unset, .unset]) rfl ?_
      show Steps p.tables e below (T113.setTop (mkF m 31 #[.val (.int p1), .val (.int p2), .val (.long q3), .second, .val (.int (6 : Int32)), .val (.int qq), .val (.long lo), .second, .val (.ref b113), .unset, .unset, .unset, .unset, .unset] [])) _
      refine XS.aload X113.here hx rfl (hb hby at_31) rfl rfl ?_
      show Steps p.tables e below (T113.setTop (mkF m 33 #[.val (.int p1), .val (.int p2), .val (.long q3), .second, .val (.int (6 : Int32)), .val (.int qq), .val (.long lo), .second, .val (.ref b113), .unset, .unset, .unset, .unset, .unset] [(.ref b113)])) _
      refine XS.iconst X113.here hx rfl (hb hby at_33) ?_
      show Steps p.tables e below (T113.setTop (mkF m 34 #[.val (.int p1), .val (.int p2), .val (.long q3), .second, .val (.int (6 : Int32)), .val (.int qq), .val (.long lo), .second, .val (.ref b113), .unset, .unset, .unset, .unset, .unset] [(.int (0 : Int32)), (.ref b113)])) _
      refine XS.lload X113.here hx rfl (hb hby at_34) rfl ?_
      show Steps p.tables e below (T113.setTop (mkF m 36 #[.val (.int p1), .val (.int p2), .val (.long q3), .second, .val (.int (6 : Int32)), .val (.int qq), .val (.long lo), .second, .val (.ref b113), .unset, .unset, .unset, .unset, .unset] [(.long lo), (.int (0 : Int32)), (.ref b113)])) _
      refine st116 _ ?_
      show Steps p.tables e below (T116.setTop (mkF m 37 #[.val (.int p1), .val (.int p2), .val (.long q3), .second, .val (.int (6 : Int32)), .val (.int qq), .val (.long lo), .second, .val (.ref b113), .unset, .unset, .unset, .unset, .unset] [])) _
      refine XS.iload X116.here hx rfl (hb hby at_37) rfl ?_
      show Steps p.tables e below (T116.setTop (mkF m 39 #[.val (.int p1), .val (.int p2), .val (.long q3), .second, .val (.int (6 : Int32)), .val (.int qq), .val (.long lo), .second, .val (.ref b113), .unset, .unset, .unset, .unset, .unset] [(.int (6 : Int32))])) _
      refine XS.iconst X116.here hx rfl (hb hby at_39) ?_
      show Steps p.tables e below (T116.setTop (mkF m 40 #[.val (.int p1), .val (.int p2), .val (.long q3), .second, .val (.int (6 : Int32)), .val (.int qq), .val (.long lo), .second, .val (.ref b113), .unset, .unset, .unset, .unset, .unset] [(.int (1 : Int32)), (.int (6 : Int32))])) _
      refine XS.icmpNo X116.here hx rfl (hb hby at_40) rfl (tlt (by decide : (1 : Int32) < (6 : Int32))).2.2.2 ?_
      show Steps p.tables e below (T116.setTop (mkF m 43 #[.val (.int p1), .val (.int p2), .val (.long q3), .second, .val (.int (6 : Int32)), .val (.int qq), .val (.long lo), .second, .val (.ref b113), .unset, .unset, .unset, .unset, .unset] [])) _
      refine XS.aload X116.here hx rfl (hb hby at_43) rfl rfl ?_
      show Steps p.tables e below (T116.setTop (mkF m 45 #[.val (.int p1), .val (.int p2), .val (.long q3), .second, .val (.int (6 : Int32)), .val (.int qq), .val (.long lo), .second, .val (.ref b113), .unset, .unset, .unset, .unset, .unset] [(.ref b113)])) _
      refine XS.iconst X116.here hx rfl (hb hby at_45) ?_
      show Steps p.tables e below (T116.setTop (mkF m 46 #[.val (.int p1), .val (.int p2), .val (.long q3), .second, .val (.int (6 : Int32)), .val (.int qq), .val (.long lo), .second, .val (.ref b113), .unset, .unset, .unset, .unset, .unset] [(.int (1 : Int32)), (.ref b113)])) _
      refine XS.lload X116.here hx rfl (hb hby at_46) rfl ?_
      show Steps p.tables e below (T116.setTop (mkF m 48 #[.val (.int p1), .val (.int p2), .val (.long q3), .second, .val (.int (6 : Int32)), .val (.int qq), .val (.long lo), .second, .val (.ref b113), .unset, .unset, .unset, .unset, .unset] [(.long lo), (.int (1 : Int32)), (.ref b113)])) _
      refine XS.lconst X116.here hx rfl (hb hby at_48) ?_
      show Steps p.tables e below (T116.setTop (mkF m 49 #[.val (.int p1), .val (.int p2), .val (.long q3), .second, .val (.int (6 : Int32)), .val (.int qq), .val (.long lo), .second, .val (.ref b113), .unset, .unset, .unset, .unset, .unset] [(.long (1 : Int64)), (.long lo), (.int (1 : Int32)), (.ref b113)])) _
      refine XS.ladd X116.here hx rfl (hb hby at_49) rfl ?_
      show Steps p.tables e below (T116.setTop (mkF m 50 #[.val (.int p1), .val (.int p2), .val (.long q3), .second, .val (.int (6 : Int32)), .val (.int qq), .val (.long lo), .second, .val (.ref b113), .unset, .unset, .unset, .unset, .unset] [(.long (lo + (1 : Int64))), (.int (1 : Int32)), (.ref b113)])) _
      refine st120 _ ?_
      show Steps p.tables e below (T120.setTop (mkF m 51 #[.val (.int p1), .val (.int p2), .val (.long q3), .second, .val (.int (6 : Int32)), .val (.int qq), .val (.long lo), .second, .val (.ref b113), .unset, .unset, .unset, .unset, .unset] [])) _
      refine XS.iload X120.here hx rfl (hb hby at_51) rfl ?_
      show Steps p.tables e below (T120.setTop (mkF m 53 #[.val (.int p1), .val (.int p2), .val (.long q3), .second, .val (.int (6 : Int32)), .val (.int qq), .val (.long lo), .second, .val (.ref b113), .unset, .unset, .unset, .unset, .unset] [(.int (6 : Int32))])) _
      refine XS.iconst X120.here hx rfl (hb hby at_53) ?_
      show Steps p.tables e below (T120.setTop (mkF m 54 #[.val (.int p1), .val (.int p2), .val (.long q3), .second, .val (.int (6 : Int32)), .val (.int qq), .val (.long lo), .second, .val (.ref b113), .unset, .unset, .unset, .unset, .unset] [(.int (2 : Int32)), (.int (6 : Int32))])) _
      refine XS.icmpNo X120.here hx rfl (hb hby at_54) rfl (tlt (by decide : (2 : Int32) < (6 : Int32))).2.2.2 ?_
      show Steps p.tables e below (T120.setTop (mkF m 57 #[.val (.int p1), .val (.int p2), .val (.long q3), .second, .val (.int (6 : Int32)), .val (.int qq), .val (.long lo), .second, .val (.ref b113), .unset, .unset, .unset, .unset, .unset] [])) _
      refine XS.aload X120.here hx rfl (hb hby at_57) rfl rfl ?_
      show Steps p.tables e below (T120.setTop (mkF m 59 #[.val (.int p1), .val (.int p2), .val (.long q3), .second, .val (.int (6 : Int32)), .val (.int qq), .val (.long lo), .second, .val (.ref b113), .unset, .unset, .unset, .unset, .unset] [(.ref b113)])) _
      refine XS.iconst X120.here hx rfl (hb hby at_59) ?_
      show Steps p.tables e below (T120.setTop (mkF m 60 #[.val (.int p1), .val (.int p2), .val (.long q3), .second, .val (.int (6 : Int32)), .val (.int qq), .val (.long lo), .second, .val (.ref b113), .unset, .unset, .unset, .unset, .unset] [(.int (2 : Int32)), (.ref b113)])) _
      refine XS.lload X120.here hx rfl (hb hby at_60) rfl ?_
      show Steps p.tables e below (T120.setTop (mkF m 62 #[.val (.int p1), .val (.int p2), .val (.long q3), .second, .val (.int (6 : Int32)), .val (.int qq), .val (.long lo), .second, .val (.ref b113), .unset, .unset, .unset, .unset, .unset] [(.long lo), (.int (2 : Int32)), (.ref b113)])) _
      refine X120.ldc2Long hx hown (mvT hZ (hw _ (List.mem_of_getElem? (i := 8) rfl))) (g := (mkF m 62 #[.val (.int p1), .val (.int p2), .val (.long q3), .second, .val (.int (6 : Int32)), .val (.int qq), .val (.long lo), .second, .val (.ref b113), .unset, .unset, .unset, .unset, .unset] [(.long lo), (.int (2 : Int32)), (.ref b113)])) rfl (hb hby at_62) _ ?_
      show Steps p.tables e below (T120.setTop (mkF m 65 #[.val (.int p1), .val (.int p2), .val (.long q3), .second, .val (.int (6 : Int32)), .val (.int qq), .val (.long lo), .second, .val (.ref b113), .unset, .unset, .unset, .unset, .unset] [(.long (2 : Int64)), (.long lo), (.int (2 : Int32)), (.ref b113)])) _
      refine XS.ladd X120.here hx rfl (hb hby at_65) rfl ?_
      show Steps p.tables e below (T120.setTop (mkF m 66 #[.val (.int p1), .val (.int p2), .val (.long q3), .second, .val (.int (6 : Int32)), .val (.int qq), .val (.long lo), .second, .val (.ref b113), .unset, .unset, .unset, .unset, .unset] [(.long (lo + (2 : Int64))), (.int (2 : Int32)), (.ref b113)])) _
      refine st124 _ ?_
      show Steps p.tables e below (T124.setTop (mkF m 67 #[.val (.int p1), .val (.int p2), .val (.long q3), .second, .val (.int (6 : Int32)), .val (.int qq), .val (.long lo), .second, .val (.ref b113), .unset, .unset, .unset, .unset, .unset] [])) _
      refine XS.iload X124.here hx rfl (hb hby at_67) rfl ?_
      show Steps p.tables e below (T124.setTop (mkF m 69 #[.val (.int p1), .val (.int p2), .val (.long q3), .second, .val (.int (6 : Int32)), .val (.int qq), .val (.long lo), .second, .val (.ref b113), .unset, .unset, .unset, .unset, .unset] [(.int (6 : Int32))])) _
      refine XS.iconst X124.here hx rfl (hb hby at_69) ?_
      show Steps p.tables e below (T124.setTop (mkF m 70 #[.val (.int p1), .val (.int p2), .val (.long q3), .second, .val (.int (6 : Int32)), .val (.int qq), .val (.long lo), .second, .val (.ref b113), .unset, .unset, .unset, .unset, .unset] [(.int (3 : Int32)), (.int (6 : Int32))])) _
      refine XS.icmpNo X124.here hx rfl (hb hby at_70) rfl (tlt (by decide : (3 : Int32) < (6 : Int32))).2.2.2 ?_
      show Steps p.tables e below (T124.setTop (mkF m 73 #[.val (.int p1), .val (.int p2), .val (.long q3), .second, .val (.int (6 : Int32)), .val (.int qq), .val (.long lo), .second, .val (.ref b113), .unset, .unset, .unset, .unset, .unset] [])) _
      refine XS.aload X124.here hx rfl (hb hby at_73) rfl rfl ?_
      show Steps p.tables e below (T124.setTop (mkF m 75 #[.val (.int p1), .val (.int p2), .val (.long q3), .second, .val (.int (6 : Int32)), .val (.int qq), .val (.long lo), .second, .val (.ref b113), .unset, .unset, .unset, .unset, .unset] [(.ref b113)])) _
      refine XS.iconst X124.here hx rfl (hb hby at_75) ?_
      show Steps p.tables e below (T124.setTop (mkF m 76 #[.val (.int p1), .val (.int p2), .val (.long q3), .second, .val (.int (6 : Int32)), .val (.int qq), .val (.long lo), .second, .val (.ref b113), .unset, .unset, .unset, .unset, .unset] [(.int (3 : Int32)), (.ref b113)])) _
      refine XS.lload X124.here hx rfl (hb hby at_76) rfl ?_
      show Steps p.tables e below (T124.setTop (mkF m 78 #[.val (.int p1), .val (.int p2), .val (.long q3), .second, .val (.int (6 : Int32)), .val (.int qq), .val (.long lo), .second, .val (.ref b113), .unset, .unset, .unset, .unset, .unset] [(.long lo), (.int (3 : Int32)), (.ref b113)])) _
      refine X124.ldc2Long hx hown (mvT hZ (hw _ (List.mem_of_getElem? (i := 9) rfl))) (g := (mkF m 78 #[.val (.int p1), .val (.int p2), .val (.long q3), .second, .val (.int (6 : Int32)), .val (.int qq), .val (.long lo), .second, .val (.ref b113), .unset, .unset, .unset, .unset, .unset] [(.long lo), (.int (3 : Int32)), (.ref b113)])) rfl (hb hby at_78) _ ?_
      show Steps p.tables e below (T124.setTop (mkF m 81 #[.val (.int p1), .val (.int p2), .val (.long q3), .second, .val (.int (6 : Int32)), .val (.int qq), .val (.long lo), .second, .val (.ref b113), .unset, .unset, .unset, .unset, .unset] [(.long (3 : Int64)), (.long lo), (.int (3 : Int32)), (.ref b113)])) _
      refine XS.ladd X124.here hx rfl (hb hby at_81) rfl ?_
      show Steps p.tables e below (T124.setTop (mkF m 82 #[.val (.int p1), .val (.int p2), .val (.long q3), .second, .val (.int (6 : Int32)), .val (.int qq), .val (.long lo), .second, .val (.ref b113), .unset, .unset, .unset, .unset, .unset] [(.long (lo + (3 : Int64))), (.int (3 : Int32)), (.ref b113)])) _
      refine st128 _ ?_
      show Steps p.tables e below (T128.setTop (mkF m 83 #[.val (.int p1), .val (.int p2), .val (.long q3), .second, .val (.int (6 : Int32)), .val (.int qq), .val (.long lo), .second, .val (.ref b113), .unset, .unset, .unset, .unset, .unset] [])) _
      refine XS.iload X128.here hx rfl (hb hby at_83) rfl ?_
      show Steps p.tables e below (T128.setTop (mkF m 85 #[.val (.int p1), .val (.int p2), .val (.long q3), .second, .val (.int (6 : Int32)), .val (.int qq), .val (.long lo), .second, .val (.ref b113), .unset, .unset, .unset, .unset, .unset] [(.int (6 : Int32))])) _
      refine XS.iconst X128.here hx rfl (hb hby at_85) ?_
      show Steps p.tables e below (T128.setTop (mkF m 86 #[.val (.int p1), .val (.int p2), .val (.long q3), .second, .val (.int (6 : Int32)), .val (.int qq), .val (.long lo), .second, .val (.ref b113), .unset, .unset, .unset, .unset, .unset] [(.int (4 : Int32)), (.int (6 : Int32))])) _
      refine XS.icmpNo X128.here hx rfl (hb hby at_86) rfl (tlt (by decide : (4 : Int32) < (6 : Int32))).2.2.2 ?_
      show Steps p.tables e below (T128.setTop (mkF m 89 #[.val (.int p1), .val (.int p2), .val (.long q3), .second, .val (.int (6 : Int32)), .val (.int qq), .val (.long lo), .second, .val (.ref b113), .unset, .unset, .unset, .unset, .unset] [])) _
      refine XS.aload X128.here hx rfl (hb hby at_89) rfl rfl ?_
      show Steps p.tables e below (T128.setTop (mkF m 91 #[.val (.int p1), .val (.int p2), .val (.long q3), .second, .val (.int (6 : Int32)), .val (.int qq), .val (.long lo), .second, .val (.ref b113), .unset, .unset, .unset, .unset, .unset] [(.ref b113)])) _
      refine XS.iconst X128.here hx rfl (hb hby at_91) ?_
      show Steps p.tables e below (T128.setTop (mkF m 92 #[.val (.int p1), .val (.int p2), .val (.long q3), .second, .val (.int (6 : Int32)), .val (.int qq), .val (.long lo), .second, .val (.ref b113), .unset, .unset, .unset, .unset, .unset] [(.int (4 : Int32)), (.ref b113)])) _
      refine XS.lload X128.here hx rfl (hb hby at_92) rfl ?_
      show Steps p.tables e below (T128.setTop (mkF m 94 #[.val (.int p1), .val (.int p2), .val (.long q3), .second, .val (.int (6 : Int32)), .val (.int qq), .val (.long lo), .second, .val (.ref b113), .unset, .unset, .unset, .unset, .unset] [(.long lo), (.int (4 : Int32)), (.ref b113)])) _
      refine X128.ldc2Long hx hown (mvT hZ (hw _ (List.mem_of_getElem? (i := 10) rfl))) (g := (mkF m 94 #[.val (.int p1), .val (.int p2), .val (.long q3), .second, .val (.int (6 : Int32)), .val (.int qq), .val (.long lo), .second, .val (.ref b113), .unset, .unset, .unset, .unset, .unset] [(.long lo), (.int (4 : Int32)), (.ref b113)])) rfl (hb hby at_94) _ ?_
      show Steps p.tables e below (T128.setTop (mkF m 97 #[.val (.int p1), .val (.int p2), .val (.long q3), .second, .val (.int (6 : Int32)), .val (.int qq), .val (.long lo), .second, .val (.ref b113), .unset, .unset, .unset, .unset, .unset] [(.long (4 : Int64)), (.long lo), (.int (4 : Int32)), (.ref b113)])) _
      refine XS.ladd X128.here hx rfl (hb hby at_97) rfl ?_
      show Steps p.tables e below (T128.setTop (mkF m 98 #[.val (.int p1), .val (.int p2), .val (.long q3), .second, .val (.int (6 : Int32)), .val (.int qq), .val (.long lo), .second, .val (.ref b113), .unset, .unset, .unset, .unset, .unset] [(.long (lo + (4 : Int64))), (.int (4 : Int32)), (.ref b113)])) _
      refine st132 _ ?_
      show Steps p.tables e below (T132.setTop (mkF m 99 #[.val (.int p1), .val (.int p2), .val (.long q3), .second, .val (.int (6 : Int32)), .val (.int qq), .val (.long lo), .second, .val (.ref b113), .unset, .unset, .unset, .unset, .unset] [])) _
      refine XS.iload X132.here hx rfl (hb hby at_99) rfl ?_
      show Steps p.tables e below (T132.setTop (mkF m 101 #[.val (.int p1), .val (.int p2), .val (.long q3), .second, .val (.int (6 : Int32)), .val (.int qq), .val (.long lo), .second, .val (.ref b113), .unset, .unset, .unset, .unset, .unset] [(.int (6 : Int32))])) _
      refine XS.iconst X132.here hx rfl (hb hby at_101) ?_
      show Steps p.tables e below (T132.setTop (mkF m 102 #[.val (.int p1), .val (.int p2), .val (.long q3), .second, .val (.int (6 : Int32)), .val (.int qq), .val (.long lo), .second, .val (.ref b113), .unset, .unset, .unset, .unset, .unset] [(.int (5 : Int32)), (.int (6 : Int32))])) _
      refine XS.icmpNo X132.here hx rfl (hb hby at_102) rfl (tlt (by decide : (5 : Int32) < (6 : Int32))).2.2.2 ?_
      show Steps p.tables e below (T132.setTop (mkF m 105 #[.val (.int p1), .val (.int p2), .val (.long q3), .second, .val (.int (6 : Int32)), .val (.int qq), .val (.long lo), .second, .val (.ref b113), .unset, .unset, .unset, .unset, .unset] [])) _
      refine XS.aload X132.here hx rfl (hb hby at_105) rfl rfl ?_
      show Steps p.tables e below (T132.setTop (mkF m 107 #[.val (.int p1), .val (.int p2), .val (.long q3), .second, .val (.int (6 : Int32)), .val (.int qq), .val (.long lo), .second, .val (.ref b113), .unset, .unset, .unset, .unset, .unset] [(.ref b113)])) _
      refine XS.iconst X132.here hx rfl (hb hby at_107) ?_
      show Steps p.tables e below (T132.setTop (mkF m 108 #[.val (.int p1), .val (.int p2), .val (.long q3), .second, .val (.int (6 : Int32)), .val (.int qq), .val (.long lo), .second, .val (.ref b113), .unset, .unset, .unset, .unset, .unset] [(.int (5 : Int32)), (.ref b113)])) _
      refine XS.lload X132.here hx rfl (hb hby at_108) rfl ?_
      show Steps p.tables e below (T132.setTop (mkF m 110 #[.val (.int p1), .val (.int p2), .val (.long q3), .second, .val (.int (6 : Int32)), .val (.int qq), .val (.long lo), .second, .val (.ref b113), .unset, .unset, .unset, .unset, .unset] [(.long lo), (.int (5 : Int32)), (.ref b113)])) _
      refine X132.ldc2Long hx hown (mvT hZ (hw _ (List.mem_of_getElem? (i := 15) rfl))) (g := (mkF m 110 #[.val (.int p1), .val (.int p2), .val (.long q3), .second, .val (.int (6 : Int32)), .val (.int qq), .val (.long lo), .second, .val (.ref b113), .unset, .unset, .unset, .unset, .unset] [(.long lo), (.int (5 : Int32)), (.ref b113)])) rfl (hb hby at_110) _ ?_
      show Steps p.tables e below (T132.setTop (mkF m 113 #[.val (.int p1), .val (.int p2), .val (.long q3), .second, .val (.int (6 : Int32)), .val (.int qq), .val (.long lo), .second, .val (.ref b113), .unset, .unset, .unset, .unset, .unset] [(.long (5 : Int64)), (.long lo), (.int (5 : Int32)), (.ref b113)])) _
      refine XS.ladd X132.here hx rfl (hb hby at_113) rfl ?_
      show Steps p.tables e below (T132.setTop (mkF m 114 #[.val (.int p1), .val (.int p2), .val (.long q3), .second, .val (.int (6 : Int32)), .val (.int qq), .val (.long lo), .second, .val (.ref b113), .unset, .unset, .unset, .unset, .unset] [(.long (lo + (5 : Int64))), (.int (5 : Int32)), (.ref b113)])) _
      refine st136 _ ?_
      show Steps p.tables e below (T136.setTop (mkF m 115 #[.val (.int p1), .val (.int p2), .val (.long q3), .second, .val (.int (6 : Int32)), .val (.int qq), .val (.long lo), .second, .val (.ref b113), .unset, .unset, .unset, .unset, .unset] [])) _
      refine XS.iload X136.here hx rfl (hb hby at_115) rfl ?_
      show Steps p.tables e below (T136.setTop (mkF m 117 #[.val (.int p1), .val (.int p2), .val (.long q3), .second, .val (.int (6 : Int32)), .val (.int qq), .val (.long lo), .second, .val (.ref b113), .unset, .unset, .unset, .unset, .unset] [(.int (6 : Int32))])) _
      refine XS.bipush X136.here hx rfl (hb hby at_117) ?_
      show Steps p.tables e below (T136.setTop (mkF m 119 #[.val (.int p1), .val (.int p2), .val (.long q3), .second, .val (.int (6 : Int32)), .val (.int qq), .val (.long lo), .second, .val (.ref b113), .unset, .unset, .unset, .unset, .unset] [(.int (6 : Int32)), (.int (6 : Int32))])) _
      refine XS.icmpYes X136.here hx rfl (pc0 := 119) (pc' := 133) rfl (hb hby at_119) rfl (flt (by decide : ¬ ((6 : Int32) < (6 : Int32)))).2.2.2 (by decide) (by decide) ?_
      show Steps p.tables e below (T136.setTop (mkF m 133 #[.val (.int p1), .val (.int p2), .val (.long q3), .second, .val (.int (6 : Int32)), .val (.int qq), .val (.long lo), .second, .val (.ref b113), .unset, .unset, .unset, .unset, .unset] [])) _
      refine XS.iload X136.here hx rfl (hb hby at_133) rfl ?_
      show Steps p.tables e below (T136.setTop (mkF m 135 #[.val (.int p1), .val (.int p2), .val (.long q3), .second, .val (.int (6 : Int32)), .val (.int qq), .val (.long lo), .second, .val (.ref b113), .unset, .unset, .unset, .unset, .unset] [(.int (6 : Int32))])) _
      refine XS.bipush X136.here hx rfl (hb hby at_135) ?_
      show Steps p.tables e below (T136.setTop (mkF m 137 #[.val (.int p1), .val (.int p2), .val (.long q3), .second, .val (.int (6 : Int32)), .val (.int qq), .val (.long lo), .second, .val (.ref b113), .unset, .unset, .unset, .unset, .unset] [(.int (7 : Int32)), (.int (6 : Int32))])) _
      refine XS.icmpYes X136.here hx rfl (pc0 := 137) (pc' := 151) rfl (hb hby at_137) rfl (flt (by decide : ¬ ((7 : Int32) < (6 : Int32)))).2.2.2 (by decide) (by decide) ?_
      show Steps p.tables e below (T136.setTop (mkF m 151 #[.val (.int p1), .val (.int p2), .val (.long q3), .second, .val (.int (6 : Int32)), .val (.int qq), .val (.long lo), .second, .val (.ref b113), .unset, .unset, .unset, .unset, .unset] [])) _
      refine XS.iload X136.here hx rfl (hb hby at_151) rfl ?_
      show Steps p.tables e below (T136.setTop (mkF m 153 #[.val (.int p1), .val (.int p2), .val (.long q3), .second, .val (.int (6 : Int32)), .val (.int qq), .val (.long lo), .second, .val (.ref b113), .unset, .unset, .unset, .unset, .unset] [(.int qq)])) _
      refine XS.i2l X136.here hx rfl (hb hby at_153) rfl ?_
      show Steps p.tables e below (T136.setTop (mkF m 154 #[.val (.int p1), .val (.int p2), .val (.long q3), .second, .val (.int (6 : Int32)), .val (.int qq), .val (.long lo), .second, .val (.ref b113), .unset, .unset, .unset, .unset, .unset] [(.long (qq.toInt64))])) _
      refine XS.iload X136.here hx rfl (hb hby at_154) rfl ?_
      show Steps p.tables e below (T136.setTop (mkF m 156 #[.val (.int p1), .val (.int p2), .val (.long q3), .second, .val (.int (6 : Int32)), .val (.int qq), .val (.long lo), .second, .val (.ref b113), .unset, .unset, .unset, .unset, .unset] [(.int (6 : Int32)), (.long (qq.toInt64))])) _
      refine XS.i2l X136.here hx rfl (hb hby at_156) rfl ?_
      show Steps p.tables e below (T136.setTop (mkF m 157 #[.val (.int p1), .val (.int p2), .val (.long q3), .second, .val (.int (6 : Int32)), .val (.int qq), .val (.long lo), .second, .val (.ref b113), .unset, .unset, .unset, .unset, .unset] [(.long ((6 : Int32).toInt64)), (.long (qq.toInt64))])) _
      refine XS.lmul X136.here hx rfl (hb hby at_157) rfl ?_
      show Steps p.tables e below (T136.setTop (mkF m 158 #[.val (.int p1), .val (.int p2), .val (.long q3), .second, .val (.int (6 : Int32)), .val (.int qq), .val (.long lo), .second, .val (.ref b113), .unset, .unset, .unset, .unset, .unset] [(.long ((qq.toInt64) * ((6 : Int32).toInt64)))])) _
      refine XS.lstore X136.here hx rfl (hb hby at_158) rfl (l' := #[.val (.int p1), .val (.int p2), .val (.long q3), .second, .val (.int (6 : Int32)), .val (.int qq), .val (.long lo), .second, .val (.ref b113), .val (.long ((qq.toInt64) * ((6 : Int32).toInt64))), .second, .unset, .unset, .unset]) rfl ?_
      show Steps p.tables e below (T136.setTop (mkF m 160 #[.val (.int p1), .val (.int p2), .val (.long q3), .second, .val (.int (6 : Int32)), .val (.int qq), .val (.long lo), .second, .val (.ref b113), .val (.long ((qq.toInt64) * ((6 : Int32).toInt64))), .second, .unset, .unset, .unset] [])) _
      refine XS.iconst X136.here hx rfl (hb hby at_160) ?_
      show Steps p.tables e below (T136.setTop (mkF m 161 #[.val (.int p1), .val (.int p2), .val (.long q3), .second, .val (.int (6 : Int32)), .val (.int qq), .val (.long lo), .second, .val (.ref b113), .val (.long ((qq.toInt64) * ((6 : Int32).toInt64))), .second, .unset, .unset, .unset] [(.int (0 : Int32))])) _
      refine XS.istore X136.here hx rfl (hb hby at_161) rfl (l' := #[.val (.int p1), .val (.int p2), .val (.long q3), .second, .val (.int (6 : Int32)), .val (.int qq), .val (.long lo), .second, .val (.ref b113), .val (.long ((qq.toInt64) * ((6 : Int32).toInt64))), .second, .val (.int (0 : Int32)), .unset, .unset]) rfl ?_
      exact kt
    have pre140 : ∀ t, Steps p.tables e below (T136.setTop (mkF m 166 #[.val (.int p1), .val (.int p2), .val (.long q3), .second, .val (.int (6 : Int32)), .val (.int qq), .val (.long lo), .second, .val (.ref b113), .val (.long ((qq.toInt64) * ((6 : Int32).toInt64))), .second, .val (.int (0 : Int32)), .unset, .unset] [(.int (1 : Int32)), (.int (6 : Int32))])) t → Steps p.tables e below (s₁.setTop (entryFrame m #[(.int p1), (.int p2), (.long q3)] maxLocals)) t := fun t kt => by
      refine pre139 t ?_
      show Steps p.tables e below (T136.setTop (mkF m 163 #[.val (.int p1), .val (.int p2), .val (.long q3), .second, .val (.int (6 : Int32)), .val (.int qq), .val (.long lo), .second, .val (.ref b113), .val (.long ((qq.toInt64) * ((6 : Int32).toInt64))), .second, .val (.int (0 : Int32)), .unset, .unset] [])) _
      refine XS.iload X136.here hx rfl (hb hby at_163) rfl ?_
      show Steps p.tables e below (T136.setTop (mkF m 165 #[.val (.int p1), .val (.int p2), .val (.long q3), .second, .val (.int (6 : Int32)), .val (.int qq), .val (.long lo), .second, .val (.ref b113), .val (.long ((qq.toInt64) * ((6 : Int32).toInt64))), .second, .val (.int (0 : Int32)), .unset, .unset] [(.int (6 : Int32))])) _
      refine XS.iconst X136.here hx rfl (hb hby at_165) ?_
      exact kt
    obtain ⟨i1, h_i1, pre142⟩ : ∃ z : Int32, z = (if (1000 : Int64) < ((qq.toInt64) * ((6 : Int32).toInt64)) then (1 : Int32) else (0 : Int32)) ∧ ∀ t, Steps p.tables e below (T136.setTop (mkF m 181 #[.val (.int p1), .val (.int p2), .val (.long q3), .second, .val (.int (6 : Int32)), .val (.int qq), .val (.long lo), .second, .val (.ref b113), .val (.long ((qq.toInt64) * ((6 : Int32).toInt64))), .second, .val (.int z), .unset, .unset] [])) t → Steps p.tables e below (s₁.setTop (entryFrame m #[(.int p1), (.int p2), (.long q3)] maxLocals)) t := by
      by_cases hj175_141 : (1000 : Int64) < ((qq.toInt64) * ((6 : Int32).toInt64))
      · exact ⟨_, by rw [if_pos hj175_141], fun t kt => by
          refine pre140 t ?_
          show Steps p.tables e below (T136.setTop (mkF m 166 #[.val (.int p1), .val (.int p2), .val (.long q3), .second, .val (.int (6 : Int32)), .val (.int qq), .val (.long lo), .second, .val (.ref b113), .val (.long ((qq.toInt64) * ((6 : Int32).toInt64))), .second, .val (.int (0 : Int32)), .unset, .unset] [(.int (1 : Int32)), (.int (6 : Int32))])) _
          refine XS.icmpNo X136.here hx rfl (hb hby at_166) rfl (tlt (by decide : (1 : Int32) < (6 : Int32))).2.2.2 ?_
          show Steps p.tables e below (T136.setTop (mkF m 169 #[.val (.int p1), .val (.int p2), .val (.long q3), .second, .val (.int (6 : Int32)), .val (.int qq), .val (.long lo), .second, .val (.ref b113), .val (.long ((qq.toInt64) * ((6 : Int32).toInt64))), .second, .val (.int (0 : Int32)), .unset, .unset] [])) _
          refine X136.ldc2Long hx hown (mvT hZ (hw _ (List.mem_of_getElem? (i := 11) rfl))) (g := (mkF m 169 #[.val (.int p1), .val (.int p2), .val (.long q3), .second, .val (.int (6 : Int32)), .val (.int qq), .val (.long lo), .second, .val (.ref b113), .val (.long ((qq.toInt64) * ((6 : Int32).toInt64))), .second, .val (.int (0 : Int32)), .unset, .unset] [])) rfl (hb hby at_169) _ ?_
          show Steps p.tables e below (T136.setTop (mkF m 172 #[.val (.int p1), .val (.int p2), .val (.long q3), .second, .val (.int (6 : Int32)), .val (.int qq), .val (.long lo), .second, .val (.ref b113), .val (.long ((qq.toInt64) * ((6 : Int32).toInt64))), .second, .val (.int (0 : Int32)), .unset, .unset] [(.long (1000 : Int64))])) _
          refine XS.lload X136.here hx rfl (hb hby at_172) rfl ?_
          show Steps p.tables e below (T136.setTop (mkF m 174 #[.val (.int p1), .val (.int p2), .val (.long q3), .second, .val (.int (6 : Int32)), .val (.int qq), .val (.long lo), .second, .val (.ref b113), .val (.long ((qq.toInt64) * ((6 : Int32).toInt64))), .second, .val (.int (0 : Int32)), .unset, .unset] [(.long ((qq.toInt64) * ((6 : Int32).toInt64))), (.long (1000 : Int64))])) _
          refine XS.lcmp X136.here hx rfl (hb hby at_174) rfl ?_
          show Steps p.tables e below (T136.setTop (mkF m 175 #[.val (.int p1), .val (.int p2), .val (.long q3), .second, .val (.int (6 : Int32)), .val (.int qq), .val (.long lo), .second, .val (.ref b113), .val (.long ((qq.toInt64) * ((6 : Int32).toInt64))), .second, .val (.int (0 : Int32)), .unset, .unset] [(.int (lcmpW (1000 : Int64) ((qq.toInt64) * ((6 : Int32).toInt64))))])) _
          refine XS.ifNo X136.here hx rfl (hb hby at_175) rfl (own_lgeF hj175_141) ?_
          show Steps p.tables e below (T136.setTop (mkF m 178 #[.val (.int p1), .val (.int p2), .val (.long q3), .second, .val (.int (6 : Int32)), .val (.int qq), .val (.long lo), .second, .val (.ref b113), .val (.long ((qq.toInt64) * ((6 : Int32).toInt64))), .second, .val (.int (0 : Int32)), .unset, .unset] [])) _
          refine XS.iinc X136.here hx rfl (hb hby at_178) rfl (l' := #[.val (.int p1), .val (.int p2), .val (.long q3), .second, .val (.int (6 : Int32)), .val (.int qq), .val (.long lo), .second, .val (.ref b113), .val (.long ((qq.toInt64) * ((6 : Int32).toInt64))), .second, .val (.int (1 : Int32)), .unset, .unset]) rfl ?_
          exact kt⟩
      · exact ⟨_, by rw [if_neg hj175_141], fun t kt => by
          refine pre140 t ?_
          show Steps p.tables e below (T136.setTop (mkF m 166 #[.val (.int p1), .val (.int p2), .val (.long q3), .second, .val (.int (6 : Int32)), .val (.int qq), .val (.long lo), .second, .val (.ref b113), .val (.long ((qq.toInt64) * ((6 : Int32).toInt64))), .second, .val (.int (0 : Int32)), .unset, .unset] [(.int (1 : Int32)), (.int (6 : Int32))])) _
          refine XS.icmpNo X136.here hx rfl (hb hby at_166) rfl (tlt (by decide : (1 : Int32) < (6 : Int32))).2.2.2 ?_
          show Steps p.tables e below (T136.setTop (mkF m 169 #[.val (.int p1), .val (.int p2), .val (.long q3), .second, .val (.int (6 : Int32)), .val (.int qq), .val (.long lo), .second, .val (.ref b113), .val (.long ((qq.toInt64) * ((6 : Int32).toInt64))), .second, .val (.int (0 : Int32)), .unset, .unset] [])) _
          refine X136.ldc2Long hx hown (mvT hZ (hw _ (List.mem_of_getElem? (i := 11) rfl))) (g := (mkF m 169 #[.val (.int p1), .val (.int p2), .val (.long q3), .second, .val (.int (6 : Int32)), .val (.int qq), .val (.long lo), .second, .val (.ref b113), .val (.long ((qq.toInt64) * ((6 : Int32).toInt64))), .second, .val (.int (0 : Int32)), .unset, .unset] [])) rfl (hb hby at_169) _ ?_
          show Steps p.tables e below (T136.setTop (mkF m 172 #[.val (.int p1), .val (.int p2), .val (.long q3), .second, .val (.int (6 : Int32)), .val (.int qq), .val (.long lo), .second, .val (.ref b113), .val (.long ((qq.toInt64) * ((6 : Int32).toInt64))), .second, .val (.int (0 : Int32)), .unset, .unset] [(.long (1000 : Int64))])) _
          refine XS.lload X136.here hx rfl (hb hby at_172) rfl ?_
          show Steps p.tables e below (T136.setTop (mkF m 174 #[.val (.int p1), .val (.int p2), .val (.long q3), .second, .val (.int (6 : Int32)), .val (.int qq), .val (.long lo), .second, .val (.ref b113), .val (.long ((qq.toInt64) * ((6 : Int32).toInt64))), .second, .val (.int (0 : Int32)), .unset, .unset] [(.long ((qq.toInt64) * ((6 : Int32).toInt64))), (.long (1000 : Int64))])) _
          refine XS.lcmp X136.here hx rfl (hb hby at_174) rfl ?_
          show Steps p.tables e below (T136.setTop (mkF m 175 #[.val (.int p1), .val (.int p2), .val (.long q3), .second, .val (.int (6 : Int32)), .val (.int qq), .val (.long lo), .second, .val (.ref b113), .val (.long ((qq.toInt64) * ((6 : Int32).toInt64))), .second, .val (.int (0 : Int32)), .unset, .unset] [(.int (lcmpW (1000 : Int64) ((qq.toInt64) * ((6 : Int32).toInt64))))])) _
          refine XS.ifYes X136.here hx rfl (pc0 := 175) (pc' := 181) rfl (hb hby at_175) rfl (own_lgeT hj175_141) (by decide) (by decide) ?_
          exact kt⟩
    have pre143 : ∀ t, Steps p.tables e below (T136.setTop (mkF m 184 #[.val (.int p1), .val (.int p2), .val (.long q3), .second, .val (.int (6 : Int32)), .val (.int qq), .val (.long lo), .second, .val (.ref b113), .val (.long ((qq.toInt64) * ((6 : Int32).toInt64))), .second, .val (.int i1), .unset, .unset] [(.int (2 : Int32)), (.int (6 : Int32))])) t → Steps p.tables e below (s₁.setTop (entryFrame m #[(.int p1), (.int p2), (.long q3)] maxLocals)) t := fun t kt => by
      refine pre142 t ?_
      show Steps p.tables e below (T136.setTop (mkF m 181 #[.val (.int p1), .val (.int p2), .val (.long q3), .second, .val (.int (6 : Int32)), .val (.int qq), .val (.long lo), .second, .val (.ref b113), .val (.long ((qq.toInt64) * ((6 : Int32).toInt64))), .second, .val (.int i1), .unset, .unset] [])) _
      refine XS.iload X136.here hx rfl (hb hby at_181) rfl ?_
      show Steps p.tables e below (T136.setTop (mkF m 183 #[.val (.int p1), .val (.int p2), .val (.long q3), .second, .val (.int (6 : Int32)), .val (.int qq), .val (.long lo), .second, .val (.ref b113), .val (.long ((qq.toInt64) * ((6 : Int32).toInt64))), .second, .val (.int i1), .unset, .unset] [(.int (6 : Int32))])) _
      refine XS.iconst X136.here hx rfl (hb hby at_183) ?_
      exact kt
    obtain ⟨i2, h_i2, pre145⟩ : ∃ z : Int32, z = (if (2000 : Int64) < ((qq.toInt64) * ((6 : Int32).toInt64)) then (i1 + (1 : Int32)) else i1) ∧ ∀ t, Steps p.tables e below (T136.setTop (mkF m 199 #[.val (.int p1), .val (.int p2), .val (.long q3), .second, .val (.int (6 : Int32)), .val (.int qq), .val (.long lo), .second, .val (.ref b113), .val (.long ((qq.toInt64) * ((6 : Int32).toInt64))), .second, .val (.int z), .unset, .unset] [])) t → Steps p.tables e below (s₁.setTop (entryFrame m #[(.int p1), (.int p2), (.long q3)] maxLocals)) t := by
      by_cases hj193_144 : (2000 : Int64) < ((qq.toInt64) * ((6 : Int32).toInt64))
      · exact ⟨_, by rw [if_pos hj193_144], fun t kt => by
          refine pre143 t ?_
          show Steps p.tables e below (T136.setTop (mkF m 184 #[.val (.int p1), .val (.int p2), .val (.long q3), .second, .val (.int (6 : Int32)), .val (.int qq), .val (.long lo), .second, .val (.ref b113), .val (.long ((qq.toInt64) * ((6 : Int32).toInt64))), .second, .val (.int i1), .unset, .unset] [(.int (2 : Int32)), (.int (6 : Int32))])) _
          refine XS.icmpNo X136.here hx rfl (hb hby at_184) rfl (tlt (by decide : (2 : Int32) < (6 : Int32))).2.2.2 ?_
          show Steps p.tables e below (T136.setTop (mkF m 187 #[.val (.int p1), .val (.int p2), .val (.long q3), .second, .val (.int (6 : Int32)), .val (.int qq), .val (.long lo), .second, .val (.ref b113), .val (.long ((qq.toInt64) * ((6 : Int32).toInt64))), .second, .val (.int i1), .unset, .unset] [])) _
          refine X136.ldc2Long hx hown (mvT hZ (hw _ (List.mem_of_getElem? (i := 12) rfl))) (g := (mkF m 187 #[.val (.int p1), .val (.int p2), .val (.long q3), .second, .val (.int (6 : Int32)), .val (.int qq), .val (.long lo), .second, .val (.ref b113), .val (.long ((qq.toInt64) * ((6 : Int32).toInt64))), .second, .val (.int i1), .unset, .unset] [])) rfl (hb hby at_187) _ ?_
          show Steps p.tables e below (T136.setTop (mkF m 190 #[.val (.int p1), .val (.int p2), .val (.long q3), .second, .val (.int (6 : Int32)), .val (.int qq), .val (.long lo), .second, .val (.ref b113), .val (.long ((qq.toInt64) * ((6 : Int32).toInt64))), .second, .val (.int i1), .unset, .unset] [(.long (2000 : Int64))])) _
          refine XS.lload X136.here hx rfl (hb hby at_190) rfl ?_
          show Steps p.tables e below (T136.setTop (mkF m 192 #[.val (.int p1), .val (.int p2), .val (.long q3), .second, .val (.int (6 : Int32)), .val (.int qq), .val (.long lo), .second, .val (.ref b113), .val (.long ((qq.toInt64) * ((6 : Int32).toInt64))), .second, .val (.int i1), .unset, .unset] [(.long ((qq.toInt64) * ((6 : Int32).toInt64))), (.long (2000 : Int64))])) _
          refine XS.lcmp X136.here hx rfl (hb hby at_192) rfl ?_
          show Steps p.tables e below (T136.setTop (mkF m 193 #[.val (.int p1), .val (.int p2), .val (.long q3), .second, .val (.int (6 : Int32)), .val (.int qq), .val (.long lo), .second, .val (.ref b113), .val (.long ((qq.toInt64) * ((6 : Int32).toInt64))), .second, .val (.int i1), .unset, .unset] [(.int (lcmpW (2000 : Int64) ((qq.toInt64) * ((6 : Int32).toInt64))))])) _
          refine XS.ifNo X136.here hx rfl (hb hby at_193) rfl (own_lgeF hj193_144) ?_
          show Steps p.tables e below (T136.setTop (mkF m 196 #[.val (.int p1), .val (.int p2), .val (.long q3), .second, .val (.int (6 : Int32)), .val (.int qq), .val (.long lo), .second, .val (.ref b113), .val (.long ((qq.toInt64) * ((6 : Int32).toInt64))), .second, .val (.int i1), .unset, .unset] [])) _
          refine XS.iinc X136.here hx rfl (hb hby at_196) rfl (l' := #[.val (.int p1), .val (.int p2), .val (.long q3), .second, .val (.int (6 : Int32)), .val (.int qq), .val (.long lo), .second, .val (.ref b113), .val (.long ((qq.toInt64) * ((6 : Int32).toInt64))), .second, .val (.int (i1 + (1 : Int32))), .unset, .unset]) rfl ?_
          exact kt⟩
      · exact ⟨_, by rw [if_neg hj193_144], fun t kt => by
          refine pre143 t ?_
          show Steps p.tables e below (T136.setTop (mkF m 184 #[.val (.int p1), .val (.int p2), .val (.long q3), .second, .val (.int (6 : Int32)), .val (.int qq), .val (.long lo), .second, .val (.ref b113), .val (.long ((qq.toInt64) * ((6 : Int32).toInt64))), .second, .val (.int i1), .unset, .unset] [(.int (2 : Int32)), (.int (6 : Int32))])) _
          refine XS.icmpNo X136.here hx rfl (hb hby at_184) rfl (tlt (by decide : (2 : Int32) < (6 : Int32))).2.2.2 ?_
          show Steps p.tables e below (T136.setTop (mkF m 187 #[.val (.int p1), .val (.int p2), .val (.long q3), .second, .val (.int (6 : Int32)), .val (.int qq), .val (.long lo), .second, .val (.ref b113), .val (.long ((qq.toInt64) * ((6 : Int32).toInt64))), .second, .val (.int i1), .unset, .unset] [])) _
          refine X136.ldc2Long hx hown (mvT hZ (hw _ (List.mem_of_getElem? (i := 12) rfl))) (g := (mkF m 187 #[.val (.int p1), .val (.int p2), .val (.long q3), .second, .val (.int (6 : Int32)), .val (.int qq), .val (.long lo), .second, .val (.ref b113), .val (.long ((qq.toInt64) * ((6 : Int32).toInt64))), .second, .val (.int i1), .unset, .unset] [])) rfl (hb hby at_187) _ ?_
          show Steps p.tables e below (T136.setTop (mkF m 190 #[.val (.int p1), .val (.int p2), .val (.long q3), .second, .val (.int (6 : Int32)), .val (.int qq), .val (.long lo), .second, .val (.ref b113), .val (.long ((qq.toInt64) * ((6 : Int32).toInt64))), .second, .val (.int i1), .unset, .unset] [(.long (2000 : Int64))])) _
          refine XS.lload X136.here hx rfl (hb hby at_190) rfl ?_
          show Steps p.tables e below (T136.setTop (mkF m 192 #[.val (.int p1), .val (.int p2), .val (.long q3), .second, .val (.int (6 : Int32)), .val (.int qq), .val (.long lo), .second, .val (.ref b113), .val (.long ((qq.toInt64) * ((6 : Int32).toInt64))), .second, .val (.int i1), .unset, .unset] [(.long ((qq.toInt64) * ((6 : Int32).toInt64))), (.long (2000 : Int64))])) _
          refine XS.lcmp X136.here hx rfl (hb hby at_192) rfl ?_
          show Steps p.tables e below (T136.setTop (mkF m 193 #[.val (.int p1), .val (.int p2), .val (.long q3), .second, .val (.int (6 : Int32)), .val (.int qq), .val (.long lo), .second, .val (.ref b113), .val (.long ((qq.toInt64) * ((6 : Int32).toInt64))), .second, .val (.int i1), .unset, .unset] [(.int (lcmpW (2000 : Int64) ((qq.toInt64) * ((6 : Int32).toInt64))))])) _
          refine XS.ifYes X136.here hx rfl (pc0 := 193) (pc' := 199) rfl (hb hby at_193) rfl (own_lgeT hj193_144) (by decide) (by decide) ?_
          exact kt⟩
    have pre146 : ∀ t, Steps p.tables e below (T136.setTop (mkF m 202 #[.val (.int p1), .val (.int p2), .val (.long q3), .second, .val (.int (6 : Int32)), .val (.int qq), .val (.long lo), .second, .val (.ref b113), .val (.long ((qq.toInt64) * ((6 : Int32).toInt64))), .second, .val (.int i2), .unset, .unset] [(.int (3 : Int32)), (.int (6 : Int32))])) t → Steps p.tables e below (s₁.setTop (entryFrame m #[(.int p1), (.int p2), (.long q3)] maxLocals)) t := fun t kt => by
      refine pre145 t ?_
      show Steps p.tables e below (T136.setTop (mkF m 199 #[.val (.int p1), .val (.int p2), .val (.long q3), .second, .val (.int (6 : Int32)), .val (.int qq), .val (.long lo), .second, .val (.ref b113), .val (.long ((qq.toInt64) * ((6 : Int32).toInt64))), .second, .val (.int i2), .unset, .unset] [])) _
      refine XS.iload X136.here hx rfl (hb hby at_199) rfl ?_
      show Steps p.tables e below (T136.setTop (mkF m 201 #[.val (.int p1), .val (.int p2), .val (.long q3), .second, .val (.int (6 : Int32)), .val (.int qq), .val (.long lo), .second, .val (.ref b113), .val (.long ((qq.toInt64) * ((6 : Int32).toInt64))), .second, .val (.int i2), .unset, .unset] [(.int (6 : Int32))])) _
      refine XS.iconst X136.here hx rfl (hb hby at_201) ?_
      exact kt
    obtain ⟨i3, h_i3, pre148⟩ : ∃ z : Int32, z = (if (3000 : Int64) < ((qq.toInt64) * ((6 : Int32).toInt64)) then (i2 + (1 : Int32)) else i2) ∧ ∀ t, Steps p.tables e below (T136.setTop (mkF m 217 #[.val (.int p1), .val (.int p2), .val (.long q3), .second, .val (.int (6 : Int32)), .val (.int qq), .val (.long lo), .second, .val (.ref b113), .val (.long ((qq.toInt64) * ((6 : Int32).toInt64))), .second, .val (.int z), .unset, .unset] [])) t → Steps p.tables e below (s₁.setTop (entryFrame m #[(.int p1), (.int p2), (.long q3)] maxLocals)) t := by
      by_cases hj211_147 : (3000 : Int64) < ((qq.toInt64) * ((6 : Int32).toInt64))
      · exact ⟨_, by rw [if_pos hj211_147], fun t kt => by
          refine pre146 t ?_
          show Steps p.tables e below (T136.setTop (mkF m 202 #[.val (.int p1), .val (.int p2), .val (.long q3), .second, .val (.int (6 : Int32)), .val (.int qq), .val (.long lo), .second, .val (.ref b113), .val (.long ((qq.toInt64) * ((6 : Int32).toInt64))), .second, .val (.int i2), .unset, .unset] [(.int (3 : Int32)), (.int (6 : Int32))])) _
          refine XS.icmpNo X136.here hx rfl (hb hby at_202) rfl (tlt (by decide : (3 : Int32) < (6 : Int32))).2.2.2 ?_
          show Steps p.tables e below (T136.setTop (mkF m 205 #[.val (.int p1), .val (.int p2), .val (.long q3), .second, .val (.int (6 : Int32)), .val (.int qq), .val (.long lo), .second, .val (.ref b113), .val (.long ((qq.toInt64) * ((6 : Int32).toInt64))), .second, .val (.int i2), .unset, .unset] [])) _
          refine X136.ldc2Long hx hown (mvT hZ (hw _ (List.mem_of_getElem? (i := 13) rfl))) (g := (mkF m 205 #[.val (.int p1), .val (.int p2), .val (.long q3), .second, .val (.int (6 : Int32)), .val (.int qq), .val (.long lo), .second, .val (.ref b113), .val (.long ((qq.toInt64) * ((6 : Int32).toInt64))), .second, .val (.int i2), .unset, .unset] [])) rfl (hb hby at_205) _ ?_
          show Steps p.tables e below (T136.setTop (mkF m 208 #[.val (.int p1), .val (.int p2), .val (.long q3), .second, .val (.int (6 : Int32)), .val (.int qq), .val (.long lo), .second, .val (.ref b113), .val (.long ((qq.toInt64) * ((6 : Int32).toInt64))), .second, .val (.int i2), .unset, .unset] [(.long (3000 : Int64))])) _
          refine XS.lload X136.here hx rfl (hb hby at_208) rfl ?_
          show Steps p.tables e below (T136.setTop (mkF m 210 #[.val (.int p1), .val (.int p2), .val (.long q3), .second, .val (.int (6 : Int32)), .val (.int qq), .val (.long lo), .second, .val (.ref b113), .val (.long ((qq.toInt64) * ((6 : Int32).toInt64))), .second, .val (.int i2), .unset, .unset] [(.long ((qq.toInt64) * ((6 : Int32).toInt64))), (.long (3000 : Int64))])) _
          refine XS.lcmp X136.here hx rfl (hb hby at_210) rfl ?_
          show Steps p.tables e below (T136.setTop (mkF m 211 #[.val (.int p1), .val (.int p2), .val (.long q3), .second, .val (.int (6 : Int32)), .val (.int qq), .val (.long lo), .second, .val (.ref b113), .val (.long ((qq.toInt64) * ((6 : Int32).toInt64))), .second, .val (.int i2), .unset, .unset] [(.int (lcmpW (3000 : Int64) ((qq.toInt64) * ((6 : Int32).toInt64))))])) _
          refine XS.ifNo X136.here hx rfl (hb hby at_211) rfl (own_lgeF hj211_147) ?_
          show Steps p.tables e below (T136.setTop (mkF m 214 #[.val (.int p1), .val (.int p2), .val (.long q3), .second, .val (.int (6 : Int32)), .val (.int qq), .val (.long lo), .second, .val (.ref b113), .val (.long ((qq.toInt64) * ((6 : Int32).toInt64))), .second, .val (.int i2), .unset, .unset] [])) _
          refine XS.iinc X136.here hx rfl (hb hby at_214) rfl (l' := #[.val (.int p1), .val (.int p2), .val (.long q3), .second, .val (.int (6 : Int32)), .val (.int qq), .val (.long lo), .second, .val (.ref b113), .val (.long ((qq.toInt64) * ((6 : Int32).toInt64))), .second, .val (.int (i2 + (1 : Int32))), .unset, .unset]) rfl ?_
          exact kt⟩
      · exact ⟨_, by rw [if_neg hj211_147], fun t kt => by
          refine pre146 t ?_
          show Steps p.tables e below (T136.setTop (mkF m 202 #[.val (.int p1), .val (.int p2), .val (.long q3), .second, .val (.int (6 : Int32)), .val (.int qq), .val (.long lo), .second, .val (.ref b113), .val (.long ((qq.toInt64) * ((6 : Int32).toInt64))), .second, .val (.int i2), .unset, .unset] [(.int (3 : Int32)), (.int (6 : Int32))])) _
          refine XS.icmpNo X136.here hx rfl (hb hby at_202) rfl (tlt (by decide : (3 : Int32) < (6 : Int32))).2.2.2 ?_
          show Steps p.tables e below (T136.setTop (mkF m 205 #[.val (.int p1), .val (.int p2), .val (.long q3), .second, .val (.int (6 : Int32)), .val (.int qq), .val (.long lo), .second, .val (.ref b113), .val (.long ((qq.toInt64) * ((6 : Int32).toInt64))), .second, .val (.int i2), .unset, .unset] [])) _
          refine X136.ldc2Long hx hown (mvT hZ (hw _ (List.mem_of_getElem? (i := 13) rfl))) (g := (mkF m 205 #[.val (.int p1), .val (.int p2), .val (.long q3), .second, .val (.int (6 : Int32)), .val (.int qq), .val (.long lo), .second, .val (.ref b113), .val (.long ((qq.toInt64) * ((6 : Int32).toInt64))), .second, .val (.int i2), .unset, .unset] [])) rfl (hb hby at_205) _ ?_
          show Steps p.tables e below (T136.setTop (mkF m 208 #[.val (.int p1), .val (.int p2), .val (.long q3), .second, .val (.int (6 : Int32)), .val (.int qq), .val (.long lo), .second, .val (.ref b113), .val (.long ((qq.toInt64) * ((6 : Int32).toInt64))), .second, .val (.int i2), .unset, .unset] [(.long (3000 : Int64))])) _
          refine XS.lload X136.here hx rfl (hb hby at_208) rfl ?_
          show Steps p.tables e below (T136.setTop (mkF m 210 #[.val (.int p1), .val (.int p2), .val (.long q3), .second, .val (.int (6 : Int32)), .val (.int qq), .val (.long lo), .second, .val (.ref b113), .val (.long ((qq.toInt64) * ((6 : Int32).toInt64))), .second, .val (.int i2), .unset, .unset] [(.long ((qq.toInt64) * ((6 : Int32).toInt64))), (.long (3000 : Int64))])) _
          refine XS.lcmp X136.here hx rfl (hb hby at_210) rfl ?_
          show Steps p.tables e below (T136.setTop (mkF m 211 #[.val (.int p1), .val (.int p2), .val (.long q3), .second, .val (.int (6 : Int32)), .val (.int qq), .val (.long lo), .second, .val (.ref b113), .val (.long ((qq.toInt64) * ((6 : Int32).toInt64))), .second, .val (.int i2), .unset, .unset] [(.int (lcmpW (3000 : Int64) ((qq.toInt64) * ((6 : Int32).toInt64))))])) _
          refine XS.ifYes X136.here hx rfl (pc0 := 211) (pc' := 217) rfl (hb hby at_211) rfl (own_lgeT hj211_147) (by decide) (by decide) ?_
          exact kt⟩
    have pre149 : ∀ t, Steps p.tables e below (T136.setTop (mkF m 220 #[.val (.int p1), .val (.int p2), .val (.long q3), .second, .val (.int (6 : Int32)), .val (.int qq), .val (.long lo), .second, .val (.ref b113), .val (.long ((qq.toInt64) * ((6 : Int32).toInt64))), .second, .val (.int i3), .unset, .unset] [(.int (4 : Int32)), (.int (6 : Int32))])) t → Steps p.tables e below (s₁.setTop (entryFrame m #[(.int p1), (.int p2), (.long q3)] maxLocals)) t := fun t kt => by
      refine pre148 t ?_
      show Steps p.tables e below (T136.setTop (mkF m 217 #[.val (.int p1), .val (.int p2), .val (.long q3), .second, .val (.int (6 : Int32)), .val (.int qq), .val (.long lo), .second, .val (.ref b113), .val (.long ((qq.toInt64) * ((6 : Int32).toInt64))), .second, .val (.int i3), .unset, .unset] [])) _
      refine XS.iload X136.here hx rfl (hb hby at_217) rfl ?_
      show Steps p.tables e below (T136.setTop (mkF m 219 #[.val (.int p1), .val (.int p2), .val (.long q3), .second, .val (.int (6 : Int32)), .val (.int qq), .val (.long lo), .second, .val (.ref b113), .val (.long ((qq.toInt64) * ((6 : Int32).toInt64))), .second, .val (.int i3), .unset, .unset] [(.int (6 : Int32))])) _
      refine XS.iconst X136.here hx rfl (hb hby at_219) ?_
      exact kt
    obtain ⟨i4, h_i4, pre151⟩ : ∃ z : Int32, z = (if (4000 : Int64) < ((qq.toInt64) * ((6 : Int32).toInt64)) then (i3 + (1 : Int32)) else i3) ∧ ∀ t, Steps p.tables e below (T136.setTop (mkF m 235 #[.val (.int p1), .val (.int p2), .val (.long q3), .second, .val (.int (6 : Int32)), .val (.int qq), .val (.long lo), .second, .val (.ref b113), .val (.long ((qq.toInt64) * ((6 : Int32).toInt64))), .second, .val (.int z), .unset, .unset] [])) t → Steps p.tables e below (s₁.setTop (entryFrame m #[(.int p1), (.int p2), (.long q3)] maxLocals)) t := by
      by_cases hj229_150 : (4000 : Int64) < ((qq.toInt64) * ((6 : Int32).toInt64))
      · exact ⟨_, by rw [if_pos hj229_150], fun t kt => by
          refine pre149 t ?_
          show Steps p.tables e below (T136.setTop (mkF m 220 #[.val (.int p1), .val (.int p2), .val (.long q3), .second, .val (.int (6 : Int32)), .val (.int qq), .val (.long lo), .second, .val (.ref b113), .val (.long ((qq.toInt64) * ((6 : Int32).toInt64))), .second, .val (.int i3), .unset, .unset] [(.int (4 : Int32)), (.int (6 : Int32))])) _
          refine XS.icmpNo X136.here hx rfl (hb hby at_220) rfl (tlt (by decide : (4 : Int32) < (6 : Int32))).2.2.2 ?_
          show Steps p.tables e below (T136.setTop (mkF m 223 #[.val (.int p1), .val (.int p2), .val (.long q3), .second, .val (.int (6 : Int32)), .val (.int qq), .val (.long lo), .second, .val (.ref b113), .val (.long ((qq.toInt64) * ((6 : Int32).toInt64))), .second, .val (.int i3), .unset, .unset] [])) _
          refine X136.ldc2Long hx hown (mvT hZ (hw _ (List.mem_of_getElem? (i := 14) rfl))) (g := (mkF m 223 #[.val (.int p1), .val (.int p2), .val (.long q3), .second, .val (.int (6 : Int32)), .val (.int qq), .val (.long lo), .second, .val (.ref b113), .val (.long ((qq.toInt64) * ((6 : Int32).toInt64))), .second, .val (.int i3), .unset, .unset] [])) rfl (hb hby at_223) _ ?_
          show Steps p.tables e below (T136.setTop (mkF m 226 #[.val (.int p1), .val (.int p2), .val (.long q3), .second, .val (.int (6 : Int32)), .val (.int qq), .val (.long lo), .second, .val (.ref b113), .val (.long ((qq.toInt64) * ((6 : Int32).toInt64))), .second, .val (.int i3), .unset, .unset] [(.long (4000 : Int64))])) _
          refine XS.lload X136.here hx rfl (hb hby at_226) rfl ?_
          show Steps p.tables e below (T136.setTop (mkF m 228 #[.val (.int p1), .val (.int p2), .val (.long q3), .second, .val (.int (6 : Int32)), .val (.int qq), .val (.long lo), .second, .val (.ref b113), .val (.long ((qq.toInt64) * ((6 : Int32).toInt64))), .second, .val (.int i3), .unset, .unset] [(.long ((qq.toInt64) * ((6 : Int32).toInt64))), (.long (4000 : Int64))])) _
          refine XS.lcmp X136.here hx rfl (hb hby at_228) rfl ?_
          show Steps p.tables e below (T136.setTop (mkF m 229 #[.val (.int p1), .val (.int p2), .val (.long q3), .second, .val (.int (6 : Int32)), .val (.int qq), .val (.long lo), .second, .val (.ref b113), .val (.long ((qq.toInt64) * ((6 : Int32).toInt64))), .second, .val (.int i3), .unset, .unset] [(.int (lcmpW (4000 : Int64) ((qq.toInt64) * ((6 : Int32).toInt64))))])) _
          refine XS.ifNo X136.here hx rfl (hb hby at_229) rfl (own_lgeF hj229_150) ?_
          show Steps p.tables e below (T136.setTop (mkF m 232 #[.val (.int p1), .val (.int p2), .val (.long q3), .second, .val (.int (6 : Int32)), .val (.int qq), .val (.long lo), .second, .val (.ref b113), .val (.long ((qq.toInt64) * ((6 : Int32).toInt64))), .second, .val (.int i3), .unset, .unset] [])) _
          refine XS.iinc X136.here hx rfl (hb hby at_232) rfl (l' := #[.val (.int p1), .val (.int p2), .val (.long q3), .second, .val (.int (6 : Int32)), .val (.int qq), .val (.long lo), .second, .val (.ref b113), .val (.long ((qq.toInt64) * ((6 : Int32).toInt64))), .second, .val (.int (i3 + (1 : Int32))), .unset, .unset]) rfl ?_
          exact kt⟩
      · exact ⟨_, by rw [if_neg hj229_150], fun t kt => by
          refine pre149 t ?_
          show Steps p.tables e below (T136.setTop (mkF m 220 #[.val (.int p1), .val (.int p2), .val (.long q3), .second, .val (.int (6 : Int32)), .val (.int qq), .val (.long lo), .second, .val (.ref b113), .val (.long ((qq.toInt64) * ((6 : Int32).toInt64))), .second, .val (.int i3), .unset, .unset] [(.int (4 : Int32)), (.int (6 : Int32))])) _
          refine XS.icmpNo X136.here hx rfl (hb hby at_220) rfl (tlt (by decide : (4 : Int32) < (6 : Int32))).2.2.2 ?_
          show Steps p.tables e below (T136.setTop (mkF m 223 #[.val (.int p1), .val (.int p2), .val (.long q3), .second, .val (.int (6 : Int32)), .val (.int qq), .val (.long lo), .second, .val (.ref b113), .val (.long ((qq.toInt64) * ((6 : Int32).toInt64))), .second, .val (.int i3), .unset, .unset] [])) _
          refine X136.ldc2Long hx hown (mvT hZ (hw _ (List.mem_of_getElem? (i := 14) rfl))) (g := (mkF m 223 #[.val (.int p1), .val (.int p2), .val (.long q3), .second, .val (.int (6 : Int32)), .val (.int qq), .val (.long lo), .second, .val (.ref b113), .val (.long ((qq.toInt64) * ((6 : Int32).toInt64))), .second, .val (.int i3), .unset, .unset] [])) rfl (hb hby at_223) _ ?_
          show Steps p.tables e below (T136.setTop (mkF m 226 #[.val (.int p1), .val (.int p2), .val (.long q3), .second, .val (.int (6 : Int32)), .val (.int qq), .val (.long lo), .second, .val (.ref b113), .val (.long ((qq.toInt64) * ((6 : Int32).toInt64))), .second, .val (.int i3), .unset, .unset] [(.long (4000 : Int64))])) _
          refine XS.lload X136.here hx rfl (hb hby at_226) rfl ?_
          show Steps p.tables e below (T136.setTop (mkF m 228 #[.val (.int p1), .val (.int p2), .val (.long q3), .second, .val (.int (6 : Int32)), .val (.int qq), .val (.long lo), .second, .val (.ref b113), .val (.long ((qq.toInt64) * ((6 : Int32).toInt64))), .second, .val (.int i3), .unset, .unset] [(.long ((qq.toInt64) * ((6 : Int32).toInt64))), (.long (4000 : Int64))])) _
          refine XS.lcmp X136.here hx rfl (hb hby at_228) rfl ?_
          show Steps p.tables e below (T136.setTop (mkF m 229 #[.val (.int p1), .val (.int p2), .val (.long q3), .second, .val (.int (6 : Int32)), .val (.int qq), .val (.long lo), .second, .val (.ref b113), .val (.long ((qq.toInt64) * ((6 : Int32).toInt64))), .second, .val (.int i3), .unset, .unset] [(.int (lcmpW (4000 : Int64) ((qq.toInt64) * ((6 : Int32).toInt64))))])) _
          refine XS.ifYes X136.here hx rfl (pc0 := 229) (pc' := 235) rfl (hb hby at_229) rfl (own_lgeT hj229_150) (by decide) (by decide) ?_
          exact kt⟩
    have pre152 : ∀ t, Steps p.tables e below (T136.setTop (mkF m 238 #[.val (.int p1), .val (.int p2), .val (.long q3), .second, .val (.int (6 : Int32)), .val (.int qq), .val (.long lo), .second, .val (.ref b113), .val (.long ((qq.toInt64) * ((6 : Int32).toInt64))), .second, .val (.int i4), .unset, .unset] [(.int (5 : Int32)), (.int (6 : Int32))])) t → Steps p.tables e below (s₁.setTop (entryFrame m #[(.int p1), (.int p2), (.long q3)] maxLocals)) t := fun t kt => by
      refine pre151 t ?_
      show Steps p.tables e below (T136.setTop (mkF m 235 #[.val (.int p1), .val (.int p2), .val (.long q3), .second, .val (.int (6 : Int32)), .val (.int qq), .val (.long lo), .second, .val (.ref b113), .val (.long ((qq.toInt64) * ((6 : Int32).toInt64))), .second, .val (.int i4), .unset, .unset] [])) _
      refine XS.iload X136.here hx rfl (hb hby at_235) rfl ?_
      show Steps p.tables e below (T136.setTop (mkF m 237 #[.val (.int p1), .val (.int p2), .val (.long q3), .second, .val (.int (6 : Int32)), .val (.int qq), .val (.long lo), .second, .val (.ref b113), .val (.long ((qq.toInt64) * ((6 : Int32).toInt64))), .second, .val (.int i4), .unset, .unset] [(.int (6 : Int32))])) _
      refine XS.iconst X136.here hx rfl (hb hby at_237) ?_
      exact kt
    obtain ⟨i5, h_i5, pre154⟩ : ∃ z : Int32, z = (if (5000 : Int64) < ((qq.toInt64) * ((6 : Int32).toInt64)) then (i4 + (1 : Int32)) else i4) ∧ ∀ t, Steps p.tables e below (T136.setTop (mkF m 253 #[.val (.int p1), .val (.int p2), .val (.long q3), .second, .val (.int (6 : Int32)), .val (.int qq), .val (.long lo), .second, .val (.ref b113), .val (.long ((qq.toInt64) * ((6 : Int32).toInt64))), .second, .val (.int z), .unset, .unset] [])) t → Steps p.tables e below (s₁.setTop (entryFrame m #[(.int p1), (.int p2), (.long q3)] maxLocals)) t := by
      by_cases hj247_153 : (5000 : Int64) < ((qq.toInt64) * ((6 : Int32).toInt64))
      · exact ⟨_, by rw [if_pos hj247_153], fun t kt => by
          refine pre152 t ?_
          show Steps p.tables e below (T136.setTop (mkF m 238 #[.val (.int p1), .val (.int p2), .val (.long q3), .second, .val (.int (6 : Int32)), .val (.int qq), .val (.long lo), .second, .val (.ref b113), .val (.long ((qq.toInt64) * ((6 : Int32).toInt64))), .second, .val (.int i4), .unset, .unset] [(.int (5 : Int32)), (.int (6 : Int32))])) _
          refine XS.icmpNo X136.here hx rfl (hb hby at_238) rfl (tlt (by decide : (5 : Int32) < (6 : Int32))).2.2.2 ?_
          show Steps p.tables e below (T136.setTop (mkF m 241 #[.val (.int p1), .val (.int p2), .val (.long q3), .second, .val (.int (6 : Int32)), .val (.int qq), .val (.long lo), .second, .val (.ref b113), .val (.long ((qq.toInt64) * ((6 : Int32).toInt64))), .second, .val (.int i4), .unset, .unset] [])) _
          refine X136.ldc2Long hx hown (mvT hZ (hw _ (List.mem_of_getElem? (i := 18) rfl))) (g := (mkF m 241 #[.val (.int p1), .val (.int p2), .val (.long q3), .second, .val (.int (6 : Int32)), .val (.int qq), .val (.long lo), .second, .val (.ref b113), .val (.long ((qq.toInt64) * ((6 : Int32).toInt64))), .second, .val (.int i4), .unset, .unset] [])) rfl (hb hby at_241) _ ?_
          show Steps p.tables e below (T136.setTop (mkF m 244 #[.val (.int p1), .val (.int p2), .val (.long q3), .second, .val (.int (6 : Int32)), .val (.int qq), .val (.long lo), .second, .val (.ref b113), .val (.long ((qq.toInt64) * ((6 : Int32).toInt64))), .second, .val (.int i4), .unset, .unset] [(.long (5000 : Int64))])) _
          refine XS.lload X136.here hx rfl (hb hby at_244) rfl ?_
          show Steps p.tables e below (T136.setTop (mkF m 246 #[.val (.int p1), .val (.int p2), .val (.long q3), .second, .val (.int (6 : Int32)), .val (.int qq), .val (.long lo), .second, .val (.ref b113), .val (.long ((qq.toInt64) * ((6 : Int32).toInt64))), .second, .val (.int i4), .unset, .unset] [(.long ((qq.toInt64) * ((6 : Int32).toInt64))), (.long (5000 : Int64))])) _
          refine XS.lcmp X136.here hx rfl (hb hby at_246) rfl ?_
          show Steps p.tables e below (T136.setTop (mkF m 247 #[.val (.int p1), .val (.int p2), .val (.long q3), .second, .val (.int (6 : Int32)), .val (.int qq), .val (.long lo), .second, .val (.ref b113), .val (.long ((qq.toInt64) * ((6 : Int32).toInt64))), .second, .val (.int i4), .unset, .unset] [(.int (lcmpW (5000 : Int64) ((qq.toInt64) * ((6 : Int32).toInt64))))])) _
          refine XS.ifNo X136.here hx rfl (hb hby at_247) rfl (own_lgeF hj247_153) ?_
          show Steps p.tables e below (T136.setTop (mkF m 250 #[.val (.int p1), .val (.int p2), .val (.long q3), .second, .val (.int (6 : Int32)), .val (.int qq), .val (.long lo), .second, .val (.ref b113), .val (.long ((qq.toInt64) * ((6 : Int32).toInt64))), .second, .val (.int i4), .unset, .unset] [])) _
          refine XS.iinc X136.here hx rfl (hb hby at_250) rfl (l' := #[.val (.int p1), .val (.int p2), .val (.long q3), .second, .val (.int (6 : Int32)), .val (.int qq), .val (.long lo), .second, .val (.ref b113), .val (.long ((qq.toInt64) * ((6 : Int32).toInt64))), .second, .val (.int (i4 + (1 : Int32))), .unset, .unset]) rfl ?_
          exact kt⟩
      · exact ⟨_, by rw [if_neg hj247_153], fun t kt => by
          refine pre152 t ?_
          show Steps p.tables e below (T136.setTop (mkF m 238 #[.val (.int p1), .val (.int p2), .val (.long q3), .second, .val (.int (6 : Int32)), .val (.int qq), .val (.long lo), .second, .val (.ref b113), .val (.long ((qq.toInt64) * ((6 : Int32).toInt64))), .second, .val (.int i4), .unset, .unset] [(.int (5 : Int32)), (.int (6 : Int32))])) _
          refine XS.icmpNo X136.here hx rfl (hb hby at_238) rfl (tlt (by decide : (5 : Int32) < (6 : Int32))).2.2.2 ?_
          show Steps p.tables e below (T136.setTop (mkF m 241 #[.val (.int p1), .val (.int p2), .val (.long q3), .second, .val (.int (6 : Int32)), .val (.int qq), .val (.long lo), .second, .val (.ref b113), .val (.long ((qq.toInt64) * ((6 : Int32).toInt64))), .second, .val (.int i4), .unset, .unset] [])) _
          refine X136.ldc2Long hx hown (mvT hZ (hw _ (List.mem_of_getElem? (i := 18) rfl))) (g := (mkF m 241 #[.val (.int p1), .val (.int p2), .val (.long q3), .second, .val (.int (6 : Int32)), .val (.int qq), .val (.long lo), .second, .val (.ref b113), .val (.long ((qq.toInt64) * ((6 : Int32).toInt64))), .second, .val (.int i4), .unset, .unset] [])) rfl (hb hby at_241) _ ?_
          show Steps p.tables e below (T136.setTop (mkF m 244 #[.val (.int p1), .val (.int p2), .val (.long q3), .second, .val (.int (6 : Int32)), .val (.int qq), .val (.long lo), .second, .val (.ref b113), .val (.long ((qq.toInt64) * ((6 : Int32).toInt64))), .second, .val (.int i4), .unset, .unset] [(.long (5000 : Int64))])) _
          refine XS.lload X136.here hx rfl (hb hby at_244) rfl ?_
          show Steps p.tables e below (T136.setTop (mkF m 246 #[.val (.int p1), .val (.int p2), .val (.long q3), .second, .val (.int (6 : Int32)), .val (.int qq), .val (.long lo), .second, .val (.ref b113), .val (.long ((qq.toInt64) * ((6 : Int32).toInt64))), .second, .val (.int i4), .unset, .unset] [(.long ((qq.toInt64) * ((6 : Int32).toInt64))), (.long (5000 : Int64))])) _
          refine XS.lcmp X136.here hx rfl (hb hby at_246) rfl ?_
          show Steps p.tables e below (T136.setTop (mkF m 247 #[.val (.int p1), .val (.int p2), .val (.long q3), .second, .val (.int (6 : Int32)), .val (.int qq), .val (.long lo), .second, .val (.ref b113), .val (.long ((qq.toInt64) * ((6 : Int32).toInt64))), .second, .val (.int i4), .unset, .unset] [(.int (lcmpW (5000 : Int64) ((qq.toInt64) * ((6 : Int32).toInt64))))])) _
          refine XS.ifYes X136.here hx rfl (pc0 := 247) (pc' := 253) rfl (hb hby at_247) rfl (own_lgeT hj247_153) (by decide) (by decide) ?_
          exact kt⟩
    have hcn := own_c6 hq h_i1 h_i2 h_i3 h_i4 h_i5
    obtain ⟨_, _, ⟨T155, L155, k155, n155⟩, -, X155, ⟨Lc155, hQ155, l155, y155, z155⟩, st155⟩ := Jvm.LawKit.callS X136 hx (y := (⟨"com/example/sandglass/sandglass/Percentiles", "nearestRank", "([JI)J"⟩ : MethodName)) hown (mvT hZ (hw _ (List.mem_of_getElem? (i := 2) rfl))) (mvT hZ (hw _ (List.mem_of_getElem? (i := 3) rfl))) (mvT hZ (hw _ (List.mem_of_getElem? (i := 4) rfl))) (mvT hZ (hw _ (List.mem_of_getElem? (i := 5) rfl))) (by decide) (backOf (W := 0) (rm1 l Z a0 hw [] b113 qq k113 (6 : Int32) [(.long lo), (.long (lo + (1 : Int64))), (.long (lo + (2 : Int64))), (.long (lo + (3 : Int64))), (.long (lo + (4 : Int64))), (.long (lo + (5 : Int64)))] (lo + (i5).toInt64) h136 n0 (Nat.le_trans Z0 K137.1) Vw136 (own_i6 hcn.1 hcn.2.1 hcn.2.2) (own_g6 hcn.1 hcn.2.1 hcn.2.2)) hZ (hw _ (List.mem_of_getElem? (i := 5) rfl)) (hw _ (List.mem_of_getElem? (i := 4) rfl)) (by decide) (by decide)) (g := (mkF m 295 #[.val (.int p1), .val (.int p2), .val (.long q3), .second, .val (.int (6 : Int32)), .val (.int qq), .val (.long lo), .second, .val (.ref b113), .val (.long ((qq.toInt64) * ((6 : Int32).toInt64))), .second, .val (.int i5), .unset, .unset] [(.int qq), (.ref b113)])) rfl (by rw [hml]; rfl) (argsL := [(.ref b113), (.int qq)]) (rest := []) (lenOf pd__28_5bJI_29J rfl) rfl (by show 2 * 0 + _ ≤ _; exact Nat.le_of_eq rfl) (hb hby at_295) (fun _ _ => ⟨rfl, e136, (by decide : 1 + 0 ≤ _), (by decide : 6 + 0 ≤ _)⟩)
    dsimp only [Pt.U, Pt.locs, Pt.cells, Pt.slots] at X155 l155 y155 z155 st155 hQ155
    subst l155 y155 z155
    obtain ⟨rfl, N155q, e155⟩ := hQ155
    have N155 := Fr.app N138 N155q
    obtain ⟨fs, hr, hrun, hended, hW, hsame⟩ := X155.leave (v := some (.int (1 : Int32))) (fun h => by rw [Bd.returns] at h; cases h)
    refine ⟨_, _, pre154 _ ?_, hrun, hended, _, _, rfl, ?_, ⟨_, rfl⟩, hW, hsame.mono (by decide) (by decide)⟩
    · show Steps p.tables e below (T136.setTop (mkF m 253 #[.val (.int p1), .val (.int p2), .val (.long q3), .second, .val (.int (6 : Int32)), .val (.int qq), .val (.long lo), .second, .val (.ref b113), .val (.long ((qq.toInt64) * ((6 : Int32).toInt64))), .second, .val (.int i5), .unset, .unset] [])) _
      refine XS.iload X136.here hx rfl (hb hby at_253) rfl ?_
      show Steps p.tables e below (T136.setTop (mkF m 255 #[.val (.int p1), .val (.int p2), .val (.long q3), .second, .val (.int (6 : Int32)), .val (.int qq), .val (.long lo), .second, .val (.ref b113), .val (.long ((qq.toInt64) * ((6 : Int32).toInt64))), .second, .val (.int i5), .unset, .unset] [(.int (6 : Int32))])) _
      refine XS.bipush X136.here hx rfl (hb hby at_255) ?_
      show Steps p.tables e below (T136.setTop (mkF m 257 #[.val (.int p1), .val (.int p2), .val (.long q3), .second, .val (.int (6 : Int32)), .val (.int qq), .val (.long lo), .second, .val (.ref b113), .val (.long ((qq.toInt64) * ((6 : Int32).toInt64))), .second, .val (.int i5), .unset, .unset] [(.int (6 : Int32)), (.int (6 : Int32))])) _
      refine XS.icmpYes X136.here hx rfl (pc0 := 257) (pc' := 272) rfl (hb hby at_257) rfl (flt (by decide : ¬ ((6 : Int32) < (6 : Int32)))).2.2.2 (by decide) (by decide) ?_
      show Steps p.tables e below (T136.setTop (mkF m 272 #[.val (.int p1), .val (.int p2), .val (.long q3), .second, .val (.int (6 : Int32)), .val (.int qq), .val (.long lo), .second, .val (.ref b113), .val (.long ((qq.toInt64) * ((6 : Int32).toInt64))), .second, .val (.int i5), .unset, .unset] [])) _
      refine XS.iload X136.here hx rfl (hb hby at_272) rfl ?_
      show Steps p.tables e below (T136.setTop (mkF m 274 #[.val (.int p1), .val (.int p2), .val (.long q3), .second, .val (.int (6 : Int32)), .val (.int qq), .val (.long lo), .second, .val (.ref b113), .val (.long ((qq.toInt64) * ((6 : Int32).toInt64))), .second, .val (.int i5), .unset, .unset] [(.int (6 : Int32))])) _
      refine XS.bipush X136.here hx rfl (hb hby at_274) ?_
      show Steps p.tables e below (T136.setTop (mkF m 276 #[.val (.int p1), .val (.int p2), .val (.long q3), .second, .val (.int (6 : Int32)), .val (.int qq), .val (.long lo), .second, .val (.ref b113), .val (.long ((qq.toInt64) * ((6 : Int32).toInt64))), .second, .val (.int i5), .unset, .unset] [(.int (7 : Int32)), (.int (6 : Int32))])) _
      refine XS.icmpYes X136.here hx rfl (pc0 := 276) (pc' := 291) rfl (hb hby at_276) rfl (flt (by decide : ¬ ((7 : Int32) < (6 : Int32)))).2.2.2 (by decide) (by decide) ?_
      show Steps p.tables e below (T136.setTop (mkF m 291 #[.val (.int p1), .val (.int p2), .val (.long q3), .second, .val (.int (6 : Int32)), .val (.int qq), .val (.long lo), .second, .val (.ref b113), .val (.long ((qq.toInt64) * ((6 : Int32).toInt64))), .second, .val (.int i5), .unset, .unset] [])) _
      refine XS.aload X136.here hx rfl (hb hby at_291) rfl rfl ?_
      show Steps p.tables e below (T136.setTop (mkF m 293 #[.val (.int p1), .val (.int p2), .val (.long q3), .second, .val (.int (6 : Int32)), .val (.int qq), .val (.long lo), .second, .val (.ref b113), .val (.long ((qq.toInt64) * ((6 : Int32).toInt64))), .second, .val (.int i5), .unset, .unset] [(.ref b113)])) _
      refine XS.iload X136.here hx rfl (hb hby at_293) rfl ?_
      show Steps p.tables e below (T136.setTop (mkF m 295 #[.val (.int p1), .val (.int p2), .val (.long q3), .second, .val (.int (6 : Int32)), .val (.int qq), .val (.long lo), .second, .val (.ref b113), .val (.long ((qq.toInt64) * ((6 : Int32).toInt64))), .second, .val (.int i5), .unset, .unset] [(.int qq), (.ref b113)])) _
      refine st155 _ ?_
      show Steps p.tables e below (T155.setTop (mkF m 298 #[.val (.int p1), .val (.int p2), .val (.long q3), .second, .val (.int (6 : Int32)), .val (.int qq), .val (.long lo), .second, .val (.ref b113), .val (.long ((qq.toInt64) * ((6 : Int32).toInt64))), .second, .val (.int i5), .unset, .unset] [(.long (lo + (i5).toInt64))])) _
      refine XS.lstore X155.here hx rfl (hb hby at_298) rfl (l' := #[.val (.int p1), .val (.int p2), .val (.long q3), .second, .val (.int (6 : Int32)), .val (.int qq), .val (.long lo), .second, .val (.ref b113), .val (.long ((qq.toInt64) * ((6 : Int32).toInt64))), .second, .val (.int i5), .val (.long (lo + (i5).toInt64)), .second]) rfl ?_
      show Steps p.tables e below (T155.setTop (mkF m 300 #[.val (.int p1), .val (.int p2), .val (.long q3), .second, .val (.int (6 : Int32)), .val (.int qq), .val (.long lo), .second, .val (.ref b113), .val (.long ((qq.toInt64) * ((6 : Int32).toInt64))), .second, .val (.int i5), .val (.long (lo + (i5).toInt64)), .second] [])) _
      refine XS.lload X155.here hx rfl (hb hby at_300) rfl ?_
      show Steps p.tables e below (T155.setTop (mkF m 302 #[.val (.int p1), .val (.int p2), .val (.long q3), .second, .val (.int (6 : Int32)), .val (.int qq), .val (.long lo), .second, .val (.ref b113), .val (.long ((qq.toInt64) * ((6 : Int32).toInt64))), .second, .val (.int i5), .val (.long (lo + (i5).toInt64)), .second] [(.long (lo + (i5).toInt64))])) _
      refine XS.lload X155.here hx rfl (hb hby at_302) rfl ?_
      show Steps p.tables e below (T155.setTop (mkF m 304 #[.val (.int p1), .val (.int p2), .val (.long q3), .second, .val (.int (6 : Int32)), .val (.int qq), .val (.long lo), .second, .val (.ref b113), .val (.long ((qq.toInt64) * ((6 : Int32).toInt64))), .second, .val (.int i5), .val (.long (lo + (i5).toInt64)), .second] [(.long lo), (.long (lo + (i5).toInt64))])) _
      refine XS.iload X155.here hx rfl (hb hby at_304) rfl ?_
      show Steps p.tables e below (T155.setTop (mkF m 306 #[.val (.int p1), .val (.int p2), .val (.long q3), .second, .val (.int (6 : Int32)), .val (.int qq), .val (.long lo), .second, .val (.ref b113), .val (.long ((qq.toInt64) * ((6 : Int32).toInt64))), .second, .val (.int i5), .val (.long (lo + (i5).toInt64)), .second] [(.int i5), (.long lo), (.long (lo + (i5).toInt64))])) _
      refine XS.i2l X155.here hx rfl (hb hby at_306) rfl ?_
      show Steps p.tables e below (T155.setTop (mkF m 307 #[.val (.int p1), .val (.int p2), .val (.long q3), .second, .val (.int (6 : Int32)), .val (.int qq), .val (.long lo), .second, .val (.ref b113), .val (.long ((qq.toInt64) * ((6 : Int32).toInt64))), .second, .val (.int i5), .val (.long (lo + (i5).toInt64)), .second] [(.long (i5.toInt64)), (.long lo), (.long (lo + (i5).toInt64))])) _
      refine XS.ladd X155.here hx rfl (hb hby at_307) rfl ?_
      show Steps p.tables e below (T155.setTop (mkF m 308 #[.val (.int p1), .val (.int p2), .val (.long q3), .second, .val (.int (6 : Int32)), .val (.int qq), .val (.long lo), .second, .val (.ref b113), .val (.long ((qq.toInt64) * ((6 : Int32).toInt64))), .second, .val (.int i5), .val (.long (lo + (i5).toInt64)), .second] [(.long (lo + (i5.toInt64))), (.long (lo + (i5).toInt64))])) _
      refine XS.lcmp X155.here hx rfl (hb hby at_308) rfl ?_
      show Steps p.tables e below (T155.setTop (mkF m 309 #[.val (.int p1), .val (.int p2), .val (.long q3), .second, .val (.int (6 : Int32)), .val (.int qq), .val (.long lo), .second, .val (.ref b113), .val (.long ((qq.toInt64) * ((6 : Int32).toInt64))), .second, .val (.int i5), .val (.long (lo + (i5).toInt64)), .second] [(.int (lcmpW (lo + (i5).toInt64) (lo + (i5.toInt64))))])) _
      refine XS.ifNo X155.here hx rfl (hb hby at_309) rfl (own_lneF rfl) ?_
      show Steps p.tables e below (T155.setTop (mkF m 312 #[.val (.int p1), .val (.int p2), .val (.long q3), .second, .val (.int (6 : Int32)), .val (.int qq), .val (.long lo), .second, .val (.ref b113), .val (.long ((qq.toInt64) * ((6 : Int32).toInt64))), .second, .val (.int i5), .val (.long (lo + (i5).toInt64)), .second] [])) _
      refine XS.iconst X155.here hx rfl (hb hby at_312) ?_
      show Steps p.tables e below (T155.setTop (mkF m 313 #[.val (.int p1), .val (.int p2), .val (.long q3), .second, .val (.int (6 : Int32)), .val (.int qq), .val (.long lo), .second, .val (.ref b113), .val (.long ((qq.toInt64) * ((6 : Int32).toInt64))), .second, .val (.int i5), .val (.long (lo + (i5).toInt64)), .second] [(.int (1 : Int32))])) _
      refine XS.goto X155.here hx rfl (pc0 := 313) (pc' := 317) rfl (hb hby at_313) (by decide) (by decide) ?_
      show Steps p.tables e below (T155.setTop (mkF m 317 #[.val (.int p1), .val (.int p2), .val (.long q3), .second, .val (.int (6 : Int32)), .val (.int qq), .val (.long lo), .second, .val (.ref b113), .val (.long ((qq.toInt64) * ((6 : Int32).toInt64))), .second, .val (.int i5), .val (.long (lo + (i5).toInt64)), .second] [(.int (1 : Int32))])) _
      exact retN X155 hx (t := .boolean) Bd.returns (by simp) (hb hby at_317) hr
    · show Q_rm0 Z p1 p2 q3 h0 n0 _ T155.heap _
      rw [e155]
      exact ⟨rfl, N155⟩
  · rw [hn] at pre3
    obtain ⟨T156, h156, k156, X156, e156, E156, A156, st156⟩ := newP X0 hx hZ (hw _ (List.mem_of_getElem? (i := 1) rfl)) e0 (g := (mkF m 27 #[.val (.int p1), .val (.int p2), .val (.long q3), .second, .val (.int (7 : Int32)), .val (.int qq), .val (.long lo), .second, .unset, .unset, .unset, .unset, .unset, .unset] [(.int (7 : Int32))])) rfl (hb hby at_27) rfl (by decide) (cap := 7) (by decide) (by decide) (by decide) (by decide)
    obtain ⟨b156, g156⟩ : ∃ z, z = h0.size := ⟨_, rfl⟩
    rw [← g156] at A156 st156
    have g_b156 : n0 ≤ b156 := Nat.le_trans Z0 (Nat.le_of_eq g156.symm)
    have sz_b156 : h0.size ≤ b156 := Nat.le_trans (Keep.refl h0 []).1 (Nat.le_of_eq g156.symm)
    have K157 : Keep h0 h156 [] := (Keep.refl h0 []).ext E156
    have V_b156 : Arv Z h156 b156 k156 .long (7 : Int32) [(.long (0 : Int64)), (.long (0 : Int64)), (.long (0 : Int64)), (.long (0 : Int64)), (.long (0 : Int64)), (.long (0 : Int64)), (.long (0 : Int64))] (.long (0 : Int64)) := (Arv.new A156 (by decide)).pad (pad_rep [] (.long (0 : Int64)) 7)
    obtain ⟨c158, Ac158, qc158, Sc158, Nc158, Hc158, Gc158⟩ := id V_b156
    obtain ⟨T159, h159, X159, e159, W159, st159⟩ := stJ X156 hx hZ e156 Ac158 (j := (0 : Int32)) (inb_of Sc158 ⟨by decide, by decide⟩) (g := (mkF m 36 #[.val (.int p1), .val (.int p2), .val (.long q3), .second, .val (.int (7 : Int32)), .val (.int qq), .val (.long lo), .second, .val (.ref b156), .unset, .unset, .unset, .unset, .unset] [(.long lo), (.int (0 : Int32)), (.ref b156)])) rfl rfl (hb hby at_36)
    have K160 : Keep h0 h159 [] := K157.wr W159 (Or.inr sz_b156)
    have N161 := Fr.snoc X159 N0 g_b156
    have Vw159 := Arv.set Ac158 qc158 Sc158 Nc158 Hc158 Gc158 rfl W159 0 rfl (Nat.le_of_ble_eq_true rfl)
    change Arv Z h159 b156 k156 .long (7 : Int32) [(.long lo), (.long (0 : Int64)), (.long (0 : Int64)), (.long (0 : Int64)), (.long (0 : Int64)), (.long (0 : Int64)), (.long (0 : Int64))] (.long (0 : Int64)) at Vw159
    obtain ⟨c162, Ac162, qc162, Sc162, Nc162, Hc162, Gc162⟩ := id Vw159
    obtain ⟨T163, h163, X163, e163, W163, st163⟩ := stJ X159 hx hZ e159 Ac162 (j := (1 : Int32)) (inb_of Sc162 ⟨by decide, by decide⟩) (g := (mkF m 50 #[.val (.int p1), .val (.int p2), .val (.long q3), .second, .val (.int (7 : Int32)), .val (.int qq), .val (.long lo), .second, .val (.ref b156), .unset, .unset, .unset, .unset, .unset] [(.long (lo + (1 : Int64))), (.int (1 : Int32)), (.ref b156)])) rfl rfl (hb hby at_50)
    have K164 : Keep h0 h163 [] := K160.wr W163 (Or.inr sz_b156)
    have N165 := Fr.snoc X163 N161 g_b156
    have Vw163 := Arv.set Ac162 qc162 Sc162 Nc162 Hc162 Gc162 rfl W163 1 rfl (Nat.le_of_ble_eq_true rfl)
    change Arv Z h163 b156 k156 .long (7 : Int32) [(.long lo), (.long (lo + (1 : Int64))), (.long (0 : Int64)), (.long (0 : Int64)), (.long (0 : Int64)), (.long (0 : Int64)), (.long (0 : Int64))] (.long (0 : Int64)) at Vw163
    obtain ⟨c166, Ac166, qc166, Sc166, Nc166, Hc166, Gc166⟩ := id Vw163
    obtain ⟨T167, h167, X167, e167, W167, st167⟩ := stJ X163 hx hZ e163 Ac166 (j := (2 : Int32)) (inb_of Sc166 ⟨by decide, by decide⟩) (g := (mkF m 66 #[.val (.int p1), .val (.int p2), .val (.long q3), .second, .val (.int (7 : Int32)), .val (.int qq), .val (.long lo), .second, .val (.ref b156), .unset, .unset, .unset, .unset, .unset] [(.long (lo + (2 : Int64))), (.int (2 : Int32)), (.ref b156)])) rfl rfl (hb hby at_66)
    have K168 : Keep h0 h167 [] := K164.wr W167 (Or.inr sz_b156)
    have N169 := Fr.snoc X167 N165 g_b156
    have Vw167 := Arv.set Ac166 qc166 Sc166 Nc166 Hc166 Gc166 rfl W167 2 rfl (Nat.le_of_ble_eq_true rfl)
    change Arv Z h167 b156 k156 .long (7 : Int32) [(.long lo), (.long (lo + (1 : Int64))), (.long (lo + (2 : Int64))), (.long (0 : Int64)), (.long (0 : Int64)), (.long (0 : Int64)), (.long (0 : Int64))] (.long (0 : Int64)) at Vw167
    obtain ⟨c170, Ac170, qc170, Sc170, Nc170, Hc170, Gc170⟩ := id Vw167
    obtain ⟨T171, h171, X171, e171, W171, st171⟩ := stJ X167 hx hZ e167 Ac170 (j := (3 : Int32)) (inb_of Sc170 ⟨by decide, by decide⟩) (g := (mkF m 82 #[.val (.int p1), .val (.int p2), .val (.long q3), .second, .val (.int (7 : Int32)), .val (.int qq), .val (.long lo), .second, .val (.ref b156), .unset, .unset, .unset, .unset, .unset] [(.long (lo + (3 : Int64))), (.int (3 : Int32)), (.ref b156)])) rfl rfl (hb hby at_82)
    have K172 : Keep h0 h171 [] := K168.wr W171 (Or.inr sz_b156)
    have N173 := Fr.snoc X171 N169 g_b156
    have Vw171 := Arv.set Ac170 qc170 Sc170 Nc170 Hc170 Gc170 rfl W171 3 rfl (Nat.le_of_ble_eq_true rfl)
    change Arv Z h171 b156 k156 .long (7 : Int32) [(.long lo), (.long (lo + (1 : Int64))), (.long (lo + (2 : Int64))), (.long (lo + (3 : Int64))), (.long (0 : Int64)), (.long (0 : Int64)), (.long (0 : Int64))] (.long (0 : Int64)) at Vw171
    obtain ⟨c174, Ac174, qc174, Sc174, Nc174, Hc174, Gc174⟩ := id Vw171
    obtain ⟨T175, h175, X175, e175, W175, st175⟩ := stJ X171 hx hZ e171 Ac174 (j := (4 : Int32)) (inb_of Sc174 ⟨by decide, by decide⟩) (g := (mkF m 98 #[.val (.int p1), .val (.int p2), .val (.long q3), .second, .val (.int (7 : Int32)), .val (.int qq), .val (.long lo), .second, .val (.ref b156), .unset, .unset, .unset, .unset, .unset] [(.long (lo + (4 : Int64))), (.int (4 : Int32)), (.ref b156)])) rfl rfl (hb hby at_98)
    have K176 : Keep h0 h175 [] := K172.wr W175 (Or.inr sz_b156)
    have N177 := Fr.snoc X175 N173 g_b156
    have Vw175 := Arv.set Ac174 qc174 Sc174 Nc174 Hc174 Gc174 rfl W175 4 rfl (Nat.le_of_ble_eq_true rfl)
    change Arv Z h175 b156 k156 .long (7 : Int32) [(.long lo), (.long (lo + (1 : Int64))), (.long (lo + (2 : Int64))), (.long (lo + (3 : Int64))), (.long (lo + (4 : Int64))), (.long (0 : Int64)), (.long (0 : Int64))] (.long (0 : Int64)) at Vw175
    obtain ⟨c178, Ac178, qc178, Sc178, Nc178, Hc178, Gc178⟩ := id Vw175
    obtain ⟨T179, h179, X179, e179, W179, st179⟩ := stJ X175 hx hZ e175 Ac178 (j := (5 : Int32)) (inb_of Sc178 ⟨by decide, by decide⟩) (g := (mkF m 114 #[.val (.int p1), .val (.int p2), .val (.long q3), .second, .val (.int (7 : Int32)), .val (.int qq), .val (.long lo), .second, .val (.ref b156), .unset, .unset, .unset, .unset, .unset] [(.long (lo + (5 : Int64))), (.int (5 : Int32)), (.ref b156)])) rfl rfl (hb hby at_114)
    have K180 : Keep h0 h179 [] := K176.wr W179 (Or.inr sz_b156)
    have N181 := Fr.snoc X179 N177 g_b156
    have Vw179 := Arv.set Ac178 qc178 Sc178 Nc178 Hc178 Gc178 rfl W179 5 rfl (Nat.le_of_ble_eq_true rfl)
    change Arv Z h179 b156 k156 .long (7 : Int32) [(.long lo), (.long (lo + (1 : Int64))), (.long (lo + (2 : Int64))), (.long (lo + (3 : Int64))), (.long (lo + (4 : Int64))), (.long (lo + (5 : Int64))), (.long (0 : Int64))] (.long (0 : Int64)) at Vw179
    obtain ⟨c182, Ac182, qc182, Sc182, Nc182, Hc182, Gc182⟩ := id Vw179
    obtain ⟨T183, h183, X183, e183, W183, st183⟩ := stJ X179 hx hZ e179 Ac182 (j := (6 : Int32)) (inb_of Sc182 ⟨by decide, by decide⟩) (g := (mkF m 132 #[.val (.int p1), .val (.int p2), .val (.long q3), .second, .val (.int (7 : Int32)), .val (.int qq), .val (.long lo), .second, .val (.ref b156), .unset, .unset, .unset, .unset, .unset] [(.long (lo + (6 : Int64))), (.int (6 : Int32)), (.ref b156)])) rfl rfl (hb hby at_132)
    have K184 : Keep h0 h183 [] := K180.wr W183 (Or.inr sz_b156)
    have N185 := Fr.snoc X183 N181 g_b156
    have Vw183 := Arv.set Ac182 qc182 Sc182 Nc182 Hc182 Gc182 rfl W183 6 rfl (Nat.le_of_ble_eq_true rfl)
    change Arv Z h183 b156 k156 .long (7 : Int32) [(.long lo), (.long (lo + (1 : Int64))), (.long (lo + (2 : Int64))), (.long (lo + (3 : Int64))), (.long (lo + (4 : Int64))), (.long (lo + (5 : Int64))), (.long (lo + (6 : Int64)))] (.long (0 : Int64)) at Vw183
    have pre186 : ∀ t, Steps p.tables e below (T183.setTop (mkF m 163 #[.val (.int p1), .val (.int p2), .val (.long q3), .second, .val (.int (7 : Int32)), .val (.int qq), .val (.long lo), .second, .val (.ref b156), .val (.long ((qq.toInt64) * ((7 : Int32).toInt64))), .second, .val (.int (0 : Int32)), .unset, .unset] [])) t → Steps p.tables e below (s₁.setTop (entryFrame m #[(.int p1), (.int p2), (.long q3)] maxLocals)) t := fun t kt => by
      refine pre3 t ?_
      show Steps p.tables e below (s₁.setTop (mkF m 25 #[.val (.int p1), .val (.int p2), .val (.long q3), .second, .val (.int (7 : Int32)), .val (.int qq), .val (.long lo), .second, .unset, .unset, .unset, .unset, .unset, .unset] [])) _
      refine XS.iload X0.here hx rfl (hb hby at_25) rfl ?_
      show Steps p.tables e below (s₁.setTop (mkF m 27 #[.val (.int p1), .val (.int p2), .val (.long q3), .second, .val (.int (7 : Int32)), .val (.int qq), .val (.long lo), .second, .unset, .unset, .unset, .unset, .unset, .unset] [(.int (7 : Int32))])) _
      refine st156 _ ?_
      show Steps p.tables e below (T156.setTop (mkF m 29 #[.val (.int p1), .val (.int p2), .val (.long q3), .second, .val (.int (7 : Int32)), .val (.int qq), .val (.long lo), .second, .unset, .unset, .unset, .unset, .unset, .unset] [(.ref b156)])) _
      refine XS.astore X156.here hx rfl (hb hby at_29) rfl rfl (l' := #[.val (.int p1), .val (.int p2), .val (.long q3), .second, .val (.int (7 : Int32)), .val (.int qq), .val (.long lo), .second, .val (.ref b156), .unset, .unset, .unset, .unset, .unset]) rfl ?_
      show Steps p.tables e below (T156.setTop (mkF m 31 #[.val (.int p1), .val (.int p2), .val (.long q3), .second, .val (.int (7 : Int32)), .val (.int qq), .val (.long lo), .second, .val (.ref b156), .unset, .unset, .unset, .unset, .unset] [])) _
      refine XS.aload X156.here hx rfl (hb hby at_31) rfl rfl ?_
      show Steps p.tables e below (T156.setTop (mkF m 33 #[.val (.int p1), .val (.int p2), .val (.long q3), .second, .val (.int (7 : Int32)), .val (.int qq), .val (.long lo), .second, .val (.ref b156), .unset, .unset, .unset, .unset, .unset] [(.ref b156)])) _
      refine XS.iconst X156.here hx rfl (hb hby at_33) ?_
      show Steps p.tables e below (T156.setTop (mkF m 34 #[.val (.int p1), .val (.int p2), .val (.long q3), .second, .val (.int (7 : Int32)), .val (.int qq), .val (.long lo), .second, .val (.ref b156), .unset, .unset, .unset, .unset, .unset] [(.int (0 : Int32)), (.ref b156)])) _
      refine XS.lload X156.here hx rfl (hb hby at_34) rfl ?_
      show Steps p.tables e below (T156.setTop (mkF m 36 #[.val (.int p1), .val (.int p2), .val (.long q3), .second, .val (.int (7 : Int32)), .val (.int qq), .val (.long lo), .second, .val (.ref b156), .unset, .unset, .unset, .unset, .unset] [(.long lo), (.int (0 : Int32)), (.ref b156)])) _
      refine st159 _ ?_
      show Steps p.tables e below (T159.setTop (mkF m 37 #[.val (.int p1), .val (.int p2), .val (.long q3), .second, .val (.int (7 : Int32)), .val (.int qq), .val (.long lo), .second, .val (.ref b156), .unset, .unset, .unset, .unset, .unset] [])) _
      refine XS.iload X159.here hx rfl (hb hby at_37) rfl ?_
      show Steps p.tables e below (T159.setTop (mkF m 39 #[.val (.int p1), .val (.int p2), .val (.long q3), .second, .val (.int (7 : Int32)), .val (.int qq), .val (.long lo), .second, .val (.ref b156), .unset, .unset, .unset, .unset, .unset] [(.int (7 : Int32))])) _
      refine XS.iconst X159.here hx rfl (hb hby at_39) ?_
      show Steps p.tables e below (T159.setTop (mkF m 40 #[.val (.int p1), .val (.int p2), .val (.long q3), .second, .val (.int (7 : Int32)), .val (.int qq), .val (.long lo), .second, .val (.ref b156), .unset, .unset, .unset, .unset, .unset] [(.int (1 : Int32)), (.int (7 : Int32))])) _
      refine XS.icmpNo X159.here hx rfl (hb hby at_40) rfl (tlt (by decide : (1 : Int32) < (7 : Int32))).2.2.2 ?_
      show Steps p.tables e below (T159.setTop (mkF m 43 #[.val (.int p1), .val (.int p2), .val (.long q3), .second, .val (.int (7 : Int32)), .val (.int qq), .val (.long lo), .second, .val (.ref b156), .unset, .unset, .unset, .unset, .unset] [])) _
      refine XS.aload X159.here hx rfl (hb hby at_43) rfl rfl ?_
      show Steps p.tables e below (T159.setTop (mkF m 45 #[.val (.int p1), .val (.int p2), .val (.long q3), .second, .val (.int (7 : Int32)), .val (.int qq), .val (.long lo), .second, .val (.ref b156), .unset, .unset, .unset, .unset, .unset] [(.ref b156)])) _
      refine XS.iconst X159.here hx rfl (hb hby at_45) ?_
      show Steps p.tables e below (T159.setTop (mkF m 46 #[.val (.int p1), .val (.int p2), .val (.long q3), .second, .val (.int (7 : Int32)), .val (.int qq), .val (.long lo), .second, .val (.ref b156), .unset, .unset, .unset, .unset, .unset] [(.int (1 : Int32)), (.ref b156)])) _
      refine XS.lload X159.here hx rfl (hb hby at_46) rfl ?_
      show Steps p.tables e below (T159.setTop (mkF m 48 #[.val (.int p1), .val (.int p2), .val (.long q3), .second, .val (.int (7 : Int32)), .val (.int qq), .val (.long lo), .second, .val (.ref b156), .unset, .unset, .unset, .unset, .unset] [(.long lo), (.int (1 : Int32)), (.ref b156)])) _
      refine XS.lconst X159.here hx rfl (hb hby at_48) ?_
      show Steps p.tables e below (T159.setTop (mkF m 49 #[.val (.int p1), .val (.int p2), .val (.long q3), .second, .val (.int (7 : Int32)), .val (.int qq), .val (.long lo), .second, .val (.ref b156), .unset, .unset, .unset, .unset, .unset] [(.long (1 : Int64)), (.long lo), (.int (1 : Int32)), (.ref b156)])) _
      refine XS.ladd X159.here hx rfl (hb hby at_49) rfl ?_
      show Steps p.tables e below (T159.setTop (mkF m 50 #[.val (.int p1), .val (.int p2), .val (.long q3), .second, .val (.int (7 : Int32)), .val (.int qq), .val (.long lo), .second, .val (.ref b156), .unset, .unset, .unset, .unset, .unset] [(.long (lo + (1 : Int64))), (.int (1 : Int32)), (.ref b156)])) _
      refine st163 _ ?_
      show Steps p.tables e below (T163.setTop (mkF m 51 #[.val (.int p1), .val (.int p2), .val (.long q3), .second, .val (.int (7 : Int32)), .val (.int qq), .val (.long lo), .second, .val (.ref b156), .unset, .unset, .unset, .unset, .unset] [])) _
      refine XS.iload X163.here hx rfl (hb hby at_51) rfl ?_
      show Steps p.tables e below (T163.setTop (mkF m 53 #[.val (.int p1), .val (.int p2), .val (.long q3), .second, .val (.int (7 : Int32)), .val (.int qq), .val (.long lo), .second, .val (.ref b156), .unset, .unset, .unset, .unset, .unset] [(.int (7 : Int32))])) _
      refine XS.iconst X163.here hx rfl (hb hby at_53) ?_
      show Steps p.tables e below (T163.setTop (mkF m 54 #[.val (.int p1), .val (.int p2), .val (.long q3), .second, .val (.int (7 : Int32)), .val (.int qq), .val (.long lo), .second, .val (.ref b156), .unset, .unset, .unset, .unset, .unset] [(.int (2 : Int32)), (.int (7 : Int32))])) _
      refine XS.icmpNo X163.here hx rfl (hb hby at_54) rfl (tlt (by decide : (2 : Int32) < (7 : Int32))).2.2.2 ?_
      show Steps p.tables e below (T163.setTop (mkF m 57 #[.val (.int p1), .val (.int p2), .val (.long q3), .second, .val (.int (7 : Int32)), .val (.int qq), .val (.long lo), .second, .val (.ref b156), .unset, .unset, .unset, .unset, .unset] [])) _
      refine XS.aload X163.here hx rfl (hb hby at_57) rfl rfl ?_
      show Steps p.tables e below (T163.setTop (mkF m 59 #[.val (.int p1), .val (.int p2), .val (.long q3), .second, .val (.int (7 : Int32)), .val (.int qq), .val (.long lo), .second, .val (.ref b156), .unset, .unset, .unset, .unset, .unset] [(.ref b156)])) _
      refine XS.iconst X163.here hx rfl (hb hby at_59) ?_
      show Steps p.tables e below (T163.setTop (mkF m 60 #[.val (.int p1), .val (.int p2), .val (.long q3), .second, .val (.int (7 : Int32)), .val (.int qq), .val (.long lo), .second, .val (.ref b156), .unset, .unset, .unset, .unset, .unset] [(.int (2 : Int32)), (.ref b156)])) _
      refine XS.lload X163.here hx rfl (hb hby at_60) rfl ?_
      show Steps p.tables e below (T163.setTop (mkF m 62 #[.val (.int p1), .val (.int p2), .val (.long q3), .second, .val (.int (7 : Int32)), .val (.int qq), .val (.long lo), .second, .val (.ref b156), .unset, .unset, .unset, .unset, .unset] [(.long lo), (.int (2 : Int32)), (.ref b156)])) _
      refine X163.ldc2Long hx hown (mvT hZ (hw _ (List.mem_of_getElem? (i := 8) rfl))) (g := (mkF m 62 #[.val (.int p1), .val (.int p2), .val (.long q3), .second, .val (.int (7 : Int32)), .val (.int qq), .val (.long lo), .second, .val (.ref b156), .unset, .unset, .unset, .unset, .unset] [(.long lo), (.int (2 : Int32)), (.ref b156)])) rfl (hb hby at_62) _ ?_
      show Steps p.tables e below (T163.setTop (mkF m 65 #[.val (.int p1), .val (.int p2), .val (.long q3), .second, .val (.int (7 : Int32)), .val (.int qq), .val (.long lo), .second, .val (.ref b156), .unset, .unset, .unset, .unset, .unset] [(.long (2 : Int64)), (.long lo), (.int (2 : Int32)), (.ref b156)])) _
      refine XS.ladd X163.here hx rfl (hb hby at_65) rfl ?_
      show Steps p.tables e below (T163.setTop (mkF m 66 #[.val (.int p1), .val (.int p2), .val (.long q3), .second, .val (.int (7 : Int32)), .val (.int qq), .val (.long lo), .second, .val (.ref b156), .unset, .unset, .unset, .unset, .unset] [(.long (lo + (2 : Int64))), (.int (2 : Int32)), (.ref b156)])) _
      refine st167 _ ?_
      show Steps p.tables e below (T167.setTop (mkF m 67 #[.val (.int p1), .val (.int p2), .val (.long q3), .second, .val (.int (7 : Int32)), .val (.int qq), .val (.long lo), .second, .val (.ref b156), .unset, .unset, .unset, .unset, .unset] [])) _
      refine XS.iload X167.here hx rfl (hb hby at_67) rfl ?_
      show Steps p.tables e below (T167.setTop (mkF m 69 #[.val (.int p1), .val (.int p2), .val (.long q3), .second, .val (.int (7 : Int32)), .val (.int qq), .val (.long lo), .second, .val (.ref b156), .unset, .unset, .unset, .unset, .unset] [(.int (7 : Int32))])) _
      refine XS.iconst X167.here hx rfl (hb hby at_69) ?_
      show Steps p.tables e below (T167.setTop (mkF m 70 #[.val (.int p1), .val (.int p2), .val (.long q3), .second, .val (.int (7 : Int32)), .val (.int qq), .val (.long lo), .second, .val (.ref b156), .unset, .unset, .unset, .unset, .unset] [(.int (3 : Int32)), (.int (7 : Int32))])) _
      refine XS.icmpNo X167.here hx rfl (hb hby at_70) rfl (tlt (by decide : (3 : Int32) < (7 : Int32))).2.2.2 ?_
      show Steps p.tables e below (T167.setTop (mkF m 73 #[.val (.int p1), .val (.int p2), .val (.long q3), .second, .val (.int (7 : Int32)), .val (.int qq), .val (.long lo), .second, .val (.ref b156), .unset, .unset, .unset, .unset, .unset] [])) _
      refine XS.aload X167.here hx rfl (hb hby at_73) rfl rfl ?_
      show Steps p.tables e below (T167.setTop (mkF m 75 #[.val (.int p1), .val (.int p2), .val (.long q3), .second, .val (.int (7 : Int32)), .val (.int qq), .val (.long lo), .second, .val (.ref b156), .unset, .unset, .unset, .unset, .unset] [(.ref b156)])) _
      refine XS.iconst X167.here hx rfl (hb hby at_75) ?_
      show Steps p.tables e below (T167.setTop (mkF m 76 #[.val (.int p1), .val (.int p2), .val (.long q3), .second, .val (.int (7 : Int32)), .val (.int qq), .val (.long lo), .second, .val (.ref b156), .unset, .unset, .unset, .unset, .unset] [(.int (3 : Int32)), (.ref b156)])) _
      refine XS.lload X167.here hx rfl (hb hby at_76) rfl ?_
      show Steps p.tables e below (T167.setTop (mkF m 78 #[.val (.int p1), .val (.int p2), .val (.long q3), .second, .val (.int (7 : Int32)), .val (.int qq), .val (.long lo), .second, .val (.ref b156), .unset, .unset, .unset, .unset, .unset] [(.long lo), (.int (3 : Int32)), (.ref b156)])) _
      refine X167.ldc2Long hx hown (mvT hZ (hw _ (List.mem_of_getElem? (i := 9) rfl))) (g := (mkF m 78 #[.val (.int p1), .val (.int p2), .val (.long q3), .second, .val (.int (7 : Int32)), .val (.int qq), .val (.long lo), .second, .val (.ref b156), .unset, .unset, .unset, .unset, .unset] [(.long lo), (.int (3 : Int32)), (.ref b156)])) rfl (hb hby at_78) _ ?_
      show Steps p.tables e below (T167.setTop (mkF m 81 #[.val (.int p1), .val (.int p2), .val (.long q3), .second, .val (.int (7 : Int32)), .val (.int qq), .val (.long lo), .second, .val (.ref b156), .unset, .unset, .unset, .unset, .unset] [(.long (3 : Int64)), (.long lo), (.int (3 : Int32)), (.ref b156)])) _
      refine XS.ladd X167.here hx rfl (hb hby at_81) rfl ?_
      show Steps p.tables e below (T167.setTop (mkF m 82 #[.val (.int p1), .val (.int p2), .val (.long q3), .second, .val (.int (7 : Int32)), .val (.int qq), .val (.long lo), .second, .val (.ref b156), .unset, .unset, .unset, .unset, .unset] [(.long (lo + (3 : Int64))), (.int (3 : Int32)), (.ref b156)])) _
      refine st171 _ ?_
      show Steps p.tables e below (T171.setTop (mkF m 83 #[.val (.int p1), .val (.int p2), .val (.long q3), .second, .val (.int (7 : Int32)), .val (.int qq), .val (.long lo), .second, .val (.ref b156), .unset, .unset, .unset, .unset, .unset] [])) _
      refine XS.iload X171.here hx rfl (hb hby at_83) rfl ?_
      show Steps p.tables e below (T171.setTop (mkF m 85 #[.val (.int p1), .val (.int p2), .val (.long q3), .second, .val (.int (7 : Int32)), .val (.int qq), .val (.long lo), .second, .val (.ref b156), .unset, .unset, .unset, .unset, .unset] [(.int (7 : Int32))])) _
      refine XS.iconst X171.here hx rfl (hb hby at_85) ?_
      show Steps p.tables e below (T171.setTop (mkF m 86 #[.val (.int p1), .val (.int p2), .val (.long q3), .second, .val (.int (7 : Int32)), .val (.int qq), .val (.long lo), .second, .val (.ref b156), .unset, .unset, .unset, .unset, .unset] [(.int (4 : Int32)), (.int (7 : Int32))])) _
      refine XS.icmpNo X171.here hx rfl (hb hby at_86) rfl (tlt (by decide : (4 : Int32) < (7 : Int32))).2.2.2 ?_
      show Steps p.tables e below (T171.setTop (mkF m 89 #[.val (.int p1), .val (.int p2), .val (.long q3), .second, .val (.int (7 : Int32)), .val (.int qq), .val (.long lo), .second, .val (.ref b156), .unset, .unset, .unset, .unset, .unset] [])) _
      refine XS.aload X171.here hx rfl (hb hby at_89) rfl rfl ?_
      show Steps p.tables e below (T171.setTop (mkF m 91 #[.val (.int p1), .val (.int p2), .val (.long q3), .second, .val (.int (7 : Int32)), .val (.int qq), .val (.long lo), .second, .val (.ref b156), .unset, .unset, .unset, .unset, .unset] [(.ref b156)])) _
      refine XS.iconst X171.here hx rfl (hb hby at_91) ?_
      show Steps p.tables e below (T171.setTop (mkF m 92 #[.val (.int p1), .val (.int p2), .val (.long q3), .second, .val (.int (7 : Int32)), .val (.int qq), .val (.long lo), .second, .val (.ref b156), .unset, .unset, .unset, .unset, .unset] [(.int (4 : Int32)), (.ref b156)])) _
      refine XS.lload X171.here hx rfl (hb hby at_92) rfl ?_
      show Steps p.tables e below (T171.setTop (mkF m 94 #[.val (.int p1), .val (.int p2), .val (.long q3), .second, .val (.int (7 : Int32)), .val (.int qq), .val (.long lo), .second, .val (.ref b156), .unset, .unset, .unset, .unset, .unset] [(.long lo), (.int (4 : Int32)), (.ref b156)])) _
      refine X171.ldc2Long hx hown (mvT hZ (hw _ (List.mem_of_getElem? (i := 10) rfl))) (g := (mkF m 94 #[.val (.int p1), .val (.int p2), .val (.long q3), .second, .val (.int (7 : Int32)), .val (.int qq), .val (.long lo), .second, .val (.ref b156), .unset, .unset, .unset, .unset, .unset] [(.long lo), (.int (4 : Int32)), (.ref b156)])) rfl (hb hby at_94) _ ?_
      show Steps p.tables e below (T171.setTop (mkF m 97 #[.val (.int p1), .val (.int p2), .val (.long q3), .second, .val (.int (7 : Int32)), .val (.int qq), .val (.long lo), .second, .val (.ref b156), .unset, .unset, .unset, .unset, .unset] [(.long (4 : Int64)), (.long lo), (.int (4 : Int32)), (.ref b156)])) _
      refine XS.ladd X171.here hx rfl (hb hby at_97) rfl ?_
      show Steps p.tables e below (T171.setTop (mkF m 98 #[.val (.int p1), .val (.int p2), .val (.long q3), .second, .val (.int (7 : Int32)), .val (.int qq), .val (.long lo), .second, .val (.ref b156), .unset, .unset, .unset, .unset, .unset] [(.long (lo + (4 : Int64))), (.int (4 : Int32)), (.ref b156)])) _
      refine st175 _ ?_
      show Steps p.tables e below (T175.setTop (mkF m 99 #[.val (.int p1), .val (.int p2), .val (.long q3), .second, .val (.int (7 : Int32)), .val (.int qq), .val (.long lo), .second, .val (.ref b156), .unset, .unset, .unset, .unset, .unset] [])) _
      refine XS.iload X175.here hx rfl (hb hby at_99) rfl ?_
      show Steps p.tables e below (T175.setTop (mkF m 101 #[.val (.int p1), .val (.int p2), .val (.long q3), .second, .val (.int (7 : Int32)), .val (.int qq), .val (.long lo), .second, .val (.ref b156), .unset, .unset, .unset, .unset, .unset] [(.int (7 : Int32))])) _
      refine XS.iconst X175.here hx rfl (hb hby at_101) ?_
      show Steps p.tables e below (T175.setTop (mkF m 102 #[.val (.int p1), .val (.int p2), .val (.long q3), .second, .val (.int (7 : Int32)), .val (.int qq), .val (.long lo), .second, .val (.ref b156), .unset, .unset, .unset, .unset, .unset] [(.int (5 : Int32)), (.int (7 : Int32))])) _
      refine XS.icmpNo X175.here hx rfl (hb hby at_102) rfl (tlt (by decide : (5 : Int32) < (7 : Int32))).2.2.2 ?_
      show Steps p.tables e below (T175.setTop (mkF m 105 #[.val (.int p1), .val (.int p2), .val (.long q3), .second, .val (.int (7 : Int32)), .val (.int qq), .val (.long lo), .second, .val (.ref b156), .unset, .unset, .unset, .unset, .unset] [])) _
      refine XS.aload X175.here hx rfl (hb hby at_105) rfl rfl ?_
      show Steps p.tables e below (T175.setTop (mkF m 107 #[.val (.int p1), .val (.int p2), .val (.long q3), .second, .val (.int (7 : Int32)), .val (.int qq), .val (.long lo), .second, .val (.ref b156), .unset, .unset, .unset, .unset, .unset] [(.ref b156)])) _
      refine XS.iconst X175.here hx rfl (hb hby at_107) ?_
      show Steps p.tables e below (T175.setTop (mkF m 108 #[.val (.int p1), .val (.int p2), .val (.long q3), .second, .val (.int (7 : Int32)), .val (.int qq), .val (.long lo), .second, .val (.ref b156), .unset, .unset, .unset, .unset, .unset] [(.int (5 : Int32)), (.ref b156)])) _
      refine XS.lload X175.here hx rfl (hb hby at_108) rfl ?_
      show Steps p.tables e below (T175.setTop (mkF m 110 #[.val (.int p1), .val (.int p2), .val (.long q3), .second, .val (.int (7 : Int32)), .val (.int qq), .val (.long lo), .second, .val (.ref b156), .unset, .unset, .unset, .unset, .unset] [(.long lo), (.int (5 : Int32)), (.ref b156)])) _
      refine X175.ldc2Long hx hown (mvT hZ (hw _ (List.mem_of_getElem? (i := 15) rfl))) (g := (mkF m 110 #[.val (.int p1), .val (.int p2), .val (.long q3), .second, .val (.int (7 : Int32)), .val (.int qq), .val (.long lo), .second, .val (.ref b156), .unset, .unset, .unset, .unset, .unset] [(.long lo), (.int (5 : Int32)), (.ref b156)])) rfl (hb hby at_110) _ ?_
      show Steps p.tables e below (T175.setTop (mkF m 113 #[.val (.int p1), .val (.int p2), .val (.long q3), .second, .val (.int (7 : Int32)), .val (.int qq), .val (.long lo), .second, .val (.ref b156), .unset, .unset, .unset, .unset, .unset] [(.long (5 : Int64)), (.long lo), (.int (5 : Int32)), (.ref b156)])) _
      refine XS.ladd X175.here hx rfl (hb hby at_113) rfl ?_
      show Steps p.tables e below (T175.setTop (mkF m 114 #[.val (.int p1), .val (.int p2), .val (.long q3), .second, .val (.int (7 : Int32)), .val (.int qq), .val (.long lo), .second, .val (.ref b156), .unset, .unset, .unset, .unset, .unset] [(.long (lo + (5 : Int64))), (.int (5 : Int32)), (.ref b156)])) _
      refine st179 _ ?_
      show Steps p.tables e below (T179.setTop (mkF m 115 #[.val (.int p1), .val (.int p2), .val (.long q3), .second, .val (.int (7 : Int32)), .val (.int qq), .val (.long lo), .second, .val (.ref b156), .unset, .unset, .unset, .unset, .unset] [])) _
      refine XS.iload X179.here hx rfl (hb hby at_115) rfl ?_
      show Steps p.tables e below (T179.setTop (mkF m 117 #[.val (.int p1), .val (.int p2), .val (.long q3), .second, .val (.int (7 : Int32)), .val (.int qq), .val (.long lo), .second, .val (.ref b156), .unset, .unset, .unset, .unset, .unset] [(.int (7 : Int32))])) _
      refine XS.bipush X179.here hx rfl (hb hby at_117) ?_
      show Steps p.tables e below (T179.setTop (mkF m 119 #[.val (.int p1), .val (.int p2), .val (.long q3), .second, .val (.int (7 : Int32)), .val (.int qq), .val (.long lo), .second, .val (.ref b156), .unset, .unset, .unset, .unset, .unset] [(.int (6 : Int32)), (.int (7 : Int32))])) _
      refine XS.icmpNo X179.here hx rfl (hb hby at_119) rfl (tlt (by decide : (6 : Int32) < (7 : Int32))).2.2.2 ?_
      show Steps p.tables e below (T179.setTop (mkF m 122 #[.val (.int p1), .val (.int p2), .val (.long q3), .second, .val (.int (7 : Int32)), .val (.int qq), .val (.long lo), .second, .val (.ref b156), .unset, .unset, .unset, .unset, .unset] [])) _
      refine XS.aload X179.here hx rfl (hb hby at_122) rfl rfl ?_
      show Steps p.tables e below (T179.setTop (mkF m 124 #[.val (.int p1), .val (.int p2), .val (.long q3), .second, .val (.int (7 : Int32)), .val (.int qq), .val (.long lo), .second, .val (.ref b156), .unset, .unset, .unset, .unset, .unset] [(.ref b156)])) _
      refine XS.bipush X179.here hx rfl (hb hby at_124) ?_
      show Steps p.tables e below (T179.setTop (mkF m 126 #[.val (.int p1), .val (.int p2), .val (.long q3), .second, .val (.int (7 : Int32)), .val (.int qq), .val (.long lo), .second, .val (.ref b156), .unset, .unset, .unset, .unset, .unset] [(.int (6 : Int32)), (.ref b156)])) _
      refine XS.lload X179.here hx rfl (hb hby at_126) rfl ?_
      show Steps p.tables e below (T179.setTop (mkF m 128 #[.val (.int p1), .val (.int p2), .val (.long q3), .second, .val (.int (7 : Int32)), .val (.int qq), .val (.long lo), .second, .val (.ref b156), .unset, .unset, .unset, .unset, .unset] [(.long lo), (.int (6 : Int32)), (.ref b156)])) _
      refine X179.ldc2Long hx hown (mvT hZ (hw _ (List.mem_of_getElem? (i := 16) rfl))) (g := (mkF m 128 #[.val (.int p1), .val (.int p2), .val (.long q3), .second, .val (.int (7 : Int32)), .val (.int qq), .val (.long lo), .second, .val (.ref b156), .unset, .unset, .unset, .unset, .unset] [(.long lo), (.int (6 : Int32)), (.ref b156)])) rfl (hb hby at_128) _ ?_
      show Steps p.tables e below (T179.setTop (mkF m 131 #[.val (.int p1), .val (.int p2), .val (.long q3), .second, .val (.int (7 : Int32)), .val (.int qq), .val (.long lo), .second, .val (.ref b156), .unset, .unset, .unset, .unset, .unset] [(.long (6 : Int64)), (.long lo), (.int (6 : Int32)), (.ref b156)])) _
      refine XS.ladd X179.here hx rfl (hb hby at_131) rfl ?_
      show Steps p.tables e below (T179.setTop (mkF m 132 #[.val (.int p1), .val (.int p2), .val (.long q3), .second, .val (.int (7 : Int32)), .val (.int qq), .val (.long lo), .second, .val (.ref b156), .unset, .unset, .unset, .unset, .unset] [(.long (lo + (6 : Int64))), (.int (6 : Int32)), (.ref b156)])) _
      refine st183 _ ?_
      show Steps p.tables e below (T183.setTop (mkF m 133 #[.val (.int p1), .val (.int p2), .val (.long q3), .second, .val (.int (7 : Int32)), .val (.int qq), .val (.long lo), .second, .val (.ref b156), .unset, .unset, .unset, .unset, .unset] [])) _
      refine XS.iload X183.here hx rfl (hb hby at_133) rfl ?_
      show Steps p.tables e below (T183.setTop (mkF m 135 #[.val (.int p1), .val (.int p2), .val (.long q3), .second, .val (.int (7 : Int32)), .val (.int qq), .val (.long lo), .second, .val (.ref b156), .unset, .unset, .unset, .unset, .unset] [(.int (7 : Int32))])) _
      refine XS.bipush X183.here hx rfl (hb hby at_135) ?_
      show Steps p.tables e below (T183.setTop (mkF m 137 #[.val (.int p1), .val (.int p2), .val (.long q3), .second, .val (.int (7 : Int32)), .val (.int qq), .val (.long lo), .second, .val (.ref b156), .unset, .unset, .unset, .unset, .unset] [(.int (7 : Int32)), (.int (7 : Int32))])) _
      refine XS.icmpYes X183.here hx rfl (pc0 := 137) (pc' := 151) rfl (hb hby at_137) rfl (flt (by decide : ¬ ((7 : Int32) < (7 : Int32)))).2.2.2 (by decide) (by decide) ?_
      show Steps p.tables e below (T183.setTop (mkF m 151 #[.val (.int p1), .val (.int p2), .val (.long q3), .second, .val (.int (7 : Int32)), .val (.int qq), .val (.long lo), .second, .val (.ref b156), .unset, .unset, .unset, .unset, .unset] [])) _
      refine XS.iload X183.here hx rfl (hb hby at_151) rfl ?_
      show Steps p.tables e below (T183.setTop (mkF m 153 #[.val (.int p1), .val (.int p2), .val (.long q3), .second, .val (.int (7 : Int32)), .val (.int qq), .val (.long lo), .second, .val (.ref b156), .unset, .unset, .unset, .unset, .unset] [(.int qq)])) _
      refine XS.i2l X183.here hx rfl (hb hby at_153) rfl ?_
      show Steps p.tables e below (T183.setTop (mkF m 154 #[.val (.int p1), .val (.int p2), .val (.long q3), .second, .val (.int (7 : Int32)), .val (.int qq), .val (.long lo), .second, .val (.ref b156), .unset, .unset, .unset, .unset, .unset] [(.long (qq.toInt64))])) _
      refine XS.iload X183.here hx rfl (hb hby at_154) rfl ?_
      show Steps p.tables e below (T183.setTop (mkF m 156 #[.val (.int p1), .val (.int p2), .val (.long q3), .second, .val (.int (7 : Int32)), .val (.int qq), .val (.long lo), .second, .val (.ref b156), .unset, .unset, .unset, .unset, .unset] [(.int (7 : Int32)), (.long (qq.toInt64))])) _
      refine XS.i2l X183.here hx rfl (hb hby at_156) rfl ?_
      show Steps p.tables e below (T183.setTop (mkF m 157 #[.val (.int p1), .val (.int p2), .val (.long q3), .second, .val (.int (7 : Int32)), .val (.int qq), .val (.long lo), .second, .val (.ref b156), .unset, .unset, .unset, .unset, .unset] [(.long ((7 : Int32).toInt64)), (.long (qq.toInt64))])) _
      refine XS.lmul X183.here hx rfl (hb hby at_157) rfl ?_
      show Steps p.tables e below (T183.setTop (mkF m 158 #[.val (.int p1), .val (.int p2), .val (.long q3), .second, .val (.int (7 : Int32)), .val (.int qq), .val (.long lo), .second, .val (.ref b156), .unset, .unset, .unset, .unset, .unset] [(.long ((qq.toInt64) * ((7 : Int32).toInt64)))])) _
      refine XS.lstore X183.here hx rfl (hb hby at_158) rfl (l' := #[.val (.int p1), .val (.int p2), .val (.long q3), .second, .val (.int (7 : Int32)), .val (.int qq), .val (.long lo), .second, .val (.ref b156), .val (.long ((qq.toInt64) * ((7 : Int32).toInt64))), .second, .unset, .unset, .unset]) rfl ?_
      show Steps p.tables e below (T183.setTop (mkF m 160 #[.val (.int p1), .val (.int p2), .val (.long q3), .second, .val (.int (7 : Int32)), .val (.int qq), .val (.long lo), .second, .val (.ref b156), .val (.long ((qq.toInt64) * ((7 : Int32).toInt64))), .second, .unset, .unset, .unset] [])) _
      refine XS.iconst X183.here hx rfl (hb hby at_160) ?_
      show Steps p.tables e below (T183.setTop (mkF m 161 #[.val (.int p1), .val (.int p2), .val (.long q3), .second, .val (.int (7 : Int32)), .val (.int qq), .val (.long lo), .second, .val (.ref b156), .val (.long ((qq.toInt64) * ((7 : Int32).toInt64))), .second, .unset, .unset, .unset] [(.int (0 : Int32))])) _
      refine XS.istore X183.here hx rfl (hb hby at_161) rfl (l' := #[.val (.int p1), .val (.int p2), .val (.long q3), .second, .val (.int (7 : Int32)), .val (.int qq), .val (.long lo), .second, .val (.ref b156), .val (.long ((qq.toInt64) * ((7 : Int32).toInt64))), .second, .val (.int (0 : Int32)), .unset, .unset]) rfl ?_
      exact kt
    have pre187 : ∀ t, Steps p.tables e below (T183.setTop (mkF m 166 #[.val (.int p1), .val (.int p2), .val (.long q3), .second, .val (.int (7 : Int32)), .val (.int qq), .val (.long lo), .second, .val (.ref b156), .val (.long ((qq.toInt64) * ((7 : Int32).toInt64))), .second, .val (.int (0 : Int32)), .unset, .unset] [(.int (1 : Int32)), (.int (7 : Int32))])) t → Steps p.tables e below (s₁.setTop (entryFrame m #[(.int p1), (.int p2), (.long q3)] maxLocals)) t := fun t kt => by
      refine pre186 t ?_
      show Steps p.tables e below (T183.setTop (mkF m 163 #[.val (.int p1), .val (.int p2), .val (.long q3), .second, .val (.int (7 : Int32)), .val (.int qq), .val (.long lo), .second, .val (.ref b156), .val (.long ((qq.toInt64) * ((7 : Int32).toInt64))), .second, .val (.int (0 : Int32)), .unset, .unset] [])) _
      refine XS.iload X183.here hx rfl (hb hby at_163) rfl ?_
      show Steps p.tables e below (T183.setTop (mkF m 165 #[.val (.int p1), .val (.int p2), .val (.long q3), .second, .val (.int (7 : Int32)), .val (.int qq), .val (.long lo), .second, .val (.ref b156), .val (.long ((qq.toInt64) * ((7 : Int32).toInt64))), .second, .val (.int (0 : Int32)), .unset, .unset] [(.int (7 : Int32))])) _
      refine XS.iconst X183.here hx rfl (hb hby at_165) ?_
      exact kt
    obtain ⟨i1, h_i1, pre189⟩ : ∃ z : Int32, z = (if (1000 : Int64) < ((qq.toInt64) * ((7 : Int32).toInt64)) then (1 : Int32) else (0 : Int32)) ∧ ∀ t, Steps p.tables e below (T183.setTop (mkF m 181 #[.val (.int p1), .val (.int p2), .val (.long q3), .second, .val (.int (7 : Int32)), .val (.int qq), .val (.long lo), .second, .val (.ref b156), .val (.long ((qq.toInt64) * ((7 : Int32).toInt64))), .second, .val (.int z), .unset, .unset] [])) t → Steps p.tables e below (s₁.setTop (entryFrame m #[(.int p1), (.int p2), (.long q3)] maxLocals)) t := by
      by_cases hj175_188 : (1000 : Int64) < ((qq.toInt64) * ((7 : Int32).toInt64))
      · exact ⟨_, by rw [if_pos hj175_188], fun t kt => by
          refine pre187 t ?_
          show Steps p.tables e below (T183.setTop (mkF m 166 #[.val (.int p1), .val (.int p2), .val (.long q3), .second, .val (.int (7 : Int32)), .val (.int qq), .val (.long lo), .second, .val (.ref b156), .val (.long ((qq.toInt64) * ((7 : Int32).toInt64))), .second, .val (.int (0 : Int32)), .unset, .unset] [(.int (1 : Int32)), (.int (7 : Int32))])) _
          refine XS.icmpNo X183.here hx rfl (hb hby at_166) rfl (tlt (by decide : (1 : Int32) < (7 : Int32))).2.2.2 ?_
          show Steps p.tables e below (T183.setTop (mkF m 169 #[.val (.int p1), .val (.int p2), .val (.long q3), .second, .val (.int (7 : Int32)), .val (.int qq), .val (.long lo), .second, .val (.ref b156), .val (.long ((qq.toInt64) * ((7 : Int32).toInt64))), .second, .val (.int (0 : Int32)), .unset, .unset] [])) _
          refine X183.ldc2Long hx hown (mvT hZ (hw _ (List.mem_of_getElem? (i := 11) rfl))) (g := (mkF m 169 #[.val (.int p1), .val (.int p2), .val (.long q3), .second, .val (.int (7 : Int32)), .val (.int qq), .val (.long lo), .second, .val (.ref b156), .val (.long ((qq.toInt64) * ((7 : Int32).toInt64))), .second, .val (.int (0 : Int32)), .unset, .unset] [])) rfl (hb hby at_169) _ ?_
          show Steps p.tables e below (T183.setTop (mkF m 172 #[.val (.int p1), .val (.int p2), .val (.long q3), .second, .val (.int (7 : Int32)), .val (.int qq), .val (.long lo), .second, .val (.ref b156), .val (.long ((qq.toInt64) * ((7 : Int32).toInt64))), .second, .val (.int (0 : Int32)), .unset, .unset] [(.long (1000 : Int64))])) _
          refine XS.lload X183.here hx rfl (hb hby at_172) rfl ?_
          show Steps p.tables e below (T183.setTop (mkF m 174 #[.val (.int p1), .val (.int p2), .val (.long q3), .second, .val (.int (7 : Int32)), .val (.int qq), .val (.long lo), .second, .val (.ref b156), .val (.long ((qq.toInt64) * ((7 : Int32).toInt64))), .second, .val (.int (0 : Int32)), .unset, .unset] [(.long ((qq.toInt64) * ((7 : Int32).toInt64))), (.long (1000 : Int64))])) _
          refine XS.lcmp X183.here hx rfl (hb hby at_174) rfl ?_
          show Steps p.tables e below (T183.setTop (mkF m 175 #[.val (.int p1), .val (.int p2), .val (.long q3), .second, .val (.int (7 : Int32)), .val (.int qq), .val (.long lo), .second, .val (.ref b156), .val (.long ((qq.toInt64) * ((7 : Int32).toInt64))), .second, .val (.int (0 : Int32)), .unset, .unset] [(.int (lcmpW (1000 : Int64) ((qq.toInt64) * ((7 : Int32).toInt64))))])) _
          refine XS.ifNo X183.here hx rfl (hb hby at_175) rfl (own_lgeF hj175_188) ?_
          show Steps p.tables e below (T183.setTop (mkF m 178 #[.val (.int p1), .val (.int p2), .val (.long q3), .second, .val (.int (7 : Int32)), .val (.int qq), .val (.long lo), .second, .val (.ref b156), .val (.long ((qq.toInt64) * ((7 : Int32).toInt64))), .second, .val (.int (0 : Int32)), .unset, .unset] [])) _
          refine XS.iinc X183.here hx rfl (hb hby at_178) rfl (l' := #[.val (.int p1), .val (.int p2), .val (.long q3), .second, .val (.int (7 : Int32)), .val (.int qq), .val (.long lo), .second, .val (.ref b156), .val (.long ((qq.toInt64) * ((7 : Int32).toInt64))), .second, .val (.int (1 : Int32)), .unset, .unset]) rfl ?_
          exact kt⟩
      · exact ⟨_, by rw [if_neg hj175_188], fun t kt => by
          refine pre187 t ?_
          show Steps p.tables e below (T183.setTop (mkF m 166 #[.val (.int p1), .val (.int p2), .val (.long q3), .second, .val (.int (7 : Int32)), .val (.int qq), .val (.long lo), .second, .val (.ref b156), .val (.long ((qq.toInt64) * ((7 : Int32).toInt64))), .second, .val (.int (0 : Int32)), .unset, .unset] [(.int (1 : Int32)), (.int (7 : Int32))])) _
          refine XS.icmpNo X183.here hx rfl (hb hby at_166) rfl (tlt (by decide : (1 : Int32) < (7 : Int32))).2.2.2 ?_
          show Steps p.tables e below (T183.setTop (mkF m 169 #[.val (.int p1), .val (.int p2), .val (.long q3), .second, .val (.int (7 : Int32)), .val (.int qq), .val (.long lo), .second, .val (.ref b156), .val (.long ((qq.toInt64) * ((7 : Int32).toInt64))), .second, .val (.int (0 : Int32)), .unset, .unset] [])) _
          refine X183.ldc2Long hx hown (mvT hZ (hw _ (List.mem_of_getElem? (i := 11) rfl))) (g := (mkF m 169 #[.val (.int p1), .val (.int p2), .val (.long q3), .second, .val (.int (7 : Int32)), .val (.int qq), .val (.long lo), .second, .val (.ref b156), .val (.long ((qq.toInt64) * ((7 : Int32).toInt64))), .second, .val (.int (0 : Int32)), .unset, .unset] [])) rfl (hb hby at_169) _ ?_
          show Steps p.tables e below (T183.setTop (mkF m 172 #[.val (.int p1), .val (.int p2), .val (.long q3), .second, .val (.int (7 : Int32)), .val (.int qq), .val (.long lo), .second, .val (.ref b156), .val (.long ((qq.toInt64) * ((7 : Int32).toInt64))), .second, .val (.int (0 : Int32)), .unset, .unset] [(.long (1000 : Int64))])) _
          refine XS.lload X183.here hx rfl (hb hby at_172) rfl ?_
          show Steps p.tables e below (T183.setTop (mkF m 174 #[.val (.int p1), .val (.int p2), .val (.long q3), .second, .val (.int (7 : Int32)), .val (.int qq), .val (.long lo), .second, .val (.ref b156), .val (.long ((qq.toInt64) * ((7 : Int32).toInt64))), .second, .val (.int (0 : Int32)), .unset, .unset] [(.long ((qq.toInt64) * ((7 : Int32).toInt64))), (.long (1000 : Int64))])) _
          refine XS.lcmp X183.here hx rfl (hb hby at_174) rfl ?_
          show Steps p.tables e below (T183.setTop (mkF m 175 #[.val (.int p1), .val (.int p2), .val (.long q3), .second, .val (.int (7 : Int32)), .val (.int qq), .val (.long lo), .second, .val (.ref b156), .val (.long ((qq.toInt64) * ((7 : Int32).toInt64))), .second, .val (.int (0 : Int32)), .unset, .unset] [(.int (lcmpW (1000 : Int64) ((qq.toInt64) * ((7 : Int32).toInt64))))])) _
          refine XS.ifYes X183.here hx rfl (pc0 := 175) (pc' := 181) rfl (hb hby at_175) rfl (own_lgeT hj175_188) (by decide) (by decide) ?_
          exact kt⟩
    have pre190 : ∀ t, Steps p.tables e below (T183.setTop (mkF m 184 #[.val (.int p1), .val (.int p2), .val (.long q3), .second, .val (.int (7 : Int32)), .val (.int qq), .val (.long lo), .second, .val (.ref b156), .val (.long ((qq.toInt64) * ((7 : Int32).toInt64))), .second, .val (.int i1), .unset, .unset] [(.int (2 : Int32)), (.int (7 : Int32))])) t → Steps p.tables e below (s₁.setTop (entryFrame m #[(.int p1), (.int p2), (.long q3)] maxLocals)) t := fun t kt => by
      refine pre189 t ?_
      show Steps p.tables e below (T183.setTop (mkF m 181 #[.val (.int p1), .val (.int p2), .val (.long q3), .second, .val (.int (7 : Int32)), .val (.int qq), .val (.long lo), .second, .val (.ref b156), .val (.long ((qq.toInt64) * ((7 : Int32).toInt64))), .second, .val (.int i1), .unset, .unset] [])) _
      refine XS.iload X183.here hx rfl (hb hby at_181) rfl ?_
      show Steps p.tables e below (T183.setTop (mkF m 183 #[.val (.int p1), .val (.int p2), .val (.long q3), .second, .val (.int (7 : Int32)), .val (.int qq), .val (.long lo), .second, .val (.ref b156), .val (.long ((qq.toInt64) * ((7 : Int32).toInt64))), .second, .val (.int i1), .unset, .unset] [(.int (7 : Int32))])) _
      refine XS.iconst X183.here hx rfl (hb hby at_183) ?_
      exact kt
    obtain ⟨i2, h_i2, pre192⟩ : ∃ z : Int32, z = (if (2000 : Int64) < ((qq.toInt64) * ((7 : Int32).toInt64)) then (i1 + (1 : Int32)) else i1) ∧ ∀ t, Steps p.tables e below (T183.setTop (mkF m 199 #[.val (.int p1), .val (.int p2), .val (.long q3), .second, .val (.int (7 : Int32)), .val (.int qq), .val (.long lo), .second, .val (.ref b156), .val (.long ((qq.toInt64) * ((7 : Int32).toInt64))), .second, .val (.int z), .unset, .unset] [])) t → Steps p.tables e below (s₁.setTop (entryFrame m #[(.int p1), (.int p2), (.long q3)] maxLocals)) t := by
      by_cases hj193_191 : (2000 : Int64) < ((qq.toInt64) * ((7 : Int32).toInt64))
      · exact ⟨_, by rw [if_pos hj193_191], fun t kt => by
          refine pre190 t ?_
          show Steps p.tables e below (T183.setTop (mkF m 184 #[.val (.int p1), .val (.int p2), .val (.long q3), .second, .val (.int (7 : Int32)), .val (.int qq), .val (.long lo), .second, .val (.ref b156), .val (.long ((qq.toInt64) * ((7 : Int32).toInt64))), .second, .val (.int i1), .unset, .unset] [(.int (2 : Int32)), (.int (7 : Int32))])) _
          refine XS.icmpNo X183.here hx rfl (hb hby at_184) rfl (tlt (by decide : (2 : Int32) < (7 : Int32))).2.2.2 ?_
          show Steps p.tables e below (T183.setTop (mkF m 187 #[.val (.int p1), .val (.int p2), .val (.long q3), .second, .val (.int (7 : Int32)), .val (.int qq), .val (.long lo), .second, .val (.ref b156), .val (.long ((qq.toInt64) * ((7 : Int32).toInt64))), .second, .val (.int i1), .unset, .unset] [])) _
          refine X183.ldc2Long hx hown (mvT hZ (hw _ (List.mem_of_getElem? (i := 12) rfl))) (g := (mkF m 187 #[.val (.int p1), .val (.int p2), .val (.long q3), .second, .val (.int (7 : Int32)), .val (.int qq), .val (.long lo), .second, .val (.ref b156), .val (.long ((qq.toInt64) * ((7 : Int32).toInt64))), .second, .val (.int i1), .unset, .unset] [])) rfl (hb hby at_187) _ ?_
          show Steps p.tables e below (T183.setTop (mkF m 190 #[.val (.int p1), .val (.int p2), .val (.long q3), .second, .val (.int (7 : Int32)), .val (.int qq), .val (.long lo), .second, .val (.ref b156), .val (.long ((qq.toInt64) * ((7 : Int32).toInt64))), .second, .val (.int i1), .unset, .unset] [(.long (2000 : Int64))])) _
          refine XS.lload X183.here hx rfl (hb hby at_190) rfl ?_
          show Steps p.tables e below (T183.setTop (mkF m 192 #[.val (.int p1), .val (.int p2), .val (.long q3), .second, .val (.int (7 : Int32)), .val (.int qq), .val (.long lo), .second, .val (.ref b156), .val (.long ((qq.toInt64) * ((7 : Int32).toInt64))), .second, .val (.int i1), .unset, .unset] [(.long ((qq.toInt64) * ((7 : Int32).toInt64))), (.long (2000 : Int64))])) _
          refine XS.lcmp X183.here hx rfl (hb hby at_192) rfl ?_
          show Steps p.tables e below (T183.setTop (mkF m 193 #[.val (.int p1), .val (.int p2), .val (.long q3), .second, .val (.int (7 : Int32)), .val (.int qq), .val (.long lo), .second, .val (.ref b156), .val (.long ((qq.toInt64) * ((7 : Int32).toInt64))), .second, .val (.int i1), .unset, .unset] [(.int (lcmpW (2000 : Int64) ((qq.toInt64) * ((7 : Int32).toInt64))))])) _
          refine XS.ifNo X183.here hx rfl (hb hby at_193) rfl (own_lgeF hj193_191) ?_
          show Steps p.tables e below (T183.setTop (mkF m 196 #[.val (.int p1), .val (.int p2), .val (.long q3), .second, .val (.int (7 : Int32)), .val (.int qq), .val (.long lo), .second, .val (.ref b156), .val (.long ((qq.toInt64) * ((7 : Int32).toInt64))), .second, .val (.int i1), .unset, .unset] [])) _
          refine XS.iinc X183.here hx rfl (hb hby at_196) rfl (l' := #[.val (.int p1), .val (.int p2), .val (.long q3), .second, .val (.int (7 : Int32)), .val (.int qq), .val (.long lo), .second, .val (.ref b156), .val (.long ((qq.toInt64) * ((7 : Int32).toInt64))), .second, .val (.int (i1 + (1 : Int32))), .unset, .unset]) rfl ?_
          exact kt⟩
      · exact ⟨_, by rw [if_neg hj193_191], fun t kt => by
          refine pre190 t ?_
          show Steps p.tables e below (T183.setTop (mkF m 184 #[.val (.int p1), .val (.int p2), .val (.long q3), .second, .val (.int (7 : Int32)), .val (.int qq), .val (.long lo), .second, .val (.ref b156), .val (.long ((qq.toInt64) * ((7 : Int32).toInt64))), .second, .val (.int i1), .unset, .unset] [(.int (2 : Int32)), (.int (7 : Int32))])) _
          refine XS.icmpNo X183.here hx rfl (hb hby at_184) rfl (tlt (by decide : (2 : Int32) < (7 : Int32))).2.2.2 ?_
          show Steps p.tables e below (T183.setTop (mkF m 187 #[.val (.int p1), .val (.int p2), .val (.long q3), .second, .val (.int (7 : Int32)), .val (.int qq), .val (.long lo), .second, .val (.ref b156), .val (.long ((qq.toInt64) * ((7 : Int32).toInt64))), .second, .val (.int i1), .unset, .unset] [])) _
          refine X183.ldc2Long hx hown (mvT hZ (hw _ (List.mem_of_getElem? (i := 12) rfl))) (g := (mkF m 187 #[.val (.int p1), .val (.int p2), .val (.long q3), .second, .val (.int (7 : Int32)), .val (.int qq), .val (.long lo), .second, .val (.ref b156), .val (.long ((qq.toInt64) * ((7 : Int32).toInt64))), .second, .val (.int i1), .unset, .unset] [])) rfl (hb hby at_187) _ ?_
          show Steps p.tables e below (T183.setTop (mkF m 190 #[.val (.int p1), .val (.int p2), .val (.long q3), .second, .val (.int (7 : Int32)), .val (.int qq), .val (.long lo), .second, .val (.ref b156), .val (.long ((qq.toInt64) * ((7 : Int32).toInt64))), .second, .val (.int i1), .unset, .unset] [(.long (2000 : Int64))])) _
          refine XS.lload X183.here hx rfl (hb hby at_190) rfl ?_
          show Steps p.tables e below (T183.setTop (mkF m 192 #[.val (.int p1), .val (.int p2), .val (.long q3), .second, .val (.int (7 : Int32)), .val (.int qq), .val (.long lo), .second, .val (.ref b156), .val (.long ((qq.toInt64) * ((7 : Int32).toInt64))), .second, .val (.int i1), .unset, .unset] [(.long ((qq.toInt64) * ((7 : Int32).toInt64))), (.long (2000 : Int64))])) _
          refine XS.lcmp X183.here hx rfl (hb hby at_192) rfl ?_
          show Steps p.tables e below (T183.setTop (mkF m 193 #[.val (.int p1), .val (.int p2), .val (.long q3), .second, .val (.int (7 : Int32)), .val (.int qq), .val (.long lo), .second, .val (.ref b156), .val (.long ((qq.toInt64) * ((7 : Int32).toInt64))), .second, .val (.int i1), .unset, .unset] [(.int (lcmpW (2000 : Int64) ((qq.toInt64) * ((7 : Int32).toInt64))))])) _
          refine XS.ifYes X183.here hx rfl (pc0 := 193) (pc' := 199) rfl (hb hby at_193) rfl (own_lgeT hj193_191) (by decide) (by decide) ?_
          exact kt⟩
    have pre193 : ∀ t, Steps p.tables e below (T183.setTop (mkF m 202 #[.val (.int p1), .val (.int p2), .val (.long q3), .second, .val (.int (7 : Int32)), .val (.int qq), .val (.long lo), .second, .val (.ref b156), .val (.long ((qq.toInt64) * ((7 : Int32).toInt64))), .second, .val (.int i2), .unset, .unset] [(.int (3 : Int32)), (.int (7 : Int32))])) t → Steps p.tables e below (s₁.setTop (entryFrame m #[(.int p1), (.int p2), (.long q3)] maxLocals)) t := fun t kt => by
      refine pre192 t ?_
      show Steps p.tables e below (T183.setTop (mkF m 199 #[.val (.int p1), .val (.int p2), .val (.long q3), .second, .val (.int (7 : Int32)), .val (.int qq), .val (.long lo), .second, .val (.ref b156), .val (.long ((qq.toInt64) * ((7 : Int32).toInt64))), .second, .val (.int i2), .unset, .unset] [])) _
      refine XS.iload X183.here hx rfl (hb hby at_199) rfl ?_
      show Steps p.tables e below (T183.setTop (mkF m 201 #[.val (.int p1), .val (.int p2), .val (.long q3), .second, .val (.int (7 : Int32)), .val (.int qq), .val (.long lo), .second, .val (.ref b156), .val (.long ((qq.toInt64) * ((7 : Int32).toInt64))), .second, .val (.int i2), .unset, .unset] [(.int (7 : Int32))])) _
      refine XS.iconst X183.here hx rfl (hb hby at_201) ?_
      exact kt
    obtain ⟨i3, h_i3, pre195⟩ : ∃ z : Int32, z = (if (3000 : Int64) < ((qq.toInt64) * ((7 : Int32).toInt64)) then (i2 + (1 : Int32)) else i2) ∧ ∀ t, Steps p.tables e below (T183.setTop (mkF m 217 #[.val (.int p1), .val (.int p2), .val (.long q3), .second, .val (.int (7 : Int32)), .val (.int qq), .val (.long lo), .second, .val (.ref b156), .val (.long ((qq.toInt64) * ((7 : Int32).toInt64))), .second, .val (.int z), .unset, .unset] [])) t → Steps p.tables e below (s₁.setTop (entryFrame m #[(.int p1), (.int p2), (.long q3)] maxLocals)) t := by
      by_cases hj211_194 : (3000 : Int64) < ((qq.toInt64) * ((7 : Int32).toInt64))
      · exact ⟨_, by rw [if_pos hj211_194], fun t kt => by
          refine pre193 t ?_
          show Steps p.tables e below (T183.setTop (mkF m 202 #[.val (.int p1), .val (.int p2), .val (.long q3), .second, .val (.int (7 : Int32)), .val (.int qq), .val (.long lo), .second, .val (.ref b156), .val (.long ((qq.toInt64) * ((7 : Int32).toInt64))), .second, .val (.int i2), .unset, .unset] [(.int (3 : Int32)), (.int (7 : Int32))])) _
          refine XS.icmpNo X183.here hx rfl (hb hby at_202) rfl (tlt (by decide : (3 : Int32) < (7 : Int32))).2.2.2 ?_
          show Steps p.tables e below (T183.setTop (mkF m 205 #[.val (.int p1), .val (.int p2), .val (.long q3), .second, .val (.int (7 : Int32)), .val (.int qq), .val (.long lo), .second, .val (.ref b156), .val (.long ((qq.toInt64) * ((7 : Int32).toInt64))), .second, .val (.int i2), .unset, .unset] [])) _
          refine X183.ldc2Long hx hown (mvT hZ (hw _ (List.mem_of_getElem? (i := 13) rfl))) (g := (mkF m 205 #[.val (.int p1), .val (.int p2), .val (.long q3), .second, .val (.int (7 : Int32)), .val (.int qq), .val (.long lo), .second, .val (.ref b156), .val (.long ((qq.toInt64) * ((7 : Int32).toInt64))), .second, .val (.int i2), .unset, .unset] [])) rfl (hb hby at_205) _ ?_
          show Steps p.tables e below (T183.setTop (mkF m 208 #[.val (.int p1), .val (.int p2), .val (.long q3), .second, .val (.int (7 : Int32)), .val (.int qq), .val (.long lo), .second, .val (.ref b156), .val (.long ((qq.toInt64) * ((7 : Int32).toInt64))), .second, .val (.int i2), .unset, .unset] [(.long (3000 : Int64))])) _
          refine XS.lload X183.here hx rfl (hb hby at_208) rfl ?_
          show Steps p.tables e below (T183.setTop (mkF m 210 #[.val (.int p1), .val (.int p2), .val (.long q3), .second, .val (.int (7 : Int32)), .val (.int qq), .val (.long lo), .second, .val (.ref b156), .val (.long ((qq.toInt64) * ((7 : Int32).toInt64))), .second, .val (.int i2), .unset, .unset] [(.long ((qq.toInt64) * ((7 : Int32).toInt64))), (.long (3000 : Int64))])) _
          refine XS.lcmp X183.here hx rfl (hb hby at_210) rfl ?_
          show Steps p.tables e below (T183.setTop (mkF m 211 #[.val (.int p1), .val (.int p2), .val (.long q3), .second, .val (.int (7 : Int32)), .val (.int qq), .val (.long lo), .second, .val (.ref b156), .val (.long ((qq.toInt64) * ((7 : Int32).toInt64))), .second, .val (.int i2), .unset, .unset] [(.int (lcmpW (3000 : Int64) ((qq.toInt64) * ((7 : Int32).toInt64))))])) _
          refine XS.ifNo X183.here hx rfl (hb hby at_211) rfl (own_lgeF hj211_194) ?_
          show Steps p.tables e below (T183.setTop (mkF m 214 #[.val (.int p1), .val (.int p2), .val (.long q3), .second, .val (.int (7 : Int32)), .val (.int qq), .val (.long lo), .second, .val (.ref b156), .val (.long ((qq.toInt64) * ((7 : Int32).toInt64))), .second, .val (.int i2), .unset, .unset] [])) _
          refine XS.iinc X183.here hx rfl (hb hby at_214) rfl (l' := #[.val (.int p1), .val (.int p2), .val (.long q3), .second, .val (.int (7 : Int32)), .val (.int qq), .val (.long lo), .second, .val (.ref b156), .val (.long ((qq.toInt64) * ((7 : Int32).toInt64))), .second, .val (.int (i2 + (1 : Int32))), .unset, .unset]) rfl ?_
          exact kt⟩
      · exact ⟨_, by rw [if_neg hj211_194], fun t kt => by
          refine pre193 t ?_
          show Steps p.tables e below (T183.setTop (mkF m 202 #[.val (.int p1), .val (.int p2), .val (.long q3), .second, .val (.int (7 : Int32)), .val (.int qq), .val (.long lo), .second, .val (.ref b156), .val (.long ((qq.toInt64) * ((7 : Int32).toInt64))), .second, .val (.int i2), .unset, .unset] [(.int (3 : Int32)), (.int (7 : Int32))])) _
          refine XS.icmpNo X183.here hx rfl (hb hby at_202) rfl (tlt (by decide : (3 : Int32) < (7 : Int32))).2.2.2 ?_
          show Steps p.tables e below (T183.setTop (mkF m 205 #[.val (.int p1), .val (.int p2), .val (.long q3), .second, .val (.int (7 : Int32)), .val (.int qq), .val (.long lo), .second, .val (.ref b156), .val (.long ((qq.toInt64) * ((7 : Int32).toInt64))), .second, .val (.int i2), .unset, .unset] [])) _
          refine X183.ldc2Long hx hown (mvT hZ (hw _ (List.mem_of_getElem? (i := 13) rfl))) (g := (mkF m 205 #[.val (.int p1), .val (.int p2), .val (.long q3), .second, .val (.int (7 : Int32)), .val (.int qq), .val (.long lo), .second, .val (.ref b156), .val (.long ((qq.toInt64) * ((7 : Int32).toInt64))), .second, .val (.int i2), .unset, .unset] [])) rfl (hb hby at_205) _ ?_
          show Steps p.tables e below (T183.setTop (mkF m 208 #[.val (.int p1), .val (.int p2), .val (.long q3), .second, .val (.int (7 : Int32)), .val (.int qq), .val (.long lo), .second, .val (.ref b156), .val (.long ((qq.toInt64) * ((7 : Int32).toInt64))), .second, .val (.int i2), .unset, .unset] [(.long (3000 : Int64))])) _
          refine XS.lload X183.here hx rfl (hb hby at_208) rfl ?_
          show Steps p.tables e below (T183.setTop (mkF m 210 #[.val (.int p1), .val (.int p2), .val (.long q3), .second, .val (.int (7 : Int32)), .val (.int qq), .val (.long lo), .second, .val (.ref b156), .val (.long ((qq.toInt64) * ((7 : Int32).toInt64))), .second, .val (.int i2), .unset, .unset] [(.long ((qq.toInt64) * ((7 : Int32).toInt64))), (.long (3000 : Int64))])) _
          refine XS.lcmp X183.here hx rfl (hb hby at_210) rfl ?_
          show Steps p.tables e below (T183.setTop (mkF m 211 #[.val (.int p1), .val (.int p2), .val (.long q3), .second, .val (.int (7 : Int32)), .val (.int qq), .val (.long lo), .second, .val (.ref b156), .val (.long ((qq.toInt64) * ((7 : Int32).toInt64))), .second, .val (.int i2), .unset, .unset] [(.int (lcmpW (3000 : Int64) ((qq.toInt64) * ((7 : Int32).toInt64))))])) _
          refine XS.ifYes X183.here hx rfl (pc0 := 211) (pc' := 217) rfl (hb hby at_211) rfl (own_lgeT hj211_194) (by decide) (by decide) ?_
          exact kt⟩
    have pre196 : ∀ t, Steps p.tables e below (T183.setTop (mkF m 220 #[.val (.int p1), .val (.int p2), .val (.long q3), .second, .val (.int (7 : Int32)), .val (.int qq), .val (.long lo), .second, .val (.ref b156), .val (.long ((qq.toInt64) * ((7 : Int32).toInt64))), .second, .val (.int i3), .unset, .unset] [(.int (4 : Int32)), (.int (7 : Int32))])) t → Steps p.tables e below (s₁.setTop (entryFrame m #[(.int p1), (.int p2), (.long q3)] maxLocals)) t := fun t kt => by
      refine pre195 t ?_
      show Steps p.tables e below (T183.setTop (mkF m 217 #[.val (.int p1), .val (.int p2), .val (.long q3), .second, .val (.int (7 : Int32)), .val (.int qq), .val (.long lo), .second, .val (.ref b156), .val (.long ((qq.toInt64) * ((7 : Int32).toInt64))), .second, .val (.int i3), .unset, .unset] [])) _
      refine XS.iload X183.here hx rfl (hb hby at_217) rfl ?_
      show Steps p.tables e below (T183.setTop (mkF m 219 #[.val (.int p1), .val (.int p2), .val (.long q3), .second, .val (.int (7 : Int32)), .val (.int qq), .val (.long lo), .second, .val (.ref b156), .val (.long ((qq.toInt64) * ((7 : Int32).toInt64))), .second, .val (.int i3), .unset, .unset] [(.int (7 : Int32))])) _
      refine XS.iconst X183.here hx rfl (hb hby at_219) ?_
      exact kt
    obtain ⟨i4, h_i4, pre198⟩ : ∃ z : Int32, z = (if (4000 : Int64) < ((qq.toInt64) * ((7 : Int32).toInt64)) then (i3 + (1 : Int32)) else i3) ∧ ∀ t, Steps p.tables e below (T183.setTop (mkF m 235 #[.val (.int p1), .val (.int p2), .val (.long q3), .second, .val (.int (7 : Int32)), .val (.int qq), .val (.long lo), .second, .val (.ref b156), .val (.long ((qq.toInt64) * ((7 : Int32).toInt64))), .second, .val (.int z), .unset, .unset] [])) t → Steps p.tables e below (s₁.setTop (entryFrame m #[(.int p1), (.int p2), (.long q3)] maxLocals)) t := by
      by_cases hj229_197 : (4000 : Int64) < ((qq.toInt64) * ((7 : Int32).toInt64))
      · exact ⟨_, by rw [if_pos hj229_197], fun t kt => by
          refine pre196 t ?_
          show Steps p.tables e below (T183.setTop (mkF m 220 #[.val (.int p1), .val (.int p2), .val (.long q3), .second, .val (.int (7 : Int32)), .val (.int qq), .val (.long lo), .second, .val (.ref b156), .val (.long ((qq.toInt64) * ((7 : Int32).toInt64))), .second, .val (.int i3), .unset, .unset] [(.int (4 : Int32)), (.int (7 : Int32))])) _
          refine XS.icmpNo X183.here hx rfl (hb hby at_220) rfl (tlt (by decide : (4 : Int32) < (7 : Int32))).2.2.2 ?_
          show Steps p.tables e below (T183.setTop (mkF m 223 #[.val (.int p1), .val (.int p2), .val (.long q3), .second, .val (.int (7 : Int32)), .val (.int qq), .val (.long lo), .second, .val (.ref b156), .val (.long ((qq.toInt64) * ((7 : Int32).toInt64))), .second, .val (.int i3), .unset, .unset] [])) _
          refine X183.ldc2Long hx hown (mvT hZ (hw _ (List.mem_of_getElem? (i := 14) rfl))) (g := (mkF m 223 #[.val (.int p1), .val (.int p2), .val (.long q3), .second, .val (.int (7 : Int32)), .val (.int qq), .val (.long lo), .second, .val (.ref b156), .val (.long ((qq.toInt64) * ((7 : Int32).toInt64))), .second, .val (.int i3), .unset, .unset] [])) rfl (hb hby at_223) _ ?_
          show Steps p.tables e below (T183.setTop (mkF m 226 #[.val (.int p1), .val (.int p2), .val (.long q3), .second, .val (.int (7 : Int32)), .val (.int qq), .val (.long lo), .second, .val (.ref b156), .val (.long ((qq.toInt64) * ((7 : Int32).toInt64))), .second, .val (.int i3), .unset, .unset] [(.long (4000 : Int64))])) _
          refine XS.lload X183.here hx rfl (hb hby at_226) rfl ?_
          show Steps p.tables e below (T183.setTop (mkF m 228 #[.val (.int p1), .val (.int p2), .val (.long q3), .second, .val (.int (7 : Int32)), .val (.int qq), .val (.long lo), .second, .val (.ref b156), .val (.long ((qq.toInt64) * ((7 : Int32).toInt64))), .second, .val (.int i3), .unset, .unset] [(.long ((qq.toInt64) * ((7 : Int32).toInt64))), (.long (4000 : Int64))])) _
          refine XS.lcmp X183.here hx rfl (hb hby at_228) rfl ?_
          show Steps p.tables e below (T183.setTop (mkF m 229 #[.val (.int p1), .val (.int p2), .val (.long q3), .second, .val (.int (7 : Int32)), .val (.int qq), .val (.long lo), .second, .val (.ref b156), .val (.long ((qq.toInt64) * ((7 : Int32).toInt64))), .second, .val (.int i3), .unset, .unset] [(.int (lcmpW (4000 : Int64) ((qq.toInt64) * ((7 : Int32).toInt64))))])) _
          refine XS.ifNo X183.here hx rfl (hb hby at_229) rfl (own_lgeF hj229_197) ?_
          show Steps p.tables e below (T183.setTop (mkF m 232 #[.val (.int p1), .val (.int p2), .val (.long q3), .second, .val (.int (7 : Int32)), .val (.int qq), .val (.long lo), .second, .val (.ref b156), .val (.long ((qq.toInt64) * ((7 : Int32).toInt64))), .second, .val (.int i3), .unset, .unset] [])) _
          refine XS.iinc X183.here hx rfl (hb hby at_232) rfl (l' := #[.val (.int p1), .val (.int p2), .val (.long q3), .second, .val (.int (7 : Int32)), .val (.int qq), .val (.long lo), .second, .val (.ref b156), .val (.long ((qq.toInt64) * ((7 : Int32).toInt64))), .second, .val (.int (i3 + (1 : Int32))), .unset, .unset]) rfl ?_
          exact kt⟩
      · exact ⟨_, by rw [if_neg hj229_197], fun t kt => by
          refine pre196 t ?_
          show Steps p.tables e below (T183.setTop (mkF m 220 #[.val (.int p1), .val (.int p2), .val (.long q3), .second, .val (.int (7 : Int32)), .val (.int qq), .val (.long lo), .second, .val (.ref b156), .val (.long ((qq.toInt64) * ((7 : Int32).toInt64))), .second, .val (.int i3), .unset, .unset] [(.int (4 : Int32)), (.int (7 : Int32))])) _
          refine XS.icmpNo X183.here hx rfl (hb hby at_220) rfl (tlt (by decide : (4 : Int32) < (7 : Int32))).2.2.2 ?_
          show Steps p.tables e below (T183.setTop (mkF m 223 #[.val (.int p1), .val (.int p2), .val (.long q3), .second, .val (.int (7 : Int32)), .val (.int qq), .val (.long lo), .second, .val (.ref b156), .val (.long ((qq.toInt64) * ((7 : Int32).toInt64))), .second, .val (.int i3), .unset, .unset] [])) _
          refine X183.ldc2Long hx hown (mvT hZ (hw _ (List.mem_of_getElem? (i := 14) rfl))) (g := (mkF m 223 #[.val (.int p1), .val (.int p2), .val (.long q3), .second, .val (.int (7 : Int32)), .val (.int qq), .val (.long lo), .second, .val (.ref b156), .val (.long ((qq.toInt64) * ((7 : Int32).toInt64))), .second, .val (.int i3), .unset, .unset] [])) rfl (hb hby at_223) _ ?_
          show Steps p.tables e below (T183.setTop (mkF m 226 #[.val (.int p1), .val (.int p2), .val (.long q3), .second, .val (.int (7 : Int32)), .val (.int qq), .val (.long lo), .second, .val (.ref b156), .val (.long ((qq.toInt64) * ((7 : Int32).toInt64))), .second, .val (.int i3), .unset, .unset] [(.long (4000 : Int64))])) _
          refine XS.lload X183.here hx rfl (hb hby at_226) rfl ?_
          show Steps p.tables e below (T183.setTop (mkF m 228 #[.val (.int p1), .val (.int p2), .val (.long q3), .second, .val (.int (7 : Int32)), .val (.int qq), .val (.long lo), .second, .val (.ref b156), .val (.long ((qq.toInt64) * ((7 : Int32).toInt64))), .second, .val (.int i3), .unset, .unset] [(.long ((qq.toInt64) * ((7 : Int32).toInt64))), (.long (4000 : Int64))])) _
          refine XS.lcmp X183.here hx rfl (hb hby at_228) rfl ?_
          show Steps p.tables e below (T183.setTop (mkF m 229 #[.val (.int p1), .val (.int p2), .val (.long q3), .second, .val (.int (7 : Int32)), .val (.int qq), .val (.long lo), .second, .val (.ref b156), .val (.long ((qq.toInt64) * ((7 : Int32).toInt64))), .second, .val (.int i3), .unset, .unset] [(.int (lcmpW (4000 : Int64) ((qq.toInt64) * ((7 : Int32).toInt64))))])) _
          refine XS.ifYes X183.here hx rfl (pc0 := 229) (pc' := 235) rfl (hb hby at_229) rfl (own_lgeT hj229_197) (by decide) (by decide) ?_
          exact kt⟩
    have pre199 : ∀ t, Steps p.tables e below (T183.setTop (mkF m 238 #[.val (.int p1), .val (.int p2), .val (.long q3), .second, .val (.int (7 : Int32)), .val (.int qq), .val (.long lo), .second, .val (.ref b156), .val (.long ((qq.toInt64) * ((7 : Int32).toInt64))), .second, .val (.int i4), .unset, .unset] [(.int (5 : Int32)), (.int (7 : Int32))])) t → Steps p.tables e below (s₁.setTop (entryFrame m #[(.int p1), (.int p2), (.long q3)] maxLocals)) t := fun t kt => by
      refine pre198 t ?_
      show Steps p.tables e below (T183.setTop (mkF m 235 #[.val (.int p1), .val (.int p2), .val (.long q3), .second, .val (.int (7 : Int32)), .val (.int qq), .val (.long lo), .second, .val (.ref b156), .val (.long ((qq.toInt64) * ((7 : Int32).toInt64))), .second, .val (.int i4), .unset, .unset] [])) _
      refine XS.iload X183.here hx rfl (hb hby at_235) rfl ?_
      show Steps p.tables e below (T183.setTop (mkF m 237 #[.val (.int p1), .val (.int p2), .val (.long q3), .second, .val (.int (7 : Int32)), .val (.int qq), .val (.long lo), .second, .val (.ref b156), .val (.long ((qq.toInt64) * ((7 : Int32).toInt64))), .second, .val (.int i4), .unset, .unset] [(.int (7 : Int32))])) _
      refine XS.iconst X183.here hx rfl (hb hby at_237) ?_
      exact kt
    obtain ⟨i5, h_i5, pre201⟩ : ∃ z : Int32, z = (if (5000 : Int64) < ((qq.toInt64) * ((7 : Int32).toInt64)) then (i4 + (1 : Int32)) else i4) ∧ ∀ t, Steps p.tables e below (T183.setTop (mkF m 253 #[.val (.int p1), .val (.int p2), .val (.long q3), .second, .val (.int (7 : Int32)), .val (.int qq), .val (.long lo), .second, .val (.ref b156), .val (.long ((qq.toInt64) * ((7 : Int32).toInt64))), .second, .val (.int z), .unset, .unset] [])) t → Steps p.tables e below (s₁.setTop (entryFrame m #[(.int p1), (.int p2), (.long q3)] maxLocals)) t := by
      by_cases hj247_200 : (5000 : Int64) < ((qq.toInt64) * ((7 : Int32).toInt64))
      · exact ⟨_, by rw [if_pos hj247_200], fun t kt => by
          refine pre199 t ?_
          show Steps p.tables e below (T183.setTop (mkF m 238 #[.val (.int p1), .val (.int p2), .val (.long q3), .second, .val (.int (7 : Int32)), .val (.int qq), .val (.long lo), .second, .val (.ref b156), .val (.long ((qq.toInt64) * ((7 : Int32).toInt64))), .second, .val (.int i4), .unset, .unset] [(.int (5 : Int32)), (.int (7 : Int32))])) _
          refine XS.icmpNo X183.here hx rfl (hb hby at_238) rfl (tlt (by decide : (5 : Int32) < (7 : Int32))).2.2.2 ?_
          show Steps p.tables e below (T183.setTop (mkF m 241 #[.val (.int p1), .val (.int p2), .val (.long q3), .second, .val (.int (7 : Int32)), .val (.int qq), .val (.long lo), .second, .val (.ref b156), .val (.long ((qq.toInt64) * ((7 : Int32).toInt64))), .second, .val (.int i4), .unset, .unset] [])) _
          refine X183.ldc2Long hx hown (mvT hZ (hw _ (List.mem_of_getElem? (i := 18) rfl))) (g := (mkF m 241 #[.val (.int p1), .val (.int p2), .val (.long q3), .second, .val (.int (7 : Int32)), .val (.int qq), .val (.long lo), .second, .val (.ref b156), .val (.long ((qq.toInt64) * ((7 : Int32).toInt64))), .second, .val (.int i4), .unset, .unset] [])) rfl (hb hby at_241) _ ?_
          show Steps p.tables e below (T183.setTop (mkF m 244 #[.val (.int p1), .val (.int p2), .val (.long q3), .second, .val (.int (7 : Int32)), .val (.int qq), .val (.long lo), .second, .val (.ref b156), .val (.long ((qq.toInt64) * ((7 : Int32).toInt64))), .second, .val (.int i4), .unset, .unset] [(.long (5000 : Int64))])) _
          refine XS.lload X183.here hx rfl (hb hby at_244) rfl ?_
          show Steps p.tables e below (T183.setTop (mkF m 246 #[.val (.int p1), .val (.int p2), .val (.long q3), .second, .val (.int (7 : Int32)), .val (.int qq), .val (.long lo), .second, .val (.ref b156), .val (.long ((qq.toInt64) * ((7 : Int32).toInt64))), .second, .val (.int i4), .unset, .unset] [(.long ((qq.toInt64) * ((7 : Int32).toInt64))), (.long (5000 : Int64))])) _
          refine XS.lcmp X183.here hx rfl (hb hby at_246) rfl ?_
          show Steps p.tables e below (T183.setTop (mkF m 247 #[.val (.int p1), .val (.int p2), .val (.long q3), .second, .val (.int (7 : Int32)), .val (.int qq), .val (.long lo), .second, .val (.ref b156), .val (.long ((qq.toInt64) * ((7 : Int32).toInt64))), .second, .val (.int i4), .unset, .unset] [(.int (lcmpW (5000 : Int64) ((qq.toInt64) * ((7 : Int32).toInt64))))])) _
          refine XS.ifNo X183.here hx rfl (hb hby at_247) rfl (own_lgeF hj247_200) ?_
          show Steps p.tables e below (T183.setTop (mkF m 250 #[.val (.int p1), .val (.int p2), .val (.long q3), .second, .val (.int (7 : Int32)), .val (.int qq), .val (.long lo), .second, .val (.ref b156), .val (.long ((qq.toInt64) * ((7 : Int32).toInt64))), .second, .val (.int i4), .unset, .unset] [])) _
          refine XS.iinc X183.here hx rfl (hb hby at_250) rfl (l' := #[.val (.int p1), .val (.int p2), .val (.long q3), .second, .val (.int (7 : Int32)), .val (.int qq), .val (.long lo), .second, .val (.ref b156), .val (.long ((qq.toInt64) * ((7 : Int32).toInt64))), .second, .val (.int (i4 + (1 : Int32))), .unset, .unset]) rfl ?_
          exact kt⟩
      · exact ⟨_, by rw [if_neg hj247_200], fun t kt => by
          refine pre199 t ?_
          show Steps p.tables e below (T183.setTop (mkF m 238 #[.val (.int p1), .val (.int p2), .val (.long q3), .second, .val (.int (7 : Int32)), .val (.int qq), .val (.long lo), .second, .val (.ref b156), .val (.long ((qq.toInt64) * ((7 : Int32).toInt64))), .second, .val (.int i4), .unset, .unset] [(.int (5 : Int32)), (.int (7 : Int32))])) _
          refine XS.icmpNo X183.here hx rfl (hb hby at_238) rfl (tlt (by decide : (5 : Int32) < (7 : Int32))).2.2.2 ?_
          show Steps p.tables e below (T183.setTop (mkF m 241 #[.val (.int p1), .val (.int p2), .val (.long q3), .second, .val (.int (7 : Int32)), .val (.int qq), .val (.long lo), .second, .val (.ref b156), .val (.long ((qq.toInt64) * ((7 : Int32).toInt64))), .second, .val (.int i4), .unset, .unset] [])) _
          refine X183.ldc2Long hx hown (mvT hZ (hw _ (List.mem_of_getElem? (i := 18) rfl))) (g := (mkF m 241 #[.val (.int p1), .val (.int p2), .val (.long q3), .second, .val (.int (7 : Int32)), .val (.int qq), .val (.long lo), .second, .val (.ref b156), .val (.long ((qq.toInt64) * ((7 : Int32).toInt64))), .second, .val (.int i4), .unset, .unset] [])) rfl (hb hby at_241) _ ?_
          show Steps p.tables e below (T183.setTop (mkF m 244 #[.val (.int p1), .val (.int p2), .val (.long q3), .second, .val (.int (7 : Int32)), .val (.int qq), .val (.long lo), .second, .val (.ref b156), .val (.long ((qq.toInt64) * ((7 : Int32).toInt64))), .second, .val (.int i4), .unset, .unset] [(.long (5000 : Int64))])) _
          refine XS.lload X183.here hx rfl (hb hby at_244) rfl ?_
          show Steps p.tables e below (T183.setTop (mkF m 246 #[.val (.int p1), .val (.int p2), .val (.long q3), .second, .val (.int (7 : Int32)), .val (.int qq), .val (.long lo), .second, .val (.ref b156), .val (.long ((qq.toInt64) * ((7 : Int32).toInt64))), .second, .val (.int i4), .unset, .unset] [(.long ((qq.toInt64) * ((7 : Int32).toInt64))), (.long (5000 : Int64))])) _
          refine XS.lcmp X183.here hx rfl (hb hby at_246) rfl ?_
          show Steps p.tables e below (T183.setTop (mkF m 247 #[.val (.int p1), .val (.int p2), .val (.long q3), .second, .val (.int (7 : Int32)), .val (.int qq), .val (.long lo), .second, .val (.ref b156), .val (.long ((qq.toInt64) * ((7 : Int32).toInt64))), .second, .val (.int i4), .unset, .unset] [(.int (lcmpW (5000 : Int64) ((qq.toInt64) * ((7 : Int32).toInt64))))])) _
          refine XS.ifYes X183.here hx rfl (pc0 := 247) (pc' := 253) rfl (hb hby at_247) rfl (own_lgeT hj247_200) (by decide) (by decide) ?_
          exact kt⟩
    have pre202 : ∀ t, Steps p.tables e below (T183.setTop (mkF m 257 #[.val (.int p1), .val (.int p2), .val (.long q3), .second, .val (.int (7 : Int32)), .val (.int qq), .val (.long lo), .second, .val (.ref b156), .val (.long ((qq.toInt64) * ((7 : Int32).toInt64))), .second, .val (.int i5), .unset, .unset] [(.int (6 : Int32)), (.int (7 : Int32))])) t → Steps p.tables e below (s₁.setTop (entryFrame m #[(.int p1), (.int p2), (.long q3)] maxLocals)) t := fun t kt => by
      refine pre201 t ?_
      show Steps p.tables e below (T183.setTop (mkF m 253 #[.val (.int p1), .val (.int p2), .val (.long q3), .second, .val (.int (7 : Int32)), .val (.int qq), .val (.long lo), .second, .val (.ref b156), .val (.long ((qq.toInt64) * ((7 : Int32).toInt64))), .second, .val (.int i5), .unset, .unset] [])) _
      refine XS.iload X183.here hx rfl (hb hby at_253) rfl ?_
      show Steps p.tables e below (T183.setTop (mkF m 255 #[.val (.int p1), .val (.int p2), .val (.long q3), .second, .val (.int (7 : Int32)), .val (.int qq), .val (.long lo), .second, .val (.ref b156), .val (.long ((qq.toInt64) * ((7 : Int32).toInt64))), .second, .val (.int i5), .unset, .unset] [(.int (7 : Int32))])) _
      refine XS.bipush X183.here hx rfl (hb hby at_255) ?_
      exact kt
    obtain ⟨i6, h_i6, pre204⟩ : ∃ z : Int32, z = (if (6000 : Int64) < ((qq.toInt64) * ((7 : Int32).toInt64)) then (i5 + (1 : Int32)) else i5) ∧ ∀ t, Steps p.tables e below (T183.setTop (mkF m 272 #[.val (.int p1), .val (.int p2), .val (.long q3), .second, .val (.int (7 : Int32)), .val (.int qq), .val (.long lo), .second, .val (.ref b156), .val (.long ((qq.toInt64) * ((7 : Int32).toInt64))), .second, .val (.int z), .unset, .unset] [])) t → Steps p.tables e below (s₁.setTop (entryFrame m #[(.int p1), (.int p2), (.long q3)] maxLocals)) t := by
      by_cases hj266_203 : (6000 : Int64) < ((qq.toInt64) * ((7 : Int32).toInt64))
      · exact ⟨_, by rw [if_pos hj266_203], fun t kt => by
          refine pre202 t ?_
          show Steps p.tables e below (T183.setTop (mkF m 257 #[.val (.int p1), .val (.int p2), .val (.long q3), .second, .val (.int (7 : Int32)), .val (.int qq), .val (.long lo), .second, .val (.ref b156), .val (.long ((qq.toInt64) * ((7 : Int32).toInt64))), .second, .val (.int i5), .unset, .unset] [(.int (6 : Int32)), (.int (7 : Int32))])) _
          refine XS.icmpNo X183.here hx rfl (hb hby at_257) rfl (tlt (by decide : (6 : Int32) < (7 : Int32))).2.2.2 ?_
          show Steps p.tables e below (T183.setTop (mkF m 260 #[.val (.int p1), .val (.int p2), .val (.long q3), .second, .val (.int (7 : Int32)), .val (.int qq), .val (.long lo), .second, .val (.ref b156), .val (.long ((qq.toInt64) * ((7 : Int32).toInt64))), .second, .val (.int i5), .unset, .unset] [])) _
          refine X183.ldc2Long hx hown (mvT hZ (hw _ (List.mem_of_getElem? (i := 19) rfl))) (g := (mkF m 260 #[.val (.int p1), .val (.int p2), .val (.long q3), .second, .val (.int (7 : Int32)), .val (.int qq), .val (.long lo), .second, .val (.ref b156), .val (.long ((qq.toInt64) * ((7 : Int32).toInt64))), .second, .val (.int i5), .unset, .unset] [])) rfl (hb hby at_260) _ ?_
          show Steps p.tables e below (T183.setTop (mkF m 263 #[.val (.int p1), .val (.int p2), .val (.long q3), .second, .val (.int (7 : Int32)), .val (.int qq), .val (.long lo), .second, .val (.ref b156), .val (.long ((qq.toInt64) * ((7 : Int32).toInt64))), .second, .val (.int i5), .unset, .unset] [(.long (6000 : Int64))])) _
          refine XS.lload X183.here hx rfl (hb hby at_263) rfl ?_
          show Steps p.tables e below (T183.setTop (mkF m 265 #[.val (.int p1), .val (.int p2), .val (.long q3), .second, .val (.int (7 : Int32)), .val (.int qq), .val (.long lo), .second, .val (.ref b156), .val (.long ((qq.toInt64) * ((7 : Int32).toInt64))), .second, .val (.int i5), .unset, .unset] [(.long ((qq.toInt64) * ((7 : Int32).toInt64))), (.long (6000 : Int64))])) _
          refine XS.lcmp X183.here hx rfl (hb hby at_265) rfl ?_
          show Steps p.tables e below (T183.setTop (mkF m 266 #[.val (.int p1), .val (.int p2), .val (.long q3), .second, .val (.int (7 : Int32)), .val (.int qq), .val (.long lo), .second, .val (.ref b156), .val (.long ((qq.toInt64) * ((7 : Int32).toInt64))), .second, .val (.int i5), .unset, .unset] [(.int (lcmpW (6000 : Int64) ((qq.toInt64) * ((7 : Int32).toInt64))))])) _
          refine XS.ifNo X183.here hx rfl (hb hby at_266) rfl (own_lgeF hj266_203) ?_
          show Steps p.tables e below (T183.setTop (mkF m 269 #[.val (.int p1), .val (.int p2), .val (.long q3), .second, .val (.int (7 : Int32)), .val (.int qq), .val (.long lo), .second, .val (.ref b156), .val (.long ((qq.toInt64) * ((7 : Int32).toInt64))), .second, .val (.int i5), .unset, .unset] [])) _
          refine XS.iinc X183.here hx rfl (hb hby at_269) rfl (l' := #[.val (.int p1), .val (.int p2), .val (.long q3), .second, .val (.int (7 : Int32)), .val (.int qq), .val (.long lo), .second, .val (.ref b156), .val (.long ((qq.toInt64) * ((7 : Int32).toInt64))), .second, .val (.int (i5 + (1 : Int32))), .unset, .unset]) rfl ?_
          exact kt⟩
      · exact ⟨_, by rw [if_neg hj266_203], fun t kt => by
          refine pre202 t ?_
          show Steps p.tables e below (T183.setTop (mkF m 257 #[.val (.int p1), .val (.int p2), .val (.long q3), .second, .val (.int (7 : Int32)), .val (.int qq), .val (.long lo), .second, .val (.ref b156), .val (.long ((qq.toInt64) * ((7 : Int32).toInt64))), .second, .val (.int i5), .unset, .unset] [(.int (6 : Int32)), (.int (7 : Int32))])) _
          refine XS.icmpNo X183.here hx rfl (hb hby at_257) rfl (tlt (by decide : (6 : Int32) < (7 : Int32))).2.2.2 ?_
          show Steps p.tables e below (T183.setTop (mkF m 260 #[.val (.int p1), .val (.int p2), .val (.long q3), .second, .val (.int (7 : Int32)), .val (.int qq), .val (.long lo), .second, .val (.ref b156), .val (.long ((qq.toInt64) * ((7 : Int32).toInt64))), .second, .val (.int i5), .unset, .unset] [])) _
          refine X183.ldc2Long hx hown (mvT hZ (hw _ (List.mem_of_getElem? (i := 19) rfl))) (g := (mkF m 260 #[.val (.int p1), .val (.int p2), .val (.long q3), .second, .val (.int (7 : Int32)), .val (.int qq), .val (.long lo), .second, .val (.ref b156), .val (.long ((qq.toInt64) * ((7 : Int32).toInt64))), .second, .val (.int i5), .unset, .unset] [])) rfl (hb hby at_260) _ ?_
          show Steps p.tables e below (T183.setTop (mkF m 263 #[.val (.int p1), .val (.int p2), .val (.long q3), .second, .val (.int (7 : Int32)), .val (.int qq), .val (.long lo), .second, .val (.ref b156), .val (.long ((qq.toInt64) * ((7 : Int32).toInt64))), .second, .val (.int i5), .unset, .unset] [(.long (6000 : Int64))])) _
          refine XS.lload X183.here hx rfl (hb hby at_263) rfl ?_
          show Steps p.tables e below (T183.setTop (mkF m 265 #[.val (.int p1), .val (.int p2), .val (.long q3), .second, .val (.int (7 : Int32)), .val (.int qq), .val (.long lo), .second, .val (.ref b156), .val (.long ((qq.toInt64) * ((7 : Int32).toInt64))), .second, .val (.int i5), .unset, .unset] [(.long ((qq.toInt64) * ((7 : Int32).toInt64))), (.long (6000 : Int64))])) _
          refine XS.lcmp X183.here hx rfl (hb hby at_265) rfl ?_
          show Steps p.tables e below (T183.setTop (mkF m 266 #[.val (.int p1), .val (.int p2), .val (.long q3), .second, .val (.int (7 : Int32)), .val (.int qq), .val (.long lo), .second, .val (.ref b156), .val (.long ((qq.toInt64) * ((7 : Int32).toInt64))), .second, .val (.int i5), .unset, .unset] [(.int (lcmpW (6000 : Int64) ((qq.toInt64) * ((7 : Int32).toInt64))))])) _
          refine XS.ifYes X183.here hx rfl (pc0 := 266) (pc' := 272) rfl (hb hby at_266) rfl (own_lgeT hj266_203) (by decide) (by decide) ?_
          exact kt⟩
    have hcn := own_c7 hq h_i1 h_i2 h_i3 h_i4 h_i5 h_i6
    obtain ⟨_, _, ⟨T205, L205, k205, n205⟩, -, X205, ⟨Lc205, hQ205, l205, y205, z205⟩, st205⟩ := Jvm.LawKit.callS X183 hx (y := (⟨"com/example/sandglass/sandglass/Percentiles", "nearestRank", "([JI)J"⟩ : MethodName)) hown (mvT hZ (hw _ (List.mem_of_getElem? (i := 2) rfl))) (mvT hZ (hw _ (List.mem_of_getElem? (i := 3) rfl))) (mvT hZ (hw _ (List.mem_of_getElem? (i := 4) rfl))) (mvT hZ (hw _ (List.mem_of_getElem? (i := 5) rfl))) (by decide) (backOf (W := 0) (rm1 l Z a0 hw [] b156 qq k156 (7 : Int32) [(.long lo), (.long (lo + (1 : Int64))), (.long (lo + (2 : Int64))), (.long (lo + (3 : Int64))), (.long (lo + (4 : Int64))), (.long (lo + (5 : Int64))), (.long (lo + (6 : Int64)))] (lo + (i6).toInt64) h183 n0 (Nat.le_trans Z0 K184.1) Vw183 (own_i7 hcn.1 hcn.2.1 hcn.2.2) (own_g7 hcn.1 hcn.2.1 hcn.2.2)) hZ (hw _ (List.mem_of_getElem? (i := 5) rfl)) (hw _ (List.mem_of_getElem? (i := 4) rfl)) (by decide) (by decide)) (g := (mkF m 295 #[.val (.int p1), .val (.int p2), .val (.long q3), .second, .val (.int (7 : Int32)), .val (.int qq), .val (.long lo), .second, .val (.ref b156), .val (.long ((qq.toInt64) * ((7 : Int32).toInt64))), .second, .val (.int i6), .unset, .unset] [(.int qq), (.ref b156)])) rfl (by rw [hml]; rfl) (argsL := [(.ref b156), (.int qq)]) (rest := []) (lenOf pd__28_5bJI_29J rfl) rfl (by show 2 * 0 + _ ≤ _; exact Nat.le_of_eq rfl) (hb hby at_295) (fun _ _ => ⟨rfl, e183, (by decide : 1 + 0 ≤ _), (by decide : 7 + 0 ≤ _)⟩)
    dsimp only [Pt.U, Pt.locs, Pt.cells, Pt.slots] at X205 l205 y205 z205 st205 hQ205
    subst l205 y205 z205
    obtain ⟨rfl, N205q, e205⟩ := hQ205
    have N205 := Fr.app N185 N205q
    obtain ⟨fs, hr, hrun, hended, hW, hsame⟩ := X205.leave (v := some (.int (1 : Int32))) (fun h => by rw [Bd.returns] at h; cases h)
    refine ⟨_, _, pre204 _ ?_, hrun, hended, _, _, rfl, ?_, ⟨_, rfl⟩, hW, hsame.mono (by decide) (by decide)⟩
    · show Steps p.tables e below (T183.setTop (mkF m 272 #[.val (.int p1), .val (.int p2), .val (.long q3), .second, .val (.int (7 : Int32)), .val (.int qq), .val (.long lo), .second, .val (.ref b156), .val (.long ((qq.toInt64) * ((7 : Int32).toInt64))), .second, .val (.int i6), .unset, .unset] [])) _
      refine XS.iload X183.here hx rfl (hb hby at_272) rfl ?_
      show Steps p.tables e below (T183.setTop (mkF m 274 #[.val (.int p1), .val (.int p2), .val (.long q3), .second, .val (.int (7 : Int32)), .val (.int qq), .val (.long lo), .second, .val (.ref b156), .val (.long ((qq.toInt64) * ((7 : Int32).toInt64))), .second, .val (.int i6), .unset, .unset] [(.int (7 : Int32))])) _
      refine XS.bipush X183.here hx rfl (hb hby at_274) ?_
      show Steps p.tables e below (T183.setTop (mkF m 276 #[.val (.int p1), .val (.int p2), .val (.long q3), .second, .val (.int (7 : Int32)), .val (.int qq), .val (.long lo), .second, .val (.ref b156), .val (.long ((qq.toInt64) * ((7 : Int32).toInt64))), .second, .val (.int i6), .unset, .unset] [(.int (7 : Int32)), (.int (7 : Int32))])) _
      refine XS.icmpYes X183.here hx rfl (pc0 := 276) (pc' := 291) rfl (hb hby at_276) rfl (flt (by decide : ¬ ((7 : Int32) < (7 : Int32)))).2.2.2 (by decide) (by decide) ?_
      show Steps p.tables e below (T183.setTop (mkF m 291 #[.val (.int p1), .val (.int p2), .val (.long q3), .second, .val (.int (7 : Int32)), .val (.int qq), .val (.long lo), .second, .val (.ref b156), .val (.long ((qq.toInt64) * ((7 : Int32).toInt64))), .second, .val (.int i6), .unset, .unset] [])) _
      refine XS.aload X183.here hx rfl (hb hby at_291) rfl rfl ?_
      show Steps p.tables e below (T183.setTop (mkF m 293 #[.val (.int p1), .val (.int p2), .val (.long q3), .second, .val (.int (7 : Int32)), .val (.int qq), .val (.long lo), .second, .val (.ref b156), .val (.long ((qq.toInt64) * ((7 : Int32).toInt64))), .second, .val (.int i6), .unset, .unset] [(.ref b156)])) _
      refine XS.iload X183.here hx rfl (hb hby at_293) rfl ?_
      show Steps p.tables e below (T183.setTop (mkF m 295 #[.val (.int p1), .val (.int p2), .val (.long q3), .second, .val (.int (7 : Int32)), .val (.int qq), .val (.long lo), .second, .val (.ref b156), .val (.long ((qq.toInt64) * ((7 : Int32).toInt64))), .second, .val (.int i6), .unset, .unset] [(.int qq), (.ref b156)])) _
      refine st205 _ ?_
      show Steps p.tables e below (T205.setTop (mkF m 298 #[.val (.int p1), .val (.int p2), .val (.long q3), .second, .val (.int (7 : Int32)), .val (.int qq), .val (.long lo), .second, .val (.ref b156), .val (.long ((qq.toInt64) * ((7 : Int32).toInt64))), .second, .val (.int i6), .unset, .unset] [(.long (lo + (i6).toInt64))])) _
      refine XS.lstore X205.here hx rfl (hb hby at_298) rfl (l' := #[.val (.int p1), .val (.int p2), .val (.long q3), .second, .val (.int (7 : Int32)), .val (.int qq), .val (.long lo), .second, .val (.ref b156), .val (.long ((qq.toInt64) * ((7 : Int32).toInt64))), .second, .val (.int i6), .val (.long (lo + (i6).toInt64)), .second]) rfl ?_
      show Steps p.tables e below (T205.setTop (mkF m 300 #[.val (.int p1), .val (.int p2), .val (.long q3), .second, .val (.int (7 : Int32)), .val (.int qq), .val (.long lo), .second, .val (.ref b156), .val (.long ((qq.toInt64) * ((7 : Int32).toInt64))), .second, .val (.int i6), .val (.long (lo + (i6).toInt64)), .second] [])) _
      refine XS.lload X205.here hx rfl (hb hby at_300) rfl ?_
      show Steps p.tables e below (T205.setTop (mkF m 302 #[.val (.int p1), .val (.int p2), .val (.long q3), .second, .val (.int (7 : Int32)), .val (.int qq), .val (.long lo), .second, .val (.ref b156), .val (.long ((qq.toInt64) * ((7 : Int32).toInt64))), .second, .val (.int i6), .val (.long (lo + (i6).toInt64)), .second] [(.long (lo + (i6).toInt64))])) _
      refine XS.lload X205.here hx rfl (hb hby at_302) rfl ?_
      show Steps p.tables e below (T205.setTop (mkF m 304 #[.val (.int p1), .val (.int p2), .val (.long q3), .second, .val (.int (7 : Int32)), .val (.int qq), .val (.long lo), .second, .val (.ref b156), .val (.long ((qq.toInt64) * ((7 : Int32).toInt64))), .second, .val (.int i6), .val (.long (lo + (i6).toInt64)), .second] [(.long lo), (.long (lo + (i6).toInt64))])) _
      refine XS.iload X205.here hx rfl (hb hby at_304) rfl ?_
      show Steps p.tables e below (T205.setTop (mkF m 306 #[.val (.int p1), .val (.int p2), .val (.long q3), .second, .val (.int (7 : Int32)), .val (.int qq), .val (.long lo), .second, .val (.ref b156), .val (.long ((qq.toInt64) * ((7 : Int32).toInt64))), .second, .val (.int i6), .val (.long (lo + (i6).toInt64)), .second] [(.int i6), (.long lo), (.long (lo + (i6).toInt64))])) _
      refine XS.i2l X205.here hx rfl (hb hby at_306) rfl ?_
      show Steps p.tables e below (T205.setTop (mkF m 307 #[.val (.int p1), .val (.int p2), .val (.long q3), .second, .val (.int (7 : Int32)), .val (.int qq), .val (.long lo), .second, .val (.ref b156), .val (.long ((qq.toInt64) * ((7 : Int32).toInt64))), .second, .val (.int i6), .val (.long (lo + (i6).toInt64)), .second] [(.long (i6.toInt64)), (.long lo), (.long (lo + (i6).toInt64))])) _
      refine XS.ladd X205.here hx rfl (hb hby at_307) rfl ?_
      show Steps p.tables e below (T205.setTop (mkF m 308 #[.val (.int p1), .val (.int p2), .val (.long q3), .second, .val (.int (7 : Int32)), .val (.int qq), .val (.long lo), .second, .val (.ref b156), .val (.long ((qq.toInt64) * ((7 : Int32).toInt64))), .second, .val (.int i6), .val (.long (lo + (i6).toInt64)), .second] [(.long (lo + (i6.toInt64))), (.long (lo + (i6).toInt64))])) _
      refine XS.lcmp X205.here hx rfl (hb hby at_308) rfl ?_
      show Steps p.tables e below (T205.setTop (mkF m 309 #[.val (.int p1), .val (.int p2), .val (.long q3), .second, .val (.int (7 : Int32)), .val (.int qq), .val (.long lo), .second, .val (.ref b156), .val (.long ((qq.toInt64) * ((7 : Int32).toInt64))), .second, .val (.int i6), .val (.long (lo + (i6).toInt64)), .second] [(.int (lcmpW (lo + (i6).toInt64) (lo + (i6.toInt64))))])) _
      refine XS.ifNo X205.here hx rfl (hb hby at_309) rfl (own_lneF rfl) ?_
      show Steps p.tables e below (T205.setTop (mkF m 312 #[.val (.int p1), .val (.int p2), .val (.long q3), .second, .val (.int (7 : Int32)), .val (.int qq), .val (.long lo), .second, .val (.ref b156), .val (.long ((qq.toInt64) * ((7 : Int32).toInt64))), .second, .val (.int i6), .val (.long (lo + (i6).toInt64)), .second] [])) _
      refine XS.iconst X205.here hx rfl (hb hby at_312) ?_
      show Steps p.tables e below (T205.setTop (mkF m 313 #[.val (.int p1), .val (.int p2), .val (.long q3), .second, .val (.int (7 : Int32)), .val (.int qq), .val (.long lo), .second, .val (.ref b156), .val (.long ((qq.toInt64) * ((7 : Int32).toInt64))), .second, .val (.int i6), .val (.long (lo + (i6).toInt64)), .second] [(.int (1 : Int32))])) _
      refine XS.goto X205.here hx rfl (pc0 := 313) (pc' := 317) rfl (hb hby at_313) (by decide) (by decide) ?_
      show Steps p.tables e below (T205.setTop (mkF m 317 #[.val (.int p1), .val (.int p2), .val (.long q3), .second, .val (.int (7 : Int32)), .val (.int qq), .val (.long lo), .second, .val (.ref b156), .val (.long ((qq.toInt64) * ((7 : Int32).toInt64))), .second, .val (.int i6), .val (.long (lo + (i6).toInt64)), .second] [(.int (1 : Int32))])) _
      exact retN X205 hx (t := .boolean) Bd.returns (by simp) (hb hby at_317) hr
    · show Q_rm0 Z p1 p2 q3 h0 n0 _ T205.heap _
      rw [e205]
      exact ⟨rfl, N205⟩
  · rw [hn] at pre3
    obtain ⟨T206, h206, k206, X206, e206, E206, A206, st206⟩ := newP X0 hx hZ (hw _ (List.mem_of_getElem? (i := 1) rfl)) e0 (g := (mkF m 27 #[.val (.int p1), .val (.int p2), .val (.long q3), .second, .val (.int (8 : Int32)), .val (.int qq), .val (.long lo), .second, .unset, .unset, .unset, .unset, .unset, .unset] [(.int (8 : Int32))])) rfl (hb hby at_27) rfl (by decide) (cap := 8) (by decide) (by decide) (by decide) (by decide)
    obtain ⟨b206, g206⟩ : ∃ z, z = h0.size := ⟨_, rfl⟩
    rw [← g206] at A206 st206
    have g_b206 : n0 ≤ b206 := Nat.le_trans Z0 (Nat.le_of_eq g206.symm)
    have sz_b206 : h0.size ≤ b206 := Nat.le_trans (Keep.refl h0 []).1 (Nat.le_of_eq g206.symm)
    have K207 : Keep h0 h206 [] := (Keep.refl h0 []).ext E206
    have V_b206 : Arv Z h206 b206 k206 .long (8 : Int32) [(.long (0 : Int64)), (.long (0 : Int64)), (.long (0 : Int64)), (.long (0 : Int64)), (.long (0 : Int64)), (.long (0 : Int64)), (.long (0 : Int64)), (.long (0 : Int64))] (.long (0 : Int64)) := (Arv.new A206 (by decide)).pad (pad_rep [] (.long (0 : Int64)) 8)
    obtain ⟨c208, Ac208, qc208, Sc208, Nc208, Hc208, Gc208⟩ := id V_b206
    obtain ⟨T209, h209, X209, e209, W209, st209⟩ := stJ X206 hx hZ e206 Ac208 (j := (0 : Int32)) (inb_of Sc208 ⟨by decide, by decide⟩) (g := (mkF m 36 #[.val (.int p1), .val (.int p2), .val (.long q3), .second, .val (.int (8 : Int32)), .val (.int qq), .val (.long lo), .second, .val (.ref b206), .unset, .unset, .unset, .unset, .unset] [(.long lo), (.int (0 : Int32)), (.ref b206)])) rfl rfl (hb hby at_36)
    have K210 : Keep h0 h209 [] := K207.wr W209 (Or.inr sz_b206)
    have N211 := Fr.snoc X209 N0 g_b206
    have Vw209 := Arv.set Ac208 qc208 Sc208 Nc208 Hc208 Gc208 rfl W209 0 rfl (Nat.le_of_ble_eq_true rfl)
    change Arv Z h209 b206 k206 .long (8 : Int32) [(.long lo), (.long (0 : Int64)), (.long (0 : Int64)), (.long (0 : Int64)), (.long (0 : Int64)), (.long (0 : Int64)), (.long (0 : Int64)), (.long (0 : Int64))] (.long (0 : Int64)) at Vw209
    obtain ⟨c212, Ac212, qc212, Sc212, Nc212, Hc212, Gc212⟩ := id Vw209
    obtain ⟨T213, h213, X213, e213, W213, st213⟩ := stJ X209 hx hZ e209 Ac212 (j := (1 : Int32)) (inb_of Sc212 ⟨by decide, by decide⟩) (g := (mkF m 50 #[.val (.int p1), .val (.int p2), .val (.long q3), .second, .val (.int (8 : Int32)), .val (.int qq), .val (.long lo), .second, .val (.ref b206), .unset, .unset, .unset, .unset, .unset] [(.long (lo + (1 : Int64))), (.int (1 : Int32)), (.ref b206)])) rfl rfl (hb hby at_50)
    have K214 : Keep h0 h213 [] := K210.wr W213 (Or.inr sz_b206)
    have N215 := Fr.snoc X213 N211 g_b206
    have Vw213 := Arv.set Ac212 qc212 Sc212 Nc212 Hc212 Gc212 rfl W213 1 rfl (Nat.le_of_ble_eq_true rfl)
    change Arv Z h213 b206 k206 .long (8 : Int32) [(.long lo), (.long (lo + (1 : Int64))), (.long (0 : Int64)), (.long (0 : Int64)), (.long (0 : Int64)), (.long (0 : Int64)), (.long (0 : Int64)), (.long (0 : Int64))] (.long (0 : Int64)) at Vw213
    obtain ⟨c216, Ac216, qc216, Sc216, Nc216, Hc216, Gc216⟩ := id Vw213
    obtain ⟨T217, h217, X217, e217, W217, st217⟩ := stJ X213 hx hZ e213 Ac216 (j := (2 : Int32)) (inb_of Sc216 ⟨by decide, by decide⟩) (g := (mkF m 66 #[.val (.int p1), .val (.int p2), .val (.long q3), .second, .val (.int (8 : Int32)), .val (.int qq), .val (.long lo), .second, .val (.ref b206), .unset, .unset, .unset, .unset, .unset] [(.long (lo + (2 : Int64))), (.int (2 : Int32)), (.ref b206)])) rfl rfl (hb hby at_66)
    have K218 : Keep h0 h217 [] := K214.wr W217 (Or.inr sz_b206)
    have N219 := Fr.snoc X217 N215 g_b206
    have Vw217 := Arv.set Ac216 qc216 Sc216 Nc216 Hc216 Gc216 rfl W217 2 rfl (Nat.le_of_ble_eq_true rfl)
    change Arv Z h217 b206 k206 .long (8 : Int32) [(.long lo), (.long (lo + (1 : Int64))), (.long (lo + (2 : Int64))), (.long (0 : Int64)), (.long (0 : Int64)), (.long (0 : Int64)), (.long (0 : Int64)), (.long (0 : Int64))] (.long (0 : Int64)) at Vw217
    obtain ⟨c220, Ac220, qc220, Sc220, Nc220, Hc220, Gc220⟩ := id Vw217
    obtain ⟨T221, h221, X221, e221, W221, st221⟩ := stJ X217 hx hZ e217 Ac220 (j := (3 : Int32)) (inb_of Sc220 ⟨by decide, by decide⟩) (g := (mkF m 82 #[.val (.int p1), .val (.int p2), .val (.long q3), .second, .val (.int (8 : Int32)), .val (.int qq), .val (.long lo), .second, .val (.ref b206), .unset, .unset, .unset, .unset, .unset] [(.long (lo + (3 : Int64))), (.int (3 : Int32)), (.ref b206)])) rfl rfl (hb hby at_82)
    have K222 : Keep h0 h221 [] := K218.wr W221 (Or.inr sz_b206)
    have N223 := Fr.snoc X221 N219 g_b206
    have Vw221 := Arv.set Ac220 qc220 Sc220 Nc220 Hc220 Gc220 rfl W221 3 rfl (Nat.le_of_ble_eq_true rfl)
    change Arv Z h221 b206 k206 .long (8 : Int32) [(.long lo), (.long (lo + (1 : Int64))), (.long (lo + (2 : Int64))), (.long (lo + (3 : Int64))), (.long (0 : Int64)), (.long (0 : Int64)), (.long (0 : Int64)), (.long (0 : Int64))] (.long (0 : Int64)) at Vw221
    obtain ⟨c224, Ac224, qc224, Sc224, Nc224, Hc224, Gc224⟩ := id Vw221
    obtain ⟨T225, h225, X225, e225, W225, st225⟩ := stJ X221 hx hZ e221 Ac224 (j := (4 : Int32)) (inb_of Sc224 ⟨by decide, by decide⟩) (g := (mkF m 98 #[.val (.int p1), .val (.int p2), .val (.long q3), .second, .val (.int (8 : Int32)), .val (.int qq), .val (.long lo), .second, .val (.ref b206), .unset, .unset, .unset, .unset, .unset] [(.long (lo + (4 : Int64))), (.int (4 : Int32)), (.ref b206)])) rfl rfl (hb hby at_98)
    have K226 : Keep h0 h225 [] := K222.wr W225 (Or.inr sz_b206)
    have N227 := Fr.snoc X225 N223 g_b206
    have Vw225 := Arv.set Ac224 qc224 Sc224 Nc224 Hc224 Gc224 rfl W225 4 rfl (Nat.le_of_ble_eq_true rfl)
    change Arv Z h225 b206 k206 .long (8 : Int32) [(.long lo), (.long (lo + (1 : Int64))), (.long (lo + (2 : Int64))), (.long (lo + (3 : Int64))), (.long (lo + (4 : Int64))), (.long (0 : Int64)), (.long (0 : Int64)), (.long (0 : Int64))] (.long (0 : Int64)) at Vw225
    obtain ⟨c228, Ac228, qc228, Sc228, Nc228, Hc228, Gc228⟩ := id Vw225
    obtain ⟨T229, h229, X229, e229, W229, st229⟩ := stJ X225 hx hZ e225 Ac228 (j := (5 : Int32)) (inb_of Sc228 ⟨by decide, by decide⟩) (g := (mkF m 114 #[.val (.int p1), .val (.int p2), .val (.long q3), .second, .val (.int (8 : Int32)), .val (.int qq), .val (.long lo), .second, .val (.ref b206), .unset, .unset, .unset, .unset, .unset] [(.long (lo + (5 : Int64))), (.int (5 : Int32)), (.ref b206)])) rfl rfl (hb hby at_114)
    have K230 : Keep h0 h229 [] := K226.wr W229 (Or.inr sz_b206)
    have N231 := Fr.snoc X229 N227 g_b206
    have Vw229 := Arv.set Ac228 qc228 Sc228 Nc228 Hc228 Gc228 rfl W229 5 rfl (Nat.le_of_ble_eq_true rfl)
    change Arv Z h229 b206 k206 .long (8 : Int32) [(.long lo), (.long (lo + (1 : Int64))), (.long (lo + (2 : Int64))), (.long (lo + (3 : Int64))), (.long (lo + (4 : Int64))), (.long (lo + (5 : Int64))), (.long (0 : Int64)), (.long (0 : Int64))] (.long (0 : Int64)) at Vw229
    obtain ⟨c232, Ac232, qc232, Sc232, Nc232, Hc232, Gc232⟩ := id Vw229
    obtain ⟨T233, h233, X233, e233, W233, st233⟩ := stJ X229 hx hZ e229 Ac232 (j := (6 : Int32)) (inb_of Sc232 ⟨by decide, by decide⟩) (g := (mkF m 132 #[.val (.int p1), .val (.int p2), .val (.long q3), .second, .val (.int (8 : Int32)), .val (.int qq), .val (.long lo), .second, .val (.ref b206), .unset, .unset, .unset, .unset, .unset] [(.long (lo + (6 : Int64))), (.int (6 : Int32)), (.ref b206)])) rfl rfl (hb hby at_132)
    have K234 : Keep h0 h233 [] := K230.wr W233 (Or.inr sz_b206)
    have N235 := Fr.snoc X233 N231 g_b206
    have Vw233 := Arv.set Ac232 qc232 Sc232 Nc232 Hc232 Gc232 rfl W233 6 rfl (Nat.le_of_ble_eq_true rfl)
    change Arv Z h233 b206 k206 .long (8 : Int32) [(.long lo), (.long (lo + (1 : Int64))), (.long (lo + (2 : Int64))), (.long (lo + (3 : Int64))), (.long (lo + (4 : Int64))), (.long (lo + (5 : Int64))), (.long (lo + (6 : Int64))), (.long (0 : Int64))] (.long (0 : Int64)) at Vw233
    obtain ⟨c236, Ac236, qc236, Sc236, Nc236, Hc236, Gc236⟩ := id Vw233
    obtain ⟨T237, h237, X237, e237, W237, st237⟩ := stJ X233 hx hZ e233 Ac236 (j := (7 : Int32)) (inb_of Sc236 ⟨by decide, by decide⟩) (g := (mkF m 150 #[.val (.int p1), .val (.int p2), .val (.long q3), .second, .val (.int (8 : Int32)), .val (.int qq), .val (.long lo), .second, .val (.ref b206), .unset, .unset, .unset, .unset, .unset] [(.long (lo + (7 : Int64))), (.int (7 : Int32)), (.ref b206)])) rfl rfl (hb hby at_150)
    have K238 : Keep h0 h237 [] := K234.wr W237 (Or.inr sz_b206)
    have N239 := Fr.snoc X237 N235 g_b206
    have Vw237 := Arv.set Ac236 qc236 Sc236 Nc236 Hc236 Gc236 rfl W237 7 rfl (Nat.le_of_ble_eq_true rfl)
    change Arv Z h237 b206 k206 .long (8 : Int32) [(.long lo), (.long (lo + (1 : Int64))), (.long (lo + (2 : Int64))), (.long (lo + (3 : Int64))), (.long (lo + (4 : Int64))), (.long (lo + (5 : Int64))), (.long (lo + (6 : Int64))), (.long (lo + (7 : Int64)))] (.long (0 : Int64)) at Vw237
    have pre240 : ∀ t, Steps p.tables e below (T237.setTop (mkF m 163 #[.val (.int p1), .val (.int p2), .val (.long q3), .second, .val (.int (8 : Int32)), .val (.int qq), .val (.long lo), .second, .val (.ref b206), .val (.long ((qq.toInt64) * ((8 : Int32).toInt64))), .second, .val (.int (0 : Int32)), .unset, .unset] [])) t → Steps p.tables e below (s₁.setTop (entryFrame m #[(.int p1), (.int p2), (.long q3)] maxLocals)) t := fun t kt => by
      refine pre3 t ?_
      show Steps p.tables e below (s₁.setTop (mkF m 25 #[.val (.int p1), .val (.int p2), .val (.long q3), .second, .val (.int (8 : Int32)), .val (.int qq), .val (.long lo), .second, .unset, .unset, .unset, .unset, .unset, .unset] [])) _
      refine XS.iload X0.here hx rfl (hb hby at_25) rfl ?_
      show Steps p.tables e below (s₁.setTop (mkF m 27 #[.val (.int p1), .val (.int p2), .val (.long q3), .second, .val (.int (8 : Int32)), .val (.int qq), .val (.long lo), .second, .unset, .unset, .unset, .unset, .unset, .unset] [(.int (8 : Int32))])) _
      refine st206 _ ?_
      show Steps p.tables e below (T206.setTop (mkF m 29 #[.val (.int p1), .val (.int p2), .val (.long q3), .second, .val (.int (8 : Int32)), .val (.int qq), .val (.long lo), .second, .unset, .unset, .unset, .unset, .unset, .unset] [(.ref b206)])) _
      refine XS.astore X206.here hx rfl (hb hby at_29) rfl rfl (l' := #[.val (.int p1), .val (.int p2), .val (.long q3), .second, .val (.int (8 : Int32)), .val (.int qq), .val (.long lo), .second, .val (.ref b206), .unset, .unset, .unset, .unset, .unset]) rfl ?_
      show Steps p.tables e below (T206.setTop (mkF m 31 #[.val (.int p1), .val (.int p2), .val (.long q3), .second, .val (.int (8 : Int32)), .val (.int qq), .val (.long lo), .second, .val (.ref b206), .unset, .unset, .unset, .unset, .unset] [])) _
      refine XS.aload X206.here hx rfl (hb hby at_31) rfl rfl ?_
      show Steps p.tables e below (T206.setTop (mkF m 33 #[.val (.int p1), .val (.int p2), .val (.long q3), .second, .val (.int (8 : Int32)), .val (.int qq), .val (.long lo), .second, .val (.ref b206), .unset, .unset, .unset, .unset, .unset] [(.ref b206)])) _
      refine XS.iconst X206.here hx rfl (hb hby at_33) ?_
      show Steps p.tables e below (T206.setTop (mkF m 34 #[.val (.int p1), .val (.int p2), .val (.long q3), .second, .val (.int (8 : Int32)), .val (.int qq), .val (.long lo), .second, .val (.ref b206), .unset, .unset, .unset, .unset, .unset] [(.int (0 : Int32)), (.ref b206)])) _
      refine XS.lload X206.here hx rfl (hb hby at_34) rfl ?_
      show Steps p.tables e below (T206.setTop (mkF m 36 #[.val (.int p1), .val (.int p2), .val (.long q3), .second, .val (.int (8 : Int32)), .val (.int qq), .val (.long lo), .second, .val (.ref b206), .unset, .unset, .unset, .unset, .unset] [(.long lo), (.int (0 : Int32)), (.ref b206)])) _
      refine st209 _ ?_
      show Steps p.tables e below (T209.setTop (mkF m 37 #[.val (.int p1), .val (.int p2), .val (.long q3), .second, .val (.int (8 : Int32)), .val (.int qq), .val (.long lo), .second, .val (.ref b206), .unset, .unset, .unset, .unset, .unset] [])) _
      refine XS.iload X209.here hx rfl (hb hby at_37) rfl ?_
      show Steps p.tables e below (T209.setTop (mkF m 39 #[.val (.int p1), .val (.int p2), .val (.long q3), .second, .val (.int (8 : Int32)), .val (.int qq), .val (.long lo), .second, .val (.ref b206), .unset, .unset, .unset, .unset, .unset] [(.int (8 : Int32))])) _
      refine XS.iconst X209.here hx rfl (hb hby at_39) ?_
      show Steps p.tables e below (T209.setTop (mkF m 40 #[.val (.int p1), .val (.int p2), .val (.long q3), .second, .val (.int (8 : Int32)), .val (.int qq), .val (.long lo), .second, .val (.ref b206), .unset, .unset, .unset, .unset, .unset] [(.int (1 : Int32)), (.int (8 : Int32))])) _
      refine XS.icmpNo X209.here hx rfl (hb hby at_40) rfl (tlt (by decide : (1 : Int32) < (8 : Int32))).2.2.2 ?_
      show Steps p.tables e below (T209.setTop (mkF m 43 #[.val (.int p1), .val (.int p2), .val (.long q3), .second, .val (.int (8 : Int32)), .val (.int qq), .val (.long lo), .second, .val (.ref b206), .unset, .unset, .unset, .unset, .unset] [])) _
      refine XS.aload X209.here hx rfl (hb hby at_43) rfl rfl ?_
      show Steps p.tables e below (T209.setTop (mkF m 45 #[.val (.int p1), .val (.int p2), .val (.long q3), .second, .val (.int (8 : Int32)), .val (.int qq), .val (.long lo), .second, .val (.ref b206), .unset, .unset, .unset, .unset, .unset] [(.ref b206)])) _
      refine XS.iconst X209.here hx rfl (hb hby at_45) ?_
      show Steps p.tables e below (T209.setTop (mkF m 46 #[.val (.int p1), .val (.int p2), .val (.long q3), .second, .val (.int (8 : Int32)), .val (.int qq), .val (.long lo), .second, .val (.ref b206), .unset, .unset, .unset, .unset, .unset] [(.int (1 : Int32)), (.ref b206)])) _
      refine XS.lload X209.here hx rfl (hb hby at_46) rfl ?_
      show Steps p.tables e below (T209.setTop (mkF m 48 #[.val (.int p1), .val (.int p2), .val (.long q3), .second, .val (.int (8 : Int32)), .val (.int qq), .val (.long lo), .second, .val (.ref b206), .unset, .unset, .unset, .unset, .unset] [(.long lo), (.int (1 : Int32)), (.ref b206)])) _
      refine XS.lconst X209.here hx rfl (hb hby at_48) ?_
      show Steps p.tables e below (T209.setTop (mkF m 49 #[.val (.int p1), .val (.int p2), .val (.long q3), .second, .val (.int (8 : Int32)), .val (.int qq), .val (.long lo), .second, .val (.ref b206), .unset, .unset, .unset, .unset, .unset] [(.long (1 : Int64)), (.long lo), (.int (1 : Int32)), (.ref b206)])) _
      refine XS.ladd X209.here hx rfl (hb hby at_49) rfl ?_
      show Steps p.tables e below (T209.setTop (mkF m 50 #[.val (.int p1), .val (.int p2), .val (.long q3), .second, .val (.int (8 : Int32)), .val (.int qq), .val (.long lo), .second, .val (.ref b206), .unset, .unset, .unset, .unset, .unset] [(.long (lo + (1 : Int64))), (.int (1 : Int32)), (.ref b206)])) _
      refine st213 _ ?_
      show Steps p.tables e below (T213.setTop (mkF m 51 #[.val (.int p1), .val (.int p2), .val (.long q3), .second, .val (.int (8 : Int32)), .val (.int qq), .val (.long lo), .second, .val (.ref b206), .unset, .unset, .unset, .unset, .unset] [])) _
      refine XS.iload X213.here hx rfl (hb hby at_51) rfl ?_
      show Steps p.tables e below (T213.setTop (mkF m 53 #[.val (.int p1), .val (.int p2), .val (.long q3), .second, .val (.int (8 : Int32)), .val (.int qq), .val (.long lo), .second, .val (.ref b206), .unset, .unset, .unset, .unset, .unset] [(.int (8 : Int32))])) _
      refine XS.iconst X213.here hx rfl (hb hby at_53) ?_
      show Steps p.tables e below (T213.setTop (mkF m 54 #[.val (.int p1), .val (.int p2), .val (.long q3), .second, .val (.int (8 : Int32)), .val (.int qq), .val (.long lo), .second, .val (.ref b206), .unset, .unset, .unset, .unset, .unset] [(.int (2 : Int32)), (.int (8 : Int32))])) _
      refine XS.icmpNo X213.here hx rfl (hb hby at_54) rfl (tlt (by decide : (2 : Int32) < (8 : Int32))).2.2.2 ?_
      show Steps p.tables e below (T213.setTop (mkF m 57 #[.val (.int p1), .val (.int p2), .val (.long q3), .second, .val (.int (8 : Int32)), .val (.int qq), .val (.long lo), .second, .val (.ref b206), .unset, .unset, .unset, .unset, .unset] [])) _
      refine XS.aload X213.here hx rfl (hb hby at_57) rfl rfl ?_
      show Steps p.tables e below (T213.setTop (mkF m 59 #[.val (.int p1), .val (.int p2), .val (.long q3), .second, .val (.int (8 : Int32)), .val (.int qq), .val (.long lo), .second, .val (.ref b206), .unset, .unset, .unset, .unset, .unset] [(.ref b206)])) _
      refine XS.iconst X213.here hx rfl (hb hby at_59) ?_
      show Steps p.tables e below (T213.setTop (mkF m 60 #[.val (.int p1), .val (.int p2), .val (.long q3), .second, .val (.int (8 : Int32)), .val (.int qq), .val (.long lo), .second, .val (.ref b206), .unset, .unset, .unset, .unset, .unset] [(.int (2 : Int32)), (.ref b206)])) _
      refine XS.lload X213.here hx rfl (hb hby at_60) rfl ?_
      show Steps p.tables e below (T213.setTop (mkF m 62 #[.val (.int p1), .val (.int p2), .val (.long q3), .second, .val (.int (8 : Int32)), .val (.int qq), .val (.long lo), .second, .val (.ref b206), .unset, .unset, .unset, .unset, .unset] [(.long lo), (.int (2 : Int32)), (.ref b206)])) _
      refine X213.ldc2Long hx hown (mvT hZ (hw _ (List.mem_of_getElem? (i := 8) rfl))) (g := (mkF m 62 #[.val (.int p1), .val (.int p2), .val (.long q3), .second, .val (.int (8 : Int32)), .val (.int qq), .val (.long lo), .second, .val (.ref b206), .unset, .unset, .unset, .unset, .unset] [(.long lo), (.int (2 : Int32)), (.ref b206)])) rfl (hb hby at_62) _ ?_
      show Steps p.tables e below (T213.setTop (mkF m 65 #[.val (.int p1), .val (.int p2), .val (.long q3), .second, .val (.int (8 : Int32)), .val (.int qq), .val (.long lo), .second, .val (.ref b206), .unset, .unset, .unset, .unset, .unset] [(.long (2 : Int64)), (.long lo), (.int (2 : Int32)), (.ref b206)])) _
      refine XS.ladd X213.here hx rfl (hb hby at_65) rfl ?_
      show Steps p.tables e below (T213.setTop (mkF m 66 #[.val (.int p1), .val (.int p2), .val (.long q3), .second, .val (.int (8 : Int32)), .val (.int qq), .val (.long lo), .second, .val (.ref b206), .unset, .unset, .unset, .unset, .unset] [(.long (lo + (2 : Int64))), (.int (2 : Int32)), (.ref b206)])) _
      refine st217 _ ?_
      show Steps p.tables e below (T217.setTop (mkF m 67 #[.val (.int p1), .val (.int p2), .val (.long q3), .second, .val (.int (8 : Int32)), .val (.int qq), .val (.long lo), .second, .val (.ref b206), .unset, .unset, .unset, .unset, .unset] [])) _
      refine XS.iload X217.here hx rfl (hb hby at_67) rfl ?_
      show Steps p.tables e below (T217.setTop (mkF m 69 #[.val (.int p1), .val (.int p2), .val (.long q3), .second, .val (.int (8 : Int32)), .val (.int qq), .val (.long lo), .second, .val (.ref b206), .unset, .unset, .unset, .unset, .unset] [(.int (8 : Int32))])) _
      refine XS.iconst X217.here hx rfl (hb hby at_69) ?_
      show Steps p.tables e below (T217.setTop (mkF m 70 #[.val (.int p1), .val (.int p2), .val (.long q3), .second, .val (.int (8 : Int32)), .val (.int qq), .val (.long lo), .second, .val (.ref b206), .unset, .unset, .unset, .unset, .unset] [(.int (3 : Int32)), (.int (8 : Int32))])) _
      refine XS.icmpNo X217.here hx rfl (hb hby at_70) rfl (tlt (by decide : (3 : Int32) < (8 : Int32))).2.2.2 ?_
      show Steps p.tables e below (T217.setTop (mkF m 73 #[.val (.int p1), .val (.int p2), .val (.long q3), .second, .val (.int (8 : Int32)), .val (.int qq), .val (.long lo), .second, .val (.ref b206), .unset, .unset, .unset, .unset, .unset] [])) _
      refine XS.aload X217.here hx rfl (hb hby at_73) rfl rfl ?_
      show Steps p.tables e below (T217.setTop (mkF m 75 #[.val (.int p1), .val (.int p2), .val (.long q3), .second, .val (.int (8 : Int32)), .val (.int qq), .val (.long lo), .second, .val (.ref b206), .unset, .unset, .unset, .unset, .unset] [(.ref b206)])) _
      refine XS.iconst X217.here hx rfl (hb hby at_75) ?_
      show Steps p.tables e below (T217.setTop (mkF m 76 #[.val (.int p1), .val (.int p2), .val (.long q3), .second, .val (.int (8 : Int32)), .val (.int qq), .val (.long lo), .second, .val (.ref b206), .unset, .unset, .unset, .unset, .unset] [(.int (3 : Int32)), (.ref b206)])) _
      refine XS.lload X217.here hx rfl (hb hby at_76) rfl ?_
      show Steps p.tables e below (T217.setTop (mkF m 78 #[.val (.int p1), .val (.int p2), .val (.long q3), .second, .val (.int (8 : Int32)), .val (.int qq), .val (.long lo), .second, .val (.ref b206), .unset, .unset, .unset, .unset, .unset] [(.long lo), (.int (3 : Int32)), (.ref b206)])) _
      refine X217.ldc2Long hx hown (mvT hZ (hw _ (List.mem_of_getElem? (i := 9) rfl))) (g := (mkF m 78 #[.val (.int p1), .val (.int p2), .val (.long q3), .second, .val (.int (8 : Int32)), .val (.int qq), .val (.long lo), .second, .val (.ref b206), .unset, .unset, .unset, .unset, .unset] [(.long lo), (.int (3 : Int32)), (.ref b206)])) rfl (hb hby at_78) _ ?_
      show Steps p.tables e below (T217.setTop (mkF m 81 #[.val (.int p1), .val (.int p2), .val (.long q3), .second, .val (.int (8 : Int32)), .val (.int qq), .val (.long lo), .second, .val (.ref b206), .unset, .unset, .unset, .unset, .unset] [(.long (3 : Int64)), (.long lo), (.int (3 : Int32)), (.ref b206)])) _
      refine XS.ladd X217.here hx rfl (hb hby at_81) rfl ?_
      show Steps p.tables e below (T217.setTop (mkF m 82 #[.val (.int p1), .val (.int p2), .val (.long q3), .second, .val (.int (8 : Int32)), .val (.int qq), .val (.long lo), .second, .val (.ref b206), .unset, .unset, .unset, .unset, .unset] [(.long (lo + (3 : Int64))), (.int (3 : Int32)), (.ref b206)])) _
      refine st221 _ ?_
      show Steps p.tables e below (T221.setTop (mkF m 83 #[.val (.int p1), .val (.int p2), .val (.long q3), .second, .val (.int (8 : Int32)), .val (.int qq), .val (.long lo), .second, .val (.ref b206), .unset, .unset, .unset, .unset, .unset] [])) _
      refine XS.iload X221.here hx rfl (hb hby at_83) rfl ?_
      show Steps p.tables e below (T221.setTop (mkF m 85 #[.val (.int p1), .val (.int p2), .val (.long q3), .second, .val (.int (8 : Int32)), .val (.int qq), .val (.long lo), .second, .val (.ref b206), .unset, .unset, .unset, .unset, .unset] [(.int (8 : Int32))])) _
      refine XS.iconst X221.here hx rfl (hb hby at_85) ?_
      show Steps p.tables e below (T221.setTop (mkF m 86 #[.val (.int p1), .val (.int p2), .val (.long q3), .second, .val (.int (8 : Int32)), .val (.int qq), .val (.long lo), .second, .val (.ref b206), .unset, .unset, .unset, .unset, .unset] [(.int (4 : Int32)), (.int (8 : Int32))])) _
      refine XS.icmpNo X221.here hx rfl (hb hby at_86) rfl (tlt (by decide : (4 : Int32) < (8 : Int32))).2.2.2 ?_
      show Steps p.tables e below (T221.setTop (mkF m 89 #[.val (.int p1), .val (.int p2), .val (.long q3), .second, .val (.int (8 : Int32)), .val (.int qq), .val (.long lo), .second, .val (.ref b206), .unset, .unset, .unset, .unset, .unset] [])) _
      refine XS.aload X221.here hx rfl (hb hby at_89) rfl rfl ?_
      show Steps p.tables e below (T221.setTop (mkF m 91 #[.val (.int p1), .val (.int p2), .val (.long q3), .second, .val (.int (8 : Int32)), .val (.int qq), .val (.long lo), .second, .val (.ref b206), .unset, .unset, .unset, .unset, .unset] [(.ref b206)])) _
      refine XS.iconst X221.here hx rfl (hb hby at_91) ?_
      show Steps p.tables e below (T221.setTop (mkF m 92 #[.val (.int p1), .val (.int p2), .val (.long q3), .second, .val (.int (8 : Int32)), .val (.int qq), .val (.long lo), .second, .val (.ref b206), .unset, .unset, .unset, .unset, .unset] [(.int (4 : Int32)), (.ref b206)])) _
      refine XS.lload X221.here hx rfl (hb hby at_92) rfl ?_
      show Steps p.tables e below (T221.setTop (mkF m 94 #[.val (.int p1), .val (.int p2), .val (.long q3), .second, .val (.int (8 : Int32)), .val (.int qq), .val (.long lo), .second, .val (.ref b206), .unset, .unset, .unset, .unset, .unset] [(.long lo), (.int (4 : Int32)), (.ref b206)])) _
      refine X221.ldc2Long hx hown (mvT hZ (hw _ (List.mem_of_getElem? (i := 10) rfl))) (g := (mkF m 94 #[.val (.int p1), .val (.int p2), .val (.long q3), .second, .val (.int (8 : Int32)), .val (.int qq), .val (.long lo), .second, .val (.ref b206), .unset, .unset, .unset, .unset, .unset] [(.long lo), (.int (4 : Int32)), (.ref b206)])) rfl (hb hby at_94) _ ?_
      show Steps p.tables e below (T221.setTop (mkF m 97 #[.val (.int p1), .val (.int p2), .val (.long q3), .second, .val (.int (8 : Int32)), .val (.int qq), .val (.long lo), .second, .val (.ref b206), .unset, .unset, .unset, .unset, .unset] [(.long (4 : Int64)), (.long lo), (.int (4 : Int32)), (.ref b206)])) _
      refine XS.ladd X221.here hx rfl (hb hby at_97) rfl ?_
      show Steps p.tables e below (T221.setTop (mkF m 98 #[.val (.int p1), .val (.int p2), .val (.long q3), .second, .val (.int (8 : Int32)), .val (.int qq), .val (.long lo), .second, .val (.ref b206), .unset, .unset, .unset, .unset, .unset] [(.long (lo + (4 : Int64))), (.int (4 : Int32)), (.ref b206)])) _
      refine st225 _ ?_
      show Steps p.tables e below (T225.setTop (mkF m 99 #[.val (.int p1), .val (.int p2), .val (.long q3), .second, .val (.int (8 : Int32)), .val (.int qq), .val (.long lo), .second, .val (.ref b206), .unset, .unset, .unset, .unset, .unset] [])) _
      refine XS.iload X225.here hx rfl (hb hby at_99) rfl ?_
      show Steps p.tables e below (T225.setTop (mkF m 101 #[.val (.int p1), .val (.int p2), .val (.long q3), .second, .val (.int (8 : Int32)), .val (.int qq), .val (.long lo), .second, .val (.ref b206), .unset, .unset, .unset, .unset, .unset] [(.int (8 : Int32))])) _
      refine XS.iconst X225.here hx rfl (hb hby at_101) ?_
      show Steps p.tables e below (T225.setTop (mkF m 102 #[.val (.int p1), .val (.int p2), .val (.long q3), .second, .val (.int (8 : Int32)), .val (.int qq), .val (.long lo), .second, .val (.ref b206), .unset, .unset, .unset, .unset, .unset] [(.int (5 : Int32)), (.int (8 : Int32))])) _
      refine XS.icmpNo X225.here hx rfl (hb hby at_102) rfl (tlt (by decide : (5 : Int32) < (8 : Int32))).2.2.2 ?_
      show Steps p.tables e below (T225.setTop (mkF m 105 #[.val (.int p1), .val (.int p2), .val (.long q3), .second, .val (.int (8 : Int32)), .val (.int qq), .val (.long lo), .second, .val (.ref b206), .unset, .unset, .unset, .unset, .unset] [])) _
      refine XS.aload X225.here hx rfl (hb hby at_105) rfl rfl ?_
      show Steps p.tables e below (T225.setTop (mkF m 107 #[.val (.int p1), .val (.int p2), .val (.long q3), .second, .val (.int (8 : Int32)), .val (.int qq), .val (.long lo), .second, .val (.ref b206), .unset, .unset, .unset, .unset, .unset] [(.ref b206)])) _
      refine XS.iconst X225.here hx rfl (hb hby at_107) ?_
      show Steps p.tables e below (T225.setTop (mkF m 108 #[.val (.int p1), .val (.int p2), .val (.long q3), .second, .val (.int (8 : Int32)), .val (.int qq), .val (.long lo), .second, .val (.ref b206), .unset, .unset, .unset, .unset, .unset] [(.int (5 : Int32)), (.ref b206)])) _
      refine XS.lload X225.here hx rfl (hb hby at_108) rfl ?_
      show Steps p.tables e below (T225.setTop (mkF m 110 #[.val (.int p1), .val (.int p2), .val (.long q3), .second, .val (.int (8 : Int32)), .val (.int qq), .val (.long lo), .second, .val (.ref b206), .unset, .unset, .unset, .unset, .unset] [(.long lo), (.int (5 : Int32)), (.ref b206)])) _
      refine X225.ldc2Long hx hown (mvT hZ (hw _ (List.mem_of_getElem? (i := 15) rfl))) (g := (mkF m 110 #[.val (.int p1), .val (.int p2), .val (.long q3), .second, .val (.int (8 : Int32)), .val (.int qq), .val (.long lo), .second, .val (.ref b206), .unset, .unset, .unset, .unset, .unset] [(.long lo), (.int (5 : Int32)), (.ref b206)])) rfl (hb hby at_110) _ ?_
      show Steps p.tables e below (T225.setTop (mkF m 113 #[.val (.int p1), .val (.int p2), .val (.long q3), .second, .val (.int (8 : Int32)), .val (.int qq), .val (.long lo), .second, .val (.ref b206), .unset, .unset, .unset, .unset, .unset] [(.long (5 : Int64)), (.long lo), (.int (5 : Int32)), (.ref b206)])) _
      refine XS.ladd X225.here hx rfl (hb hby at_113) rfl ?_
      show Steps p.tables e below (T225.setTop (mkF m 114 #[.val (.int p1), .val (.int p2), .val (.long q3), .second, .val (.int (8 : Int32)), .val (.int qq), .val (.long lo), .second, .val (.ref b206), .unset, .unset, .unset, .unset, .unset] [(.long (lo + (5 : Int64))), (.int (5 : Int32)), (.ref b206)])) _
      refine st229 _ ?_
      show Steps p.tables e below (T229.setTop (mkF m 115 #[.val (.int p1), .val (.int p2), .val (.long q3), .second, .val (.int (8 : Int32)), .val (.int qq), .val (.long lo), .second, .val (.ref b206), .unset, .unset, .unset, .unset, .unset] [])) _
      refine XS.iload X229.here hx rfl (hb hby at_115) rfl ?_
      show Steps p.tables e below (T229.setTop (mkF m 117 #[.val (.int p1), .val (.int p2), .val (.long q3), .second, .val (.int (8 : Int32)), .val (.int qq), .val (.long lo), .second, .val (.ref b206), .unset, .unset, .unset, .unset, .unset] [(.int (8 : Int32))])) _
      refine XS.bipush X229.here hx rfl (hb hby at_117) ?_
      show Steps p.tables e below (T229.setTop (mkF m 119 #[.val (.int p1), .val (.int p2), .val (.long q3), .second, .val (.int (8 : Int32)), .val (.int qq), .val (.long lo), .second, .val (.ref b206), .unset, .unset, .unset, .unset, .unset] [(.int (6 : Int32)), (.int (8 : Int32))])) _
      refine XS.icmpNo X229.here hx rfl (hb hby at_119) rfl (tlt (by decide : (6 : Int32) < (8 : Int32))).2.2.2 ?_
      show Steps p.tables e below (T229.setTop (mkF m 122 #[.val (.int p1), .val (.int p2), .val (.long q3), .second, .val (.int (8 : Int32)), .val (.int qq), .val (.long lo), .second, .val (.ref b206), .unset, .unset, .unset, .unset, .unset] [])) _
      refine XS.aload X229.here hx rfl (hb hby at_122) rfl rfl ?_
      show Steps p.tables e below (T229.setTop (mkF m 124 #[.val (.int p1), .val (.int p2), .val (.long q3), .second, .val (.int (8 : Int32)), .val (.int qq), .val (.long lo), .second, .val (.ref b206), .unset, .unset, .unset, .unset, .unset] [(.ref b206)])) _
      refine XS.bipush X229.here hx rfl (hb hby at_124) ?_
      show Steps p.tables e below (T229.setTop (mkF m 126 #[.val (.int p1), .val (.int p2), .val (.long q3), .second, .val (.int (8 : Int32)), .val (.int qq), .val (.long lo), .second, .val (.ref b206), .unset, .unset, .unset, .unset, .unset] [(.int (6 : Int32)), (.ref b206)])) _
      refine XS.lload X229.here hx rfl (hb hby at_126) rfl ?_
      show Steps p.tables e below (T229.setTop (mkF m 128 #[.val (.int p1), .val (.int p2), .val (.long q3), .second, .val (.int (8 : Int32)), .val (.int qq), .val (.long lo), .second, .val (.ref b206), .unset, .unset, .unset, .unset, .unset] [(.long lo), (.int (6 : Int32)), (.ref b206)])) _
      refine X229.ldc2Long hx hown (mvT hZ (hw _ (List.mem_of_getElem? (i := 16) rfl))) (g := (mkF m 128 #[.val (.int p1), .val (.int p2), .val (.long q3), .second, .val (.int (8 : Int32)), .val (.int qq), .val (.long lo), .second, .val (.ref b206), .unset, .unset, .unset, .unset, .unset] [(.long lo), (.int (6 : Int32)), (.ref b206)])) rfl (hb hby at_128) _ ?_
      show Steps p.tables e below (T229.setTop (mkF m 131 #[.val (.int p1), .val (.int p2), .val (.long q3), .second, .val (.int (8 : Int32)), .val (.int qq), .val (.long lo), .second, .val (.ref b206), .unset, .unset, .unset, .unset, .unset] [(.long (6 : Int64)), (.long lo), (.int (6 : Int32)), (.ref b206)])) _
      refine XS.ladd X229.here hx rfl (hb hby at_131) rfl ?_
      show Steps p.tables e below (T229.setTop (mkF m 132 #[.val (.int p1), .val (.int p2), .val (.long q3), .second, .val (.int (8 : Int32)), .val (.int qq), .val (.long lo), .second, .val (.ref b206), .unset, .unset, .unset, .unset, .unset] [(.long (lo + (6 : Int64))), (.int (6 : Int32)), (.ref b206)])) _
      refine st233 _ ?_
      show Steps p.tables e below (T233.setTop (mkF m 133 #[.val (.int p1), .val (.int p2), .val (.long q3), .second, .val (.int (8 : Int32)), .val (.int qq), .val (.long lo), .second, .val (.ref b206), .unset, .unset, .unset, .unset, .unset] [])) _
      refine XS.iload X233.here hx rfl (hb hby at_133) rfl ?_
      show Steps p.tables e below (T233.setTop (mkF m 135 #[.val (.int p1), .val (.int p2), .val (.long q3), .second, .val (.int (8 : Int32)), .val (.int qq), .val (.long lo), .second, .val (.ref b206), .unset, .unset, .unset, .unset, .unset] [(.int (8 : Int32))])) _
      refine XS.bipush X233.here hx rfl (hb hby at_135) ?_
      show Steps p.tables e below (T233.setTop (mkF m 137 #[.val (.int p1), .val (.int p2), .val (.long q3), .second, .val (.int (8 : Int32)), .val (.int qq), .val (.long lo), .second, .val (.ref b206), .unset, .unset, .unset, .unset, .unset] [(.int (7 : Int32)), (.int (8 : Int32))])) _
      refine XS.icmpNo X233.here hx rfl (hb hby at_137) rfl (tlt (by decide : (7 : Int32) < (8 : Int32))).2.2.2 ?_
      show Steps p.tables e below (T233.setTop (mkF m 140 #[.val (.int p1), .val (.int p2), .val (.long q3), .second, .val (.int (8 : Int32)), .val (.int qq), .val (.long lo), .second, .val (.ref b206), .unset, .unset, .unset, .unset, .unset] [])) _
      refine XS.aload X233.here hx rfl (hb hby at_140) rfl rfl ?_
      show Steps p.tables e below (T233.setTop (mkF m 142 #[.val (.int p1), .val (.int p2), .val (.long q3), .second, .val (.int (8 : Int32)), .val (.int qq), .val (.long lo), .second, .val (.ref b206), .unset, .unset, .unset, .unset, .unset] [(.ref b206)])) _
      refine XS.bipush X233.here hx rfl (hb hby at_142) ?_
      show Steps p.tables e below (T233.setTop (mkF m 144 #[.val (.int p1), .val (.int p2), .val (.long q3), .second, .val (.int (8 : Int32)), .val (.int qq), .val (.long lo), .second, .val (.ref b206), .unset, .unset, .unset, .unset, .unset] [(.int (7 : Int32)), (.ref b206)])) _
      refine XS.lload X233.here hx rfl (hb hby at_144) rfl ?_
      show Steps p.tables e below (T233.setTop (mkF m 146 #[.val (.int p1), .val (.int p2), .val (.long q3), .second, .val (.int (8 : Int32)), .val (.int qq), .val (.long lo), .second, .val (.ref b206), .unset, .unset, .unset, .unset, .unset] [(.long lo), (.int (7 : Int32)), (.ref b206)])) _
      refine X233.ldc2Long hx hown (mvT hZ (hw _ (List.mem_of_getElem? (i := 17) rfl))) (g := (mkF m 146 #[.val (.int p1), .val (.int p2), .val (.long q3), .second, .val (.int (8 : Int32)), .val (.int qq), .val (.long lo), .second, .val (.ref b206), .unset, .unset, .unset, .unset, .unset] [(.long lo), (.int (7 : Int32)), (.ref b206)])) rfl (hb hby at_146) _ ?_
      show Steps p.tables e below (T233.setTop (mkF m 149 #[.val (.int p1), .val (.int p2), .val (.long q3), .second, .val (.int (8 : Int32)), .val (.int qq), .val (.long lo), .second, .val (.ref b206), .unset, .unset, .unset, .unset, .unset] [(.long (7 : Int64)), (.long lo), (.int (7 : Int32)), (.ref b206)])) _
      refine XS.ladd X233.here hx rfl (hb hby at_149) rfl ?_
      show Steps p.tables e below (T233.setTop (mkF m 150 #[.val (.int p1), .val (.int p2), .val (.long q3), .second, .val (.int (8 : Int32)), .val (.int qq), .val (.long lo), .second, .val (.ref b206), .unset, .unset, .unset, .unset, .unset] [(.long (lo + (7 : Int64))), (.int (7 : Int32)), (.ref b206)])) _
      refine st237 _ ?_
      show Steps p.tables e below (T237.setTop (mkF m 151 #[.val (.int p1), .val (.int p2), .val (.long q3), .second, .val (.int (8 : Int32)), .val (.int qq), .val (.long lo), .second, .val (.ref b206), .unset, .unset, .unset, .unset, .unset] [])) _
      refine XS.iload X237.here hx rfl (hb hby at_151) rfl ?_
      show Steps p.tables e below (T237.setTop (mkF m 153 #[.val (.int p1), .val (.int p2), .val (.long q3), .second, .val (.int (8 : Int32)), .val (.int qq), .val (.long lo), .second, .val (.ref b206), .unset, .unset, .unset, .unset, .unset] [(.int qq)])) _
      refine XS.i2l X237.here hx rfl (hb hby at_153) rfl ?_
      show Steps p.tables e below (T237.setTop (mkF m 154 #[.val (.int p1), .val (.int p2), .val (.long q3), .second, .val (.int (8 : Int32)), .val (.int qq), .val (.long lo), .second, .val (.ref b206), .unset, .unset, .unset, .unset, .unset] [(.long (qq.toInt64))])) _
      refine XS.iload X237.here hx rfl (hb hby at_154) rfl ?_
      show Steps p.tables e below (T237.setTop (mkF m 156 #[.val (.int p1), .val (.int p2), .val (.long q3), .second, .val (.int (8 : Int32)), .val (.int qq), .val (.long lo), .second, .val (.ref b206), .unset, .unset, .unset, .unset, .unset] [(.int (8 : Int32)), (.long (qq.toInt64))])) _
      refine XS.i2l X237.here hx rfl (hb hby at_156) rfl ?_
      show Steps p.tables e below (T237.setTop (mkF m 157 #[.val (.int p1), .val (.int p2), .val (.long q3), .second, .val (.int (8 : Int32)), .val (.int qq), .val (.long lo), .second, .val (.ref b206), .unset, .unset, .unset, .unset, .unset] [(.long ((8 : Int32).toInt64)), (.long (qq.toInt64))])) _
      refine XS.lmul X237.here hx rfl (hb hby at_157) rfl ?_
      show Steps p.tables e below (T237.setTop (mkF m 158 #[.val (.int p1), .val (.int p2), .val (.long q3), .second, .val (.int (8 : Int32)), .val (.int qq), .val (.long lo), .second, .val (.ref b206), .unset, .unset, .unset, .unset, .unset] [(.long ((qq.toInt64) * ((8 : Int32).toInt64)))])) _
      refine XS.lstore X237.here hx rfl (hb hby at_158) rfl (l' := #[.val (.int p1), .val (.int p2), .val (.long q3), .second, .val (.int (8 : Int32)), .val (.int qq), .val (.long lo), .second, .val (.ref b206), .val (.long ((qq.toInt64) * ((8 : Int32).toInt64))), .second, .unset, .unset, .unset]) rfl ?_
      show Steps p.tables e below (T237.setTop (mkF m 160 #[.val (.int p1), .val (.int p2), .val (.long q3), .second, .val (.int (8 : Int32)), .val (.int qq), .val (.long lo), .second, .val (.ref b206), .val (.long ((qq.toInt64) * ((8 : Int32).toInt64))), .second, .unset, .unset, .unset] [])) _
      refine XS.iconst X237.here hx rfl (hb hby at_160) ?_
      show Steps p.tables e below (T237.setTop (mkF m 161 #[.val (.int p1), .val (.int p2), .val (.long q3), .second, .val (.int (8 : Int32)), .val (.int qq), .val (.long lo), .second, .val (.ref b206), .val (.long ((qq.toInt64) * ((8 : Int32).toInt64))), .second, .unset, .unset, .unset] [(.int (0 : Int32))])) _
      refine XS.istore X237.here hx rfl (hb hby at_161) rfl (l' := #[.val (.int p1), .val (.int p2), .val (.long q3), .second, .val (.int (8 : Int32)), .val (.int qq), .val (.long lo), .second, .val (.ref b206), .val (.long ((qq.toInt64) * ((8 : Int32).toInt64))), .second, .val (.int (0 : Int32)), .unset, .unset]) rfl ?_
      exact kt
    have pre241 : ∀ t, Steps p.tables e below (T237.setTop (mkF m 166 #[.val (.int p1), .val (.int p2), .val (.long q3), .second, .val (.int (8 : Int32)), .val (.int qq), .val (.long lo), .second, .val (.ref b206), .val (.long ((qq.toInt64) * ((8 : Int32).toInt64))), .second, .val (.int (0 : Int32)), .unset, .unset] [(.int (1 : Int32)), (.int (8 : Int32))])) t → Steps p.tables e below (s₁.setTop (entryFrame m #[(.int p1), (.int p2), (.long q3)] maxLocals)) t := fun t kt => by
      refine pre240 t ?_
      show Steps p.tables e below (T237.setTop (mkF m 163 #[.val (.int p1), .val (.int p2), .val (.long q3), .second, .val (.int (8 : Int32)), .val (.int qq), .val (.long lo), .second, .val (.ref b206), .val (.long ((qq.toInt64) * ((8 : Int32).toInt64))), .second, .val (.int (0 : Int32)), .unset, .unset] [])) _
      refine XS.iload X237.here hx rfl (hb hby at_163) rfl ?_
      show Steps p.tables e below (T237.setTop (mkF m 165 #[.val (.int p1), .val (.int p2), .val (.long q3), .second, .val (.int (8 : Int32)), .val (.int qq), .val (.long lo), .second, .val (.ref b206), .val (.long ((qq.toInt64) * ((8 : Int32).toInt64))), .second, .val (.int (0 : Int32)), .unset, .unset] [(.int (8 : Int32))])) _
      refine XS.iconst X237.here hx rfl (hb hby at_165) ?_
      exact kt
    obtain ⟨i1, h_i1, pre243⟩ : ∃ z : Int32, z = (if (1000 : Int64) < ((qq.toInt64) * ((8 : Int32).toInt64)) then (1 : Int32) else (0 : Int32)) ∧ ∀ t, Steps p.tables e below (T237.setTop (mkF m 181 #[.val (.int p1), .val (.int p2), .val (.long q3), .second, .val (.int (8 : Int32)), .val (.int qq), .val (.long lo), .second, .val (.ref b206), .val (.long ((qq.toInt64) * ((8 : Int32).toInt64))), .second, .val (.int z), .unset, .unset] [])) t → Steps p.tables e below (s₁.setTop (entryFrame m #[(.int p1), (.int p2), (.long q3)] maxLocals)) t := by
      by_cases hj175_242 : (1000 : Int64) < ((qq.toInt64) * ((8 : Int32).toInt64))
      · exact ⟨_, by rw [if_pos hj175_242], fun t kt => by
          refine pre241 t ?_
          show Steps p.tables e below (T237.setTop (mkF m 166 #[.val (.int p1), .val (.int p2), .val (.long q3), .second, .val (.int (8 : Int32)), .val (.int qq), .val (.long lo), .second, .val (.ref b206), .val (.long ((qq.toInt64) * ((8 : Int32).toInt64))), .second, .val (.int (0 : Int32)), .unset, .unset] [(.int (1 : Int32)), (.int (8 : Int32))])) _
          refine XS.icmpNo X237.here hx rfl (hb hby at_166) rfl (tlt (by decide : (1 : Int32) < (8 : Int32))).2.2.2 ?_
          show Steps p.tables e below (T237.setTop (mkF m 169 #[.val (.int p1), .val (.int p2), .val (.long q3), .second, .val (.int (8 : Int32)), .val (.int qq), .val (.long lo), .second, .val (.ref b206), .val (.long ((qq.toInt64) * ((8 : Int32).toInt64))), .second, .val (.int (0 : Int32)), .unset, .unset] [])) _
          refine X237.ldc2Long hx hown (mvT hZ (hw _ (List.mem_of_getElem? (i := 11) rfl))) (g := (mkF m 169 #[.val (.int p1), .val (.int p2), .val (.long q3), .second, .val (.int (8 : Int32)), .val (.int qq), .val (.long lo), .second, .val (.ref b206), .val (.long ((qq.toInt64) * ((8 : Int32).toInt64))), .second, .val (.int (0 : Int32)), .unset, .unset] [])) rfl (hb hby at_169) _ ?_
          show Steps p.tables e below (T237.setTop (mkF m 172 #[.val (.int p1), .val (.int p2), .val (.long q3), .second, .val (.int (8 : Int32)), .val (.int qq), .val (.long lo), .second, .val (.ref b206), .val (.long ((qq.toInt64) * ((8 : Int32).toInt64))), .second, .val (.int (0 : Int32)), .unset, .unset] [(.long (1000 : Int64))])) _
          refine XS.lload X237.here hx rfl (hb hby at_172) rfl ?_
          show Steps p.tables e below (T237.setTop (mkF m 174 #[.val (.int p1), .val (.int p2), .val (.long q3), .second, .val (.int (8 : Int32)), .val (.int qq), .val (.long lo), .second, .val (.ref b206), .val (.long ((qq.toInt64) * ((8 : Int32).toInt64))), .second, .val (.int (0 : Int32)), .unset, .unset] [(.long ((qq.toInt64) * ((8 : Int32).toInt64))), (.long (1000 : Int64))])) _
          refine XS.lcmp X237.here hx rfl (hb hby at_174) rfl ?_
          show Steps p.tables e below (T237.setTop (mkF m 175 #[.val (.int p1), .val (.int p2), .val (.long q3), .second, .val (.int (8 : Int32)), .val (.int qq), .val (.long lo), .second, .val (.ref b206), .val (.long ((qq.toInt64) * ((8 : Int32).toInt64))), .second, .val (.int (0 : Int32)), .unset, .unset] [(.int (lcmpW (1000 : Int64) ((qq.toInt64) * ((8 : Int32).toInt64))))])) _
          refine XS.ifNo X237.here hx rfl (hb hby at_175) rfl (own_lgeF hj175_242) ?_
          show Steps p.tables e below (T237.setTop (mkF m 178 #[.val (.int p1), .val (.int p2), .val (.long q3), .second, .val (.int (8 : Int32)), .val (.int qq), .val (.long lo), .second, .val (.ref b206), .val (.long ((qq.toInt64) * ((8 : Int32).toInt64))), .second, .val (.int (0 : Int32)), .unset, .unset] [])) _
          refine XS.iinc X237.here hx rfl (hb hby at_178) rfl (l' := #[.val (.int p1), .val (.int p2), .val (.long q3), .second, .val (.int (8 : Int32)), .val (.int qq), .val (.long lo), .second, .val (.ref b206), .val (.long ((qq.toInt64) * ((8 : Int32).toInt64))), .second, .val (.int (1 : Int32)), .unset, .unset]) rfl ?_
          exact kt⟩
      · exact ⟨_, by rw [if_neg hj175_242], fun t kt => by
          refine pre241 t ?_
          show Steps p.tables e below (T237.setTop (mkF m 166 #[.val (.int p1), .val (.int p2), .val (.long q3), .second, .val (.int (8 : Int32)), .val (.int qq), .val (.long lo), .second, .val (.ref b206), .val (.long ((qq.toInt64) * ((8 : Int32).toInt64))), .second, .val (.int (0 : Int32)), .unset, .unset] [(.int (1 : Int32)), (.int (8 : Int32))])) _
          refine XS.icmpNo X237.here hx rfl (hb hby at_166) rfl (tlt (by decide : (1 : Int32) < (8 : Int32))).2.2.2 ?_
          show Steps p.tables e below (T237.setTop (mkF m 169 #[.val (.int p1), .val (.int p2), .val (.long q3), .second, .val (.int (8 : Int32)), .val (.int qq), .val (.long lo), .second, .val (.ref b206), .val (.long ((qq.toInt64) * ((8 : Int32).toInt64))), .second, .val (.int (0 : Int32)), .unset, .unset] [])) _
          refine X237.ldc2Long hx hown (mvT hZ (hw _ (List.mem_of_getElem? (i := 11) rfl))) (g := (mkF m 169 #[.val (.int p1), .val (.int p2), .val (.long q3), .second, .val (.int (8 : Int32)), .val (.int qq), .val (.long lo), .second, .val (.ref b206), .val (.long ((qq.toInt64) * ((8 : Int32).toInt64))), .second, .val (.int (0 : Int32)), .unset, .unset] [])) rfl (hb hby at_169) _ ?_
          show Steps p.tables e below (T237.setTop (mkF m 172 #[.val (.int p1), .val (.int p2), .val (.long q3), .second, .val (.int (8 : Int32)), .val (.int qq), .val (.long lo), .second, .val (.ref b206), .val (.long ((qq.toInt64) * ((8 : Int32).toInt64))), .second, .val (.int (0 : Int32)), .unset, .unset] [(.long (1000 : Int64))])) _
          refine XS.lload X237.here hx rfl (hb hby at_172) rfl ?_
          show Steps p.tables e below (T237.setTop (mkF m 174 #[.val (.int p1), .val (.int p2), .val (.long q3), .second, .val (.int (8 : Int32)), .val (.int qq), .val (.long lo), .second, .val (.ref b206), .val (.long ((qq.toInt64) * ((8 : Int32).toInt64))), .second, .val (.int (0 : Int32)), .unset, .unset] [(.long ((qq.toInt64) * ((8 : Int32).toInt64))), (.long (1000 : Int64))])) _
          refine XS.lcmp X237.here hx rfl (hb hby at_174) rfl ?_
          show Steps p.tables e below (T237.setTop (mkF m 175 #[.val (.int p1), .val (.int p2), .val (.long q3), .second, .val (.int (8 : Int32)), .val (.int qq), .val (.long lo), .second, .val (.ref b206), .val (.long ((qq.toInt64) * ((8 : Int32).toInt64))), .second, .val (.int (0 : Int32)), .unset, .unset] [(.int (lcmpW (1000 : Int64) ((qq.toInt64) * ((8 : Int32).toInt64))))])) _
          refine XS.ifYes X237.here hx rfl (pc0 := 175) (pc' := 181) rfl (hb hby at_175) rfl (own_lgeT hj175_242) (by decide) (by decide) ?_
          exact kt⟩
    have pre244 : ∀ t, Steps p.tables e below (T237.setTop (mkF m 184 #[.val (.int p1), .val (.int p2), .val (.long q3), .second, .val (.int (8 : Int32)), .val (.int qq), .val (.long lo), .second, .val (.ref b206), .val (.long ((qq.toInt64) * ((8 : Int32).toInt64))), .second, .val (.int i1), .unset, .unset] [(.int (2 : Int32)), (.int (8 : Int32))])) t → Steps p.tables e below (s₁.setTop (entryFrame m #[(.int p1), (.int p2), (.long q3)] maxLocals)) t := fun t kt => by
      refine pre243 t ?_
      show Steps p.tables e below (T237.setTop (mkF m 181 #[.val (.int p1), .val (.int p2), .val (.long q3), .second, .val (.int (8 : Int32)), .val (.int qq), .val (.long lo), .second, .val (.ref b206), .val (.long ((qq.toInt64) * ((8 : Int32).toInt64))), .second, .val (.int i1), .unset, .unset] [])) _
      refine XS.iload X237.here hx rfl (hb hby at_181) rfl ?_
      show Steps p.tables e below (T237.setTop (mkF m 183 #[.val (.int p1), .val (.int p2), .val (.long q3), .second, .val (.int (8 : Int32)), .val (.int qq), .val (.long lo), .second, .val (.ref b206), .val (.long ((qq.toInt64) * ((8 : Int32).toInt64))), .second, .val (.int i1), .unset, .unset] [(.int (8 : Int32))])) _
      refine XS.iconst X237.here hx rfl (hb hby at_183) ?_
      exact kt
    obtain ⟨i2, h_i2, pre246⟩ : ∃ z : Int32, z = (if (2000 : Int64) < ((qq.toInt64) * ((8 : Int32).toInt64)) then (i1 + (1 : Int32)) else i1) ∧ ∀ t, Steps p.tables e below (T237.setTop (mkF m 199 #[.val (.int p1), .val (.int p2), .val (.long q3), .second, .val (.int (8 : Int32)), .val (.int qq), .val (.long lo), .second, .val (.ref b206), .val (.long ((qq.toInt64) * ((8 : Int32).toInt64))), .second, .val (.int z), .unset, .unset] [])) t → Steps p.tables e below (s₁.setTop (entryFrame m #[(.int p1), (.int p2), (.long q3)] maxLocals)) t := by
      by_cases hj193_245 : (2000 : Int64) < ((qq.toInt64) * ((8 : Int32).toInt64))
      · exact ⟨_, by rw [if_pos hj193_245], fun t kt => by
          refine pre244 t ?_
          show Steps p.tables e below (T237.setTop (mkF m 184 #[.val (.int p1), .val (.int p2), .val (.long q3), .second, .val (.int (8 : Int32)), .val (.int qq), .val (.long lo), .second, .val (.ref b206), .val (.long ((qq.toInt64) * ((8 : Int32).toInt64))), .second, .val (.int i1), .unset, .unset] [(.int (2 : Int32)), (.int (8 : Int32))])) _
          refine XS.icmpNo X237.here hx rfl (hb hby at_184) rfl (tlt (by decide : (2 : Int32) < (8 : Int32))).2.2.2 ?_
          show Steps p.tables e below (T237.setTop (mkF m 187 #[.val (.int p1), .val (.int p2), .val (.long q3), .second, .val (.int (8 : Int32)), .val (.int qq), .val (.long lo), .second, .val (.ref b206), .val (.long ((qq.toInt64) * ((8 : Int32).toInt64))), .second, .val (.int i1), .unset, .unset] [])) _
          refine X237.ldc2Long hx hown (mvT hZ (hw _ (List.mem_of_getElem? (i := 12) rfl))) (g := (mkF m 187 #[.val (.int p1), .val (.int p2), .val (.long q3), .second, .val (.int (8 : Int32)), .val (.int qq), .val (.long lo), .second, .val (.ref b206), .val (.long ((qq.toInt64) * ((8 : Int32).toInt64))), .second, .val (.int i1), .unset, .unset] [])) rfl (hb hby at_187) _ ?_
          show Steps p.tables e below (T237.setTop (mkF m 190 #[.val (.int p1), .val (.int p2), .val (.long q3), .second, .val (.int (8 : Int32)), .val (.int qq), .val (.long lo), .second, .val (.ref b206), .val (.long ((qq.toInt64) * ((8 : Int32).toInt64))), .second, .val (.int i1), .unset, .unset] [(.long (2000 : Int64))])) _
          refine XS.lload X237.here hx rfl (hb hby at_190) rfl ?_
          show Steps p.tables e below (T237.setTop (mkF m 192 #[.val (.int p1), .val (.int p2), .val (.long q3), .second, .val (.int (8 : Int32)), .val (.int qq), .val (.long lo), .second, .val (.ref b206), .val (.long ((qq.toInt64) * ((8 : Int32).toInt64))), .second, .val (.int i1), .unset, .unset] [(.long ((qq.toInt64) * ((8 : Int32).toInt64))), (.long (2000 : Int64))])) _
          refine XS.lcmp X237.here hx rfl (hb hby at_192) rfl ?_
          show Steps p.tables e below (T237.setTop (mkF m 193 #[.val (.int p1), .val (.int p2), .val (.long q3), .second, .val (.int (8 : Int32)), .val (.int qq), .val (.long lo), .second, .val (.ref b206), .val (.long ((qq.toInt64) * ((8 : Int32).toInt64))), .second, .val (.int i1), .unset, .unset] [(.int (lcmpW (2000 : Int64) ((qq.toInt64) * ((8 : Int32).toInt64))))])) _
          refine XS.ifNo X237.here hx rfl (hb hby at_193) rfl (own_lgeF hj193_245) ?_
          show Steps p.tables e below (T237.setTop (mkF m 196 #[.val (.int p1), .val (.int p2), .val (.long q3), .second, .val (.int (8 : Int32)), .val (.int qq), .val (.long lo), .second, .val (.ref b206), .val (.long ((qq.toInt64) * ((8 : Int32).toInt64))), .second, .val (.int i1), .unset, .unset] [])) _
          refine XS.iinc X237.here hx rfl (hb hby at_196) rfl (l' := #[.val (.int p1), .val (.int p2), .val (.long q3), .second, .val (.int (8 : Int32)), .val (.int qq), .val (.long lo), .second, .val (.ref b206), .val (.long ((qq.toInt64) * ((8 : Int32).toInt64))), .second, .val (.int (i1 + (1 : Int32))), .unset, .unset]) rfl ?_
          exact kt⟩
      · exact ⟨_, by rw [if_neg hj193_245], fun t kt => by
          refine pre244 t ?_
          show Steps p.tables e below (T237.setTop (mkF m 184 #[.val (.int p1), .val (.int p2), .val (.long q3), .second, .val (.int (8 : Int32)), .val (.int qq), .val (.long lo), .second, .val (.ref b206), .val (.long ((qq.toInt64) * ((8 : Int32).toInt64))), .second, .val (.int i1), .unset, .unset] [(.int (2 : Int32)), (.int (8 : Int32))])) _
          refine XS.icmpNo X237.here hx rfl (hb hby at_184) rfl (tlt (by decide : (2 : Int32) < (8 : Int32))).2.2.2 ?_
          show Steps p.tables e below (T237.setTop (mkF m 187 #[.val (.int p1), .val (.int p2), .val (.long q3), .second, .val (.int (8 : Int32)), .val (.int qq), .val (.long lo), .second, .val (.ref b206), .val (.long ((qq.toInt64) * ((8 : Int32).toInt64))), .second, .val (.int i1), .unset, .unset] [])) _
          refine X237.ldc2Long hx hown (mvT hZ (hw _ (List.mem_of_getElem? (i := 12) rfl))) (g := (mkF m 187 #[.val (.int p1), .val (.int p2), .val (.long q3), .second, .val (.int (8 : Int32)), .val (.int qq), .val (.long lo), .second, .val (.ref b206), .val (.long ((qq.toInt64) * ((8 : Int32).toInt64))), .second, .val (.int i1), .unset, .unset] [])) rfl (hb hby at_187) _ ?_
          show Steps p.tables e below (T237.setTop (mkF m 190 #[.val (.int p1), .val (.int p2), .val (.long q3), .second, .val (.int (8 : Int32)), .val (.int qq), .val (.long lo), .second, .val (.ref b206), .val (.long ((qq.toInt64) * ((8 : Int32).toInt64))), .second, .val (.int i1), .unset, .unset] [(.long (2000 : Int64))])) _
          refine XS.lload X237.here hx rfl (hb hby at_190) rfl ?_
          show Steps p.tables e below (T237.setTop (mkF m 192 #[.val (.int p1), .val (.int p2), .val (.long q3), .second, .val (.int (8 : Int32)), .val (.int qq), .val (.long lo), .second, .val (.ref b206), .val (.long ((qq.toInt64) * ((8 : Int32).toInt64))), .second, .val (.int i1), .unset, .unset] [(.long ((qq.toInt64) * ((8 : Int32).toInt64))), (.long (2000 : Int64))])) _
          refine XS.lcmp X237.here hx rfl (hb hby at_192) rfl ?_
          show Steps p.tables e below (T237.setTop (mkF m 193 #[.val (.int p1), .val (.int p2), .val (.long q3), .second, .val (.int (8 : Int32)), .val (.int qq), .val (.long lo), .second, .val (.ref b206), .val (.long ((qq.toInt64) * ((8 : Int32).toInt64))), .second, .val (.int i1), .unset, .unset] [(.int (lcmpW (2000 : Int64) ((qq.toInt64) * ((8 : Int32).toInt64))))])) _
          refine XS.ifYes X237.here hx rfl (pc0 := 193) (pc' := 199) rfl (hb hby at_193) rfl (own_lgeT hj193_245) (by decide) (by decide) ?_
          exact kt⟩
    have pre247 : ∀ t, Steps p.tables e below (T237.setTop (mkF m 202 #[.val (.int p1), .val (.int p2), .val (.long q3), .second, .val (.int (8 : Int32)), .val (.int qq), .val (.long lo), .second, .val (.ref b206), .val (.long ((qq.toInt64) * ((8 : Int32).toInt64))), .second, .val (.int i2), .unset, .unset] [(.int (3 : Int32)), (.int (8 : Int32))])) t → Steps p.tables e below (s₁.setTop (entryFrame m #[(.int p1), (.int p2), (.long q3)] maxLocals)) t := fun t kt => by
      refine pre246 t ?_
      show Steps p.tables e below (T237.setTop (mkF m 199 #[.val (.int p1), .val (.int p2), .val (.long q3), .second, .val (.int (8 : Int32)), .val (.int qq), .val (.long lo), .second, .val (.ref b206), .val (.long ((qq.toInt64) * ((8 : Int32).toInt64))), .second, .val (.int i2), .unset, .unset] [])) _
      refine XS.iload X237.here hx rfl (hb hby at_199) rfl ?_
      show Steps p.tables e below (T237.setTop (mkF m 201 #[.val (.int p1), .val (.int p2), .val (.long q3), .second, .val (.int (8 : Int32)), .val (.int qq), .val (.long lo), .second, .val (.ref b206), .val (.long ((qq.toInt64) * ((8 : Int32).toInt64))), .second, .val (.int i2), .unset, .unset] [(.int (8 : Int32))])) _
      refine XS.iconst X237.here hx rfl (hb hby at_201) ?_
      exact kt
    obtain ⟨i3, h_i3, pre249⟩ : ∃ z : Int32, z = (if (3000 : Int64) < ((qq.toInt64) * ((8 : Int32).toInt64)) then (i2 + (1 : Int32)) else i2) ∧ ∀ t, Steps p.tables e below (T237.setTop (mkF m 217 #[.val (.int p1), .val (.int p2), .val (.long q3), .second, .val (.int (8 : Int32)), .val (.int qq), .val (.long lo), .second, .val (.ref b206), .val (.long ((qq.toInt64) * ((8 : Int32).toInt64))), .second, .val (.int z), .unset, .unset] [])) t → Steps p.tables e below (s₁.setTop (entryFrame m #[(.int p1), (.int p2), (.long q3)] maxLocals)) t := by
      by_cases hj211_248 : (3000 : Int64) < ((qq.toInt64) * ((8 : Int32).toInt64))
      · exact ⟨_, by rw [if_pos hj211_248], fun t kt => by
          refine pre247 t ?_
          show Steps p.tables e below (T237.setTop (mkF m 202 #[.val (.int p1), .val (.int p2), .val (.long q3), .second, .val (.int (8 : Int32)), .val (.int qq), .val (.long lo), .second, .val (.ref b206), .val (.long ((qq.toInt64) * ((8 : Int32).toInt64))), .second, .val (.int i2), .unset, .unset] [(.int (3 : Int32)), (.int (8 : Int32))])) _
          refine XS.icmpNo X237.here hx rfl (hb hby at_202) rfl (tlt (by decide : (3 : Int32) < (8 : Int32))).2.2.2 ?_
          show Steps p.tables e below (T237.setTop (mkF m 205 #[.val (.int p1), .val (.int p2), .val (.long q3), .second, .val (.int (8 : Int32)), .val (.int qq), .val (.long lo), .second, .val (.ref b206), .val (.long ((qq.toInt64) * ((8 : Int32).toInt64))), .second, .val (.int i2), .unset, .unset] [])) _
          refine X237.ldc2Long hx hown (mvT hZ (hw _ (List.mem_of_getElem? (i := 13) rfl))) (g := (mkF m 205 #[.val (.int p1), .val (.int p2), .val (.long q3), .second, .val (.int (8 : Int32)), .val (.int qq), .val (.long lo), .second, .val (.ref b206), .val (.long ((qq.toInt64) * ((8 : Int32).toInt64))), .second, .val (.int i2), .unset, .unset] [])) rfl (hb hby at_205) _ ?_
          show Steps p.tables e below (T237.setTop (mkF m 208 #[.val (.int p1), .val (.int p2), .val (.long q3), .second, .val (.int (8 : Int32)), .val (.int qq), .val (.long lo), .second, .val (.ref b206), .val (.long ((qq.toInt64) * ((8 : Int32).toInt64))), .second, .val (.int i2), .unset, .unset] [(.long (3000 : Int64))])) _
          refine XS.lload X237.here hx rfl (hb hby at_208) rfl ?_
          show Steps p.tables e below (T237.setTop (mkF m 210 #[.val (.int p1), .val (.int p2), .val (.long q3), .second, .val (.int (8 : Int32)), .val (.int qq), .val (.long lo), .second, .val (.ref b206), .val (.long ((qq.toInt64) * ((8 : Int32).toInt64))), .second, .val (.int i2), .unset, .unset] [(.long ((qq.toInt64) * ((8 : Int32).toInt64))), (.long (3000 : Int64))])) _
          refine XS.lcmp X237.here hx rfl (hb hby at_210) rfl ?_
          show Steps p.tables e below (T237.setTop (mkF m 211 #[.val (.int p1), .val (.int p2), .val (.long q3), .second, .val (.int (8 : Int32)), .val (.int qq), .val (.long lo), .second, .val (.ref b206), .val (.long ((qq.toInt64) * ((8 : Int32).toInt64))), .second, .val (.int i2), .unset, .unset] [(.int (lcmpW (3000 : Int64) ((qq.toInt64) * ((8 : Int32).toInt64))))])) _
          refine XS.ifNo X237.here hx rfl (hb hby at_211) rfl (own_lgeF hj211_248) ?_
          show Steps p.tables e below (T237.setTop (mkF m 214 #[.val (.int p1), .val (.int p2), .val (.long q3), .second, .val (.int (8 : Int32)), .val (.int qq), .val (.long lo), .second, .val (.ref b206), .val (.long ((qq.toInt64) * ((8 : Int32).toInt64))), .second, .val (.int i2), .unset, .unset] [])) _
          refine XS.iinc X237.here hx rfl (hb hby at_214) rfl (l' := #[.val (.int p1), .val (.int p2), .val (.long q3), .second, .val (.int (8 : Int32)), .val (.int qq), .val (.long lo), .second, .val (.ref b206), .val (.long ((qq.toInt64) * ((8 : Int32).toInt64))), .second, .val (.int (i2 + (1 : Int32))), .unset, .unset]) rfl ?_
          exact kt⟩
      · exact ⟨_, by rw [if_neg hj211_248], fun t kt => by
          refine pre247 t ?_
          show Steps p.tables e below (T237.setTop (mkF m 202 #[.val (.int p1), .val (.int p2), .val (.long q3), .second, .val (.int (8 : Int32)), .val (.int qq), .val (.long lo), .second, .val (.ref b206), .val (.long ((qq.toInt64) * ((8 : Int32).toInt64))), .second, .val (.int i2), .unset, .unset] [(.int (3 : Int32)), (.int (8 : Int32))])) _
          refine XS.icmpNo X237.here hx rfl (hb hby at_202) rfl (tlt (by decide : (3 : Int32) < (8 : Int32))).2.2.2 ?_
          show Steps p.tables e below (T237.setTop (mkF m 205 #[.val (.int p1), .val (.int p2), .val (.long q3), .second, .val (.int (8 : Int32)), .val (.int qq), .val (.long lo), .second, .val (.ref b206), .val (.long ((qq.toInt64) * ((8 : Int32).toInt64))), .second, .val (.int i2), .unset, .unset] [])) _
          refine X237.ldc2Long hx hown (mvT hZ (hw _ (List.mem_of_getElem? (i := 13) rfl))) (g := (mkF m 205 #[.val (.int p1), .val (.int p2), .val (.long q3), .second, .val (.int (8 : Int32)), .val (.int qq), .val (.long lo), .second, .val (.ref b206), .val (.long ((qq.toInt64) * ((8 : Int32).toInt64))), .second, .val (.int i2), .unset, .unset] [])) rfl (hb hby at_205) _ ?_
          show Steps p.tables e below (T237.setTop (mkF m 208 #[.val (.int p1), .val (.int p2), .val (.long q3), .second, .val (.int (8 : Int32)), .val (.int qq), .val (.long lo), .second, .val (.ref b206), .val (.long ((qq.toInt64) * ((8 : Int32).toInt64))), .second, .val (.int i2), .unset, .unset] [(.long (3000 : Int64))])) _
          refine XS.lload X237.here hx rfl (hb hby at_208) rfl ?_
          show Steps p.tables e below (T237.setTop (mkF m 210 #[.val (.int p1), .val (.int p2), .val (.long q3), .second, .val (.int (8 : Int32)), .val (.int qq), .val (.long lo), .second, .val (.ref b206), .val (.long ((qq.toInt64) * ((8 : Int32).toInt64))), .second, .val (.int i2), .unset, .unset] [(.long ((qq.toInt64) * ((8 : Int32).toInt64))), (.long (3000 : Int64))])) _
          refine XS.lcmp X237.here hx rfl (hb hby at_210) rfl ?_
          show Steps p.tables e below (T237.setTop (mkF m 211 #[.val (.int p1), .val (.int p2), .val (.long q3), .second, .val (.int (8 : Int32)), .val (.int qq), .val (.long lo), .second, .val (.ref b206), .val (.long ((qq.toInt64) * ((8 : Int32).toInt64))), .second, .val (.int i2), .unset, .unset] [(.int (lcmpW (3000 : Int64) ((qq.toInt64) * ((8 : Int32).toInt64))))])) _
          refine XS.ifYes X237.here hx rfl (pc0 := 211) (pc' := 217) rfl (hb hby at_211) rfl (own_lgeT hj211_248) (by decide) (by decide) ?_
          exact kt⟩
    have pre250 : ∀ t, Steps p.tables e below (T237.setTop (mkF m 220 #[.val (.int p1), .val (.int p2), .val (.long q3), .second, .val (.int (8 : Int32)), .val (.int qq), .val (.long lo), .second, .val (.ref b206), .val (.long ((qq.toInt64) * ((8 : Int32).toInt64))), .second, .val (.int i3), .unset, .unset] [(.int (4 : Int32)), (.int (8 : Int32))])) t → Steps p.tables e below (s₁.setTop (entryFrame m #[(.int p1), (.int p2), (.long q3)] maxLocals)) t := fun t kt => by
      refine pre249 t ?_
      show Steps p.tables e below (T237.setTop (mkF m 217 #[.val (.int p1), .val (.int p2), .val (.long q3), .second, .val (.int (8 : Int32)), .val (.int qq), .val (.long lo), .second, .val (.ref b206), .val (.long ((qq.toInt64) * ((8 : Int32).toInt64))), .second, .val (.int i3), .unset, .unset] [])) _
      refine XS.iload X237.here hx rfl (hb hby at_217) rfl ?_
      show Steps p.tables e below (T237.setTop (mkF m 219 #[.val (.int p1), .val (.int p2), .val (.long q3), .second, .val (.int (8 : Int32)), .val (.int qq), .val (.long lo), .second, .val (.ref b206), .val (.long ((qq.toInt64) * ((8 : Int32).toInt64))), .second, .val (.int i3), .unset, .unset] [(.int (8 : Int32))])) _
      refine XS.iconst X237.here hx rfl (hb hby at_219) ?_
      exact kt
    obtain ⟨i4, h_i4, pre252⟩ : ∃ z : Int32, z = (if (4000 : Int64) < ((qq.toInt64) * ((8 : Int32).toInt64)) then (i3 + (1 : Int32)) else i3) ∧ ∀ t, Steps p.tables e below (T237.setTop (mkF m 235 #[.val (.int p1), .val (.int p2), .val (.long q3), .second, .val (.int (8 : Int32)), .val (.int qq), .val (.long lo), .second, .val (.ref b206), .val (.long ((qq.toInt64) * ((8 : Int32).toInt64))), .second, .val (.int z), .unset, .unset] [])) t → Steps p.tables e below (s₁.setTop (entryFrame m #[(.int p1), (.int p2), (.long q3)] maxLocals)) t := by
      by_cases hj229_251 : (4000 : Int64) < ((qq.toInt64) * ((8 : Int32).toInt64))
      · exact ⟨_, by rw [if_pos hj229_251], fun t kt => by
          refine pre250 t ?_
          show Steps p.tables e below (T237.setTop (mkF m 220 #[.val (.int p1), .val (.int p2), .val (.long q3), .second, .val (.int (8 : Int32)), .val (.int qq), .val (.long lo), .second, .val (.ref b206), .val (.long ((qq.toInt64) * ((8 : Int32).toInt64))), .second, .val (.int i3), .unset, .unset] [(.int (4 : Int32)), (.int (8 : Int32))])) _
          refine XS.icmpNo X237.here hx rfl (hb hby at_220) rfl (tlt (by decide : (4 : Int32) < (8 : Int32))).2.2.2 ?_
          show Steps p.tables e below (T237.setTop (mkF m 223 #[.val (.int p1), .val (.int p2), .val (.long q3), .second, .val (.int (8 : Int32)), .val (.int qq), .val (.long lo), .second, .val (.ref b206), .val (.long ((qq.toInt64) * ((8 : Int32).toInt64))), .second, .val (.int i3), .unset, .unset] [])) _
          refine X237.ldc2Long hx hown (mvT hZ (hw _ (List.mem_of_getElem? (i := 14) rfl))) (g := (mkF m 223 #[.val (.int p1), .val (.int p2), .val (.long q3), .second, .val (.int (8 : Int32)), .val (.int qq), .val (.long lo), .second, .val (.ref b206), .val (.long ((qq.toInt64) * ((8 : Int32).toInt64))), .second, .val (.int i3), .unset, .unset] [])) rfl (hb hby at_223) _ ?_
          show Steps p.tables e below (T237.setTop (mkF m 226 #[.val (.int p1), .val (.int p2), .val (.long q3), .second, .val (.int (8 : Int32)), .val (.int qq), .val (.long lo), .second, .val (.ref b206), .val (.long ((qq.toInt64) * ((8 : Int32).toInt64))), .second, .val (.int i3), .unset, .unset] [(.long (4000 : Int64))])) _
          refine XS.lload X237.here hx rfl (hb hby at_226) rfl ?_
          show Steps p.tables e below (T237.setTop (mkF m 228 #[.val (.int p1), .val (.int p2), .val (.long q3), .second, .val (.int (8 : Int32)), .val (.int qq), .val (.long lo), .second, .val (.ref b206), .val (.long ((qq.toInt64) * ((8 : Int32).toInt64))), .second, .val (.int i3), .unset, .unset] [(.long ((qq.toInt64) * ((8 : Int32).toInt64))), (.long (4000 : Int64))])) _
          refine XS.lcmp X237.here hx rfl (hb hby at_228) rfl ?_
          show Steps p.tables e below (T237.setTop (mkF m 229 #[.val (.int p1), .val (.int p2), .val (.long q3), .second, .val (.int (8 : Int32)), .val (.int qq), .val (.long lo), .second, .val (.ref b206), .val (.long ((qq.toInt64) * ((8 : Int32).toInt64))), .second, .val (.int i3), .unset, .unset] [(.int (lcmpW (4000 : Int64) ((qq.toInt64) * ((8 : Int32).toInt64))))])) _
          refine XS.ifNo X237.here hx rfl (hb hby at_229) rfl (own_lgeF hj229_251) ?_
          show Steps p.tables e below (T237.setTop (mkF m 232 #[.val (.int p1), .val (.int p2), .val (.long q3), .second, .val (.int (8 : Int32)), .val (.int qq), .val (.long lo), .second, .val (.ref b206), .val (.long ((qq.toInt64) * ((8 : Int32).toInt64))), .second, .val (.int i3), .unset, .unset] [])) _
          refine XS.iinc X237.here hx rfl (hb hby at_232) rfl (l' := #[.val (.int p1), .val (.int p2), .val (.long q3), .second, .val (.int (8 : Int32)), .val (.int qq), .val (.long lo), .second, .val (.ref b206), .val (.long ((qq.toInt64) * ((8 : Int32).toInt64))), .second, .val (.int (i3 + (1 : Int32))), .unset, .unset]) rfl ?_
          exact kt⟩
      · exact ⟨_, by rw [if_neg hj229_251], fun t kt => by
          refine pre250 t ?_
          show Steps p.tables e below (T237.setTop (mkF m 220 #[.val (.int p1), .val (.int p2), .val (.long q3), .second, .val (.int (8 : Int32)), .val (.int qq), .val (.long lo), .second, .val (.ref b206), .val (.long ((qq.toInt64) * ((8 : Int32).toInt64))), .second, .val (.int i3), .unset, .unset] [(.int (4 : Int32)), (.int (8 : Int32))])) _
          refine XS.icmpNo X237.here hx rfl (hb hby at_220) rfl (tlt (by decide : (4 : Int32) < (8 : Int32))).2.2.2 ?_
          show Steps p.tables e below (T237.setTop (mkF m 223 #[.val (.int p1), .val (.int p2), .val (.long q3), .second, .val (.int (8 : Int32)), .val (.int qq), .val (.long lo), .second, .val (.ref b206), .val (.long ((qq.toInt64) * ((8 : Int32).toInt64))), .second, .val (.int i3), .unset, .unset] [])) _
          refine X237.ldc2Long hx hown (mvT hZ (hw _ (List.mem_of_getElem? (i := 14) rfl))) (g := (mkF m 223 #[.val (.int p1), .val (.int p2), .val (.long q3), .second, .val (.int (8 : Int32)), .val (.int qq), .val (.long lo), .second, .val (.ref b206), .val (.long ((qq.toInt64) * ((8 : Int32).toInt64))), .second, .val (.int i3), .unset, .unset] [])) rfl (hb hby at_223) _ ?_
          show Steps p.tables e below (T237.setTop (mkF m 226 #[.val (.int p1), .val (.int p2), .val (.long q3), .second, .val (.int (8 : Int32)), .val (.int qq), .val (.long lo), .second, .val (.ref b206), .val (.long ((qq.toInt64) * ((8 : Int32).toInt64))), .second, .val (.int i3), .unset, .unset] [(.long (4000 : Int64))])) _
          refine XS.lload X237.here hx rfl (hb hby at_226) rfl ?_
          show Steps p.tables e below (T237.setTop (mkF m 228 #[.val (.int p1), .val (.int p2), .val (.long q3), .second, .val (.int (8 : Int32)), .val (.int qq), .val (.long lo), .second, .val (.ref b206), .val (.long ((qq.toInt64) * ((8 : Int32).toInt64))), .second, .val (.int i3), .unset, .unset] [(.long ((qq.toInt64) * ((8 : Int32).toInt64))), (.long (4000 : Int64))])) _
          refine XS.lcmp X237.here hx rfl (hb hby at_228) rfl ?_
          show Steps p.tables e below (T237.setTop (mkF m 229 #[.val (.int p1), .val (.int p2), .val (.long q3), .second, .val (.int (8 : Int32)), .val (.int qq), .val (.long lo), .second, .val (.ref b206), .val (.long ((qq.toInt64) * ((8 : Int32).toInt64))), .second, .val (.int i3), .unset, .unset] [(.int (lcmpW (4000 : Int64) ((qq.toInt64) * ((8 : Int32).toInt64))))])) _
          refine XS.ifYes X237.here hx rfl (pc0 := 229) (pc' := 235) rfl (hb hby at_229) rfl (own_lgeT hj229_251) (by decide) (by decide) ?_
          exact kt⟩
    have pre253 : ∀ t, Steps p.tables e below (T237.setTop (mkF m 238 #[.val (.int p1), .val (.int p2), .val (.long q3), .second, .val (.int (8 : Int32)), .val (.int qq), .val (.long lo), .second, .val (.ref b206), .val (.long ((qq.toInt64) * ((8 : Int32).toInt64))), .second, .val (.int i4), .unset, .unset] [(.int (5 : Int32)), (.int (8 : Int32))])) t → Steps p.tables e below (s₁.setTop (entryFrame m #[(.int p1), (.int p2), (.long q3)] maxLocals)) t := fun t kt => by
      refine pre252 t ?_
      show Steps p.tables e below (T237.setTop (mkF m 235 #[.val (.int p1), .val (.int p2), .val (.long q3), .second, .val (.int (8 : Int32)), .val (.int qq), .val (.long lo), .second, .val (.ref b206), .val (.long ((qq.toInt64) * ((8 : Int32).toInt64))), .second, .val (.int i4), .unset, .unset] [])) _
      refine XS.iload X237.here hx rfl (hb hby at_235) rfl ?_
      show Steps p.tables e below (T237.setTop (mkF m 237 #[.val (.int p1), .val (.int p2), .val (.long q3), .second, .val (.int (8 : Int32)), .val (.int qq), .val (.long lo), .second, .val (.ref b206), .val (.long ((qq.toInt64) * ((8 : Int32).toInt64))), .second, .val (.int i4), .unset, .unset] [(.int (8 : Int32))])) _
      refine XS.iconst X237.here hx rfl (hb hby at_237) ?_
      exact kt
    obtain ⟨i5, h_i5, pre255⟩ : ∃ z : Int32, z = (if (5000 : Int64) < ((qq.toInt64) * ((8 : Int32).toInt64)) then (i4 + (1 : Int32)) else i4) ∧ ∀ t, Steps p.tables e below (T237.setTop (mkF m 253 #[.val (.int p1), .val (.int p2), .val (.long q3), .second, .val (.int (8 : Int32)), .val (.int qq), .val (.long lo), .second, .val (.ref b206), .val (.long ((qq.toInt64) * ((8 : Int32).toInt64))), .second, .val (.int z), .unset, .unset] [])) t → Steps p.tables e below (s₁.setTop (entryFrame m #[(.int p1), (.int p2), (.long q3)] maxLocals)) t := by
      by_cases hj247_254 : (5000 : Int64) < ((qq.toInt64) * ((8 : Int32).toInt64))
      · exact ⟨_, by rw [if_pos hj247_254], fun t kt => by
          refine pre253 t ?_
          show Steps p.tables e below (T237.setTop (mkF m 238 #[.val (.int p1), .val (.int p2), .val (.long q3), .second, .val (.int (8 : Int32)), .val (.int qq), .val (.long lo), .second, .val (.ref b206), .val (.long ((qq.toInt64) * ((8 : Int32).toInt64))), .second, .val (.int i4), .unset, .unset] [(.int (5 : Int32)), (.int (8 : Int32))])) _
          refine XS.icmpNo X237.here hx rfl (hb hby at_238) rfl (tlt (by decide : (5 : Int32) < (8 : Int32))).2.2.2 ?_
          show Steps p.tables e below (T237.setTop (mkF m 241 #[.val (.int p1), .val (.int p2), .val (.long q3), .second, .val (.int (8 : Int32)), .val (.int qq), .val (.long lo), .second, .val (.ref b206), .val (.long ((qq.toInt64) * ((8 : Int32).toInt64))), .second, .val (.int i4), .unset, .unset] [])) _
          refine X237.ldc2Long hx hown (mvT hZ (hw _ (List.mem_of_getElem? (i := 18) rfl))) (g := (mkF m 241 #[.val (.int p1), .val (.int p2), .val (.long q3), .second, .val (.int (8 : Int32)), .val (.int qq), .val (.long lo), .second, .val (.ref b206), .val (.long ((qq.toInt64) * ((8 : Int32).toInt64))), .second, .val (.int i4), .unset, .unset] [])) rfl (hb hby at_241) _ ?_
          show Steps p.tables e below (T237.setTop (mkF m 244 #[.val (.int p1), .val (.int p2), .val (.long q3), .second, .val (.int (8 : Int32)), .val (.int qq), .val (.long lo), .second, .val (.ref b206), .val (.long ((qq.toInt64) * ((8 : Int32).toInt64))), .second, .val (.int i4), .unset, .unset] [(.long (5000 : Int64))])) _
          refine XS.lload X237.here hx rfl (hb hby at_244) rfl ?_
          show Steps p.tables e below (T237.setTop (mkF m 246 #[.val (.int p1), .val (.int p2), .val (.long q3), .second, .val (.int (8 : Int32)), .val (.int qq), .val (.long lo), .second, .val (.ref b206), .val (.long ((qq.toInt64) * ((8 : Int32).toInt64))), .second, .val (.int i4), .unset, .unset] [(.long ((qq.toInt64) * ((8 : Int32).toInt64))), (.long (5000 : Int64))])) _
          refine XS.lcmp X237.here hx rfl (hb hby at_246) rfl ?_
          show Steps p.tables e below (T237.setTop (mkF m 247 #[.val (.int p1), .val (.int p2), .val (.long q3), .second, .val (.int (8 : Int32)), .val (.int qq), .val (.long lo), .second, .val (.ref b206), .val (.long ((qq.toInt64) * ((8 : Int32).toInt64))), .second, .val (.int i4), .unset, .unset] [(.int (lcmpW (5000 : Int64) ((qq.toInt64) * ((8 : Int32).toInt64))))])) _
          refine XS.ifNo X237.here hx rfl (hb hby at_247) rfl (own_lgeF hj247_254) ?_
          show Steps p.tables e below (T237.setTop (mkF m 250 #[.val (.int p1), .val (.int p2), .val (.long q3), .second, .val (.int (8 : Int32)), .val (.int qq), .val (.long lo), .second, .val (.ref b206), .val (.long ((qq.toInt64) * ((8 : Int32).toInt64))), .second, .val (.int i4), .unset, .unset] [])) _
          refine XS.iinc X237.here hx rfl (hb hby at_250) rfl (l' := #[.val (.int p1), .val (.int p2), .val (.long q3), .second, .val (.int (8 : Int32)), .val (.int qq), .val (.long lo), .second, .val (.ref b206), .val (.long ((qq.toInt64) * ((8 : Int32).toInt64))), .second, .val (.int (i4 + (1 : Int32))), .unset, .unset]) rfl ?_
          exact kt⟩
      · exact ⟨_, by rw [if_neg hj247_254], fun t kt => by
          refine pre253 t ?_
          show Steps p.tables e below (T237.setTop (mkF m 238 #[.val (.int p1), .val (.int p2), .val (.long q3), .second, .val (.int (8 : Int32)), .val (.int qq), .val (.long lo), .second, .val (.ref b206), .val (.long ((qq.toInt64) * ((8 : Int32).toInt64))), .second, .val (.int i4), .unset, .unset] [(.int (5 : Int32)), (.int (8 : Int32))])) _
          refine XS.icmpNo X237.here hx rfl (hb hby at_238) rfl (tlt (by decide : (5 : Int32) < (8 : Int32))).2.2.2 ?_
          show Steps p.tables e below (T237.setTop (mkF m 241 #[.val (.int p1), .val (.int p2), .val (.long q3), .second, .val (.int (8 : Int32)), .val (.int qq), .val (.long lo), .second, .val (.ref b206), .val (.long ((qq.toInt64) * ((8 : Int32).toInt64))), .second, .val (.int i4), .unset, .unset] [])) _
          refine X237.ldc2Long hx hown (mvT hZ (hw _ (List.mem_of_getElem? (i := 18) rfl))) (g := (mkF m 241 #[.val (.int p1), .val (.int p2), .val (.long q3), .second, .val (.int (8 : Int32)), .val (.int qq), .val (.long lo), .second, .val (.ref b206), .val (.long ((qq.toInt64) * ((8 : Int32).toInt64))), .second, .val (.int i4), .unset, .unset] [])) rfl (hb hby at_241) _ ?_
          show Steps p.tables e below (T237.setTop (mkF m 244 #[.val (.int p1), .val (.int p2), .val (.long q3), .second, .val (.int (8 : Int32)), .val (.int qq), .val (.long lo), .second, .val (.ref b206), .val (.long ((qq.toInt64) * ((8 : Int32).toInt64))), .second, .val (.int i4), .unset, .unset] [(.long (5000 : Int64))])) _
          refine XS.lload X237.here hx rfl (hb hby at_244) rfl ?_
          show Steps p.tables e below (T237.setTop (mkF m 246 #[.val (.int p1), .val (.int p2), .val (.long q3), .second, .val (.int (8 : Int32)), .val (.int qq), .val (.long lo), .second, .val (.ref b206), .val (.long ((qq.toInt64) * ((8 : Int32).toInt64))), .second, .val (.int i4), .unset, .unset] [(.long ((qq.toInt64) * ((8 : Int32).toInt64))), (.long (5000 : Int64))])) _
          refine XS.lcmp X237.here hx rfl (hb hby at_246) rfl ?_
          show Steps p.tables e below (T237.setTop (mkF m 247 #[.val (.int p1), .val (.int p2), .val (.long q3), .second, .val (.int (8 : Int32)), .val (.int qq), .val (.long lo), .second, .val (.ref b206), .val (.long ((qq.toInt64) * ((8 : Int32).toInt64))), .second, .val (.int i4), .unset, .unset] [(.int (lcmpW (5000 : Int64) ((qq.toInt64) * ((8 : Int32).toInt64))))])) _
          refine XS.ifYes X237.here hx rfl (pc0 := 247) (pc' := 253) rfl (hb hby at_247) rfl (own_lgeT hj247_254) (by decide) (by decide) ?_
          exact kt⟩
    have pre256 : ∀ t, Steps p.tables e below (T237.setTop (mkF m 257 #[.val (.int p1), .val (.int p2), .val (.long q3), .second, .val (.int (8 : Int32)), .val (.int qq), .val (.long lo), .second, .val (.ref b206), .val (.long ((qq.toInt64) * ((8 : Int32).toInt64))), .second, .val (.int i5), .unset, .unset] [(.int (6 : Int32)), (.int (8 : Int32))])) t → Steps p.tables e below (s₁.setTop (entryFrame m #[(.int p1), (.int p2), (.long q3)] maxLocals)) t := fun t kt => by
      refine pre255 t ?_
      show Steps p.tables e below (T237.setTop (mkF m 253 #[.val (.int p1), .val (.int p2), .val (.long q3), .second, .val (.int (8 : Int32)), .val (.int qq), .val (.long lo), .second, .val (.ref b206), .val (.long ((qq.toInt64) * ((8 : Int32).toInt64))), .second, .val (.int i5), .unset, .unset] [])) _
      refine XS.iload X237.here hx rfl (hb hby at_253) rfl ?_
      show Steps p.tables e below (T237.setTop (mkF m 255 #[.val (.int p1), .val (.int p2), .val (.long q3), .second, .val (.int (8 : Int32)), .val (.int qq), .val (.long lo), .second, .val (.ref b206), .val (.long ((qq.toInt64) * ((8 : Int32).toInt64))), .second, .val (.int i5), .unset, .unset] [(.int (8 : Int32))])) _
      refine XS.bipush X237.here hx rfl (hb hby at_255) ?_
      exact kt
    obtain ⟨i6, h_i6, pre258⟩ : ∃ z : Int32, z = (if (6000 : Int64) < ((qq.toInt64) * ((8 : Int32).toInt64)) then (i5 + (1 : Int32)) else i5) ∧ ∀ t, Steps p.tables e below (T237.setTop (mkF m 272 #[.val (.int p1), .val (.int p2), .val (.long q3), .second, .val (.int (8 : Int32)), .val (.int qq), .val (.long lo), .second, .val (.ref b206), .val (.long ((qq.toInt64) * ((8 : Int32).toInt64))), .second, .val (.int z), .unset, .unset] [])) t → Steps p.tables e below (s₁.setTop (entryFrame m #[(.int p1), (.int p2), (.long q3)] maxLocals)) t := by
      by_cases hj266_257 : (6000 : Int64) < ((qq.toInt64) * ((8 : Int32).toInt64))
      · exact ⟨_, by rw [if_pos hj266_257], fun t kt => by
          refine pre256 t ?_
          show Steps p.tables e below (T237.setTop (mkF m 257 #[.val (.int p1), .val (.int p2), .val (.long q3), .second, .val (.int (8 : Int32)), .val (.int qq), .val (.long lo), .second, .val (.ref b206), .val (.long ((qq.toInt64) * ((8 : Int32).toInt64))), .second, .val (.int i5), .unset, .unset] [(.int (6 : Int32)), (.int (8 : Int32))])) _
          refine XS.icmpNo X237.here hx rfl (hb hby at_257) rfl (tlt (by decide : (6 : Int32) < (8 : Int32))).2.2.2 ?_
          show Steps p.tables e below (T237.setTop (mkF m 260 #[.val (.int p1), .val (.int p2), .val (.long q3), .second, .val (.int (8 : Int32)), .val (.int qq), .val (.long lo), .second, .val (.ref b206), .val (.long ((qq.toInt64) * ((8 : Int32).toInt64))), .second, .val (.int i5), .unset, .unset] [])) _
          refine X237.ldc2Long hx hown (mvT hZ (hw _ (List.mem_of_getElem? (i := 19) rfl))) (g := (mkF m 260 #[.val (.int p1), .val (.int p2), .val (.long q3), .second, .val (.int (8 : Int32)), .val (.int qq), .val (.long lo), .second, .val (.ref b206), .val (.long ((qq.toInt64) * ((8 : Int32).toInt64))), .second, .val (.int i5), .unset, .unset] [])) rfl (hb hby at_260) _ ?_
          show Steps p.tables e below (T237.setTop (mkF m 263 #[.val (.int p1), .val (.int p2), .val (.long q3), .second, .val (.int (8 : Int32)), .val (.int qq), .val (.long lo), .second, .val (.ref b206), .val (.long ((qq.toInt64) * ((8 : Int32).toInt64))), .second, .val (.int i5), .unset, .unset] [(.long (6000 : Int64))])) _
          refine XS.lload X237.here hx rfl (hb hby at_263) rfl ?_
          show Steps p.tables e below (T237.setTop (mkF m 265 #[.val (.int p1), .val (.int p2), .val (.long q3), .second, .val (.int (8 : Int32)), .val (.int qq), .val (.long lo), .second, .val (.ref b206), .val (.long ((qq.toInt64) * ((8 : Int32).toInt64))), .second, .val (.int i5), .unset, .unset] [(.long ((qq.toInt64) * ((8 : Int32).toInt64))), (.long (6000 : Int64))])) _
          refine XS.lcmp X237.here hx rfl (hb hby at_265) rfl ?_
          show Steps p.tables e below (T237.setTop (mkF m 266 #[.val (.int p1), .val (.int p2), .val (.long q3), .second, .val (.int (8 : Int32)), .val (.int qq), .val (.long lo), .second, .val (.ref b206), .val (.long ((qq.toInt64) * ((8 : Int32).toInt64))), .second, .val (.int i5), .unset, .unset] [(.int (lcmpW (6000 : Int64) ((qq.toInt64) * ((8 : Int32).toInt64))))])) _
          refine XS.ifNo X237.here hx rfl (hb hby at_266) rfl (own_lgeF hj266_257) ?_
          show Steps p.tables e below (T237.setTop (mkF m 269 #[.val (.int p1), .val (.int p2), .val (.long q3), .second, .val (.int (8 : Int32)), .val (.int qq), .val (.long lo), .second, .val (.ref b206), .val (.long ((qq.toInt64) * ((8 : Int32).toInt64))), .second, .val (.int i5), .unset, .unset] [])) _
          refine XS.iinc X237.here hx rfl (hb hby at_269) rfl (l' := #[.val (.int p1), .val (.int p2), .val (.long q3), .second, .val (.int (8 : Int32)), .val (.int qq), .val (.long lo), .second, .val (.ref b206), .val (.long ((qq.toInt64) * ((8 : Int32).toInt64))), .second, .val (.int (i5 + (1 : Int32))), .unset, .unset]) rfl ?_
          exact kt⟩
      · exact ⟨_, by rw [if_neg hj266_257], fun t kt => by
          refine pre256 t ?_
          show Steps p.tables e below (T237.setTop (mkF m 257 #[.val (.int p1), .val (.int p2), .val (.long q3), .second, .val (.int (8 : Int32)), .val (.int qq), .val (.long lo), .second, .val (.ref b206), .val (.long ((qq.toInt64) * ((8 : Int32).toInt64))), .second, .val (.int i5), .unset, .unset] [(.int (6 : Int32)), (.int (8 : Int32))])) _
          refine XS.icmpNo X237.here hx rfl (hb hby at_257) rfl (tlt (by decide : (6 : Int32) < (8 : Int32))).2.2.2 ?_
          show Steps p.tables e below (T237.setTop (mkF m 260 #[.val (.int p1), .val (.int p2), .val (.long q3), .second, .val (.int (8 : Int32)), .val (.int qq), .val (.long lo), .second, .val (.ref b206), .val (.long ((qq.toInt64) * ((8 : Int32).toInt64))), .second, .val (.int i5), .unset, .unset] [])) _
          refine X237.ldc2Long hx hown (mvT hZ (hw _ (List.mem_of_getElem? (i := 19) rfl))) (g := (mkF m 260 #[.val (.int p1), .val (.int p2), .val (.long q3), .second, .val (.int (8 : Int32)), .val (.int qq), .val (.long lo), .second, .val (.ref b206), .val (.long ((qq.toInt64) * ((8 : Int32).toInt64))), .second, .val (.int i5), .unset, .unset] [])) rfl (hb hby at_260) _ ?_
          show Steps p.tables e below (T237.setTop (mkF m 263 #[.val (.int p1), .val (.int p2), .val (.long q3), .second, .val (.int (8 : Int32)), .val (.int qq), .val (.long lo), .second, .val (.ref b206), .val (.long ((qq.toInt64) * ((8 : Int32).toInt64))), .second, .val (.int i5), .unset, .unset] [(.long (6000 : Int64))])) _
          refine XS.lload X237.here hx rfl (hb hby at_263) rfl ?_
          show Steps p.tables e below (T237.setTop (mkF m 265 #[.val (.int p1), .val (.int p2), .val (.long q3), .second, .val (.int (8 : Int32)), .val (.int qq), .val (.long lo), .second, .val (.ref b206), .val (.long ((qq.toInt64) * ((8 : Int32).toInt64))), .second, .val (.int i5), .unset, .unset] [(.long ((qq.toInt64) * ((8 : Int32).toInt64))), (.long (6000 : Int64))])) _
          refine XS.lcmp X237.here hx rfl (hb hby at_265) rfl ?_
          show Steps p.tables e below (T237.setTop (mkF m 266 #[.val (.int p1), .val (.int p2), .val (.long q3), .second, .val (.int (8 : Int32)), .val (.int qq), .val (.long lo), .second, .val (.ref b206), .val (.long ((qq.toInt64) * ((8 : Int32).toInt64))), .second, .val (.int i5), .unset, .unset] [(.int (lcmpW (6000 : Int64) ((qq.toInt64) * ((8 : Int32).toInt64))))])) _
          refine XS.ifYes X237.here hx rfl (pc0 := 266) (pc' := 272) rfl (hb hby at_266) rfl (own_lgeT hj266_257) (by decide) (by decide) ?_
          exact kt⟩
    have pre259 : ∀ t, Steps p.tables e below (T237.setTop (mkF m 276 #[.val (.int p1), .val (.int p2), .val (.long q3), .second, .val (.int (8 : Int32)), .val (.int qq), .val (.long lo), .second, .val (.ref b206), .val (.long ((qq.toInt64) * ((8 : Int32).toInt64))), .second, .val (.int i6), .unset, .unset] [(.int (7 : Int32)), (.int (8 : Int32))])) t → Steps p.tables e below (s₁.setTop (entryFrame m #[(.int p1), (.int p2), (.long q3)] maxLocals)) t := fun t kt => by
      refine pre258 t ?_
      show Steps p.tables e below (T237.setTop (mkF m 272 #[.val (.int p1), .val (.int p2), .val (.long q3), .second, .val (.int (8 : Int32)), .val (.int qq), .val (.long lo), .second, .val (.ref b206), .val (.long ((qq.toInt64) * ((8 : Int32).toInt64))), .second, .val (.int i6), .unset, .unset] [])) _
      refine XS.iload X237.here hx rfl (hb hby at_272) rfl ?_
      show Steps p.tables e below (T237.setTop (mkF m 274 #[.val (.int p1), .val (.int p2), .val (.long q3), .second, .val (.int (8 : Int32)), .val (.int qq), .val (.long lo), .second, .val (.ref b206), .val (.long ((qq.toInt64) * ((8 : Int32).toInt64))), .second, .val (.int i6), .unset, .unset] [(.int (8 : Int32))])) _
      refine XS.bipush X237.here hx rfl (hb hby at_274) ?_
      exact kt
    obtain ⟨i7, h_i7, pre261⟩ : ∃ z : Int32, z = (if (7000 : Int64) < ((qq.toInt64) * ((8 : Int32).toInt64)) then (i6 + (1 : Int32)) else i6) ∧ ∀ t, Steps p.tables e below (T237.setTop (mkF m 291 #[.val (.int p1), .val (.int p2), .val (.long q3), .second, .val (.int (8 : Int32)), .val (.int qq), .val (.long lo), .second, .val (.ref b206), .val (.long ((qq.toInt64) * ((8 : Int32).toInt64))), .second, .val (.int z), .unset, .unset] [])) t → Steps p.tables e below (s₁.setTop (entryFrame m #[(.int p1), (.int p2), (.long q3)] maxLocals)) t := by
      by_cases hj285_260 : (7000 : Int64) < ((qq.toInt64) * ((8 : Int32).toInt64))
      · exact ⟨_, by rw [if_pos hj285_260], fun t kt => by
          refine pre259 t ?_
          show Steps p.tables e below (T237.setTop (mkF m 276 #[.val (.int p1), .val (.int p2), .val (.long q3), .second, .val (.int (8 : Int32)), .val (.int qq), .val (.long lo), .second, .val (.ref b206), .val (.long ((qq.toInt64) * ((8 : Int32).toInt64))), .second, .val (.int i6), .unset, .unset] [(.int (7 : Int32)), (.int (8 : Int32))])) _
          refine XS.icmpNo X237.here hx rfl (hb hby at_276) rfl (tlt (by decide : (7 : Int32) < (8 : Int32))).2.2.2 ?_
          show Steps p.tables e below (T237.setTop (mkF m 279 #[.val (.int p1), .val (.int p2), .val (.long q3), .second, .val (.int (8 : Int32)), .val (.int qq), .val (.long lo), .second, .val (.ref b206), .val (.long ((qq.toInt64) * ((8 : Int32).toInt64))), .second, .val (.int i6), .unset, .unset] [])) _
          refine X237.ldc2Long hx hown (mvT hZ (hw _ (List.mem_of_getElem? (i := 20) rfl))) (g := (mkF m 279 #[.val (.int p1), .val (.int p2), .val (.long q3), .second, .val (.int (8 : Int32)), .val (.int qq), .val (.long lo), .second, .val (.ref b206), .val (.long ((qq.toInt64) * ((8 : Int32).toInt64))), .second, .val (.int i6), .unset, .unset] [])) rfl (hb hby at_279) _ ?_
          show Steps p.tables e below (T237.setTop (mkF m 282 #[.val (.int p1), .val (.int p2), .val (.long q3), .second, .val (.int (8 : Int32)), .val (.int qq), .val (.long lo), .second, .val (.ref b206), .val (.long ((qq.toInt64) * ((8 : Int32).toInt64))), .second, .val (.int i6), .unset, .unset] [(.long (7000 : Int64))])) _
          refine XS.lload X237.here hx rfl (hb hby at_282) rfl ?_
          show Steps p.tables e below (T237.setTop (mkF m 284 #[.val (.int p1), .val (.int p2), .val (.long q3), .second, .val (.int (8 : Int32)), .val (.int qq), .val (.long lo), .second, .val (.ref b206), .val (.long ((qq.toInt64) * ((8 : Int32).toInt64))), .second, .val (.int i6), .unset, .unset] [(.long ((qq.toInt64) * ((8 : Int32).toInt64))), (.long (7000 : Int64))])) _
          refine XS.lcmp X237.here hx rfl (hb hby at_284) rfl ?_
          show Steps p.tables e below (T237.setTop (mkF m 285 #[.val (.int p1), .val (.int p2), .val (.long q3), .second, .val (.int (8 : Int32)), .val (.int qq), .val (.long lo), .second, .val (.ref b206), .val (.long ((qq.toInt64) * ((8 : Int32).toInt64))), .second, .val (.int i6), .unset, .unset] [(.int (lcmpW (7000 : Int64) ((qq.toInt64) * ((8 : Int32).toInt64))))])) _
          refine XS.ifNo X237.here hx rfl (hb hby at_285) rfl (own_lgeF hj285_260) ?_
          show Steps p.tables e below (T237.setTop (mkF m 288 #[.val (.int p1), .val (.int p2), .val (.long q3), .second, .val (.int (8 : Int32)), .val (.int qq), .val (.long lo), .second, .val (.ref b206), .val (.long ((qq.toInt64) * ((8 : Int32).toInt64))), .second, .val (.int i6), .unset, .unset] [])) _
          refine XS.iinc X237.here hx rfl (hb hby at_288) rfl (l' := #[.val (.int p1), .val (.int p2), .val (.long q3), .second, .val (.int (8 : Int32)), .val (.int qq), .val (.long lo), .second, .val (.ref b206), .val (.long ((qq.toInt64) * ((8 : Int32).toInt64))), .second, .val (.int (i6 + (1 : Int32))), .unset, .unset]) rfl ?_
          exact kt⟩
      · exact ⟨_, by rw [if_neg hj285_260], fun t kt => by
          refine pre259 t ?_
          show Steps p.tables e below (T237.setTop (mkF m 276 #[.val (.int p1), .val (.int p2), .val (.long q3), .second, .val (.int (8 : Int32)), .val (.int qq), .val (.long lo), .second, .val (.ref b206), .val (.long ((qq.toInt64) * ((8 : Int32).toInt64))), .second, .val (.int i6), .unset, .unset] [(.int (7 : Int32)), (.int (8 : Int32))])) _
          refine XS.icmpNo X237.here hx rfl (hb hby at_276) rfl (tlt (by decide : (7 : Int32) < (8 : Int32))).2.2.2 ?_
          show Steps p.tables e below (T237.setTop (mkF m 279 #[.val (.int p1), .val (.int p2), .val (.long q3), .second, .val (.int (8 : Int32)), .val (.int qq), .val (.long lo), .second, .val (.ref b206), .val (.long ((qq.toInt64) * ((8 : Int32).toInt64))), .second, .val (.int i6), .unset, .unset] [])) _
          refine X237.ldc2Long hx hown (mvT hZ (hw _ (List.mem_of_getElem? (i := 20) rfl))) (g := (mkF m 279 #[.val (.int p1), .val (.int p2), .val (.long q3), .second, .val (.int (8 : Int32)), .val (.int qq), .val (.long lo), .second, .val (.ref b206), .val (.long ((qq.toInt64) * ((8 : Int32).toInt64))), .second, .val (.int i6), .unset, .unset] [])) rfl (hb hby at_279) _ ?_
          show Steps p.tables e below (T237.setTop (mkF m 282 #[.val (.int p1), .val (.int p2), .val (.long q3), .second, .val (.int (8 : Int32)), .val (.int qq), .val (.long lo), .second, .val (.ref b206), .val (.long ((qq.toInt64) * ((8 : Int32).toInt64))), .second, .val (.int i6), .unset, .unset] [(.long (7000 : Int64))])) _
          refine XS.lload X237.here hx rfl (hb hby at_282) rfl ?_
          show Steps p.tables e below (T237.setTop (mkF m 284 #[.val (.int p1), .val (.int p2), .val (.long q3), .second, .val (.int (8 : Int32)), .val (.int qq), .val (.long lo), .second, .val (.ref b206), .val (.long ((qq.toInt64) * ((8 : Int32).toInt64))), .second, .val (.int i6), .unset, .unset] [(.long ((qq.toInt64) * ((8 : Int32).toInt64))), (.long (7000 : Int64))])) _
          refine XS.lcmp X237.here hx rfl (hb hby at_284) rfl ?_
          show Steps p.tables e below (T237.setTop (mkF m 285 #[.val (.int p1), .val (.int p2), .val (.long q3), .second, .val (.int (8 : Int32)), .val (.int qq), .val (.long lo), .second, .val (.ref b206), .val (.long ((qq.toInt64) * ((8 : Int32).toInt64))), .second, .val (.int i6), .unset, .unset] [(.int (lcmpW (7000 : Int64) ((qq.toInt64) * ((8 : Int32).toInt64))))])) _
          refine XS.ifYes X237.here hx rfl (pc0 := 285) (pc' := 291) rfl (hb hby at_285) rfl (own_lgeT hj285_260) (by decide) (by decide) ?_
          exact kt⟩
    have hcn := own_c8 hq h_i1 h_i2 h_i3 h_i4 h_i5 h_i6 h_i7
    obtain ⟨_, _, ⟨T262, L262, k262, n262⟩, -, X262, ⟨Lc262, hQ262, l262, y262, z262⟩, st262⟩ := Jvm.LawKit.callS X237 hx (y := (⟨"com/example/sandglass/sandglass/Percentiles", "nearestRank", "([JI)J"⟩ : MethodName)) hown (mvT hZ (hw _ (List.mem_of_getElem? (i := 2) rfl))) (mvT hZ (hw _ (List.mem_of_getElem? (i := 3) rfl))) (mvT hZ (hw _ (List.mem_of_getElem? (i := 4) rfl))) (mvT hZ (hw _ (List.mem_of_getElem? (i := 5) rfl))) (by decide) (backOf (W := 0) (rm1 l Z a0 hw [] b206 qq k206 (8 : Int32) [(.long lo), (.long (lo + (1 : Int64))), (.long (lo + (2 : Int64))), (.long (lo + (3 : Int64))), (.long (lo + (4 : Int64))), (.long (lo + (5 : Int64))), (.long (lo + (6 : Int64))), (.long (lo + (7 : Int64)))] (lo + (i7).toInt64) h237 n0 (Nat.le_trans Z0 K238.1) Vw237 (own_i8 hcn.1 hcn.2.1 hcn.2.2) (own_g8 hcn.1 hcn.2.1 hcn.2.2)) hZ (hw _ (List.mem_of_getElem? (i := 5) rfl)) (hw _ (List.mem_of_getElem? (i := 4) rfl)) (by decide) (by decide)) (g := (mkF m 295 #[.val (.int p1), .val (.int p2), .val (.long q3), .second, .val (.int (8 : Int32)), .val (.int qq), .val (.long lo), .second, .val (.ref b206), .val (.long ((qq.toInt64) * ((8 : Int32).toInt64))), .second, .val (.int i7), .unset, .unset] [(.int qq), (.ref b206)])) rfl (by rw [hml]; rfl) (argsL := [(.ref b206), (.int qq)]) (rest := []) (lenOf pd__28_5bJI_29J rfl) rfl (by show 2 * 0 + _ ≤ _; exact Nat.le_of_eq rfl) (hb hby at_295) (fun _ _ => ⟨rfl, e237, (by decide : 1 + 0 ≤ _), (by decide : 8 + 0 ≤ _)⟩)
    dsimp only [Pt.U, Pt.locs, Pt.cells, Pt.slots] at X262 l262 y262 z262 st262 hQ262
    subst l262 y262 z262
    obtain ⟨rfl, N262q, e262⟩ := hQ262
    have N262 := Fr.app N239 N262q
    obtain ⟨fs, hr, hrun, hended, hW, hsame⟩ := X262.leave (v := some (.int (1 : Int32))) (fun h => by rw [Bd.returns] at h; cases h)
    refine ⟨_, _, pre261 _ ?_, hrun, hended, _, _, rfl, ?_, ⟨_, rfl⟩, hW, hsame.mono (by decide) (by decide)⟩
    · show Steps p.tables e below (T237.setTop (mkF m 291 #[.val (.int p1), .val (.int p2), .val (.long q3), .second, .val (.int (8 : Int32)), .val (.int qq), .val (.long lo), .second, .val (.ref b206), .val (.long ((qq.toInt64) * ((8 : Int32).toInt64))), .second, .val (.int i7), .unset, .unset] [])) _
      refine XS.aload X237.here hx rfl (hb hby at_291) rfl rfl ?_
      show Steps p.tables e below (T237.setTop (mkF m 293 #[.val (.int p1), .val (.int p2), .val (.long q3), .second, .val (.int (8 : Int32)), .val (.int qq), .val (.long lo), .second, .val (.ref b206), .val (.long ((qq.toInt64) * ((8 : Int32).toInt64))), .second, .val (.int i7), .unset, .unset] [(.ref b206)])) _
      refine XS.iload X237.here hx rfl (hb hby at_293) rfl ?_
      show Steps p.tables e below (T237.setTop (mkF m 295 #[.val (.int p1), .val (.int p2), .val (.long q3), .second, .val (.int (8 : Int32)), .val (.int qq), .val (.long lo), .second, .val (.ref b206), .val (.long ((qq.toInt64) * ((8 : Int32).toInt64))), .second, .val (.int i7), .unset, .unset] [(.int qq), (.ref b206)])) _
      refine st262 _ ?_
      show Steps p.tables e below (T262.setTop (mkF m 298 #[.val (.int p1), .val (.int p2), .val (.long q3), .second, .val (.int (8 : Int32)), .val (.int qq), .val (.long lo), .second, .val (.ref b206), .val (.long ((qq.toInt64) * ((8 : Int32).toInt64))), .second, .val (.int i7), .unset, .unset] [(.long (lo + (i7).toInt64))])) _
      refine XS.lstore X262.here hx rfl (hb hby at_298) rfl (l' := #[.val (.int p1), .val (.int p2), .val (.long q3), .second, .val (.int (8 : Int32)), .val (.int qq), .val (.long lo), .second, .val (.ref b206), .val (.long ((qq.toInt64) * ((8 : Int32).toInt64))), .second, .val (.int i7), .val (.long (lo + (i7).toInt64)), .second]) rfl ?_
      show Steps p.tables e below (T262.setTop (mkF m 300 #[.val (.int p1), .val (.int p2), .val (.long q3), .second, .val (.int (8 : Int32)), .val (.int qq), .val (.long lo), .second, .val (.ref b206), .val (.long ((qq.toInt64) * ((8 : Int32).toInt64))), .second, .val (.int i7), .val (.long (lo + (i7).toInt64)), .second] [])) _
      refine XS.lload X262.here hx rfl (hb hby at_300) rfl ?_
      show Steps p.tables e below (T262.setTop (mkF m 302 #[.val (.int p1), .val (.int p2), .val (.long q3), .second, .val (.int (8 : Int32)), .val (.int qq), .val (.long lo), .second, .val (.ref b206), .val (.long ((qq.toInt64) * ((8 : Int32).toInt64))), .second, .val (.int i7), .val (.long (lo + (i7).toInt64)), .second] [(.long (lo + (i7).toInt64))])) _
      refine XS.lload X262.here hx rfl (hb hby at_302) rfl ?_
      show Steps p.tables e below (T262.setTop (mkF m 304 #[.val (.int p1), .val (.int p2), .val (.long q3), .second, .val (.int (8 : Int32)), .val (.int qq), .val (.long lo), .second, .val (.ref b206), .val (.long ((qq.toInt64) * ((8 : Int32).toInt64))), .second, .val (.int i7), .val (.long (lo + (i7).toInt64)), .second] [(.long lo), (.long (lo + (i7).toInt64))])) _
      refine XS.iload X262.here hx rfl (hb hby at_304) rfl ?_
      show Steps p.tables e below (T262.setTop (mkF m 306 #[.val (.int p1), .val (.int p2), .val (.long q3), .second, .val (.int (8 : Int32)), .val (.int qq), .val (.long lo), .second, .val (.ref b206), .val (.long ((qq.toInt64) * ((8 : Int32).toInt64))), .second, .val (.int i7), .val (.long (lo + (i7).toInt64)), .second] [(.int i7), (.long lo), (.long (lo + (i7).toInt64))])) _
      refine XS.i2l X262.here hx rfl (hb hby at_306) rfl ?_
      show Steps p.tables e below (T262.setTop (mkF m 307 #[.val (.int p1), .val (.int p2), .val (.long q3), .second, .val (.int (8 : Int32)), .val (.int qq), .val (.long lo), .second, .val (.ref b206), .val (.long ((qq.toInt64) * ((8 : Int32).toInt64))), .second, .val (.int i7), .val (.long (lo + (i7).toInt64)), .second] [(.long (i7.toInt64)), (.long lo), (.long (lo + (i7).toInt64))])) _
      refine XS.ladd X262.here hx rfl (hb hby at_307) rfl ?_
      show Steps p.tables e below (T262.setTop (mkF m 308 #[.val (.int p1), .val (.int p2), .val (.long q3), .second, .val (.int (8 : Int32)), .val (.int qq), .val (.long lo), .second, .val (.ref b206), .val (.long ((qq.toInt64) * ((8 : Int32).toInt64))), .second, .val (.int i7), .val (.long (lo + (i7).toInt64)), .second] [(.long (lo + (i7.toInt64))), (.long (lo + (i7).toInt64))])) _
      refine XS.lcmp X262.here hx rfl (hb hby at_308) rfl ?_
      show Steps p.tables e below (T262.setTop (mkF m 309 #[.val (.int p1), .val (.int p2), .val (.long q3), .second, .val (.int (8 : Int32)), .val (.int qq), .val (.long lo), .second, .val (.ref b206), .val (.long ((qq.toInt64) * ((8 : Int32).toInt64))), .second, .val (.int i7), .val (.long (lo + (i7).toInt64)), .second] [(.int (lcmpW (lo + (i7).toInt64) (lo + (i7.toInt64))))])) _
      refine XS.ifNo X262.here hx rfl (hb hby at_309) rfl (own_lneF rfl) ?_
      show Steps p.tables e below (T262.setTop (mkF m 312 #[.val (.int p1), .val (.int p2), .val (.long q3), .second, .val (.int (8 : Int32)), .val (.int qq), .val (.long lo), .second, .val (.ref b206), .val (.long ((qq.toInt64) * ((8 : Int32).toInt64))), .second, .val (.int i7), .val (.long (lo + (i7).toInt64)), .second] [])) _
      refine XS.iconst X262.here hx rfl (hb hby at_312) ?_
      show Steps p.tables e below (T262.setTop (mkF m 313 #[.val (.int p1), .val (.int p2), .val (.long q3), .second, .val (.int (8 : Int32)), .val (.int qq), .val (.long lo), .second, .val (.ref b206), .val (.long ((qq.toInt64) * ((8 : Int32).toInt64))), .second, .val (.int i7), .val (.long (lo + (i7).toInt64)), .second] [(.int (1 : Int32))])) _
      refine XS.goto X262.here hx rfl (pc0 := 313) (pc' := 317) rfl (hb hby at_313) (by decide) (by decide) ?_
      show Steps p.tables e below (T262.setTop (mkF m 317 #[.val (.int p1), .val (.int p2), .val (.long q3), .second, .val (.int (8 : Int32)), .val (.int qq), .val (.long lo), .second, .val (.ref b206), .val (.long ((qq.toInt64) * ((8 : Int32).toInt64))), .second, .val (.int i7), .val (.long (lo + (i7).toInt64)), .second] [(.int (1 : Int32))])) _
      exact retN X262 hx (t := .boolean) Bd.returns (by simp) (hb hby at_317) hr
    · show Q_rm0 Z p1 p2 q3 h0 n0 _ T262.heap _
      rw [e262]
      exact ⟨rfl, N262⟩
set_option maxRecDepth 65536 in
set_option maxHeartbeats 40000000 in
theorem comes_1 {Post : Tables → Env → Array Value → State → Outcome → State → Prop} (hpost : ∀ tb e args s v u, (limb_1_1.after args s (.returned v) u = true ∧ limb_1_2.after args s (.returned v) u = true ∧ True) → FrameEnd s (.returned v) u (Jvm.fieldLocs frame_1_writes args s ++ Jvm.arrayLocs frame_1_arrays args s ++ Jvm.staticLocs frame_1_statics s) 16 128 → Post tb e args s (.returned v) u) :
    ArmFor flags0 classFile x code maxLocals ret World_1 tables_1 room_1 Calls_1 rest_1 Pre_1 Post := by
  intro l hfl _ _ p e ha hc hk s m args below hf hA hF happ hP
  obtain ⟨hcalls, hrest, hpre⟩ := hP
  obtain ⟨-, -, -, hnamed, -, -, -, hat⟩ := (Spec.applies_iff hf).mp happ
  obtain ⟨hg, hn⟩ := and_e (Cond.before_iff.mp (show (Jvm.Cond.and given_1 narrow_1).before args s = true from hpre))
  obtain ⟨gc, gr0⟩ := and_e hg
  obtain ⟨ga0, gr1⟩ := and_e gr0
  obtain ⟨ga1, gr2⟩ := and_e gr1
  obtain ⟨w0, w1, w2, rfl⟩ : ∃ w0 w1 w2 : Value, args = #[w0, w1, w2] := by
    have hs : args.size = 3 := by simpa [Cond.value, given_1] using gc
    obtain ⟨L⟩ := args
    match L, hs with
    | [w0, w1, w2], _ => exact ⟨w0, w1, w2, rfl⟩
  have hw := fun d (hd : d ∈ tables_1) => atoms_spec (ws := Jvm.Cond.code x code maxLocals ret :: tables_1) hat d (List.mem_cons_of_mem _ hd)
  have hfit : Fit s := fun {y c} hc i hi => by
    obtain ⟨ha, rfl⟩ := Array.getElem?_eq_some_iff.mp hc
    have q := List.all_eq_true.mp ((Array.all_eq_true_iff_forall_mem.mp hF) _ (Array.getElem_mem ha)) i (List.mem_range.mpr hi)
    simpa [Array.getElem?_eq_getElem hi] using q
  obtain ⟨i0, ei0⟩ := is_v ga0
  obtain rfl : w0 = (.int i0) := Option.some.inj ei0
  obtain ⟨i1, ei1⟩ := is_v ga1
  obtain rfl : w1 = (.int i1) := Option.some.inj ei1
  obtain ⟨i2, ei2⟩ := isL_v gr2
  obtain rfl : w2 = (.long i2) := Option.some.inj ei2
  obtain ⟨n, o, h1, h2, h3, _, L, rfl, ⟨rfl, N⟩, hq⟩ := rm0 l s _ hw tables_1 i0 i1 i2 s.heap s.heap.size (Nat.le_refl _)  p e ha hc hk s m _ below hf ((Spec.applies_iff_loose hf).mp happ).1 ⟨rfl, State.Warmed39.refl s, rfl⟩ trivial
  refine ⟨n, _, h1, h2, h3, hpost _ _ _ _ _ _ ⟨Cond.after_iff.mpr rfl, Cond.after_iff.mpr (eq_i res_at (Term.int_eval (1)) rfl), trivial⟩ ⟨hq.1, hq.2.1, (hq.2.2.sift fun y hy => Or.inr (N y hy)).mono (by decide) (by decide)⟩⟩
theorem main_1_1 : Claimed_1_1 := comes_1 fun _ _ _ _ _ _ h hF => ⟨h.1, hF⟩
theorem main_1_2 : Claimed_1_2 := comes_1 fun _ _ _ _ _ _ h hF => ⟨h.2.1, hF⟩
end Jvm.Pilot.@@N@@
namespace Jvm.Pilot.@@N@@
open Jvm Jvm.ClassFile Sem Op Lib Jvm.Free Jvm.Stand Jvm.Pilot.@@N@@.Jvm.D
/-! MADE BY PROGRAM (witnessworld.py) out of the Statement's table words and the real class files: 11 classes; the members and pool entries that the words name. The judged class is class 1, her method 1. -/
namespace start1
open Jvm.ClassFile
def u (s : String) : CpInfo := .utf8 (stringToUtf16 s)
/-- a pool by its gaps: so many unusable entries, then the entry; so many at the end -/
def gap : Nat → List CpInfo → List CpInfo
  | 0, r => r
  | n + 1, r => .unusable :: gap n r
def poolList (es : List (Nat × CpInfo)) (last : Nat) : List CpInfo := es.foldr (fun e r => gap e.1 (e.2 :: r)) (gap last [])
def pool (es : List (Nat × CpInfo)) (last : Nat) : Array CpInfo := ⟨poolList es last⟩
def fileOf (pool : Array CpInfo) (this : Nat) (attrs : Array Attribute := #[]) (ms : Array MethodInfo := #[]) (fl : Nat := 33) (sup : Nat := 0) (ifs : Array Nat := #[]) (fds : Array FieldInfo := #[]) : ClassFile where
  minorVersion := 0
  majorVersion := 65
  constantPool := pool
  accessFlags := fl
  thisClass := this
  superClass := sup
  interfaces := ifs
  fields := fds
  methods := ms
  attributes := attrs
def plain (name : String) (sup : Option ClassId) : Class where
  name := name
  kind := .ordinary
  loader := none
  accessFlags := 33
  super := sup
  interfaces := #[]
  cf := none
  fields := #[]
  methods := #[]
  instanceTypes := #[]
  staticTypes := #[]
  resolved := #[]
  callSites := []
  init := .initialized
  statics := none
  mirror := none

def pool0 : Array CpInfo := pool [(5, u "<init>"), (0, u "()V"), (1, .class_ 10), (1, u "java/lang/Object")] 113

def k0m0 : Method := { name := "<init>", desc := "()V", sig := { parameters := [], returnType := none }, accessFlags := 1, code := none }
/-- java/lang/Object -/
def k0 : Class := { plain "java/lang/Object" none with
  accessFlags := 33
  interfaces := #[]
  cf := some (fileOf pool0 8 #[] #[{ accessFlags := 1, nameIndex := 5, descriptorIndex := 6, attributes := #[] }] 33 0 #[] #[])
  fields := #[]
  methods := #[k0m0]
  instanceTypes := #[]
  staticTypes := #[]
  resolved := Array.replicate 124 none
  statics := none }

def pool1 : Array CpInfo := pool [(2, .class_ 4), (1, u "java/lang/Object"), (0, u "<init>"), (0, u "()V"), (0, .integer 2147483647), (0, .long 2), (1, .long 3), (1, .long 4), (1, .long 5), (1, .long 6), (1, .long 7), (1, .long 1000), (1, .long 2000), (1, .long 3000), (1, .long 4000), (1, .long 5000), (1, .long 6000), (1, .long 7000), (1, .methodref 35 36), (0, .class_ 37), (0, .nameAndType 38 39), (0, u "com/example/sandglass/sandglass/Percentiles"), (0, u "nearestRank"), (0, u "([JI)J"), (0, .class_ 41), (0, u "com/example/sandglass/sandglass/PercentilesNearestRankPinLaw"), (2, u "law"), (0, u "(IIJ)Z")] 5

def k1m0 : Method := { name := "<init>", desc := "()V", sig := { parameters := [], returnType := none }, accessFlags := 2, code := none }
def k1c1 : Code := { maxStack := 6, maxLocals := 14, code := code, exceptionTable := #[], attributes := #[] }
def k1m1 : Method := { name := "law", desc := "(IIJ)Z", sig := { parameters := [.int, .int, .long], returnType := some .boolean }, accessFlags := 9, code := some k1c1 }
/-- com/example/sandglass/sandglass/PercentilesNearestRankPinLaw -/
def k1 : Class := { plain "com/example/sandglass/sandglass/PercentilesNearestRankPinLaw" (some 0) with
  accessFlags := 49
  interfaces := #[]
  cf := some (fileOf pool1 40 #[] #[{ accessFlags := 2, nameIndex := 5, descriptorIndex := 6, attributes := #[] }, { accessFlags := 9, nameIndex := 44, descriptorIndex := 45, attributes := #[] }] 49 2 #[] #[])
  fields := #[]
  methods := #[k1m0, k1m1]
  instanceTypes := #[]
  staticTypes := #[]
  resolved := Array.replicate 51 none
  statics := none }

def pool2 : Array CpInfo := pool [(2, .class_ 4), (1, u "java/lang/Object"), (0, u "<init>"), (0, u "()V"), (0, .long 999), (1, .long 1000), (1, .class_ 12), (0, u "com/example/sandglass/sandglass/Percentiles"), (2, u "nearestRank"), (0, u "([JI)J")] 2

def k2m0 : Method := { name := "<init>", desc := "()V", sig := { parameters := [], returnType := none }, accessFlags := 2, code := none }
def k2c1 : Code := { maxStack := 4, maxLocals := 4, code := prog_15_method_2_code, exceptionTable := #[], attributes := #[] }
def k2m1 : Method := { name := "nearestRank", desc := "([JI)J", sig := { parameters := [(.array .long), .int], returnType := some .long }, accessFlags := 8, code := some k2c1 }
/-- com/example/sandglass/sandglass/Percentiles -/
def k2 : Class := { plain "com/example/sandglass/sandglass/Percentiles" (some 0) with
  accessFlags := 32
  interfaces := #[]
  cf := some (fileOf pool2 11 #[] #[{ accessFlags := 2, nameIndex := 5, descriptorIndex := 6, attributes := #[] }, { accessFlags := 8, nameIndex := 15, descriptorIndex := 16, attributes := #[] }] 32 2 #[] #[])
  fields := #[]
  methods := #[k2m0, k2m1]
  instanceTypes := #[]
  staticTypes := #[]
  resolved := Array.replicate 19 none
  statics := none }

def pool3 : Array CpInfo := pool [(1, u "java/lang/Cloneable"), (0, .class_ 1), (0, u "java/lang/Object"), (0, .class_ 3)] 3

/-- java/lang/Cloneable -/
def k3 : Class := { plain "java/lang/Cloneable" (some 0) with
  accessFlags := 1537
  interfaces := #[]
  cf := some (fileOf pool3 2 #[] #[] 1537 4 #[] #[])
  fields := #[]
  methods := #[]
  instanceTypes := #[]
  staticTypes := #[]
  resolved := Array.replicate 8 none
  statics := none }

def pool4 : Array CpInfo := pool [(1, u "java/io/Serializable"), (0, .class_ 1), (0, u "java/lang/Object"), (0, .class_ 3)] 3

/-- java/io/Serializable -/
def k4 : Class := { plain "java/io/Serializable" (some 0) with
  accessFlags := 1537
  interfaces := #[]
  cf := some (fileOf pool4 2 #[] #[] 1537 4 #[] #[])
  fields := #[]
  methods := #[]
  instanceTypes := #[]
  staticTypes := #[]
  resolved := Array.replicate 8 none
  statics := none }

/-- the primitive byte -/
def k5 : Class := { plain "byte" none with kind := .primitive 'B', accessFlags := 0x411 }
/-- [B -/
def k6 : Class := { plain "[B" (some 0) with kind := .array 5 .byte, interfaces := #[3, 4], accessFlags := 1041 }

/-- the primitive int -/
def k7 : Class := { plain "int" none with kind := .primitive 'I', accessFlags := 0x411 }
/-- [I -/
def k8 : Class := { plain "[I" (some 0) with kind := .array 7 .int, interfaces := #[3, 4], accessFlags := 1041 }

/-- the primitive long -/
def k9 : Class := { plain "long" none with kind := .primitive 'J', accessFlags := 0x411 }
/-- [J -/
def k10 : Class := { plain "[J" (some 0) with kind := .array 9 .long, interfaces := #[3, 4], accessFlags := 1041 }

def heap : Heap := #[]
def classes : Array Class := #[k0, k1, k2, k3, k4, k5, k6, k7, k8, k9, k10]
def interned : List (Array UInt16 × Addr) := []
def slotsUsed : Nat := 0
def theMethod : MethodId := ⟨1, 1⟩
def args0 : Array Value := #[.int 5, .int 9, .long 77]
def aboutOver (below : List Frame) : State where
  vm := { classes := classes, interned := interned.toArray }
  heap := heap
  slotsUsed := slotsUsed
  threads := #[{ frames := .invoking theMethod args0 :: below }]
def below0 : List Frame := [.native { method := ⟨0, 0⟩, args := #[] }]
def about1 : State := aboutOver below0
def p0 : Program := .bare "" "" ""
def e0 : Env := launch0.env 0 0 0
theorem w_frames : about1.frames = Frame.invoking theMethod args0 :: below0 := rfl
set_option maxRecDepth 65536 in
theorem w_args : argsFit about1.vm theMethod args0 = true := by decide +kernel
set_option maxRecDepth 65536 in
theorem w_heap : heapFits about1 = true := by decide +kernel
set_option maxRecDepth 65536 in
theorem w_runnable : about1.curStatus? = some .runnable := by decide +kernel
set_option maxRecDepth 65536 in
theorem w_alone : about1.alone = true := by decide +kernel
set_option maxRecDepth 65536 in
theorem w_named : about1.methodNamed? x = some theMethod := by decide +kernel
set_option maxRecDepth 65536 in
theorem w_hears : about1.hears theMethod below0 = true := by decide +kernel
set_option maxRecDepth 65536 in
theorem w_ripe : about1.ripe theMethod args0 below0 = true := by decide +kernel
theorem w_running : about1.status = .running := rfl
set_option maxRecDepth 65536 in
theorem w_room : about1.hasRoom e0.platform room_1 = true :=
  launch0.hasRoom_least _ room_1 (by decide +kernel) (by decide +kernel) (by decide +kernel) (by decide +kernel) (by decide +kernel) (by decide +kernel)
theorem allAtoms_all (ts : List Jvm.Cond) (a : Array Jvm.Value) (st : Jvm.State) : (allAtoms ts).before a st = ts.all (fun c => c.before a st) := by
  induction ts with
  | nil => rfl
  | cons c t ih =>
    show (Jvm.Cond.and c (allAtoms t)).before a st = _
    rw [Jvm.Cond.before_and, ih, List.all_cons]
def words1 : List Jvm.Cond := Jvm.Cond.code x code maxLocals ret :: tables_1
/-- a 'code' word, met by the world's own term for the bytes: nothing is compared byte by byte -/
theorem code_word {y : MethodName} {bytes : ByteArray} {mx : Nat} {rt : Option FieldType} {a : Array Value} {s : State} {m : MethodId} {meth : Method} {c : Code} (h1 : s.methodNamed? y = some m) (h2 : s.vm.method? m = some meth) (h3 : meth.code = some c) (h4 : c.code = bytes)
    (h5 : (c.maxLocals == mx && c.exceptionTable.isEmpty && decide (c.maxStack ≤ mostOperands) && decide (meth.sig.returnType = rt) && !meth.locks && decide (parseMethodDescriptor y.desc = some meth.sig)) = true) : (Jvm.Cond.code y bytes mx rt).before a s = true := by
  simp only [Bool.and_eq_true, beq_iff_eq, Bool.not_eq_true', decide_eq_true_eq] at h5
  obtain ⟨⟨⟨⟨⟨g1, g2⟩, g3⟩, g4⟩, g5⟩, g6⟩ := h5
  simp [Cond.before, Cond.holds, Cond.value, h1, h2, h3, h4, g1, g2, g3, g4, g5, g6]
def isCode : Jvm.Cond → Bool
  | .code _ _ _ _ => true
  | _ => false
theorem all_split {L : List Jvm.Cond} {P : Jvm.Cond → Bool} (h1 : L.all (fun c => isCode c || P c) = true) (h2 : ∀ c ∈ L.filter isCode, P c = true) : L.all P = true := by
  refine List.all_eq_true.mpr fun c hc => ?_
  have h := List.all_eq_true.mp h1 c hc
  rcases Bool.eq_false_or_eq_true (isCode c) with hi | hi
  · exact h2 c (List.mem_filter.mpr ⟨hc, hi⟩)
  · simpa [hi] using h
set_option maxRecDepth 65536 in
theorem w_c0 : (Jvm.Cond.code x code maxLocals ret).before args0 about1 = true := code_word (m := ⟨1, 1⟩) (meth := k1m1) (c := k1c1) (by decide +kernel) rfl rfl rfl (by decide +kernel)
set_option maxRecDepth 65536 in
theorem w_c1 : (Jvm.Cond.code ({ cls := "com/example/sandglass/sandglass/Percentiles", name := "nearestRank", desc := "([JI)J" } : Jvm.MethodName) prog_15_method_2_code (4 : Nat) (Option.some Jvm.ClassFile.FieldType.long)).before args0 about1 = true := code_word (m := ⟨2, 1⟩) (meth := k2m1) (c := k2c1) (by decide +kernel) rfl rfl rfl (by decide +kernel)
def codes1 : List Jvm.Cond := [Jvm.Cond.code x code maxLocals ret, Jvm.Cond.code ({ cls := "com/example/sandglass/sandglass/Percentiles", name := "nearestRank", desc := "([JI)J" } : Jvm.MethodName) prog_15_method_2_code (4 : Nat) (Option.some Jvm.ClassFile.FieldType.long)]
set_option maxRecDepth 65536 in
theorem codes_eq : words1.filter isCode = codes1 := rfl
theorem w_codes : ∀ c ∈ words1.filter isCode, c.before args0 about1 = true := by
  rw [codes_eq]
  intro c hc
  simp only [codes1, List.mem_cons, List.not_mem_nil, or_false] at hc
  rcases hc with rfl | rfl
  · exact w_c0
  · exact w_c1
set_option maxRecDepth 65536 in
theorem w_t1 : words1.all (fun c => isCode c || c.before args0 about1) = true := by decide +kernel
theorem w_tables : (allAtoms (Jvm.Cond.code x code maxLocals ret :: tables_1)).before args0 about1 = true := by
  rw [allAtoms_all]
  show words1.all (fun c => c.before args0 about1) = true
  refine all_split ?_ w_codes
  rw [w_t1]
set_option maxRecDepth 65536 in
theorem w_case : (Jvm.Cond.and given_1 narrow_1).before args0 about1 = true := by decide +kernel
theorem w_applies : (headSpec (Jvm.Cond.code x code maxLocals ret :: tables_1) room_1).applies x e0.platform about1 = true :=
  (Spec.applies_iff w_frames).mpr ⟨w_running, w_runnable, w_alone, w_named, w_hears, w_ripe, w_room, w_tables⟩
theorem atStart : AtStart classFile x code maxLocals ret World_1 tables_1 room_1 Calls_1 rest_1 Pre_1 launch0 p0 e0 about1 theMethod args0 below0 :=
  ⟨lists_1, trivial, launch0.admits_env _ _ _, launch0.least_env, fairChoices_fair.cas, fairChoices_fair.clock, w_frames, w_args, w_heap, w_applies, trivial, trivial, w_case⟩
end start1
theorem witness_1 : WitnessClaimed_1 := ⟨start1.p0, start1.e0, start1.about1, start1.theMethod, start1.args0, start1.below0, start1.atStart⟩
end Jvm.Pilot.@@N@@
