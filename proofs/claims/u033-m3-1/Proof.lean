import JvmDerived
import JvmDerived.Pilot.@@N@@Statement
import JvmDerived.Pilot.@@N@@Code
set_option linter.unusedVariables false
set_option linter.unusedSimpArgs false
@@BLOCK:NumsL.lean.txt@@
namespace Jvm.RoadKit
open Sem ClassFile Op Lib Jvm.Stand Jvm.Free Jvm.LawKit
section New
variable {p : Program} {l : Launch} {e : Env} {R : Room} {s : State} {m : MethodId} {args : Array Value} {below : List Frame} {meth : Method} {c : Code} {T : State} {locs : List Loc} {cells slots : Nat}
theorem retI (X : Stand p l e R s m args below meth c T locs cells slots) (hx : p.tables.exec = Jvm.exec) {pc : Nat} {Ls : Array Slot} {z : Int32} {rest : List Value} (hret : meth.sig.returnType = some .int) (hd : decode c.code pc = .ok (.ireturn, 1)) {fs : List Frame}
    (hl : ∀ (f : JFrame) (acts : List Action), f.method = m → f.locked = none → f.entered = [] → (doReturn e (T.setTop f) acts (some (.int z))).1 = T.setFrames fs) : Steps p.tables e below (T.setTop (mkF m pc Ls (.int z :: rest))) (T.setFrames fs) := by
  have hm' : T.vm.method? m = some meth := X.method'
  have hn : narrow .int (.int z) = .int z := rfl
  show Steps p.tables e below (T.setTop { method := m, pc := pc, locals := Ls, stack := _ :: rest, locked := none }) _
  jvm_step X.here [X.here.top, hx, hd, hm', hret, hn]
  first | (intro acts; rw [hl _ acts rfl rfl rfl]) | rw [hl _ _ rfl rfl rfl]
  exact Steps.refl _
end New
end Jvm.RoadKit
namespace Jvm.Pilot.@@N@@
open Jvm Jvm.ClassFile Sem Op Lib Jvm.Free Jvm.Stand Jvm.LawKit Jvm.RoadKit Bundle Jvm.Pilot.@@N@@.Jvm.D

theorem own_lltT {x y : Int64} (h : x < y) : ifCond.holds .lt (lcmpW x y) = true := (if0 _ _).trans ((tlt (by rw [lcW]; exact (lc_lt x y).mpr h)).1)
theorem own_lltF {x y : Int64} (h : ¬ (x < y)) : ifCond.holds .lt (lcmpW x y) = false := (if0 _ _).trans ((flt (by rw [lcW]; exact fun q => h ((lc_lt x y).mp q))).1)
theorem own_lgeT {x y : Int64} (h : ¬ (x < y)) : ifCond.holds .ge (lcmpW x y) = true := (if0 _ _).trans ((flt (by rw [lcW]; exact fun q => h ((lc_lt x y).mp q))).2.1)
theorem own_lgeF {x y : Int64} (h : x < y) : ifCond.holds .ge (lcmpW x y) = false := (if0 _ _).trans ((tlt (by rw [lcW]; exact (lc_lt x y).mpr h)).2.1)
theorem own_lgtT {x y : Int64} (h : y < x) : ifCond.holds .gt (lcmpW x y) = true := (if0 _ _).trans ((tlt (by rw [lcW]; exact (lc_gt x y).mpr h)).2.2.1)
theorem own_lgtF {x y : Int64} (h : ¬ (y < x)) : ifCond.holds .gt (lcmpW x y) = false := (if0 _ _).trans ((flt (by rw [lcW]; exact fun q => h ((lc_gt x y).mp q))).2.2.1)
theorem own_lleT {x y : Int64} (h : ¬ (y < x)) : ifCond.holds .le (lcmpW x y) = true := (if0 _ _).trans ((flt (by rw [lcW]; exact fun q => h ((lc_gt x y).mp q))).2.2.2)
theorem own_lleF {x y : Int64} (h : y < x) : ifCond.holds .le (lcmpW x y) = false := (if0 _ _).trans ((tlt (by rw [lcW]; exact (lc_gt x y).mpr h)).2.2.2)
theorem own_leqT {x y : Int64} (h : x = y) : ifCond.holds .eq (lcmpW x y) = true := (if0 _ _).trans ((teq (by rw [lcW]; exact (lc_eq x y).mpr h)).1)
theorem own_leqF {x y : Int64} (h : ¬ (x = y)) : ifCond.holds .eq (lcmpW x y) = false := (if0 _ _).trans ((feq (by rw [lcW]; exact fun q => h ((lc_eq x y).mp q))).1)
theorem own_lneT {x y : Int64} (h : ¬ (x = y)) : ifCond.holds .ne (lcmpW x y) = true := (if0 _ _).trans ((feq (by rw [lcW]; exact fun q => h ((lc_eq x y).mp q))).2)
theorem own_lneF {x y : Int64} (h : x = y) : ifCond.holds .ne (lcmpW x y) = false := (if0 _ _).trans ((teq (by rw [lcW]; exact (lc_eq x y).mpr h)).2)
theorem own_fldI {s : State} {args : Array Value} {t : Term} {C n d : String} {k : Int32} {a : Addr} (ev : t.eval args s none [] s = some (.ref a)) (h : (Jvm.Cond.eq (Term.field t C n d) (Term.int k)).value args s none s [] = some true) : Fld s s.heap a C n d (.int k) := by
  obtain ⟨x, y, hx, hy, K1, K2⟩ := cmp_v (Or.inl h)
  cases (Term.int_eval k).symm.trans hy
  obtain ⟨z, rfl⟩ := K2
  have q := gotT (Cond.eq_ints hx hy) h
  subst q
  rw [fld_at ev] at hx
  exact Fld.start hx
theorem own_ns0 {h : Heap} : ∀ st ∈ ([] : List Addr), ∀ c : Cell, h[st]? = some c → c.vm.isStatics = false := fun _ q => nomatch q
theorem own_nsE {Z : State} {h : Heap} {y : Addr} {C : String} {L : List Addr} (E : Exa Z h y C) (r : ∀ st ∈ L, ∀ c : Cell, h[st]? = some c → c.vm.isStatics = false) : ∀ st ∈ y :: L, ∀ c : Cell, h[st]? = some c → c.vm.isStatics = false := fun st hm c hc => (List.mem_cons.mp hm).elim (fun u => by
  subst u
  obtain ⟨cell, k, h1, -, -, h4, -⟩ := E
  cases h1.symm.trans hc
  exact h4) (fun u => r st u c hc)
theorem own_nsV {Z : State} {h : Heap} {y : Addr} {k : ClassId} {ty : FieldType} {z : Int32} {vs : List Value} {dv : Value} {L : List Addr} (E : Arv Z h y k ty z vs dv) (r : ∀ st ∈ L, ∀ c : Cell, h[st]? = some c → c.vm.isStatics = false) : ∀ st ∈ y :: L, ∀ c : Cell, h[st]? = some c → c.vm.isStatics = false := fun st hm c hc => (List.mem_cons.mp hm).elim (fun u => by
  subst u
  obtain ⟨cell, A, -⟩ := E
  cases A.1.symm.trans hc
  exact A.plain) (fun u => r st u c hc)
theorem own_staKeep {Z : State} {h h' : Heap} {ws : List Addr} {C n d : String} {v : Value} (F : Sta Z h C n d v) (K : Keep h h' ws) (q : ∀ st ∈ ws, ∀ c : Cell, h[st]? = some c → c.vm.isStatics = false) : Sta Z h' C n d v := by
  obtain ⟨cf, i, k, f, st, cell, h1, h2, h3, h4, h5, h6, h7⟩ := F
  exact ⟨cf, i, k, f, st, cell, h1, h2, h3, h4, K.2.1 st cell h5 (fun hm => by rw [q st hm cell h5] at h6; cases h6), h6, h7⟩
theorem d1_0 : decode prog_9_method_4_code 0 = .ok (.lload_n 0, 1) := by decide +kernel
theorem d1_1 : decode prog_9_method_4_code 1 = .ok (.lload_n 2, 1) := by decide +kernel
theorem d1_2 : decode prog_9_method_4_code 2 = .ok (.lcmp, 1) := by decide +kernel
theorem d1_3 : decode prog_9_method_4_code 3 = .ok (.ifCond .le 9, 3) := by decide +kernel
theorem d1_6 : decode prog_9_method_4_code 6 = .ok (.getstatic 3, 3) := by decide +kernel
theorem d1_9 : decode prog_9_method_4_code 9 = .ok (.goto 6, 3) := by decide +kernel
theorem d1_12 : decode prog_9_method_4_code 12 = .ok (.getstatic 7, 3) := by decide +kernel
theorem d1_15 : decode prog_9_method_4_code 15 = .ok (.areturn, 1) := by decide +kernel
theorem pn_com_example_sandglass_sandglass_JobState : plainName "com/example/sandglass/sandglass/JobState" = true := by first | (simp [plainName, overriddenIn]; done) | decide +kernel
def own_of (q1 : Int64) (q2 : Int64) (wD : Addr) (wR : Addr) : Addr := (if q2 < q1 then wD else wR)
theorem ef_rm1 (m : MethodId) (q1 : Int64) (q2 : Int64) : entryFrame m #[(.long q1), (.long q2)] 4 = mkF m 0 #[.val (.long q1), .second, .val (.long q2), .second] [] := by first | (simp [entryFrame, mkF, argsToLocals, Value.category]; done) | rfl
def Q_rm1 (Z : State) (q1 : Int64) (q2 : Int64) (wD : Addr) (wR : Addr) (h0 : Heap) (n0 : Nat) (v : Option Value) (h : Heap) (L : List Loc) : Prop := v = some (.ref (own_of q1 q2 wD wR)) ∧ Fr n0 L ∧ h = h0
set_option maxRecDepth 65536 in
set_option maxHeartbeats 40000000 in
theorem rm1 (l : Launch) (Z : State) (a0 : Array Value) (hw : ∀ d ∈ tables_1, d.before a0 Z = true) (ws : List Jvm.Cond) (q1 : Int64) (q2 : Int64) (wD : Addr) (wR : Addr) (h0 : Heap) (n0 : Nat) (Z0 : n0 ≤ h0.size) (S_READY : Sta Z h0 "com/example/sandglass/sandglass/JobState" "READY" "Lcom/example/sandglass/sandglass/JobState;" (.ref wR)) (S_DELAYED : Sta Z h0 "com/example/sandglass/sandglass/JobState" "DELAYED" "Lcom/example/sandglass/sandglass/JobState;" (.ref wD)) :
    MetFree l (⟨"com/example/sandglass/sandglass/JobState", "ofWaiting", "(JJ)Lcom/example/sandglass/sandglass/JobState;"⟩ : MethodName) (head1 (Jvm.Cond.code (⟨"com/example/sandglass/sandglass/JobState", "ofWaiting", "(JJ)Lcom/example/sandglass/sandglass/JobState;"⟩ : MethodName) prog_9_method_4_code 4 (some (.object "com/example/sandglass/sandglass/JobState")) :: ws) ({ frames := 0, cells := 0, slots := 0, locals := 0 } : Room)) (fun a U => a = #[(.long q1), (.long q2)] ∧ Z.Warmed39 U.vm ∧ U.heap = h0) (fun _ _ _ _ _ => True) (fun _ U o U' => ∃ v L, o = .returned v ∧ Q_rm1 Z q1 q2 wD wR h0 n0 v U'.heap L ∧ FrameEnd U o U' L ({ frames := 0, cells := 0, slots := 0, locals := 0 } : Room).cells ({ frames := 0, cells := 0, slots := 0, locals := 0 } : Room).slots) := by
  refine MetFree.of_bodySF (plainFor_of_name pn_com_example_sandglass_sandglass_JobState) hisR ?_
  intro p e s m args below meth c s₁ Bd hml0 hP hK
  obtain ⟨rfl, hZ, hh⟩ := hP
  have hx := Bd.exec
  have hby := Bd.bytes
  have hml : c.maxLocals = 4 := hml0
  have hown : s.vm.findClass "com/example/sandglass/sandglass/JobState" = some m.cls := findClass_of_methodNamed Bd.named
  have hnm := (name_of_methodNamed Bd.named Bd.method).1
  have X0 : Stand p l e ({ frames := 0, cells := 0, slots := 0, locals := 0 } : Room) s m #[(.long q1), (.long q2)] below meth c s₁ [] 0 0 := Stand.of_body Bd
  have e0 : s₁.heap = h0 := by rw [← hh, Bd.state]; rfl
  have N0 := Fr.nil n0
  have pre0 : ∀ t, Steps p.tables e below (s₁.setTop (mkF m 0 #[.val (.long q1), .second, .val (.long q2), .second] [])) t → Steps p.tables e below (s₁.setTop (entryFrame m #[(.long q1), (.long q2)] 4)) t := fun t k => castTop (ef_rm1 m q1 q2) k
  have pre2 : ∀ t, Steps p.tables e below (s₁.setTop (mkF m 3 #[.val (.long q1), .second, .val (.long q2), .second] [(.int (lcmpW q1 q2))])) t → Steps p.tables e below (s₁.setTop (entryFrame m #[(.long q1), (.long q2)] 4)) t := fun t kt => by
    refine pre0 t ?_
    show Steps p.tables e below (s₁.setTop (mkF m 0 #[.val (.long q1), .second, .val (.long q2), .second] [])) _
    refine XS.lloadN X0.here hx rfl (hb hby d1_0) rfl ?_
    show Steps p.tables e below (s₁.setTop (mkF m 1 #[.val (.long q1), .second, .val (.long q2), .second] [(.long q1)])) _
    refine XS.lloadN X0.here hx rfl (hb hby d1_1) rfl ?_
    show Steps p.tables e below (s₁.setTop (mkF m 2 #[.val (.long q1), .second, .val (.long q2), .second] [(.long q2), (.long q1)])) _
    refine XS.lcmp X0.here hx rfl (hb hby d1_2) rfl ?_
    exact kt
  by_cases hc3_1 : q2 < q1
  · obtain ⟨T3, X3, e3, st3⟩ := getS2 X0 hx hZ hown (host := "") (Or.inl (hw _ (List.mem_of_getElem? (i := 8) rfl))) Via.refl e0 S_DELAYED (g := (mkF m 6 #[.val (.long q1), .second, .val (.long q2), .second] [])) rfl (hb hby d1_6)
    obtain ⟨fs, hr, hrun, hended, hW, hsame⟩ := X3.leave (v := some (.ref wD)) (fun h => by rw [Bd.returns] at h; cases h)
    refine ⟨_, _, pre2 _ ?_, hrun, hended, _, _, rfl, ?_, ⟨_, rfl⟩, hW, hsame.mono (by decide) (by decide)⟩
    · show Steps p.tables e below (s₁.setTop (mkF m 3 #[.val (.long q1), .second, .val (.long q2), .second] [(.int (lcmpW q1 q2))])) _
      refine XS.ifNo X0.here hx rfl (hb hby d1_3) rfl (own_lleF hc3_1) ?_
      show Steps p.tables e below (s₁.setTop (mkF m 6 #[.val (.long q1), .second, .val (.long q2), .second] [])) _
      refine st3 _ ?_
      show Steps p.tables e below (T3.setTop (mkF m 9 #[.val (.long q1), .second, .val (.long q2), .second] [(.ref wD)])) _
      refine XS.goto X3.here hx rfl (pc0 := 9) (pc' := 15) rfl (hb hby d1_9) (by decide) (by decide) ?_
      show Steps p.tables e below (T3.setTop (mkF m 15 #[.val (.long q1), .second, .val (.long q2), .second] [(.ref wD)])) _
      jvm_step X3.here [X3.here.top, hx, (hb hby d1_15), X3.method', Bd.returns, Value.isRef, FieldType.isReference]
      first | (intro acts; rw [hr _ acts rfl rfl rfl]) | rw [hr _ _ rfl rfl rfl]
      exact Steps.refl _
    · show Q_rm1 Z q1 q2 wD wR h0 n0 _ T3.heap _
      rw [e3]
      exact ⟨by rw [own_of, if_pos hc3_1], N0, rfl⟩
  · obtain ⟨T4, X4, e4, st4⟩ := getS2 X0 hx hZ hown (host := "") (Or.inl (hw _ (List.mem_of_getElem? (i := 4) rfl))) Via.refl e0 S_READY (g := (mkF m 12 #[.val (.long q1), .second, .val (.long q2), .second] [])) rfl (hb hby d1_12)
    obtain ⟨fs, hr, hrun, hended, hW, hsame⟩ := X4.leave (v := some (.ref wR)) (fun h => by rw [Bd.returns] at h; cases h)
    refine ⟨_, _, pre2 _ ?_, hrun, hended, _, _, rfl, ?_, ⟨_, rfl⟩, hW, hsame.mono (by decide) (by decide)⟩
    · show Steps p.tables e below (s₁.setTop (mkF m 3 #[.val (.long q1), .second, .val (.long q2), .second] [(.int (lcmpW q1 q2))])) _
      refine XS.ifYes X0.here hx rfl (pc0 := 3) (pc' := 12) rfl (hb hby d1_3) rfl (own_lleT hc3_1) (by decide) (by decide) ?_
      show Steps p.tables e below (s₁.setTop (mkF m 12 #[.val (.long q1), .second, .val (.long q2), .second] [])) _
      refine st4 _ ?_
      show Steps p.tables e below (T4.setTop (mkF m 15 #[.val (.long q1), .second, .val (.long q2), .second] [(.ref wR)])) _
      jvm_step X4.here [X4.here.top, hx, (hb hby d1_15), X4.method', Bd.returns, Value.isRef, FieldType.isReference]
      first | (intro acts; rw [hr _ acts rfl rfl rfl]) | rw [hr _ _ rfl rfl rfl]
      exact Steps.refl _
    · show Q_rm1 Z q1 q2 wD wR h0 n0 _ T4.heap _
      rw [e4]
      exact ⟨by rw [own_of, if_neg hc3_1], N0, rfl⟩
theorem d2_0 : decode jdk_29_method_70_code 0 = .ok (.lload_n 0, 1) := by decide +kernel
theorem d2_1 : decode jdk_29_method_70_code 1 = .ok (.lload_n 2, 1) := by decide +kernel
theorem d2_2 : decode jdk_29_method_70_code 2 = .ok (.lcmp, 1) := by decide +kernel
theorem d2_3 : decode jdk_29_method_70_code 3 = .ok (.ifCond .gt 7, 3) := by decide +kernel
theorem d2_10 : decode jdk_29_method_70_code 10 = .ok (.lload_n 2, 1) := by decide +kernel
theorem d2_6 : decode jdk_29_method_70_code 6 = .ok (.lload_n 0, 1) := by decide +kernel
theorem d2_7 : decode jdk_29_method_70_code 7 = .ok (.goto 4, 3) := by decide +kernel
theorem d2_11 : decode jdk_29_method_70_code 11 = .ok (.lreturn, 1) := by decide +kernel
def own_min (q1 : Int64) (q2 : Int64) : Int64 := (if q2 < q1 then q2 else q1)
theorem ef_rm2 (m : MethodId) (q1 : Int64) (q2 : Int64) : entryFrame m #[(.long q1), (.long q2)] 4 = mkF m 0 #[.val (.long q1), .second, .val (.long q2), .second] [] := by first | (simp [entryFrame, mkF, argsToLocals, Value.category]; done) | rfl
def Q_rm2 (Z : State) (q1 : Int64) (q2 : Int64) (h0 : Heap) (n0 : Nat) (v : Option Value) (h : Heap) (L : List Loc) : Prop := v = some (.long (own_min q1 q2)) ∧ Fr n0 L ∧ h = h0
set_option maxRecDepth 65536 in
set_option maxHeartbeats 40000000 in
theorem rm2 (l : Launch) (Z : State) (a0 : Array Value) (hw : ∀ d ∈ tables_1, d.before a0 Z = true) (ws : List Jvm.Cond) (q1 : Int64) (q2 : Int64) (h0 : Heap) (n0 : Nat) (Z0 : n0 ≤ h0.size) :
    MetFree l (⟨"java/lang/Math", "min", "(JJ)J"⟩ : MethodName) (head1 (Jvm.Cond.code (⟨"java/lang/Math", "min", "(JJ)J"⟩ : MethodName) jdk_29_method_70_code 4 (some .long) :: ws) ({ frames := 0, cells := 0, slots := 0, locals := 0 } : Room)) (fun a U => a = #[(.long q1), (.long q2)] ∧ Z.Warmed39 U.vm ∧ U.heap = h0) (fun _ _ _ _ _ => True) (fun _ U o U' => ∃ v L, o = .returned v ∧ Q_rm2 Z q1 q2 h0 n0 v U'.heap L ∧ FrameEnd U o U' L ({ frames := 0, cells := 0, slots := 0, locals := 0 } : Room).cells ({ frames := 0, cells := 0, slots := 0, locals := 0 } : Room).slots) := by
  refine MetFree.of_bodySF (Jvm.Free.JP.mathPlain rfl (by decide +kernel)) hisR ?_
  intro p e s m args below meth c s₁ Bd hml0 hP hK
  obtain ⟨rfl, hZ, hh⟩ := hP
  have hx := Bd.exec
  have hby := Bd.bytes
  have hml : c.maxLocals = 4 := hml0
  have hown : s.vm.findClass "java/lang/Math" = some m.cls := findClass_of_methodNamed Bd.named
  have hnm := (name_of_methodNamed Bd.named Bd.method).1
  have X0 : Stand p l e ({ frames := 0, cells := 0, slots := 0, locals := 0 } : Room) s m #[(.long q1), (.long q2)] below meth c s₁ [] 0 0 := Stand.of_body Bd
  have e0 : s₁.heap = h0 := by rw [← hh, Bd.state]; rfl
  have N0 := Fr.nil n0
  have pre0 : ∀ t, Steps p.tables e below (s₁.setTop (mkF m 0 #[.val (.long q1), .second, .val (.long q2), .second] [])) t → Steps p.tables e below (s₁.setTop (entryFrame m #[(.long q1), (.long q2)] 4)) t := fun t k => castTop (ef_rm2 m q1 q2) k
  have pre2 : ∀ t, Steps p.tables e below (s₁.setTop (mkF m 3 #[.val (.long q1), .second, .val (.long q2), .second] [(.int (lcmpW q1 q2))])) t → Steps p.tables e below (s₁.setTop (entryFrame m #[(.long q1), (.long q2)] 4)) t := fun t kt => by
    refine pre0 t ?_
    show Steps p.tables e below (s₁.setTop (mkF m 0 #[.val (.long q1), .second, .val (.long q2), .second] [])) _
    refine XS.lloadN X0.here hx rfl (hb hby d2_0) rfl ?_
    show Steps p.tables e below (s₁.setTop (mkF m 1 #[.val (.long q1), .second, .val (.long q2), .second] [(.long q1)])) _
    refine XS.lloadN X0.here hx rfl (hb hby d2_1) rfl ?_
    show Steps p.tables e below (s₁.setTop (mkF m 2 #[.val (.long q1), .second, .val (.long q2), .second] [(.long q2), (.long q1)])) _
    refine XS.lcmp X0.here hx rfl (hb hby d2_2) rfl ?_
    exact kt
  by_cases hc3_1 : q2 < q1
  · obtain ⟨fs, hr, hrun, hended, hW, hsame⟩ := X0.leave (v := some (.long q2)) (fun h => by rw [Bd.returns] at h; cases h)
    refine ⟨_, _, pre2 _ ?_, hrun, hended, _, _, rfl, ?_, ⟨_, rfl⟩, hW, hsame.mono (by decide) (by decide)⟩
    · show Steps p.tables e below (s₁.setTop (mkF m 3 #[.val (.long q1), .second, .val (.long q2), .second] [(.int (lcmpW q1 q2))])) _
      refine XS.ifYes X0.here hx rfl (pc0 := 3) (pc' := 10) rfl (hb hby d2_3) rfl (own_lgtT hc3_1) (by decide) (by decide) ?_
      show Steps p.tables e below (s₁.setTop (mkF m 10 #[.val (.long q1), .second, .val (.long q2), .second] [])) _
      refine XS.lloadN X0.here hx rfl (hb hby d2_10) rfl ?_
      show Steps p.tables e below (s₁.setTop (mkF m 11 #[.val (.long q1), .second, .val (.long q2), .second] [(.long q2)])) _
      jvm_step X0.here [X0.here.top, hx, (hb hby d2_11), X0.method', Bd.returns, narrow]
      first | (intro acts; rw [hr _ acts rfl rfl rfl]) | rw [hr _ _ rfl rfl rfl]
      exact Steps.refl _
    · show Q_rm2 Z q1 q2 h0 n0 _ s₁.heap _
      rw [e0]
      exact ⟨by rw [own_min, if_pos hc3_1], N0, rfl⟩
  · obtain ⟨fs, hr, hrun, hended, hW, hsame⟩ := X0.leave (v := some (.long q1)) (fun h => by rw [Bd.returns] at h; cases h)
    refine ⟨_, _, pre2 _ ?_, hrun, hended, _, _, rfl, ?_, ⟨_, rfl⟩, hW, hsame.mono (by decide) (by decide)⟩
    · show Steps p.tables e below (s₁.setTop (mkF m 3 #[.val (.long q1), .second, .val (.long q2), .second] [(.int (lcmpW q1 q2))])) _
      refine XS.ifNo X0.here hx rfl (hb hby d2_3) rfl (own_lgtF hc3_1) ?_
      show Steps p.tables e below (s₁.setTop (mkF m 6 #[.val (.long q1), .second, .val (.long q2), .second] [])) _
      refine XS.lloadN X0.here hx rfl (hb hby d2_6) rfl ?_
      show Steps p.tables e below (s₁.setTop (mkF m 7 #[.val (.long q1), .second, .val (.long q2), .second] [(.long q1)])) _
      refine XS.goto X0.here hx rfl (pc0 := 7) (pc' := 11) rfl (hb hby d2_7) (by decide) (by decide) ?_
      show Steps p.tables e below (s₁.setTop (mkF m 11 #[.val (.long q1), .second, .val (.long q2), .second] [(.long q1)])) _
      jvm_step X0.here [X0.here.top, hx, (hb hby d2_11), X0.method', Bd.returns, narrow]
      first | (intro acts; rw [hr _ acts rfl rfl rfl]) | rw [hr _ _ rfl rfl rfl]
      exact Steps.refl _
    · show Q_rm2 Z q1 q2 h0 n0 _ s₁.heap _
      rw [e0]
      exact ⟨by rw [own_min, if_neg hc3_1], N0, rfl⟩
theorem d3_0 : decode jdk_29_method_66_code 0 = .ok (.lload_n 0, 1) := by decide +kernel
theorem d3_1 : decode jdk_29_method_66_code 1 = .ok (.lload_n 2, 1) := by decide +kernel
theorem d3_2 : decode jdk_29_method_66_code 2 = .ok (.lcmp, 1) := by decide +kernel
theorem d3_3 : decode jdk_29_method_66_code 3 = .ok (.ifCond .lt 7, 3) := by decide +kernel
theorem d3_10 : decode jdk_29_method_66_code 10 = .ok (.lload_n 2, 1) := by decide +kernel
theorem d3_6 : decode jdk_29_method_66_code 6 = .ok (.lload_n 0, 1) := by decide +kernel
theorem d3_7 : decode jdk_29_method_66_code 7 = .ok (.goto 4, 3) := by decide +kernel
theorem d3_11 : decode jdk_29_method_66_code 11 = .ok (.lreturn, 1) := by decide +kernel
def own_max (q1 : Int64) (q2 : Int64) : Int64 := (if q1 < q2 then q2 else q1)
theorem ef_rm3 (m : MethodId) (q1 : Int64) (q2 : Int64) : entryFrame m #[(.long q1), (.long q2)] 4 = mkF m 0 #[.val (.long q1), .second, .val (.long q2), .second] [] := by first | (simp [entryFrame, mkF, argsToLocals, Value.category]; done) | rfl
def Q_rm3 (Z : State) (q1 : Int64) (q2 : Int64) (h0 : Heap) (n0 : Nat) (v : Option Value) (h : Heap) (L : List Loc) : Prop := v = some (.long (own_max q1 q2)) ∧ Fr n0 L ∧ h = h0
set_option maxRecDepth 65536 in
set_option maxHeartbeats 40000000 in
theorem rm3 (l : Launch) (Z : State) (a0 : Array Value) (hw : ∀ d ∈ tables_1, d.before a0 Z = true) (ws : List Jvm.Cond) (q1 : Int64) (q2 : Int64) (h0 : Heap) (n0 : Nat) (Z0 : n0 ≤ h0.size) :
    MetFree l (⟨"java/lang/Math", "max", "(JJ)J"⟩ : MethodName) (head1 (Jvm.Cond.code (⟨"java/lang/Math", "max", "(JJ)J"⟩ : MethodName) jdk_29_method_66_code 4 (some .long) :: ws) ({ frames := 0, cells := 0, slots := 0, locals := 0 } : Room)) (fun a U => a = #[(.long q1), (.long q2)] ∧ Z.Warmed39 U.vm ∧ U.heap = h0) (fun _ _ _ _ _ => True) (fun _ U o U' => ∃ v L, o = .returned v ∧ Q_rm3 Z q1 q2 h0 n0 v U'.heap L ∧ FrameEnd U o U' L ({ frames := 0, cells := 0, slots := 0, locals := 0 } : Room).cells ({ frames := 0, cells := 0, slots := 0, locals := 0 } : Room).slots) := by
  refine MetFree.of_bodySF (Jvm.Free.JP.mathPlain rfl (by decide +kernel)) hisR ?_
  intro p e s m args below meth c s₁ Bd hml0 hP hK
  obtain ⟨rfl, hZ, hh⟩ := hP
  have hx := Bd.exec
  have hby := Bd.bytes
  have hml : c.maxLocals = 4 := hml0
  have hown : s.vm.findClass "java/lang/Math" = some m.cls := findClass_of_methodNamed Bd.named
  have hnm := (name_of_methodNamed Bd.named Bd.method).1
  have X0 : Stand p l e ({ frames := 0, cells := 0, slots := 0, locals := 0 } : Room) s m #[(.long q1), (.long q2)] below meth c s₁ [] 0 0 := Stand.of_body Bd
  have e0 : s₁.heap = h0 := by rw [← hh, Bd.state]; rfl
  have N0 := Fr.nil n0
  have pre0 : ∀ t, Steps p.tables e below (s₁.setTop (mkF m 0 #[.val (.long q1), .second, .val (.long q2), .second] [])) t → Steps p.tables e below (s₁.setTop (entryFrame m #[(.long q1), (.long q2)] 4)) t := fun t k => castTop (ef_rm3 m q1 q2) k
  have pre2 : ∀ t, Steps p.tables e below (s₁.setTop (mkF m 3 #[.val (.long q1), .second, .val (.long q2), .second] [(.int (lcmpW q1 q2))])) t → Steps p.tables e below (s₁.setTop (entryFrame m #[(.long q1), (.long q2)] 4)) t := fun t kt => by
    refine pre0 t ?_
    show Steps p.tables e below (s₁.setTop (mkF m 0 #[.val (.long q1), .second, .val (.long q2), .second] [])) _
    refine XS.lloadN X0.here hx rfl (hb hby d3_0) rfl ?_
    show Steps p.tables e below (s₁.setTop (mkF m 1 #[.val (.long q1), .second, .val (.long q2), .second] [(.long q1)])) _
    refine XS.lloadN X0.here hx rfl (hb hby d3_1) rfl ?_
    show Steps p.tables e below (s₁.setTop (mkF m 2 #[.val (.long q1), .second, .val (.long q2), .second] [(.long q2), (.long q1)])) _
    refine XS.lcmp X0.here hx rfl (hb hby d3_2) rfl ?_
    exact kt
  by_cases hc3_1 : q1 < q2
  · obtain ⟨fs, hr, hrun, hended, hW, hsame⟩ := X0.leave (v := some (.long q2)) (fun h => by rw [Bd.returns] at h; cases h)
    refine ⟨_, _, pre2 _ ?_, hrun, hended, _, _, rfl, ?_, ⟨_, rfl⟩, hW, hsame.mono (by decide) (by decide)⟩
    · show Steps p.tables e below (s₁.setTop (mkF m 3 #[.val (.long q1), .second, .val (.long q2), .second] [(.int (lcmpW q1 q2))])) _
      refine XS.ifYes X0.here hx rfl (pc0 := 3) (pc' := 10) rfl (hb hby d3_3) rfl (own_lltT hc3_1) (by decide) (by decide) ?_
      show Steps p.tables e below (s₁.setTop (mkF m 10 #[.val (.long q1), .second, .val (.long q2), .second] [])) _
      refine XS.lloadN X0.here hx rfl (hb hby d3_10) rfl ?_
      show Steps p.tables e below (s₁.setTop (mkF m 11 #[.val (.long q1), .second, .val (.long q2), .second] [(.long q2)])) _
      jvm_step X0.here [X0.here.top, hx, (hb hby d3_11), X0.method', Bd.returns, narrow]
      first | (intro acts; rw [hr _ acts rfl rfl rfl]) | rw [hr _ _ rfl rfl rfl]
      exact Steps.refl _
    · show Q_rm3 Z q1 q2 h0 n0 _ s₁.heap _
      rw [e0]
      exact ⟨by rw [own_max, if_pos hc3_1], N0, rfl⟩
  · obtain ⟨fs, hr, hrun, hended, hW, hsame⟩ := X0.leave (v := some (.long q1)) (fun h => by rw [Bd.returns] at h; cases h)
    refine ⟨_, _, pre2 _ ?_, hrun, hended, _, _, rfl, ?_, ⟨_, rfl⟩, hW, hsame.mono (by decide) (by decide)⟩
    · show Steps p.tables e below (s₁.setTop (mkF m 3 #[.val (.long q1), .second, .val (.long q2), .second] [(.int (lcmpW q1 q2))])) _
      refine XS.ifNo X0.here hx rfl (hb hby d3_3) rfl (own_lltF hc3_1) ?_
      show Steps p.tables e below (s₁.setTop (mkF m 6 #[.val (.long q1), .second, .val (.long q2), .second] [])) _
      refine XS.lloadN X0.here hx rfl (hb hby d3_6) rfl ?_
      show Steps p.tables e below (s₁.setTop (mkF m 7 #[.val (.long q1), .second, .val (.long q2), .second] [(.long q1)])) _
      refine XS.goto X0.here hx rfl (pc0 := 7) (pc' := 11) rfl (hb hby d3_7) (by decide) (by decide) ?_
      show Steps p.tables e below (s₁.setTop (mkF m 11 #[.val (.long q1), .second, .val (.long q2), .second] [(.long q1)])) _
      jvm_step X0.here [X0.here.top, hx, (hb hby d3_11), X0.method', Bd.returns, narrow]
      first | (intro acts; rw [hr _ acts rfl rfl rfl]) | rw [hr _ _ rfl rfl rfl]
      exact Steps.refl _
    · show Q_rm3 Z q1 q2 h0 n0 _ s₁.heap _
      rw [e0]
      exact ⟨by rw [own_max, if_neg hc3_1], N0, rfl⟩
theorem own_ofT {d n : Int64} {wD wR : Addr} (h : n < d) : own_of d n wD wR = wD := if_pos h
theorem own_ofF {d n : Int64} {wD wR : Addr} (h : ¬ (n < d)) : own_of d n wD wR = wR := if_neg h
theorem own_irr (d : Int64) : ¬ (d < d) := by rw [Int64.lt_iff_toInt_lt]; omega
theorem own_pred {d : Int64} (h : ¬ (d = (-9223372036854775808 : Int64))) : (d - (1 : Int64)) < d := by
  have a := d.le_toInt; have b := d.toInt_lt
  have e1 : (1 : Int64).toInt = 1 := by decide
  have em : (-9223372036854775808 : Int64).toInt = -2 ^ 63 := by decide
  have hne : d.toInt ≠ -2 ^ 63 := fun q => h (Int64.toInt_inj.mp (q.trans em.symm))
  rw [Int64.lt_iff_toInt_lt, Jvm.Kit.i64_sub (by omega) (by omega), e1]; omega
theorem own_hi {d x y : Int64} (h : ¬ (own_min x y < d)) : ¬ (own_max x y < d) := by
  unfold own_min at h; unfold own_max
  simp only [Int64.lt_iff_toInt_lt] at h ⊢
  split at h <;> split <;> omega
theorem own_neF {Z : State} {h : Heap} {a b : Addr} {C n d : String} {v w : Value} (F : Fld Z h a C n d v) (E : Fld Z h b C n d w) (q : v ≠ w) : ¬ (a = b) := fun e => by
  subst e
  obtain ⟨c1, _, _, _, f1, a1, a2, -, -, -, -, a7⟩ := F
  obtain ⟨c2, _, _, _, f2, b1, b2, -, -, -, -, b7⟩ := E
  cases a1.symm.trans b1
  cases a2.symm.trans b2
  exact q (Option.some.inj (a7.symm.trans b7))
theorem pd__28JJ_29Lcom_2fexample_2fsandglass_2fsandglass_2fJobState_3b : parseMethodDescriptor "(JJ)Lcom/example/sandglass/sandglass/JobState;" = some ⟨[.long, .long], some (.object "com/example/sandglass/sandglass/JobState")⟩ := by decide +kernel
theorem pd__28JJ_29J : parseMethodDescriptor "(JJ)J" = some ⟨[.long, .long], some .long⟩ := by decide +kernel
theorem pn_com_example_sandglass_sandglass_JobStateOfWaitingPinLaw : plainName "com/example/sandglass/sandglass/JobStateOfWaitingPinLaw" = true := by first | (simp [plainName, overriddenIn]; done) | decide +kernel
theorem ef_rm0 (m : MethodId) (q1 : Int64) (q2 : Int64) (q3 : Int64) : entryFrame m #[(.long q1), (.long q2), (.long q3)] maxLocals = mkF m 0 #[.val (.long q1), .second, .val (.long q2), .second, .val (.long q3), .second, .unset, .unset, .unset, .unset, .unset, .unset, .unset] [] := by first | (simp [entryFrame, mkF, argsToLocals, Value.category, maxLocals]; done) | rfl
def Q_rm0 (Z : State) (q1 : Int64) (q2 : Int64) (q3 : Int64) (wD : Addr) (wR : Addr) (h0 : Heap) (n0 : Nat) (v : Option Value) (h : Heap) (L : List Loc) : Prop := v = some (.int (1 : Int32)) ∧ Fr n0 L
set_option maxRecDepth 65536 in
set_option maxHeartbeats 40000000 in
theorem rm0 (l : Launch) (Z : State) (a0 : Array Value) (hw : ∀ d ∈ tables_1, d.before a0 Z = true) (ws : List Jvm.Cond) (q1 : Int64) (q2 : Int64) (q3 : Int64) (wD : Addr) (wR : Addr) (h0 : Heap) (n0 : Nat) (Z0 : n0 ≤ h0.size) (S_READY : Sta Z h0 "com/example/sandglass/sandglass/JobState" "READY" "Lcom/example/sandglass/sandglass/JobState;" (.ref wR)) (S_DELAYED : Sta Z h0 "com/example/sandglass/sandglass/JobState" "DELAYED" "Lcom/example/sandglass/sandglass/JobState;" (.ref wD)) (hne : ¬ (wR = wD)) :
    MetFree l x (head1 (Jvm.Cond.code x code maxLocals ret :: ws) room_1) (fun a U => a = #[(.long q1), (.long q2), (.long q3)] ∧ Z.Warmed39 U.vm ∧ U.heap = h0) (fun _ _ _ _ _ => True) (fun _ U o U' => ∃ v L, o = .returned v ∧ Q_rm0 Z q1 q2 q3 wD wR h0 n0 v U'.heap L ∧ FrameEnd U o U' L room_1.cells room_1.slots) := by
  refine MetFree.of_bodySF (plainFor_of_name pn_com_example_sandglass_sandglass_JobStateOfWaitingPinLaw) hisR ?_
  intro p e s m args below meth c s₁ Bd hml0 hP hK
  obtain ⟨rfl, hZ, hh⟩ := hP
  have hx := Bd.exec
  have hby := Bd.bytes
  have hml : c.maxLocals = 13 := hml0
  have hown : s.vm.findClass "com/example/sandglass/sandglass/JobStateOfWaitingPinLaw" = some m.cls := findClass_of_methodNamed Bd.named
  have hnm := (name_of_methodNamed Bd.named Bd.method).1
  have X0 : Stand p l e room_1 s m #[(.long q1), (.long q2), (.long q3)] below meth c s₁ [] 0 0 := Stand.of_body Bd
  have e0 : s₁.heap = h0 := by rw [← hh, Bd.state]; rfl
  have N0 := Fr.nil n0
  have pre0 : ∀ t, Steps p.tables e below (s₁.setTop (mkF m 0 #[.val (.long q1), .second, .val (.long q2), .second, .val (.long q3), .second, .unset, .unset, .unset, .unset, .unset, .unset, .unset] [])) t → Steps p.tables e below (s₁.setTop (entryFrame m #[(.long q1), (.long q2), (.long q3)] maxLocals)) t := fun t k => castTop (ef_rm0 m q1 q2 q3) k
  obtain ⟨_, _, ⟨T1, L1, k1, n1⟩, -, X1, ⟨Lc1, hQ1, l1, y1, z1⟩, st1⟩ := Jvm.LawKit.callS X0 hx (y := (⟨"com/example/sandglass/sandglass/JobState", "ofWaiting", "(JJ)Lcom/example/sandglass/sandglass/JobState;"⟩ : MethodName)) hown (mvT hZ (hw _ (List.mem_of_getElem? (i := 0) rfl))) (mvT hZ (hw _ (List.mem_of_getElem? (i := 1) rfl))) (mvT hZ (hw _ (List.mem_of_getElem? (i := 2) rfl))) (mvT hZ (hw _ (List.mem_of_getElem? (i := 3) rfl))) (by decide) (backOf (W := 0) (rm1 l Z a0 hw [] q1 q1 wD wR h0 n0 Z0 S_READY S_DELAYED) hZ (hw _ (List.mem_of_getElem? (i := 3) rfl)) (hw _ (List.mem_of_getElem? (i := 2) rfl)) (by decide) (by decide)) (g := (mkF m 2 #[.val (.long q1), .second, .val (.long q2), .second, .val (.long q3), .second, .unset, .unset, .unset, .unset, .unset, .unset, .unset] [(.long q1), (.long q1)])) rfl (by rw [hml]; rfl) (argsL := [(.long q1), (.long q1)]) (rest := []) (lenOf pd__28JJ_29Lcom_2fexample_2fsandglass_2fsandglass_2fJobState_3b rfl) rfl (by show 2 * 0 + _ ≤ _; exact Nat.le_of_eq rfl) (hb hby at_2) (fun _ _ => ⟨rfl, e0, (by decide : 0 + 0 ≤ _), (by decide : 0 + 0 ≤ _)⟩)
  dsimp only [Pt.U, Pt.locs, Pt.cells, Pt.slots] at X1 l1 y1 z1 st1 hQ1
  subst l1 y1 z1
  obtain ⟨rfl, N1q, e1⟩ := hQ1
  have N1 := Fr.app N0 N1q
  obtain ⟨T2, X2, e2, st2⟩ := getS2 X1 hx hZ hown (host := "") (Or.inl (hw _ (List.mem_of_getElem? (i := 6) rfl))) Via.refl e1 S_READY (g := (mkF m 9 #[.val (.long q1), .second, .val (.long q2), .second, .val (.long q3), .second, .val (.ref (own_of q1 q1 wD wR)), .unset, .unset, .unset, .unset, .unset, .unset] [(.ref (own_of q1 q1 wD wR))])) rfl (hb hby at_9)
  have pre3 : ∀ t, Steps p.tables e below (T2.setTop (mkF m 22 #[.val (.long q1), .second, .val (.long q2), .second, .val (.long q3), .second, .val (.ref (own_of q1 q1 wD wR)), .unset, .unset, .unset, .unset, .unset, .unset] [(.int (lcmpW q1 (-9223372036854775808 : Int64)))])) t → Steps p.tables e below (s₁.setTop (entryFrame m #[(.long q1), (.long q2), (.long q3)] maxLocals)) t := fun t kt => by
    refine pre0 t ?_
    show Steps p.tables e below (s₁.setTop (mkF m 0 #[.val (.long q1), .second, .val (.long q2), .second, .val (.long q3), .second, .unset, .unset, .unset, .unset, .unset, .unset, .unset] [])) _
    refine XS.lloadN X0.here hx rfl (hb hby at_0) rfl ?_
    show Steps p.tables e below (s₁.setTop (mkF m 1 #[.val (.long q1), .second, .val (.long q2), .second, .val (.long q3), .second, .unset, .unset, .unset, .unset, .unset, .unset, .unset] [(.long q1)])) _
    refine XS.lloadN X0.here hx rfl (hb hby at_1) rfl ?_
    show Steps p.tables e below (s₁.setTop (mkF m 2 #[.val (.long q1), .second, .val (.long q2), .second, .val (.long q3), .second, .unset, .unset, .unset, .unset, .unset, .unset, .unset] [(.long q1), (.long q1)])) _
    refine st1 _ ?_
    show Steps p.tables e below (T1.setTop (mkF m 5 #[.val (.long q1), .second, .val (.long q2), .second, .val (.long q3), .second, .unset, .unset, .unset, .unset, .unset, .unset, .unset] [(.ref (own_of q1 q1 wD wR))])) _
    refine XS.astore X1.here hx rfl (hb hby at_5) rfl rfl (l' := #[.val (.long q1), .second, .val (.long q2), .second, .val (.long q3), .second, .val (.ref (own_of q1 q1 wD wR)), .unset, .unset, .unset, .unset, .unset, .unset]) rfl ?_
    show Steps p.tables e below (T1.setTop (mkF m 7 #[.val (.long q1), .second, .val (.long q2), .second, .val (.long q3), .second, .val (.ref (own_of q1 q1 wD wR)), .unset, .unset, .unset, .unset, .unset, .unset] [])) _
    refine XS.aload X1.here hx rfl (hb hby at_7) rfl rfl ?_
    show Steps p.tables e below (T1.setTop (mkF m 9 #[.val (.long q1), .second, .val (.long q2), .second, .val (.long q3), .second, .val (.ref (own_of q1 q1 wD wR)), .unset, .unset, .unset, .unset, .unset, .unset] [(.ref (own_of q1 q1 wD wR))])) _
    refine st2 _ ?_
    show Steps p.tables e below (T2.setTop (mkF m 12 #[.val (.long q1), .second, .val (.long q2), .second, .val (.long q3), .second, .val (.ref (own_of q1 q1 wD wR)), .unset, .unset, .unset, .unset, .unset, .unset] [(.ref wR), (.ref (own_of q1 q1 wD wR))])) _
    refine Jvm.RoadKit.acmp (g := (mkF m 12 #[.val (.long q1), .second, .val (.long q2), .second, .val (.long q3), .second, .val (.ref (own_of q1 q1 wD wR)), .unset, .unset, .unset, .unset, .unset, .unset] [(.ref wR), (.ref (own_of q1 q1 wD wR))])) X2 hx rfl rfl rfl (pc0 := 12) (pc' := 17) (same := true) rfl (hb hby at_12) rfl (decide_eq_true (congrArg Value.ref (own_ofF (own_irr _)))) (by decide) (by decide) ?_
    show Steps p.tables e below (T2.setTop (mkF m 17 #[.val (.long q1), .second, .val (.long q2), .second, .val (.long q3), .second, .val (.ref (own_of q1 q1 wD wR)), .unset, .unset, .unset, .unset, .unset, .unset] [])) _
    refine XS.lloadN X2.here hx rfl (hb hby at_17) rfl ?_
    show Steps p.tables e below (T2.setTop (mkF m 18 #[.val (.long q1), .second, .val (.long q2), .second, .val (.long q3), .second, .val (.ref (own_of q1 q1 wD wR)), .unset, .unset, .unset, .unset, .unset, .unset] [(.long q1)])) _
    refine X2.ldc2Long hx hown (mvT hZ (hw _ (List.mem_of_getElem? (i := 7) rfl))) (g := (mkF m 18 #[.val (.long q1), .second, .val (.long q2), .second, .val (.long q3), .second, .val (.ref (own_of q1 q1 wD wR)), .unset, .unset, .unset, .unset, .unset, .unset] [(.long q1)])) rfl (hb hby at_18) _ ?_
    show Steps p.tables e below (T2.setTop (mkF m 21 #[.val (.long q1), .second, .val (.long q2), .second, .val (.long q3), .second, .val (.ref (own_of q1 q1 wD wR)), .unset, .unset, .unset, .unset, .unset, .unset] [(.long (-9223372036854775808 : Int64)), (.long q1)])) _
    refine XS.lcmp X2.here hx rfl (hb hby at_21) rfl ?_
    exact kt
  by_cases hM : q1 = (-9223372036854775808 : Int64)
  · obtain ⟨_, _, ⟨T4, L4, k4, n4⟩, -, X4, ⟨Lc4, hQ4, l4, y4, z4⟩, st4⟩ := Jvm.LawKit.callS X2 hx (y := (⟨"java/lang/Math", "min", "(JJ)J"⟩ : MethodName)) hown (mvT hZ (hw _ (List.mem_of_getElem? (i := 11) rfl))) (mvT hZ (hw _ (List.mem_of_getElem? (i := 12) rfl))) (mvT hZ (hw _ (List.mem_of_getElem? (i := 13) rfl))) (mvT hZ (hw _ (List.mem_of_getElem? (i := 14) rfl))) (by decide) (backOf (W := 0) (rm2 l Z a0 hw [] q2 q3 h0 n0 Z0 ) hZ (hw _ (List.mem_of_getElem? (i := 14) rfl)) (hw _ (List.mem_of_getElem? (i := 13) rfl)) (by decide) (by decide)) (g := (mkF m 47 #[.val (.long q1), .second, .val (.long q2), .second, .val (.long q3), .second, .val (.ref (own_of q1 q1 wD wR)), .unset, .unset, .unset, .unset, .unset, .unset] [(.long q3), (.long q2)])) rfl (by rw [hml]; rfl) (argsL := [(.long q2), (.long q3)]) (rest := []) (lenOf pd__28JJ_29J rfl) rfl (by show 2 * 0 + _ ≤ _; exact Nat.le_of_eq rfl) (hb hby at_47) (fun _ _ => ⟨rfl, e2, (by decide : 0 + 0 ≤ _), (by decide : 0 + 0 ≤ _)⟩)
    dsimp only [Pt.U, Pt.locs, Pt.cells, Pt.slots] at X4 l4 y4 z4 st4 hQ4
    subst l4 y4 z4
    obtain ⟨rfl, N4q, e4⟩ := hQ4
    have N4 := Fr.app N1 N4q
    obtain ⟨_, _, ⟨T5, L5, k5, n5⟩, -, X5, ⟨Lc5, hQ5, l5, y5, z5⟩, st5⟩ := Jvm.LawKit.callS X4 hx (y := (⟨"java/lang/Math", "max", "(JJ)J"⟩ : MethodName)) hown (mvT hZ (hw _ (List.mem_of_getElem? (i := 15) rfl))) (mvT hZ (hw _ (List.mem_of_getElem? (i := 16) rfl))) (mvT hZ (hw _ (List.mem_of_getElem? (i := 13) rfl))) (mvT hZ (hw _ (List.mem_of_getElem? (i := 17) rfl))) (by decide) (backOf (W := 0) (rm3 l Z a0 hw [] q2 q3 h0 n0 Z0 ) hZ (hw _ (List.mem_of_getElem? (i := 17) rfl)) (hw _ (List.mem_of_getElem? (i := 13) rfl)) (by decide) (by decide)) (g := (mkF m 55 #[.val (.long q1), .second, .val (.long q2), .second, .val (.long q3), .second, .val (.ref (own_of q1 q1 wD wR)), .val (.long (own_min q2 q3)), .second, .unset, .unset, .unset, .unset] [(.long q3), (.long q2)])) rfl (by rw [hml]; rfl) (argsL := [(.long q2), (.long q3)]) (rest := []) (lenOf pd__28JJ_29J rfl) rfl (by show 2 * 0 + _ ≤ _; exact Nat.le_of_eq rfl) (hb hby at_55) (fun _ _ => ⟨rfl, e4, (by decide : 0 + 0 ≤ _), (by decide : 0 + 0 ≤ _)⟩)
    dsimp only [Pt.U, Pt.locs, Pt.cells, Pt.slots] at X5 l5 y5 z5 st5 hQ5
    subst l5 y5 z5
    obtain ⟨rfl, N5q, e5⟩ := hQ5
    have N5 := Fr.app N4 N5q
    obtain ⟨_, _, ⟨T6, L6, k6, n6⟩, -, X6, ⟨Lc6, hQ6, l6, y6, z6⟩, st6⟩ := Jvm.LawKit.callS X5 hx (y := (⟨"com/example/sandglass/sandglass/JobState", "ofWaiting", "(JJ)Lcom/example/sandglass/sandglass/JobState;"⟩ : MethodName)) hown (mvT hZ (hw _ (List.mem_of_getElem? (i := 0) rfl))) (mvT hZ (hw _ (List.mem_of_getElem? (i := 1) rfl))) (mvT hZ (hw _ (List.mem_of_getElem? (i := 2) rfl))) (mvT hZ (hw _ (List.mem_of_getElem? (i := 3) rfl))) (by decide) (backOf (W := 0) (rm1 l Z a0 hw [] q1 (own_min q2 q3) wD wR h0 n0 Z0 S_READY S_DELAYED) hZ (hw _ (List.mem_of_getElem? (i := 3) rfl)) (hw _ (List.mem_of_getElem? (i := 2) rfl)) (by decide) (by decide)) (g := (mkF m 63 #[.val (.long q1), .second, .val (.long q2), .second, .val (.long q3), .second, .val (.ref (own_of q1 q1 wD wR)), .val (.long (own_min q2 q3)), .second, .val (.long (own_max q2 q3)), .second, .unset, .unset] [(.long (own_min q2 q3)), (.long q1)])) rfl (by rw [hml]; rfl) (argsL := [(.long q1), (.long (own_min q2 q3))]) (rest := []) (lenOf pd__28JJ_29Lcom_2fexample_2fsandglass_2fsandglass_2fJobState_3b rfl) rfl (by show 2 * 0 + _ ≤ _; exact Nat.le_of_eq rfl) (hb hby at_63) (fun _ _ => ⟨rfl, e5, (by decide : 0 + 0 ≤ _), (by decide : 0 + 0 ≤ _)⟩)
    dsimp only [Pt.U, Pt.locs, Pt.cells, Pt.slots] at X6 l6 y6 z6 st6 hQ6
    subst l6 y6 z6
    obtain ⟨rfl, N6q, e6⟩ := hQ6
    have N6 := Fr.app N5 N6q
    obtain ⟨_, _, ⟨T7, L7, k7, n7⟩, -, X7, ⟨Lc7, hQ7, l7, y7, z7⟩, st7⟩ := Jvm.LawKit.callS X6 hx (y := (⟨"com/example/sandglass/sandglass/JobState", "ofWaiting", "(JJ)Lcom/example/sandglass/sandglass/JobState;"⟩ : MethodName)) hown (mvT hZ (hw _ (List.mem_of_getElem? (i := 0) rfl))) (mvT hZ (hw _ (List.mem_of_getElem? (i := 1) rfl))) (mvT hZ (hw _ (List.mem_of_getElem? (i := 2) rfl))) (mvT hZ (hw _ (List.mem_of_getElem? (i := 3) rfl))) (by decide) (backOf (W := 0) (rm1 l Z a0 hw [] q1 (own_max q2 q3) wD wR h0 n0 Z0 S_READY S_DELAYED) hZ (hw _ (List.mem_of_getElem? (i := 3) rfl)) (hw _ (List.mem_of_getElem? (i := 2) rfl)) (by decide) (by decide)) (g := (mkF m 71 #[.val (.long q1), .second, .val (.long q2), .second, .val (.long q3), .second, .val (.ref (own_of q1 q1 wD wR)), .val (.long (own_min q2 q3)), .second, .val (.long (own_max q2 q3)), .second, .val (.ref (own_of q1 (own_min q2 q3) wD wR)), .unset] [(.long (own_max q2 q3)), (.long q1)])) rfl (by rw [hml]; rfl) (argsL := [(.long q1), (.long (own_max q2 q3))]) (rest := []) (lenOf pd__28JJ_29Lcom_2fexample_2fsandglass_2fsandglass_2fJobState_3b rfl) rfl (by show 2 * 0 + _ ≤ _; exact Nat.le_of_eq rfl) (hb hby at_71) (fun _ _ => ⟨rfl, e6, (by decide : 0 + 0 ≤ _), (by decide : 0 + 0 ≤ _)⟩)
    dsimp only [Pt.U, Pt.locs, Pt.cells, Pt.slots] at X7 l7 y7 z7 st7 hQ7
    subst l7 y7 z7
    obtain ⟨rfl, N7q, e7⟩ := hQ7
    have N7 := Fr.app N6 N7q
    obtain ⟨T8, X8, e8, st8⟩ := getS2 X7 hx hZ hown (host := "") (Or.inl (hw _ (List.mem_of_getElem? (i := 10) rfl))) Via.refl e7 S_DELAYED (g := (mkF m 78 #[.val (.long q1), .second, .val (.long q2), .second, .val (.long q3), .second, .val (.ref (own_of q1 q1 wD wR)), .val (.long (own_min q2 q3)), .second, .val (.long (own_max q2 q3)), .second, .val (.ref (own_of q1 (own_min q2 q3) wD wR)), .val (.ref (own_of q1 (own_max q2 q3) wD wR))] [(.ref (own_of q1 (own_min q2 q3) wD wR))])) rfl (hb hby at_78)
    have pre9 : ∀ t, Steps p.tables e below (T8.setTop (mkF m 81 #[.val (.long q1), .second, .val (.long q2), .second, .val (.long q3), .second, .val (.ref (own_of q1 q1 wD wR)), .val (.long (own_min q2 q3)), .second, .val (.long (own_max q2 q3)), .second, .val (.ref (own_of q1 (own_min q2 q3) wD wR)), .val (.ref (own_of q1 (own_max q2 q3) wD wR))] [(.ref wD), (.ref (own_of q1 (own_min q2 q3) wD wR))])) t → Steps p.tables e below (s₁.setTop (entryFrame m #[(.long q1), (.long q2), (.long q3)] maxLocals)) t := fun t kt => by
      refine pre3 t ?_
      show Steps p.tables e below (T2.setTop (mkF m 22 #[.val (.long q1), .second, .val (.long q2), .second, .val (.long q3), .second, .val (.ref (own_of q1 q1 wD wR)), .unset, .unset, .unset, .unset, .unset, .unset] [(.int (lcmpW q1 (-9223372036854775808 : Int64)))])) _
      refine XS.ifYes X2.here hx rfl (pc0 := 22) (pc' := 44) rfl (hb hby at_22) rfl (own_leqT hM) (by decide) (by decide) ?_
      show Steps p.tables e below (T2.setTop (mkF m 44 #[.val (.long q1), .second, .val (.long q2), .second, .val (.long q3), .second, .val (.ref (own_of q1 q1 wD wR)), .unset, .unset, .unset, .unset, .unset, .unset] [])) _
      refine XS.lloadN X2.here hx rfl (hb hby at_44) rfl ?_
      show Steps p.tables e below (T2.setTop (mkF m 45 #[.val (.long q1), .second, .val (.long q2), .second, .val (.long q3), .second, .val (.ref (own_of q1 q1 wD wR)), .unset, .unset, .unset, .unset, .unset, .unset] [(.long q2)])) _
      refine XS.lload X2.here hx rfl (hb hby at_45) rfl ?_
      show Steps p.tables e below (T2.setTop (mkF m 47 #[.val (.long q1), .second, .val (.long q2), .second, .val (.long q3), .second, .val (.ref (own_of q1 q1 wD wR)), .unset, .unset, .unset, .unset, .unset, .unset] [(.long q3), (.long q2)])) _
      refine st4 _ ?_
      show Steps p.tables e below (T4.setTop (mkF m 50 #[.val (.long q1), .second, .val (.long q2), .second, .val (.long q3), .second, .val (.ref (own_of q1 q1 wD wR)), .unset, .unset, .unset, .unset, .unset, .unset] [(.long (own_min q2 q3))])) _
      refine XS.lstore X4.here hx rfl (hb hby at_50) rfl (l' := #[.val (.long q1), .second, .val (.long q2), .second, .val (.long q3), .second, .val (.ref (own_of q1 q1 wD wR)), .val (.long (own_min q2 q3)), .second, .unset, .unset, .unset, .unset]) rfl ?_
      show Steps p.tables e below (T4.setTop (mkF m 52 #[.val (.long q1), .second, .val (.long q2), .second, .val (.long q3), .second, .val (.ref (own_of q1 q1 wD wR)), .val (.long (own_min q2 q3)), .second, .unset, .unset, .unset, .unset] [])) _
      refine XS.lloadN X4.here hx rfl (hb hby at_52) rfl ?_
      show Steps p.tables e below (T4.setTop (mkF m 53 #[.val (.long q1), .second, .val (.long q2), .second, .val (.long q3), .second, .val (.ref (own_of q1 q1 wD wR)), .val (.long (own_min q2 q3)), .second, .unset, .unset, .unset, .unset] [(.long q2)])) _
      refine XS.lload X4.here hx rfl (hb hby at_53) rfl ?_
      show Steps p.tables e below (T4.setTop (mkF m 55 #[.val (.long q1), .second, .val (.long q2), .second, .val (.long q3), .second, .val (.ref (own_of q1 q1 wD wR)), .val (.long (own_min q2 q3)), .second, .unset, .unset, .unset, .unset] [(.long q3), (.long q2)])) _
      refine st5 _ ?_
      show Steps p.tables e below (T5.setTop (mkF m 58 #[.val (.long q1), .second, .val (.long q2), .second, .val (.long q3), .second, .val (.ref (own_of q1 q1 wD wR)), .val (.long (own_min q2 q3)), .second, .unset, .unset, .unset, .unset] [(.long (own_max q2 q3))])) _
      refine XS.lstore X5.here hx rfl (hb hby at_58) rfl (l' := #[.val (.long q1), .second, .val (.long q2), .second, .val (.long q3), .second, .val (.ref (own_of q1 q1 wD wR)), .val (.long (own_min q2 q3)), .second, .val (.long (own_max q2 q3)), .second, .unset, .unset]) rfl ?_
      show Steps p.tables e below (T5.setTop (mkF m 60 #[.val (.long q1), .second, .val (.long q2), .second, .val (.long q3), .second, .val (.ref (own_of q1 q1 wD wR)), .val (.long (own_min q2 q3)), .second, .val (.long (own_max q2 q3)), .second, .unset, .unset] [])) _
      refine XS.lloadN X5.here hx rfl (hb hby at_60) rfl ?_
      show Steps p.tables e below (T5.setTop (mkF m 61 #[.val (.long q1), .second, .val (.long q2), .second, .val (.long q3), .second, .val (.ref (own_of q1 q1 wD wR)), .val (.long (own_min q2 q3)), .second, .val (.long (own_max q2 q3)), .second, .unset, .unset] [(.long q1)])) _
      refine XS.lload X5.here hx rfl (hb hby at_61) rfl ?_
      show Steps p.tables e below (T5.setTop (mkF m 63 #[.val (.long q1), .second, .val (.long q2), .second, .val (.long q3), .second, .val (.ref (own_of q1 q1 wD wR)), .val (.long (own_min q2 q3)), .second, .val (.long (own_max q2 q3)), .second, .unset, .unset] [(.long (own_min q2 q3)), (.long q1)])) _
      refine st6 _ ?_
      show Steps p.tables e below (T6.setTop (mkF m 66 #[.val (.long q1), .second, .val (.long q2), .second, .val (.long q3), .second, .val (.ref (own_of q1 q1 wD wR)), .val (.long (own_min q2 q3)), .second, .val (.long (own_max q2 q3)), .second, .unset, .unset] [(.ref (own_of q1 (own_min q2 q3) wD wR))])) _
      refine XS.astore X6.here hx rfl (hb hby at_66) rfl rfl (l' := #[.val (.long q1), .second, .val (.long q2), .second, .val (.long q3), .second, .val (.ref (own_of q1 q1 wD wR)), .val (.long (own_min q2 q3)), .second, .val (.long (own_max q2 q3)), .second, .val (.ref (own_of q1 (own_min q2 q3) wD wR)), .unset]) rfl ?_
      show Steps p.tables e below (T6.setTop (mkF m 68 #[.val (.long q1), .second, .val (.long q2), .second, .val (.long q3), .second, .val (.ref (own_of q1 q1 wD wR)), .val (.long (own_min q2 q3)), .second, .val (.long (own_max q2 q3)), .second, .val (.ref (own_of q1 (own_min q2 q3) wD wR)), .unset] [])) _
      refine XS.lloadN X6.here hx rfl (hb hby at_68) rfl ?_
      show Steps p.tables e below (T6.setTop (mkF m 69 #[.val (.long q1), .second, .val (.long q2), .second, .val (.long q3), .second, .val (.ref (own_of q1 q1 wD wR)), .val (.long (own_min q2 q3)), .second, .val (.long (own_max q2 q3)), .second, .val (.ref (own_of q1 (own_min q2 q3) wD wR)), .unset] [(.long q1)])) _
      refine XS.lload X6.here hx rfl (hb hby at_69) rfl ?_
      show Steps p.tables e below (T6.setTop (mkF m 71 #[.val (.long q1), .second, .val (.long q2), .second, .val (.long q3), .second, .val (.ref (own_of q1 q1 wD wR)), .val (.long (own_min q2 q3)), .second, .val (.long (own_max q2 q3)), .second, .val (.ref (own_of q1 (own_min q2 q3) wD wR)), .unset] [(.long (own_max q2 q3)), (.long q1)])) _
      refine st7 _ ?_
      show Steps p.tables e below (T7.setTop (mkF m 74 #[.val (.long q1), .second, .val (.long q2), .second, .val (.long q3), .second, .val (.ref (own_of q1 q1 wD wR)), .val (.long (own_min q2 q3)), .second, .val (.long (own_max q2 q3)), .second, .val (.ref (own_of q1 (own_min q2 q3) wD wR)), .unset] [(.ref (own_of q1 (own_max q2 q3) wD wR))])) _
      refine XS.astore X7.here hx rfl (hb hby at_74) rfl rfl (l' := #[.val (.long q1), .second, .val (.long q2), .second, .val (.long q3), .second, .val (.ref (own_of q1 q1 wD wR)), .val (.long (own_min q2 q3)), .second, .val (.long (own_max q2 q3)), .second, .val (.ref (own_of q1 (own_min q2 q3) wD wR)), .val (.ref (own_of q1 (own_max q2 q3) wD wR))]) rfl ?_
      show Steps p.tables e below (T7.setTop (mkF m 76 #[.val (.long q1), .second, .val (.long q2), .second, .val (.long q3), .second, .val (.ref (own_of q1 q1 wD wR)), .val (.long (own_min q2 q3)), .second, .val (.long (own_max q2 q3)), .second, .val (.ref (own_of q1 (own_min q2 q3) wD wR)), .val (.ref (own_of q1 (own_max q2 q3) wD wR))] [])) _
      refine XS.aload X7.here hx rfl (hb hby at_76) rfl rfl ?_
      show Steps p.tables e below (T7.setTop (mkF m 78 #[.val (.long q1), .second, .val (.long q2), .second, .val (.long q3), .second, .val (.ref (own_of q1 q1 wD wR)), .val (.long (own_min q2 q3)), .second, .val (.long (own_max q2 q3)), .second, .val (.ref (own_of q1 (own_min q2 q3) wD wR)), .val (.ref (own_of q1 (own_max q2 q3) wD wR))] [(.ref (own_of q1 (own_min q2 q3) wD wR))])) _
      refine st8 _ ?_
      exact kt
    by_cases hL : (own_min q2 q3) < q1
    · obtain ⟨T10, X10, e10, st10⟩ := getS2 X8 hx hZ hown (host := "") (Or.inl (hw _ (List.mem_of_getElem? (i := 10) rfl))) Via.refl e8 S_DELAYED (g := (mkF m 96 #[.val (.long q1), .second, .val (.long q2), .second, .val (.long q3), .second, .val (.ref (own_of q1 q1 wD wR)), .val (.long (own_min q2 q3)), .second, .val (.long (own_max q2 q3)), .second, .val (.ref (own_of q1 (own_min q2 q3) wD wR)), .val (.ref (own_of q1 (own_max q2 q3) wD wR))] [(.ref (own_of q1 (own_max q2 q3) wD wR))])) rfl (hb hby at_96)
      have pre11 : ∀ t, Steps p.tables e below (T10.setTop (mkF m 99 #[.val (.long q1), .second, .val (.long q2), .second, .val (.long q3), .second, .val (.ref (own_of q1 q1 wD wR)), .val (.long (own_min q2 q3)), .second, .val (.long (own_max q2 q3)), .second, .val (.ref (own_of q1 (own_min q2 q3) wD wR)), .val (.ref (own_of q1 (own_max q2 q3) wD wR))] [(.ref wD), (.ref (own_of q1 (own_max q2 q3) wD wR))])) t → Steps p.tables e below (s₁.setTop (entryFrame m #[(.long q1), (.long q2), (.long q3)] maxLocals)) t := fun t kt => by
        refine pre9 t ?_
        show Steps p.tables e below (T8.setTop (mkF m 81 #[.val (.long q1), .second, .val (.long q2), .second, .val (.long q3), .second, .val (.ref (own_of q1 q1 wD wR)), .val (.long (own_min q2 q3)), .second, .val (.long (own_max q2 q3)), .second, .val (.ref (own_of q1 (own_min q2 q3) wD wR)), .val (.ref (own_of q1 (own_max q2 q3) wD wR))] [(.ref wD), (.ref (own_of q1 (own_min q2 q3) wD wR))])) _
        refine Jvm.RoadKit.acmp (g := (mkF m 81 #[.val (.long q1), .second, .val (.long q2), .second, .val (.long q3), .second, .val (.ref (own_of q1 q1 wD wR)), .val (.long (own_min q2 q3)), .second, .val (.long (own_max q2 q3)), .second, .val (.ref (own_of q1 (own_min q2 q3) wD wR)), .val (.ref (own_of q1 (own_max q2 q3) wD wR))] [(.ref wD), (.ref (own_of q1 (own_min q2 q3) wD wR))])) X8 hx rfl rfl rfl (pc0 := 81) (pc' := 94) (same := true) rfl (hb hby at_81) rfl (decide_eq_true (congrArg Value.ref (own_ofT hL))) (by decide) (by decide) ?_
        show Steps p.tables e below (T8.setTop (mkF m 94 #[.val (.long q1), .second, .val (.long q2), .second, .val (.long q3), .second, .val (.ref (own_of q1 q1 wD wR)), .val (.long (own_min q2 q3)), .second, .val (.long (own_max q2 q3)), .second, .val (.ref (own_of q1 (own_min q2 q3) wD wR)), .val (.ref (own_of q1 (own_max q2 q3) wD wR))] [])) _
        refine XS.aload X8.here hx rfl (hb hby at_94) rfl rfl ?_
        show Steps p.tables e below (T8.setTop (mkF m 96 #[.val (.long q1), .second, .val (.long q2), .second, .val (.long q3), .second, .val (.ref (own_of q1 q1 wD wR)), .val (.long (own_min q2 q3)), .second, .val (.long (own_max q2 q3)), .second, .val (.ref (own_of q1 (own_min q2 q3) wD wR)), .val (.ref (own_of q1 (own_max q2 q3) wD wR))] [(.ref (own_of q1 (own_max q2 q3) wD wR))])) _
        refine st10 _ ?_
        exact kt
      by_cases hH : (own_max q2 q3) < q1
      · obtain ⟨T12, X12, e12, st12⟩ := getS2 X10 hx hZ hown (host := "") (Or.inl (hw _ (List.mem_of_getElem? (i := 6) rfl))) Via.refl e10 S_READY (g := (mkF m 114 #[.val (.long q1), .second, .val (.long q2), .second, .val (.long q3), .second, .val (.ref (own_of q1 q1 wD wR)), .val (.long (own_min q2 q3)), .second, .val (.long (own_max q2 q3)), .second, .val (.ref (own_of q1 (own_min q2 q3) wD wR)), .val (.ref (own_of q1 (own_max q2 q3) wD wR))] [(.ref (own_of q1 (own_min q2 q3) wD wR))])) rfl (hb hby at_114)
        obtain ⟨fs, hr, hrun, hended, hW, hsame⟩ := X12.leave (v := some (.int (1 : Int32))) (fun h => by rw [Bd.returns] at h; cases h)
        refine ⟨_, _, pre11 _ ?_, hrun, hended, _, _, rfl, ?_, ⟨_, rfl⟩, hW, hsame.mono (by decide) (by decide)⟩
        · show Steps p.tables e below (T10.setTop (mkF m 99 #[.val (.long q1), .second, .val (.long q2), .second, .val (.long q3), .second, .val (.ref (own_of q1 q1 wD wR)), .val (.long (own_min q2 q3)), .second, .val (.long (own_max q2 q3)), .second, .val (.ref (own_of q1 (own_min q2 q3) wD wR)), .val (.ref (own_of q1 (own_max q2 q3) wD wR))] [(.ref wD), (.ref (own_of q1 (own_max q2 q3) wD wR))])) _
          refine Jvm.RoadKit.acmp (g := (mkF m 99 #[.val (.long q1), .second, .val (.long q2), .second, .val (.long q3), .second, .val (.ref (own_of q1 q1 wD wR)), .val (.long (own_min q2 q3)), .second, .val (.long (own_max q2 q3)), .second, .val (.ref (own_of q1 (own_min q2 q3) wD wR)), .val (.ref (own_of q1 (own_max q2 q3) wD wR))] [(.ref wD), (.ref (own_of q1 (own_max q2 q3) wD wR))])) X10 hx rfl rfl rfl (pc0 := 99) (pc' := 112) (same := true) rfl (hb hby at_99) rfl (decide_eq_true (congrArg Value.ref (own_ofT hH))) (by decide) (by decide) ?_
          show Steps p.tables e below (T10.setTop (mkF m 112 #[.val (.long q1), .second, .val (.long q2), .second, .val (.long q3), .second, .val (.ref (own_of q1 q1 wD wR)), .val (.long (own_min q2 q3)), .second, .val (.long (own_max q2 q3)), .second, .val (.ref (own_of q1 (own_min q2 q3) wD wR)), .val (.ref (own_of q1 (own_max q2 q3) wD wR))] [])) _
          refine XS.aload X10.here hx rfl (hb hby at_112) rfl rfl ?_
          show Steps p.tables e below (T10.setTop (mkF m 114 #[.val (.long q1), .second, .val (.long q2), .second, .val (.long q3), .second, .val (.ref (own_of q1 q1 wD wR)), .val (.long (own_min q2 q3)), .second, .val (.long (own_max q2 q3)), .second, .val (.ref (own_of q1 (own_min q2 q3) wD wR)), .val (.ref (own_of q1 (own_max q2 q3) wD wR))] [(.ref (own_of q1 (own_min q2 q3) wD wR))])) _
          refine st12 _ ?_
          show Steps p.tables e below (T12.setTop (mkF m 117 #[.val (.long q1), .second, .val (.long q2), .second, .val (.long q3), .second, .val (.ref (own_of q1 q1 wD wR)), .val (.long (own_min q2 q3)), .second, .val (.long (own_max q2 q3)), .second, .val (.ref (own_of q1 (own_min q2 q3) wD wR)), .val (.ref (own_of q1 (own_max q2 q3) wD wR))] [(.ref wR), (.ref (own_of q1 (own_min q2 q3) wD wR))])) _
          refine Jvm.RoadKit.acmp (g := (mkF m 117 #[.val (.long q1), .second, .val (.long q2), .second, .val (.long q3), .second, .val (.ref (own_of q1 q1 wD wR)), .val (.long (own_min q2 q3)), .second, .val (.long (own_max q2 q3)), .second, .val (.ref (own_of q1 (own_min q2 q3) wD wR)), .val (.ref (own_of q1 (own_max q2 q3) wD wR))] [(.ref wR), (.ref (own_of q1 (own_min q2 q3) wD wR))])) X12 hx rfl rfl rfl (pc0 := 117) (pc' := 130) (same := false) rfl (hb hby at_117) rfl (decide_eq_false fun q => hne ((Value.ref.inj q).symm.trans (own_ofT hL))) (by decide) (by decide) ?_
          show Steps p.tables e below (T12.setTop (mkF m 130 #[.val (.long q1), .second, .val (.long q2), .second, .val (.long q3), .second, .val (.ref (own_of q1 q1 wD wR)), .val (.long (own_min q2 q3)), .second, .val (.long (own_max q2 q3)), .second, .val (.ref (own_of q1 (own_min q2 q3) wD wR)), .val (.ref (own_of q1 (own_max q2 q3) wD wR))] [])) _
          refine XS.iconst X12.here hx rfl (hb hby at_130) ?_
          show Steps p.tables e below (T12.setTop (mkF m 131 #[.val (.long q1), .second, .val (.long q2), .second, .val (.long q3), .second, .val (.ref (own_of q1 q1 wD wR)), .val (.long (own_min q2 q3)), .second, .val (.long (own_max q2 q3)), .second, .val (.ref (own_of q1 (own_min q2 q3) wD wR)), .val (.ref (own_of q1 (own_max q2 q3) wD wR))] [(.int (1 : Int32))])) _
          exact retN X12 hx (t := .boolean) Bd.returns (by simp) (hb hby at_131) hr
        · show Q_rm0 Z q1 q2 q3 wD wR h0 n0 _ T12.heap _
          rw [e12]
          exact ⟨rfl, N7⟩
      · obtain ⟨T13, X13, e13, st13⟩ := getS2 X10 hx hZ hown (host := "") (Or.inl (hw _ (List.mem_of_getElem? (i := 6) rfl))) Via.refl e10 S_READY (g := (mkF m 104 #[.val (.long q1), .second, .val (.long q2), .second, .val (.long q3), .second, .val (.ref (own_of q1 q1 wD wR)), .val (.long (own_min q2 q3)), .second, .val (.long (own_max q2 q3)), .second, .val (.ref (own_of q1 (own_min q2 q3) wD wR)), .val (.ref (own_of q1 (own_max q2 q3) wD wR))] [(.ref (own_of q1 (own_max q2 q3) wD wR))])) rfl (hb hby at_104)
        obtain ⟨T14, X14, e14, st14⟩ := getS2 X13 hx hZ hown (host := "") (Or.inl (hw _ (List.mem_of_getElem? (i := 6) rfl))) Via.refl e13 S_READY (g := (mkF m 114 #[.val (.long q1), .second, .val (.long q2), .second, .val (.long q3), .second, .val (.ref (own_of q1 q1 wD wR)), .val (.long (own_min q2 q3)), .second, .val (.long (own_max q2 q3)), .second, .val (.ref (own_of q1 (own_min q2 q3) wD wR)), .val (.ref (own_of q1 (own_max q2 q3) wD wR))] [(.ref (own_of q1 (own_min q2 q3) wD wR))])) rfl (hb hby at_114)
        obtain ⟨fs, hr, hrun, hended, hW, hsame⟩ := X14.leave (v := some (.int (1 : Int32))) (fun h => by rw [Bd.returns] at h; cases h)
        refine ⟨_, _, pre11 _ ?_, hrun, hended, _, _, rfl, ?_, ⟨_, rfl⟩, hW, hsame.mono (by decide) (by decide)⟩
        · show Steps p.tables e below (T10.setTop (mkF m 99 #[.val (.long q1), .second, .val (.long q2), .second, .val (.long q3), .second, .val (.ref (own_of q1 q1 wD wR)), .val (.long (own_min q2 q3)), .second, .val (.long (own_max q2 q3)), .second, .val (.ref (own_of q1 (own_min q2 q3) wD wR)), .val (.ref (own_of q1 (own_max q2 q3) wD wR))] [(.ref wD), (.ref (own_of q1 (own_max q2 q3) wD wR))])) _
          refine Jvm.RoadKit.acmp (g := (mkF m 99 #[.val (.long q1), .second, .val (.long q2), .second, .val (.long q3), .second, .val (.ref (own_of q1 q1 wD wR)), .val (.long (own_min q2 q3)), .second, .val (.long (own_max q2 q3)), .second, .val (.ref (own_of q1 (own_min q2 q3) wD wR)), .val (.ref (own_of q1 (own_max q2 q3) wD wR))] [(.ref wD), (.ref (own_of q1 (own_max q2 q3) wD wR))])) X10 hx rfl rfl rfl (pc0 := 99) (pc' := 102) (same := false) rfl (hb hby at_99) rfl (decide_eq_false fun q => hne ((own_ofF hH).symm.trans (Value.ref.inj q))) (by decide) (by decide) ?_
          show Steps p.tables e below (T10.setTop (mkF m 102 #[.val (.long q1), .second, .val (.long q2), .second, .val (.long q3), .second, .val (.ref (own_of q1 q1 wD wR)), .val (.long (own_min q2 q3)), .second, .val (.long (own_max q2 q3)), .second, .val (.ref (own_of q1 (own_min q2 q3) wD wR)), .val (.ref (own_of q1 (own_max q2 q3) wD wR))] [])) _
          refine XS.aload X10.here hx rfl (hb hby at_102) rfl rfl ?_
          show Steps p.tables e below (T10.setTop (mkF m 104 #[.val (.long q1), .second, .val (.long q2), .second, .val (.long q3), .second, .val (.ref (own_of q1 q1 wD wR)), .val (.long (own_min q2 q3)), .second, .val (.long (own_max q2 q3)), .second, .val (.ref (own_of q1 (own_min q2 q3) wD wR)), .val (.ref (own_of q1 (own_max q2 q3) wD wR))] [(.ref (own_of q1 (own_max q2 q3) wD wR))])) _
          refine st13 _ ?_
          show Steps p.tables e below (T13.setTop (mkF m 107 #[.val (.long q1), .second, .val (.long q2), .second, .val (.long q3), .second, .val (.ref (own_of q1 q1 wD wR)), .val (.long (own_min q2 q3)), .second, .val (.long (own_max q2 q3)), .second, .val (.ref (own_of q1 (own_min q2 q3) wD wR)), .val (.ref (own_of q1 (own_max q2 q3) wD wR))] [(.ref wR), (.ref (own_of q1 (own_max q2 q3) wD wR))])) _
          refine Jvm.RoadKit.acmp (g := (mkF m 107 #[.val (.long q1), .second, .val (.long q2), .second, .val (.long q3), .second, .val (.ref (own_of q1 q1 wD wR)), .val (.long (own_min q2 q3)), .second, .val (.long (own_max q2 q3)), .second, .val (.ref (own_of q1 (own_min q2 q3) wD wR)), .val (.ref (own_of q1 (own_max q2 q3) wD wR))] [(.ref wR), (.ref (own_of q1 (own_max q2 q3) wD wR))])) X13 hx rfl rfl rfl (pc0 := 107) (pc' := 112) (same := true) rfl (hb hby at_107) rfl (decide_eq_true (congrArg Value.ref (own_ofF hH))) (by decide) (by decide) ?_
          show Steps p.tables e below (T13.setTop (mkF m 112 #[.val (.long q1), .second, .val (.long q2), .second, .val (.long q3), .second, .val (.ref (own_of q1 q1 wD wR)), .val (.long (own_min q2 q3)), .second, .val (.long (own_max q2 q3)), .second, .val (.ref (own_of q1 (own_min q2 q3) wD wR)), .val (.ref (own_of q1 (own_max q2 q3) wD wR))] [])) _
          refine XS.aload X13.here hx rfl (hb hby at_112) rfl rfl ?_
          show Steps p.tables e below (T13.setTop (mkF m 114 #[.val (.long q1), .second, .val (.long q2), .second, .val (.long q3), .second, .val (.ref (own_of q1 q1 wD wR)), .val (.long (own_min q2 q3)), .second, .val (.long (own_max q2 q3)), .second, .val (.ref (own_of q1 (own_min q2 q3) wD wR)), .val (.ref (own_of q1 (own_max q2 q3) wD wR))] [(.ref (own_of q1 (own_min q2 q3) wD wR))])) _
          refine st14 _ ?_
          show Steps p.tables e below (T14.setTop (mkF m 117 #[.val (.long q1), .second, .val (.long q2), .second, .val (.long q3), .second, .val (.ref (own_of q1 q1 wD wR)), .val (.long (own_min q2 q3)), .second, .val (.long (own_max q2 q3)), .second, .val (.ref (own_of q1 (own_min q2 q3) wD wR)), .val (.ref (own_of q1 (own_max q2 q3) wD wR))] [(.ref wR), (.ref (own_of q1 (own_min q2 q3) wD wR))])) _
          refine Jvm.RoadKit.acmp (g := (mkF m 117 #[.val (.long q1), .second, .val (.long q2), .second, .val (.long q3), .second, .val (.ref (own_of q1 q1 wD wR)), .val (.long (own_min q2 q3)), .second, .val (.long (own_max q2 q3)), .second, .val (.ref (own_of q1 (own_min q2 q3) wD wR)), .val (.ref (own_of q1 (own_max q2 q3) wD wR))] [(.ref wR), (.ref (own_of q1 (own_min q2 q3) wD wR))])) X14 hx rfl rfl rfl (pc0 := 117) (pc' := 130) (same := false) rfl (hb hby at_117) rfl (decide_eq_false fun q => hne ((Value.ref.inj q).symm.trans (own_ofT hL))) (by decide) (by decide) ?_
          show Steps p.tables e below (T14.setTop (mkF m 130 #[.val (.long q1), .second, .val (.long q2), .second, .val (.long q3), .second, .val (.ref (own_of q1 q1 wD wR)), .val (.long (own_min q2 q3)), .second, .val (.long (own_max q2 q3)), .second, .val (.ref (own_of q1 (own_min q2 q3) wD wR)), .val (.ref (own_of q1 (own_max q2 q3) wD wR))] [])) _
          refine XS.iconst X14.here hx rfl (hb hby at_130) ?_
          show Steps p.tables e below (T14.setTop (mkF m 131 #[.val (.long q1), .second, .val (.long q2), .second, .val (.long q3), .second, .val (.ref (own_of q1 q1 wD wR)), .val (.long (own_min q2 q3)), .second, .val (.long (own_max q2 q3)), .second, .val (.ref (own_of q1 (own_min q2 q3) wD wR)), .val (.ref (own_of q1 (own_max q2 q3) wD wR))] [(.int (1 : Int32))])) _
          exact retN X14 hx (t := .boolean) Bd.returns (by simp) (hb hby at_131) hr
        · show Q_rm0 Z q1 q2 q3 wD wR h0 n0 _ T14.heap _
          rw [e14]
          exact ⟨rfl, N7⟩
    · have hH := own_hi hL
      obtain ⟨T15, X15, e15, st15⟩ := getS2 X8 hx hZ hown (host := "") (Or.inl (hw _ (List.mem_of_getElem? (i := 6) rfl))) Via.refl e8 S_READY (g := (mkF m 86 #[.val (.long q1), .second, .val (.long q2), .second, .val (.long q3), .second, .val (.ref (own_of q1 q1 wD wR)), .val (.long (own_min q2 q3)), .second, .val (.long (own_max q2 q3)), .second, .val (.ref (own_of q1 (own_min q2 q3) wD wR)), .val (.ref (own_of q1 (own_max q2 q3) wD wR))] [(.ref (own_of q1 (own_min q2 q3) wD wR))])) rfl (hb hby at_86)
      obtain ⟨T16, X16, e16, st16⟩ := getS2 X15 hx hZ hown (host := "") (Or.inl (hw _ (List.mem_of_getElem? (i := 10) rfl))) Via.refl e15 S_DELAYED (g := (mkF m 96 #[.val (.long q1), .second, .val (.long q2), .second, .val (.long q3), .second, .val (.ref (own_of q1 q1 wD wR)), .val (.long (own_min q2 q3)), .second, .val (.long (own_max q2 q3)), .second, .val (.ref (own_of q1 (own_min q2 q3) wD wR)), .val (.ref (own_of q1 (own_max q2 q3) wD wR))] [(.ref (own_of q1 (own_max q2 q3) wD wR))])) rfl (hb hby at_96)
      obtain ⟨T17, X17, e17, st17⟩ := getS2 X16 hx hZ hown (host := "") (Or.inl (hw _ (List.mem_of_getElem? (i := 6) rfl))) Via.refl e16 S_READY (g := (mkF m 104 #[.val (.long q1), .second, .val (.long q2), .second, .val (.long q3), .second, .val (.ref (own_of q1 q1 wD wR)), .val (.long (own_min q2 q3)), .second, .val (.long (own_max q2 q3)), .second, .val (.ref (own_of q1 (own_min q2 q3) wD wR)), .val (.ref (own_of q1 (own_max q2 q3) wD wR))] [(.ref (own_of q1 (own_max q2 q3) wD wR))])) rfl (hb hby at_104)
      obtain ⟨T18, X18, e18, st18⟩ := getS2 X17 hx hZ hown (host := "") (Or.inl (hw _ (List.mem_of_getElem? (i := 6) rfl))) Via.refl e17 S_READY (g := (mkF m 114 #[.val (.long q1), .second, .val (.long q2), .second, .val (.long q3), .second, .val (.ref (own_of q1 q1 wD wR)), .val (.long (own_min q2 q3)), .second, .val (.long (own_max q2 q3)), .second, .val (.ref (own_of q1 (own_min q2 q3) wD wR)), .val (.ref (own_of q1 (own_max q2 q3) wD wR))] [(.ref (own_of q1 (own_min q2 q3) wD wR))])) rfl (hb hby at_114)
      obtain ⟨T19, X19, e19, st19⟩ := getS2 X18 hx hZ hown (host := "") (Or.inl (hw _ (List.mem_of_getElem? (i := 6) rfl))) Via.refl e18 S_READY (g := (mkF m 122 #[.val (.long q1), .second, .val (.long q2), .second, .val (.long q3), .second, .val (.ref (own_of q1 q1 wD wR)), .val (.long (own_min q2 q3)), .second, .val (.long (own_max q2 q3)), .second, .val (.ref (own_of q1 (own_min q2 q3) wD wR)), .val (.ref (own_of q1 (own_max q2 q3) wD wR))] [(.ref (own_of q1 (own_max q2 q3) wD wR))])) rfl (hb hby at_122)
      obtain ⟨fs, hr, hrun, hended, hW, hsame⟩ := X19.leave (v := some (.int (1 : Int32))) (fun h => by rw [Bd.returns] at h; cases h)
      refine ⟨_, _, pre9 _ ?_, hrun, hended, _, _, rfl, ?_, ⟨_, rfl⟩, hW, hsame.mono (by decide) (by decide)⟩
      · show Steps p.tables e below (T8.setTop (mkF m 81 #[.val (.long q1), .second, .val (.long q2), .second, .val (.long q3), .second, .val (.ref (own_of q1 q1 wD wR)), .val (.long (own_min q2 q3)), .second, .val (.long (own_max q2 q3)), .second, .val (.ref (own_of q1 (own_min q2 q3) wD wR)), .val (.ref (own_of q1 (own_max q2 q3) wD wR))] [(.ref wD), (.ref (own_of q1 (own_min q2 q3) wD wR))])) _
        refine Jvm.RoadKit.acmp (g := (mkF m 81 #[.val (.long q1), .second, .val (.long q2), .second, .val (.long q3), .second, .val (.ref (own_of q1 q1 wD wR)), .val (.long (own_min q2 q3)), .second, .val (.long (own_max q2 q3)), .second, .val (.ref (own_of q1 (own_min q2 q3) wD wR)), .val (.ref (own_of q1 (own_max q2 q3) wD wR))] [(.ref wD), (.ref (own_of q1 (own_min q2 q3) wD wR))])) X8 hx rfl rfl rfl (pc0 := 81) (pc' := 84) (same := false) rfl (hb hby at_81) rfl (decide_eq_false fun q => hne ((own_ofF hL).symm.trans (Value.ref.inj q))) (by decide) (by decide) ?_
        show Steps p.tables e below (T8.setTop (mkF m 84 #[.val (.long q1), .second, .val (.long q2), .second, .val (.long q3), .second, .val (.ref (own_of q1 q1 wD wR)), .val (.long (own_min q2 q3)), .second, .val (.long (own_max q2 q3)), .second, .val (.ref (own_of q1 (own_min q2 q3) wD wR)), .val (.ref (own_of q1 (own_max q2 q3) wD wR))] [])) _
        refine XS.aload X8.here hx rfl (hb hby at_84) rfl rfl ?_
        show Steps p.tables e below (T8.setTop (mkF m 86 #[.val (.long q1), .second, .val (.long q2), .second, .val (.long q3), .second, .val (.ref (own_of q1 q1 wD wR)), .val (.long (own_min q2 q3)), .second, .val (.long (own_max q2 q3)), .second, .val (.ref (own_of q1 (own_min q2 q3) wD wR)), .val (.ref (own_of q1 (own_max q2 q3) wD wR))] [(.ref (own_of q1 (own_min q2 q3) wD wR))])) _
        refine st15 _ ?_
        show Steps p.tables e below (T15.setTop (mkF m 89 #[.val (.long q1), .second, .val (.long q2), .second, .val (.long q3), .second, .val (.ref (own_of q1 q1 wD wR)), .val (.long (own_min q2 q3)), .second, .val (.long (own_max q2 q3)), .second, .val (.ref (own_of q1 (own_min q2 q3) wD wR)), .val (.ref (own_of q1 (own_max q2 q3) wD wR))] [(.ref wR), (.ref (own_of q1 (own_min q2 q3) wD wR))])) _
        refine Jvm.RoadKit.acmp (g := (mkF m 89 #[.val (.long q1), .second, .val (.long q2), .second, .val (.long q3), .second, .val (.ref (own_of q1 q1 wD wR)), .val (.long (own_min q2 q3)), .second, .val (.long (own_max q2 q3)), .second, .val (.ref (own_of q1 (own_min q2 q3) wD wR)), .val (.ref (own_of q1 (own_max q2 q3) wD wR))] [(.ref wR), (.ref (own_of q1 (own_min q2 q3) wD wR))])) X15 hx rfl rfl rfl (pc0 := 89) (pc' := 94) (same := true) rfl (hb hby at_89) rfl (decide_eq_true (congrArg Value.ref (own_ofF hL))) (by decide) (by decide) ?_
        show Steps p.tables e below (T15.setTop (mkF m 94 #[.val (.long q1), .second, .val (.long q2), .second, .val (.long q3), .second, .val (.ref (own_of q1 q1 wD wR)), .val (.long (own_min q2 q3)), .second, .val (.long (own_max q2 q3)), .second, .val (.ref (own_of q1 (own_min q2 q3) wD wR)), .val (.ref (own_of q1 (own_max q2 q3) wD wR))] [])) _
        refine XS.aload X15.here hx rfl (hb hby at_94) rfl rfl ?_
        show Steps p.tables e below (T15.setTop (mkF m 96 #[.val (.long q1), .second, .val (.long q2), .second, .val (.long q3), .second, .val (.ref (own_of q1 q1 wD wR)), .val (.long (own_min q2 q3)), .second, .val (.long (own_max q2 q3)), .second, .val (.ref (own_of q1 (own_min q2 q3) wD wR)), .val (.ref (own_of q1 (own_max q2 q3) wD wR))] [(.ref (own_of q1 (own_max q2 q3) wD wR))])) _
        refine st16 _ ?_
        show Steps p.tables e below (T16.setTop (mkF m 99 #[.val (.long q1), .second, .val (.long q2), .second, .val (.long q3), .second, .val (.ref (own_of q1 q1 wD wR)), .val (.long (own_min q2 q3)), .second, .val (.long (own_max q2 q3)), .second, .val (.ref (own_of q1 (own_min q2 q3) wD wR)), .val (.ref (own_of q1 (own_max q2 q3) wD wR))] [(.ref wD), (.ref (own_of q1 (own_max q2 q3) wD wR))])) _
        refine Jvm.RoadKit.acmp (g := (mkF m 99 #[.val (.long q1), .second, .val (.long q2), .second, .val (.long q3), .second, .val (.ref (own_of q1 q1 wD wR)), .val (.long (own_min q2 q3)), .second, .val (.long (own_max q2 q3)), .second, .val (.ref (own_of q1 (own_min q2 q3) wD wR)), .val (.ref (own_of q1 (own_max q2 q3) wD wR))] [(.ref wD), (.ref (own_of q1 (own_max q2 q3) wD wR))])) X16 hx rfl rfl rfl (pc0 := 99) (pc' := 102) (same := false) rfl (hb hby at_99) rfl (decide_eq_false fun q => hne ((own_ofF hH).symm.trans (Value.ref.inj q))) (by decide) (by decide) ?_
        show Steps p.tables e below (T16.setTop (mkF m 102 #[.val (.long q1), .second, .val (.long q2), .second, .val (.long q3), .second, .val (.ref (own_of q1 q1 wD wR)), .val (.long (own_min q2 q3)), .second, .val (.long (own_max q2 q3)), .second, .val (.ref (own_of q1 (own_min q2 q3) wD wR)), .val (.ref (own_of q1 (own_max q2 q3) wD wR))] [])) _
        refine XS.aload X16.here hx rfl (hb hby at_102) rfl rfl ?_
        show Steps p.tables e below (T16.setTop (mkF m 104 #[.val (.long q1), .second, .val (.long q2), .second, .val (.long q3), .second, .val (.ref (own_of q1 q1 wD wR)), .val (.long (own_min q2 q3)), .second, .val (.long (own_max q2 q3)), .second, .val (.ref (own_of q1 (own_min q2 q3) wD wR)), .val (.ref (own_of q1 (own_max q2 q3) wD wR))] [(.ref (own_of q1 (own_max q2 q3) wD wR))])) _
        refine st17 _ ?_
        show Steps p.tables e below (T17.setTop (mkF m 107 #[.val (.long q1), .second, .val (.long q2), .second, .val (.long q3), .second, .val (.ref (own_of q1 q1 wD wR)), .val (.long (own_min q2 q3)), .second, .val (.long (own_max q2 q3)), .second, .val (.ref (own_of q1 (own_min q2 q3) wD wR)), .val (.ref (own_of q1 (own_max q2 q3) wD wR))] [(.ref wR), (.ref (own_of q1 (own_max q2 q3) wD wR))])) _
        refine Jvm.RoadKit.acmp (g := (mkF m 107 #[.val (.long q1), .second, .val (.long q2), .second, .val (.long q3), .second, .val (.ref (own_of q1 q1 wD wR)), .val (.long (own_min q2 q3)), .second, .val (.long (own_max q2 q3)), .second, .val (.ref (own_of q1 (own_min q2 q3) wD wR)), .val (.ref (own_of q1 (own_max q2 q3) wD wR))] [(.ref wR), (.ref (own_of q1 (own_max q2 q3) wD wR))])) X17 hx rfl rfl rfl (pc0 := 107) (pc' := 112) (same := true) rfl (hb hby at_107) rfl (decide_eq_true (congrArg Value.ref (own_ofF hH))) (by decide) (by decide) ?_
        show Steps p.tables e below (T17.setTop (mkF m 112 #[.val (.long q1), .second, .val (.long q2), .second, .val (.long q3), .second, .val (.ref (own_of q1 q1 wD wR)), .val (.long (own_min q2 q3)), .second, .val (.long (own_max q2 q3)), .second, .val (.ref (own_of q1 (own_min q2 q3) wD wR)), .val (.ref (own_of q1 (own_max q2 q3) wD wR))] [])) _
        refine XS.aload X17.here hx rfl (hb hby at_112) rfl rfl ?_
        show Steps p.tables e below (T17.setTop (mkF m 114 #[.val (.long q1), .second, .val (.long q2), .second, .val (.long q3), .second, .val (.ref (own_of q1 q1 wD wR)), .val (.long (own_min q2 q3)), .second, .val (.long (own_max q2 q3)), .second, .val (.ref (own_of q1 (own_min q2 q3) wD wR)), .val (.ref (own_of q1 (own_max q2 q3) wD wR))] [(.ref (own_of q1 (own_min q2 q3) wD wR))])) _
        refine st18 _ ?_
        show Steps p.tables e below (T18.setTop (mkF m 117 #[.val (.long q1), .second, .val (.long q2), .second, .val (.long q3), .second, .val (.ref (own_of q1 q1 wD wR)), .val (.long (own_min q2 q3)), .second, .val (.long (own_max q2 q3)), .second, .val (.ref (own_of q1 (own_min q2 q3) wD wR)), .val (.ref (own_of q1 (own_max q2 q3) wD wR))] [(.ref wR), (.ref (own_of q1 (own_min q2 q3) wD wR))])) _
        refine Jvm.RoadKit.acmp (g := (mkF m 117 #[.val (.long q1), .second, .val (.long q2), .second, .val (.long q3), .second, .val (.ref (own_of q1 q1 wD wR)), .val (.long (own_min q2 q3)), .second, .val (.long (own_max q2 q3)), .second, .val (.ref (own_of q1 (own_min q2 q3) wD wR)), .val (.ref (own_of q1 (own_max q2 q3) wD wR))] [(.ref wR), (.ref (own_of q1 (own_min q2 q3) wD wR))])) X18 hx rfl rfl rfl (pc0 := 117) (pc' := 120) (same := true) rfl (hb hby at_117) rfl (decide_eq_true (congrArg Value.ref (own_ofF hL))) (by decide) (by decide) ?_
        show Steps p.tables e below (T18.setTop (mkF m 120 #[.val (.long q1), .second, .val (.long q2), .second, .val (.long q3), .second, .val (.ref (own_of q1 q1 wD wR)), .val (.long (own_min q2 q3)), .second, .val (.long (own_max q2 q3)), .second, .val (.ref (own_of q1 (own_min q2 q3) wD wR)), .val (.ref (own_of q1 (own_max q2 q3) wD wR))] [])) _
        refine XS.aload X18.here hx rfl (hb hby at_120) rfl rfl ?_
        show Steps p.tables e below (T18.setTop (mkF m 122 #[.val (.long q1), .second, .val (.long q2), .second, .val (.long q3), .second, .val (.ref (own_of q1 q1 wD wR)), .val (.long (own_min q2 q3)), .second, .val (.long (own_max q2 q3)), .second, .val (.ref (own_of q1 (own_min q2 q3) wD wR)), .val (.ref (own_of q1 (own_max q2 q3) wD wR))] [(.ref (own_of q1 (own_max q2 q3) wD wR))])) _
        refine st19 _ ?_
        show Steps p.tables e below (T19.setTop (mkF m 125 #[.val (.long q1), .second, .val (.long q2), .second, .val (.long q3), .second, .val (.ref (own_of q1 q1 wD wR)), .val (.long (own_min q2 q3)), .second, .val (.long (own_max q2 q3)), .second, .val (.ref (own_of q1 (own_min q2 q3) wD wR)), .val (.ref (own_of q1 (own_max q2 q3) wD wR))] [(.ref wR), (.ref (own_of q1 (own_max q2 q3) wD wR))])) _
        refine Jvm.RoadKit.acmp (g := (mkF m 125 #[.val (.long q1), .second, .val (.long q2), .second, .val (.long q3), .second, .val (.ref (own_of q1 q1 wD wR)), .val (.long (own_min q2 q3)), .second, .val (.long (own_max q2 q3)), .second, .val (.ref (own_of q1 (own_min q2 q3) wD wR)), .val (.ref (own_of q1 (own_max q2 q3) wD wR))] [(.ref wR), (.ref (own_of q1 (own_max q2 q3) wD wR))])) X19 hx rfl rfl rfl (pc0 := 125) (pc' := 130) (same := true) rfl (hb hby at_125) rfl (decide_eq_true (congrArg Value.ref (own_ofF hH))) (by decide) (by decide) ?_
        show Steps p.tables e below (T19.setTop (mkF m 130 #[.val (.long q1), .second, .val (.long q2), .second, .val (.long q3), .second, .val (.ref (own_of q1 q1 wD wR)), .val (.long (own_min q2 q3)), .second, .val (.long (own_max q2 q3)), .second, .val (.ref (own_of q1 (own_min q2 q3) wD wR)), .val (.ref (own_of q1 (own_max q2 q3) wD wR))] [])) _
        refine XS.iconst X19.here hx rfl (hb hby at_130) ?_
        show Steps p.tables e below (T19.setTop (mkF m 131 #[.val (.long q1), .second, .val (.long q2), .second, .val (.long q3), .second, .val (.ref (own_of q1 q1 wD wR)), .val (.long (own_min q2 q3)), .second, .val (.long (own_max q2 q3)), .second, .val (.ref (own_of q1 (own_min q2 q3) wD wR)), .val (.ref (own_of q1 (own_max q2 q3) wD wR))] [(.int (1 : Int32))])) _
        exact retN X19 hx (t := .boolean) Bd.returns (by simp) (hb hby at_131) hr
      · show Q_rm0 Z q1 q2 q3 wD wR h0 n0 _ T19.heap _
        rw [e19]
        exact ⟨rfl, N7⟩
  · obtain ⟨_, _, ⟨T20, L20, k20, n20⟩, -, X20, ⟨Lc20, hQ20, l20, y20, z20⟩, st20⟩ := Jvm.LawKit.callS X2 hx (y := (⟨"com/example/sandglass/sandglass/JobState", "ofWaiting", "(JJ)Lcom/example/sandglass/sandglass/JobState;"⟩ : MethodName)) hown (mvT hZ (hw _ (List.mem_of_getElem? (i := 0) rfl))) (mvT hZ (hw _ (List.mem_of_getElem? (i := 1) rfl))) (mvT hZ (hw _ (List.mem_of_getElem? (i := 2) rfl))) (mvT hZ (hw _ (List.mem_of_getElem? (i := 3) rfl))) (by decide) (backOf (W := 0) (rm1 l Z a0 hw [] q1 (q1 - (1 : Int64)) wD wR h0 n0 Z0 S_READY S_DELAYED) hZ (hw _ (List.mem_of_getElem? (i := 3) rfl)) (hw _ (List.mem_of_getElem? (i := 2) rfl)) (by decide) (by decide)) (g := (mkF m 29 #[.val (.long q1), .second, .val (.long q2), .second, .val (.long q3), .second, .val (.ref (own_of q1 q1 wD wR)), .unset, .unset, .unset, .unset, .unset, .unset] [(.long (q1 - (1 : Int64))), (.long q1)])) rfl (by rw [hml]; rfl) (argsL := [(.long q1), (.long (q1 - (1 : Int64)))]) (rest := []) (lenOf pd__28JJ_29Lcom_2fexample_2fsandglass_2fsandglass_2fJobState_3b rfl) rfl (by show 2 * 0 + _ ≤ _; exact Nat.le_of_eq rfl) (hb hby at_29) (fun _ _ => ⟨rfl, e2, (by decide : 0 + 0 ≤ _), (by decide : 0 + 0 ≤ _)⟩)
    dsimp only [Pt.U, Pt.locs, Pt.cells, Pt.slots] at X20 l20 y20 z20 st20 hQ20
    subst l20 y20 z20
    obtain ⟨rfl, N20q, e20⟩ := hQ20
    have N20 := Fr.app N1 N20q
    obtain ⟨T21, X21, e21, st21⟩ := getS2 X20 hx hZ hown (host := "") (Or.inl (hw _ (List.mem_of_getElem? (i := 10) rfl))) Via.refl e20 S_DELAYED (g := (mkF m 36 #[.val (.long q1), .second, .val (.long q2), .second, .val (.long q3), .second, .val (.ref (own_of q1 q1 wD wR)), .val (.ref (own_of q1 (q1 - (1 : Int64)) wD wR)), .unset, .unset, .unset, .unset, .unset] [(.ref (own_of q1 (q1 - (1 : Int64)) wD wR))])) rfl (hb hby at_36)
    obtain ⟨_, _, ⟨T22, L22, k22, n22⟩, -, X22, ⟨Lc22, hQ22, l22, y22, z22⟩, st22⟩ := Jvm.LawKit.callS X21 hx (y := (⟨"java/lang/Math", "min", "(JJ)J"⟩ : MethodName)) hown (mvT hZ (hw _ (List.mem_of_getElem? (i := 11) rfl))) (mvT hZ (hw _ (List.mem_of_getElem? (i := 12) rfl))) (mvT hZ (hw _ (List.mem_of_getElem? (i := 13) rfl))) (mvT hZ (hw _ (List.mem_of_getElem? (i := 14) rfl))) (by decide) (backOf (W := 0) (rm2 l Z a0 hw [] q2 q3 h0 n0 Z0 ) hZ (hw _ (List.mem_of_getElem? (i := 14) rfl)) (hw _ (List.mem_of_getElem? (i := 13) rfl)) (by decide) (by decide)) (g := (mkF m 47 #[.val (.long q1), .second, .val (.long q2), .second, .val (.long q3), .second, .val (.ref (own_of q1 q1 wD wR)), .val (.ref (own_of q1 (q1 - (1 : Int64)) wD wR)), .unset, .unset, .unset, .unset, .unset] [(.long q3), (.long q2)])) rfl (by rw [hml]; rfl) (argsL := [(.long q2), (.long q3)]) (rest := []) (lenOf pd__28JJ_29J rfl) rfl (by show 2 * 0 + _ ≤ _; exact Nat.le_of_eq rfl) (hb hby at_47) (fun _ _ => ⟨rfl, e21, (by decide : 0 + 0 ≤ _), (by decide : 0 + 0 ≤ _)⟩)
    dsimp only [Pt.U, Pt.locs, Pt.cells, Pt.slots] at X22 l22 y22 z22 st22 hQ22
    subst l22 y22 z22
    obtain ⟨rfl, N22q, e22⟩ := hQ22
    have N22 := Fr.app N20 N22q
    obtain ⟨_, _, ⟨T23, L23, k23, n23⟩, -, X23, ⟨Lc23, hQ23, l23, y23, z23⟩, st23⟩ := Jvm.LawKit.callS X22 hx (y := (⟨"java/lang/Math", "max", "(JJ)J"⟩ : MethodName)) hown (mvT hZ (hw _ (List.mem_of_getElem? (i := 15) rfl))) (mvT hZ (hw _ (List.mem_of_getElem? (i := 16) rfl))) (mvT hZ (hw _ (List.mem_of_getElem? (i := 13) rfl))) (mvT hZ (hw _ (List.mem_of_getElem? (i := 17) rfl))) (by decide) (backOf (W := 0) (rm3 l Z a0 hw [] q2 q3 h0 n0 Z0 ) hZ (hw _ (List.mem_of_getElem? (i := 17) rfl)) (hw _ (List.mem_of_getElem? (i := 13) rfl)) (by decide) (by decide)) (g := (mkF m 55 #[.val (.long q1), .second, .val (.long q2), .second, .val (.long q3), .second, .val (.ref (own_of q1 q1 wD wR)), .val (.long (own_min q2 q3)), .second, .unset, .unset, .unset, .unset] [(.long q3), (.long q2)])) rfl (by rw [hml]; rfl) (argsL := [(.long q2), (.long q3)]) (rest := []) (lenOf pd__28JJ_29J rfl) rfl (by show 2 * 0 + _ ≤ _; exact Nat.le_of_eq rfl) (hb hby at_55) (fun _ _ => ⟨rfl, e22, (by decide : 0 + 0 ≤ _), (by decide : 0 + 0 ≤ _)⟩)
    dsimp only [Pt.U, Pt.locs, Pt.cells, Pt.slots] at X23 l23 y23 z23 st23 hQ23
    subst l23 y23 z23
    obtain ⟨rfl, N23q, e23⟩ := hQ23
    have N23 := Fr.app N22 N23q
    obtain ⟨_, _, ⟨T24, L24, k24, n24⟩, -, X24, ⟨Lc24, hQ24, l24, y24, z24⟩, st24⟩ := Jvm.LawKit.callS X23 hx (y := (⟨"com/example/sandglass/sandglass/JobState", "ofWaiting", "(JJ)Lcom/example/sandglass/sandglass/JobState;"⟩ : MethodName)) hown (mvT hZ (hw _ (List.mem_of_getElem? (i := 0) rfl))) (mvT hZ (hw _ (List.mem_of_getElem? (i := 1) rfl))) (mvT hZ (hw _ (List.mem_of_getElem? (i := 2) rfl))) (mvT hZ (hw _ (List.mem_of_getElem? (i := 3) rfl))) (by decide) (backOf (W := 0) (rm1 l Z a0 hw [] q1 (own_min q2 q3) wD wR h0 n0 Z0 S_READY S_DELAYED) hZ (hw _ (List.mem_of_getElem? (i := 3) rfl)) (hw _ (List.mem_of_getElem? (i := 2) rfl)) (by decide) (by decide)) (g := (mkF m 63 #[.val (.long q1), .second, .val (.long q2), .second, .val (.long q3), .second, .val (.ref (own_of q1 q1 wD wR)), .val (.long (own_min q2 q3)), .second, .val (.long (own_max q2 q3)), .second, .unset, .unset] [(.long (own_min q2 q3)), (.long q1)])) rfl (by rw [hml]; rfl) (argsL := [(.long q1), (.long (own_min q2 q3))]) (rest := []) (lenOf pd__28JJ_29Lcom_2fexample_2fsandglass_2fsandglass_2fJobState_3b rfl) rfl (by show 2 * 0 + _ ≤ _; exact Nat.le_of_eq rfl) (hb hby at_63) (fun _ _ => ⟨rfl, e23, (by decide : 0 + 0 ≤ _), (by decide : 0 + 0 ≤ _)⟩)
    dsimp only [Pt.U, Pt.locs, Pt.cells, Pt.slots] at X24 l24 y24 z24 st24 hQ24
    subst l24 y24 z24
    obtain ⟨rfl, N24q, e24⟩ := hQ24
    have N24 := Fr.app N23 N24q
    obtain ⟨_, _, ⟨T25, L25, k25, n25⟩, -, X25, ⟨Lc25, hQ25, l25, y25, z25⟩, st25⟩ := Jvm.LawKit.callS X24 hx (y := (⟨"com/example/sandglass/sandglass/JobState", "ofWaiting", "(JJ)Lcom/example/sandglass/sandglass/JobState;"⟩ : MethodName)) hown (mvT hZ (hw _ (List.mem_of_getElem? (i := 0) rfl))) (mvT hZ (hw _ (List.mem_of_getElem? (i := 1) rfl))) (mvT hZ (hw _ (List.mem_of_getElem? (i := 2) rfl))) (mvT hZ (hw _ (List.mem_of_getElem? (i := 3) rfl))) (by decide) (backOf (W := 0) (rm1 l Z a0 hw [] q1 (own_max q2 q3) wD wR h0 n0 Z0 S_READY S_DELAYED) hZ (hw _ (List.mem_of_getElem? (i := 3) rfl)) (hw _ (List.mem_of_getElem? (i := 2) rfl)) (by decide) (by decide)) (g := (mkF m 71 #[.val (.long q1), .second, .val (.long q2), .second, .val (.long q3), .second, .val (.ref (own_of q1 q1 wD wR)), .val (.long (own_min q2 q3)), .second, .val (.long (own_max q2 q3)), .second, .val (.ref (own_of q1 (own_min q2 q3) wD wR)), .unset] [(.long (own_max q2 q3)), (.long q1)])) rfl (by rw [hml]; rfl) (argsL := [(.long q1), (.long (own_max q2 q3))]) (rest := []) (lenOf pd__28JJ_29Lcom_2fexample_2fsandglass_2fsandglass_2fJobState_3b rfl) rfl (by show 2 * 0 + _ ≤ _; exact Nat.le_of_eq rfl) (hb hby at_71) (fun _ _ => ⟨rfl, e24, (by decide : 0 + 0 ≤ _), (by decide : 0 + 0 ≤ _)⟩)
    dsimp only [Pt.U, Pt.locs, Pt.cells, Pt.slots] at X25 l25 y25 z25 st25 hQ25
    subst l25 y25 z25
    obtain ⟨rfl, N25q, e25⟩ := hQ25
    have N25 := Fr.app N24 N25q
    obtain ⟨T26, X26, e26, st26⟩ := getS2 X25 hx hZ hown (host := "") (Or.inl (hw _ (List.mem_of_getElem? (i := 10) rfl))) Via.refl e25 S_DELAYED (g := (mkF m 78 #[.val (.long q1), .second, .val (.long q2), .second, .val (.long q3), .second, .val (.ref (own_of q1 q1 wD wR)), .val (.long (own_min q2 q3)), .second, .val (.long (own_max q2 q3)), .second, .val (.ref (own_of q1 (own_min q2 q3) wD wR)), .val (.ref (own_of q1 (own_max q2 q3) wD wR))] [(.ref (own_of q1 (own_min q2 q3) wD wR))])) rfl (hb hby at_78)
    have pre27 : ∀ t, Steps p.tables e below (T26.setTop (mkF m 81 #[.val (.long q1), .second, .val (.long q2), .second, .val (.long q3), .second, .val (.ref (own_of q1 q1 wD wR)), .val (.long (own_min q2 q3)), .second, .val (.long (own_max q2 q3)), .second, .val (.ref (own_of q1 (own_min q2 q3) wD wR)), .val (.ref (own_of q1 (own_max q2 q3) wD wR))] [(.ref wD), (.ref (own_of q1 (own_min q2 q3) wD wR))])) t → Steps p.tables e below (s₁.setTop (entryFrame m #[(.long q1), (.long q2), (.long q3)] maxLocals)) t := fun t kt => by
      refine pre3 t ?_
      show Steps p.tables e below (T2.setTop (mkF m 22 #[.val (.long q1), .second, .val (.long q2), .second, .val (.long q3), .second, .val (.ref (own_of q1 q1 wD wR)), .unset, .unset, .unset, .unset, .unset, .unset] [(.int (lcmpW q1 (-9223372036854775808 : Int64)))])) _
      refine XS.ifNo X2.here hx rfl (hb hby at_22) rfl (own_leqF hM) ?_
      show Steps p.tables e below (T2.setTop (mkF m 25 #[.val (.long q1), .second, .val (.long q2), .second, .val (.long q3), .second, .val (.ref (own_of q1 q1 wD wR)), .unset, .unset, .unset, .unset, .unset, .unset] [])) _
      refine XS.lloadN X2.here hx rfl (hb hby at_25) rfl ?_
      show Steps p.tables e below (T2.setTop (mkF m 26 #[.val (.long q1), .second, .val (.long q2), .second, .val (.long q3), .second, .val (.ref (own_of q1 q1 wD wR)), .unset, .unset, .unset, .unset, .unset, .unset] [(.long q1)])) _
      refine XS.lloadN X2.here hx rfl (hb hby at_26) rfl ?_
      show Steps p.tables e below (T2.setTop (mkF m 27 #[.val (.long q1), .second, .val (.long q2), .second, .val (.long q3), .second, .val (.ref (own_of q1 q1 wD wR)), .unset, .unset, .unset, .unset, .unset, .unset] [(.long q1), (.long q1)])) _
      refine XS.lconst X2.here hx rfl (hb hby at_27) ?_
      show Steps p.tables e below (T2.setTop (mkF m 28 #[.val (.long q1), .second, .val (.long q2), .second, .val (.long q3), .second, .val (.ref (own_of q1 q1 wD wR)), .unset, .unset, .unset, .unset, .unset, .unset] [(.long (1 : Int64)), (.long q1), (.long q1)])) _
      refine XS.lsub X2.here hx rfl (hb hby at_28) rfl ?_
      show Steps p.tables e below (T2.setTop (mkF m 29 #[.val (.long q1), .second, .val (.long q2), .second, .val (.long q3), .second, .val (.ref (own_of q1 q1 wD wR)), .unset, .unset, .unset, .unset, .unset, .unset] [(.long (q1 - (1 : Int64))), (.long q1)])) _
      refine st20 _ ?_
      show Steps p.tables e below (T20.setTop (mkF m 32 #[.val (.long q1), .second, .val (.long q2), .second, .val (.long q3), .second, .val (.ref (own_of q1 q1 wD wR)), .unset, .unset, .unset, .unset, .unset, .unset] [(.ref (own_of q1 (q1 - (1 : Int64)) wD wR))])) _
      refine XS.astore X20.here hx rfl (hb hby at_32) rfl rfl (l' := #[.val (.long q1), .second, .val (.long q2), .second, .val (.long q3), .second, .val (.ref (own_of q1 q1 wD wR)), .val (.ref (own_of q1 (q1 - (1 : Int64)) wD wR)), .unset, .unset, .unset, .unset, .unset]) rfl ?_
      show Steps p.tables e below (T20.setTop (mkF m 34 #[.val (.long q1), .second, .val (.long q2), .second, .val (.long q3), .second, .val (.ref (own_of q1 q1 wD wR)), .val (.ref (own_of q1 (q1 - (1 : Int64)) wD wR)), .unset, .unset, .unset, .unset, .unset] [])) _
      refine XS.aload X20.here hx rfl (hb hby at_34) rfl rfl ?_
      show Steps p.tables e below (T20.setTop (mkF m 36 #[.val (.long q1), .second, .val (.long q2), .second, .val (.long q3), .second, .val (.ref (own_of q1 q1 wD wR)), .val (.ref (own_of q1 (q1 - (1 : Int64)) wD wR)), .unset, .unset, .unset, .unset, .unset] [(.ref (own_of q1 (q1 - (1 : Int64)) wD wR))])) _
      refine st21 _ ?_
      show Steps p.tables e below (T21.setTop (mkF m 39 #[.val (.long q1), .second, .val (.long q2), .second, .val (.long q3), .second, .val (.ref (own_of q1 q1 wD wR)), .val (.ref (own_of q1 (q1 - (1 : Int64)) wD wR)), .unset, .unset, .unset, .unset, .unset] [(.ref wD), (.ref (own_of q1 (q1 - (1 : Int64)) wD wR))])) _
      refine Jvm.RoadKit.acmp (g := (mkF m 39 #[.val (.long q1), .second, .val (.long q2), .second, .val (.long q3), .second, .val (.ref (own_of q1 q1 wD wR)), .val (.ref (own_of q1 (q1 - (1 : Int64)) wD wR)), .unset, .unset, .unset, .unset, .unset] [(.ref wD), (.ref (own_of q1 (q1 - (1 : Int64)) wD wR))])) X21 hx rfl rfl rfl (pc0 := 39) (pc' := 44) (same := true) rfl (hb hby at_39) rfl (decide_eq_true (congrArg Value.ref (own_ofT (own_pred hM)))) (by decide) (by decide) ?_
      show Steps p.tables e below (T21.setTop (mkF m 44 #[.val (.long q1), .second, .val (.long q2), .second, .val (.long q3), .second, .val (.ref (own_of q1 q1 wD wR)), .val (.ref (own_of q1 (q1 - (1 : Int64)) wD wR)), .unset, .unset, .unset, .unset, .unset] [])) _
      refine XS.lloadN X21.here hx rfl (hb hby at_44) rfl ?_
      show Steps p.tables e below (T21.setTop (mkF m 45 #[.val (.long q1), .second, .val (.long q2), .second, .val (.long q3), .second, .val (.ref (own_of q1 q1 wD wR)), .val (.ref (own_of q1 (q1 - (1 : Int64)) wD wR)), .unset, .unset, .unset, .unset, .unset] [(.long q2)])) _
      refine XS.lload X21.here hx rfl (hb hby at_45) rfl ?_
      show Steps p.tables e below (T21.setTop (mkF m 47 #[.val (.long q1), .second, .val (.long q2), .second, .val (.long q3), .second, .val (.ref (own_of q1 q1 wD wR)), .val (.ref (own_of q1 (q1 - (1 : Int64)) wD wR)), .unset, .unset, .unset, .unset, .unset] [(.long q3), (.long q2)])) _
      refine st22 _ ?_
      show Steps p.tables e below (T22.setTop (mkF m 50 #[.val (.long q1), .second, .val (.long q2), .second, .val (.long q3), .second, .val (.ref (own_of q1 q1 wD wR)), .val (.ref (own_of q1 (q1 - (1 : Int64)) wD wR)), .unset, .unset, .unset, .unset, .unset] [(.long (own_min q2 q3))])) _
      refine XS.lstore X22.here hx rfl (hb hby at_50) rfl (l' := #[.val (.long q1), .second, .val (.long q2), .second, .val (.long q3), .second, .val (.ref (own_of q1 q1 wD wR)), .val (.long (own_min q2 q3)), .second, .unset, .unset, .unset, .unset]) rfl ?_
      show Steps p.tables e below (T22.setTop (mkF m 52 #[.val (.long q1), .second, .val (.long q2), .second, .val (.long q3), .second, .val (.ref (own_of q1 q1 wD wR)), .val (.long (own_min q2 q3)), .second, .unset, .unset, .unset, .unset] [])) _
      refine XS.lloadN X22.here hx rfl (hb hby at_52) rfl ?_
      show Steps p.tables e below (T22.setTop (mkF m 53 #[.val (.long q1), .second, .val (.long q2), .second, .val (.long q3), .second, .val (.ref (own_of q1 q1 wD wR)), .val (.long (own_min q2 q3)), .second, .unset, .unset, .unset, .unset] [(.long q2)])) _
      refine XS.lload X22.here hx rfl (hb hby at_53) rfl ?_
      show Steps p.tables e below (T22.setTop (mkF m 55 #[.val (.long q1), .second, .val (.long q2), .second, .val (.long q3), .second, .val (.ref (own_of q1 q1 wD wR)), .val (.long (own_min q2 q3)), .second, .unset, .unset, .unset, .unset] [(.long q3), (.long q2)])) _
      refine st23 _ ?_
      show Steps p.tables e below (T23.setTop (mkF m 58 #[.val (.long q1), .second, .val (.long q2), .second, .val (.long q3), .second, .val (.ref (own_of q1 q1 wD wR)), .val (.long (own_min q2 q3)), .second, .unset, .unset, .unset, .unset] [(.long (own_max q2 q3))])) _
      refine XS.lstore X23.here hx rfl (hb hby at_58) rfl (l' := #[.val (.long q1), .second, .val (.long q2), .second, .val (.long q3), .second, .val (.ref (own_of q1 q1 wD wR)), .val (.long (own_min q2 q3)), .second, .val (.long (own_max q2 q3)), .second, .unset, .unset]) rfl ?_
      show Steps p.tables e below (T23.setTop (mkF m 60 #[.val (.long q1), .second, .val (.long q2), .second, .val (.long q3), .second, .val (.ref (own_of q1 q1 wD wR)), .val (.long (own_min q2 q3)), .second, .val (.long (own_max q2 q3)), .second, .unset, .unset] [])) _
      refine XS.lloadN X23.here hx rfl (hb hby at_60) rfl ?_
      show Steps p.tables e below (T23.setTop (mkF m 61 #[.val (.long q1), .second, .val (.long q2), .second, .val (.long q3), .second, .val (.ref (own_of q1 q1 wD wR)), .val (.long (own_min q2 q3)), .second, .val (.long (own_max q2 q3)), .second, .unset, .unset] [(.long q1)])) _
      refine XS.lload X23.here hx rfl (hb hby at_61) rfl ?_
      show Steps p.tables e below (T23.setTop (mkF m 63 #[.val (.long q1), .second, .val (.long q2), .second, .val (.long q3), .second, .val (.ref (own_of q1 q1 wD wR)), .val (.long (own_min q2 q3)), .second, .val (.long (own_max q2 q3)), .second, .unset, .unset] [(.long (own_min q2 q3)), (.long q1)])) _
      refine st24 _ ?_
      show Steps p.tables e below (T24.setTop (mkF m 66 #[.val (.long q1), .second, .val (.long q2), .second, .val (.long q3), .second, .val (.ref (own_of q1 q1 wD wR)), .val (.long (own_min q2 q3)), .second, .val (.long (own_max q2 q3)), .second, .unset, .unset] [(.ref (own_of q1 (own_min q2 q3) wD wR))])) _
      refine XS.astore X24.here hx rfl (hb hby at_66) rfl rfl (l' := #[.val (.long q1), .second, .val (.long q2), .second, .val (.long q3), .second, .val (.ref (own_of q1 q1 wD wR)), .val (.long (own_min q2 q3)), .second, .val (.long (own_max q2 q3)), .second, .val (.ref (own_of q1 (own_min q2 q3) wD wR)), .unset]) rfl ?_
      show Steps p.tables e below (T24.setTop (mkF m 68 #[.val (.long q1), .second, .val (.long q2), .second, .val (.long q3), .second, .val (.ref (own_of q1 q1 wD wR)), .val (.long (own_min q2 q3)), .second, .val (.long (own_max q2 q3)), .second, .val (.ref (own_of q1 (own_min q2 q3) wD wR)), .unset] [])) _
      refine XS.lloadN X24.here hx rfl (hb hby at_68) rfl ?_
      show Steps p.tables e below (T24.setTop (mkF m 69 #[.val (.long q1), .second, .val (.long q2), .second, .val (.long q3), .second, .val (.ref (own_of q1 q1 wD wR)), .val (.long (own_min q2 q3)), .second, .val (.long (own_max q2 q3)), .second, .val (.ref (own_of q1 (own_min q2 q3) wD wR)), .unset] [(.long q1)])) _
      refine XS.lload X24.here hx rfl (hb hby at_69) rfl ?_
      show Steps p.tables e below (T24.setTop (mkF m 71 #[.val (.long q1), .second, .val (.long q2), .second, .val (.long q3), .second, .val (.ref (own_of q1 q1 wD wR)), .val (.long (own_min q2 q3)), .second, .val (.long (own_max q2 q3)), .second, .val (.ref (own_of q1 (own_min q2 q3) wD wR)), .unset] [(.long (own_max q2 q3)), (.long q1)])) _
      refine st25 _ ?_
      show Steps p.tables e below (T25.setTop (mkF m 74 #[.val (.long q1), .second, .val (.long q2), .second, .val (.long q3), .second, .val (.ref (own_of q1 q1 wD wR)), .val (.long (own_min q2 q3)), .second, .val (.long (own_max q2 q3)), .second, .val (.ref (own_of q1 (own_min q2 q3) wD wR)), .unset] [(.ref (own_of q1 (own_max q2 q3) wD wR))])) _
      refine XS.astore X25.here hx rfl (hb hby at_74) rfl rfl (l' := #[.val (.long q1), .second, .val (.long q2), .second, .val (.long q3), .second, .val (.ref (own_of q1 q1 wD wR)), .val (.long (own_min q2 q3)), .second, .val (.long (own_max q2 q3)), .second, .val (.ref (own_of q1 (own_min q2 q3) wD wR)), .val (.ref (own_of q1 (own_max q2 q3) wD wR))]) rfl ?_
      show Steps p.tables e below (T25.setTop (mkF m 76 #[.val (.long q1), .second, .val (.long q2), .second, .val (.long q3), .second, .val (.ref (own_of q1 q1 wD wR)), .val (.long (own_min q2 q3)), .second, .val (.long (own_max q2 q3)), .second, .val (.ref (own_of q1 (own_min q2 q3) wD wR)), .val (.ref (own_of q1 (own_max q2 q3) wD wR))] [])) _
      refine XS.aload X25.here hx rfl (hb hby at_76) rfl rfl ?_
      show Steps p.tables e below (T25.setTop (mkF m 78 #[.val (.long q1), .second, .val (.long q2), .second, .val (.long q3), .second, .val (.ref (own_of q1 q1 wD wR)), .val (.long (own_min q2 q3)), .second, .val (.long (own_max q2 q3)), .second, .val (.ref (own_of q1 (own_min q2 q3) wD wR)), .val (.ref (own_of q1 (own_max q2 q3) wD wR))] [(.ref (own_of q1 (own_min q2 q3) wD wR))])) _
      refine st26 _ ?_
      exact kt
    by_cases hL : (own_min q2 q3) < q1
    · obtain ⟨T28, X28, e28, st28⟩ := getS2 X26 hx hZ hown (host := "") (Or.inl (hw _ (List.mem_of_getElem? (i := 10) rfl))) Via.refl e26 S_DELAYED (g := (mkF m 96 #[.val (.long q1), .second, .val (.long q2), .second, .val (.long q3), .second, .val (.ref (own_of q1 q1 wD wR)), .val (.long (own_min q2 q3)), .second, .val (.long (own_max q2 q3)), .second, .val (.ref (own_of q1 (own_min q2 q3) wD wR)), .val (.ref (own_of q1 (own_max q2 q3) wD wR))] [(.ref (own_of q1 (own_max q2 q3) wD wR))])) rfl (hb hby at_96)
      have pre29 : ∀ t, Steps p.tables e below (T28.setTop (mkF m 99 #[.val (.long q1), .second, .val (.long q2), .second, .val (.long q3), .second, .val (.ref (own_of q1 q1 wD wR)), .val (.long (own_min q2 q3)), .second, .val (.long (own_max q2 q3)), .second, .val (.ref (own_of q1 (own_min q2 q3) wD wR)), .val (.ref (own_of q1 (own_max q2 q3) wD wR))] [(.ref wD), (.ref (own_of q1 (own_max q2 q3) wD wR))])) t → Steps p.tables e below (s₁.setTop (entryFrame m #[(.long q1), (.long q2), (.long q3)] maxLocals)) t := fun t kt => by
        refine pre27 t ?_
        show Steps p.tables e below (T26.setTop (mkF m 81 #[.val (.long q1), .second, .val (.long q2), .second, .val (.long q3), .second, .val (.ref (own_of q1 q1 wD wR)), .val (.long (own_min q2 q3)), .second, .val (.long (own_max q2 q3)), .second, .val (.ref (own_of q1 (own_min q2 q3) wD wR)), .val (.ref (own_of q1 (own_max q2 q3) wD wR))] [(.ref wD), (.ref (own_of q1 (own_min q2 q3) wD wR))])) _
        refine Jvm.RoadKit.acmp (g := (mkF m 81 #[.val (.long q1), .second, .val (.long q2), .second, .val (.long q3), .second, .val (.ref (own_of q1 q1 wD wR)), .val (.long (own_min q2 q3)), .second, .val (.long (own_max q2 q3)), .second, .val (.ref (own_of q1 (own_min q2 q3) wD wR)), .val (.ref (own_of q1 (own_max q2 q3) wD wR))] [(.ref wD), (.ref (own_of q1 (own_min q2 q3) wD wR))])) X26 hx rfl rfl rfl (pc0 := 81) (pc' := 94) (same := true) rfl (hb hby at_81) rfl (decide_eq_true (congrArg Value.ref (own_ofT hL))) (by decide) (by decide) ?_
        show Steps p.tables e below (T26.setTop (mkF m 94 #[.val (.long q1), .second, .val (.long q2), .second, .val (.long q3), .second, .val (.ref (own_of q1 q1 wD wR)), .val (.long (own_min q2 q3)), .second, .val (.long (own_max q2 q3)), .second, .val (.ref (own_of q1 (own_min q2 q3) wD wR)), .val (.ref (own_of q1 (own_max q2 q3) wD wR))] [])) _
        refine XS.aload X26.here hx rfl (hb hby at_94) rfl rfl ?_
        show Steps p.tables e below (T26.setTop (mkF m 96 #[.val (.long q1), .second, .val (.long q2), .second, .val (.long q3), .second, .val (.ref (own_of q1 q1 wD wR)), .val (.long (own_min q2 q3)), .second, .val (.long (own_max q2 q3)), .second, .val (.ref (own_of q1 (own_min q2 q3) wD wR)), .val (.ref (own_of q1 (own_max q2 q3) wD wR))] [(.ref (own_of q1 (own_max q2 q3) wD wR))])) _
        refine st28 _ ?_
        exact kt
      by_cases hH : (own_max q2 q3) < q1
      · obtain ⟨T30, X30, e30, st30⟩ := getS2 X28 hx hZ hown (host := "") (Or.inl (hw _ (List.mem_of_getElem? (i := 6) rfl))) Via.refl e28 S_READY (g := (mkF m 114 #[.val (.long q1), .second, .val (.long q2), .second, .val (.long q3), .second, .val (.ref (own_of q1 q1 wD wR)), .val (.long (own_min q2 q3)), .second, .val (.long (own_max q2 q3)), .second, .val (.ref (own_of q1 (own_min q2 q3) wD wR)), .val (.ref (own_of q1 (own_max q2 q3) wD wR))] [(.ref (own_of q1 (own_min q2 q3) wD wR))])) rfl (hb hby at_114)
        obtain ⟨fs, hr, hrun, hended, hW, hsame⟩ := X30.leave (v := some (.int (1 : Int32))) (fun h => by rw [Bd.returns] at h; cases h)
        refine ⟨_, _, pre29 _ ?_, hrun, hended, _, _, rfl, ?_, ⟨_, rfl⟩, hW, hsame.mono (by decide) (by decide)⟩
        · show Steps p.tables e below (T28.setTop (mkF m 99 #[.val (.long q1), .second, .val (.long q2), .second, .val (.long q3), .second, .val (.ref (own_of q1 q1 wD wR)), .val (.long (own_min q2 q3)), .second, .val (.long (own_max q2 q3)), .second, .val (.ref (own_of q1 (own_min q2 q3) wD wR)), .val (.ref (own_of q1 (own_max q2 q3) wD wR))] [(.ref wD), (.ref (own_of q1 (own_max q2 q3) wD wR))])) _
          refine Jvm.RoadKit.acmp (g := (mkF m 99 #[.val (.long q1), .second, .val (.long q2), .second, .val (.long q3), .second, .val (.ref (own_of q1 q1 wD wR)), .val (.long (own_min q2 q3)), .second, .val (.long (own_max q2 q3)), .second, .val (.ref (own_of q1 (own_min q2 q3) wD wR)), .val (.ref (own_of q1 (own_max q2 q3) wD wR))] [(.ref wD), (.ref (own_of q1 (own_max q2 q3) wD wR))])) X28 hx rfl rfl rfl (pc0 := 99) (pc' := 112) (same := true) rfl (hb hby at_99) rfl (decide_eq_true (congrArg Value.ref (own_ofT hH))) (by decide) (by decide) ?_
          show Steps p.tables e below (T28.setTop (mkF m 112 #[.val (.long q1), .second, .val (.long q2), .second, .val (.long q3), .second, .val (.ref (own_of q1 q1 wD wR)), .val (.long (own_min q2 q3)), .second, .val (.long (own_max q2 q3)), .second, .val (.ref (own_of q1 (own_min q2 q3) wD wR)), .val (.ref (own_of q1 (own_max q2 q3) wD wR))] [])) _
          refine XS.aload X28.here hx rfl (hb hby at_112) rfl rfl ?_
          show Steps p.tables e below (T28.setTop (mkF m 114 #[.val (.long q1), .second, .val (.long q2), .second, .val (.long q3), .second, .val (.ref (own_of q1 q1 wD wR)), .val (.long (own_min q2 q3)), .second, .val (.long (own_max q2 q3)), .second, .val (.ref (own_of q1 (own_min q2 q3) wD wR)), .val (.ref (own_of q1 (own_max q2 q3) wD wR))] [(.ref (own_of q1 (own_min q2 q3) wD wR))])) _
          refine st30 _ ?_
          show Steps p.tables e below (T30.setTop (mkF m 117 #[.val (.long q1), .second, .val (.long q2), .second, .val (.long q3), .second, .val (.ref (own_of q1 q1 wD wR)), .val (.long (own_min q2 q3)), .second, .val (.long (own_max q2 q3)), .second, .val (.ref (own_of q1 (own_min q2 q3) wD wR)), .val (.ref (own_of q1 (own_max q2 q3) wD wR))] [(.ref wR), (.ref (own_of q1 (own_min q2 q3) wD wR))])) _
          refine Jvm.RoadKit.acmp (g := (mkF m 117 #[.val (.long q1), .second, .val (.long q2), .second, .val (.long q3), .second, .val (.ref (own_of q1 q1 wD wR)), .val (.long (own_min q2 q3)), .second, .val (.long (own_max q2 q3)), .second, .val (.ref (own_of q1 (own_min q2 q3) wD wR)), .val (.ref (own_of q1 (own_max q2 q3) wD wR))] [(.ref wR), (.ref (own_of q1 (own_min q2 q3) wD wR))])) X30 hx rfl rfl rfl (pc0 := 117) (pc' := 130) (same := false) rfl (hb hby at_117) rfl (decide_eq_false fun q => hne ((Value.ref.inj q).symm.trans (own_ofT hL))) (by decide) (by decide) ?_
          show Steps p.tables e below (T30.setTop (mkF m 130 #[.val (.long q1), .second, .val (.long q2), .second, .val (.long q3), .second, .val (.ref (own_of q1 q1 wD wR)), .val (.long (own_min q2 q3)), .second, .val (.long (own_max q2 q3)), .second, .val (.ref (own_of q1 (own_min q2 q3) wD wR)), .val (.ref (own_of q1 (own_max q2 q3) wD wR))] [])) _
          refine XS.iconst X30.here hx rfl (hb hby at_130) ?_
          show Steps p.tables e below (T30.setTop (mkF m 131 #[.val (.long q1), .second, .val (.long q2), .second, .val (.long q3), .second, .val (.ref (own_of q1 q1 wD wR)), .val (.long (own_min q2 q3)), .second, .val (.long (own_max q2 q3)), .second, .val (.ref (own_of q1 (own_min q2 q3) wD wR)), .val (.ref (own_of q1 (own_max q2 q3) wD wR))] [(.int (1 : Int32))])) _
          exact retN X30 hx (t := .boolean) Bd.returns (by simp) (hb hby at_131) hr
        · show Q_rm0 Z q1 q2 q3 wD wR h0 n0 _ T30.heap _
          rw [e30]
          exact ⟨rfl, N25⟩
      · obtain ⟨T31, X31, e31, st31⟩ := getS2 X28 hx hZ hown (host := "") (Or.inl (hw _ (List.mem_of_getElem? (i := 6) rfl))) Via.refl e28 S_READY (g := (mkF m 104 #[.val (.long q1), .second, .val (.long q2), .second, .val (.long q3), .second, .val (.ref (own_of q1 q1 wD wR)), .val (.long (own_min q2 q3)), .second, .val (.long (own_max q2 q3)), .second, .val (.ref (own_of q1 (own_min q2 q3) wD wR)), .val (.ref (own_of q1 (own_max q2 q3) wD wR))] [(.ref (own_of q1 (own_max q2 q3) wD wR))])) rfl (hb hby at_104)
        obtain ⟨T32, X32, e32, st32⟩ := getS2 X31 hx hZ hown (host := "") (Or.inl (hw _ (List.mem_of_getElem? (i := 6) rfl))) Via.refl e31 S_READY (g := (mkF m 114 #[.val (.long q1), .second, .val (.long q2), .second, .val (.long q3), .second, .val (.ref (own_of q1 q1 wD wR)), .val (.long (own_min q2 q3)), .second, .val (.long (own_max q2 q3)), .second, .val (.ref (own_of q1 (own_min q2 q3) wD wR)), .val (.ref (own_of q1 (own_max q2 q3) wD wR))] [(.ref (own_of q1 (own_min q2 q3) wD wR))])) rfl (hb hby at_114)
        obtain ⟨fs, hr, hrun, hended, hW, hsame⟩ := X32.leave (v := some (.int (1 : Int32))) (fun h => by rw [Bd.returns] at h; cases h)
        refine ⟨_, _, pre29 _ ?_, hrun, hended, _, _, rfl, ?_, ⟨_, rfl⟩, hW, hsame.mono (by decide) (by decide)⟩
        · show Steps p.tables e below (T28.setTop (mkF m 99 #[.val (.long q1), .second, .val (.long q2), .second, .val (.long q3), .second, .val (.ref (own_of q1 q1 wD wR)), .val (.long (own_min q2 q3)), .second, .val (.long (own_max q2 q3)), .second, .val (.ref (own_of q1 (own_min q2 q3) wD wR)), .val (.ref (own_of q1 (own_max q2 q3) wD wR))] [(.ref wD), (.ref (own_of q1 (own_max q2 q3) wD wR))])) _
          refine Jvm.RoadKit.acmp (g := (mkF m 99 #[.val (.long q1), .second, .val (.long q2), .second, .val (.long q3), .second, .val (.ref (own_of q1 q1 wD wR)), .val (.long (own_min q2 q3)), .second, .val (.long (own_max q2 q3)), .second, .val (.ref (own_of q1 (own_min q2 q3) wD wR)), .val (.ref (own_of q1 (own_max q2 q3) wD wR))] [(.ref wD), (.ref (own_of q1 (own_max q2 q3) wD wR))])) X28 hx rfl rfl rfl (pc0 := 99) (pc' := 102) (same := false) rfl (hb hby at_99) rfl (decide_eq_false fun q => hne ((own_ofF hH).symm.trans (Value.ref.inj q))) (by decide) (by decide) ?_
          show Steps p.tables e below (T28.setTop (mkF m 102 #[.val (.long q1), .second, .val (.long q2), .second, .val (.long q3), .second, .val (.ref (own_of q1 q1 wD wR)), .val (.long (own_min q2 q3)), .second, .val (.long (own_max q2 q3)), .second, .val (.ref (own_of q1 (own_min q2 q3) wD wR)), .val (.ref (own_of q1 (own_max q2 q3) wD wR))] [])) _
          refine XS.aload X28.here hx rfl (hb hby at_102) rfl rfl ?_
          show Steps p.tables e below (T28.setTop (mkF m 104 #[.val (.long q1), .second, .val (.long q2), .second, .val (.long q3), .second, .val (.ref (own_of q1 q1 wD wR)), .val (.long (own_min q2 q3)), .second, .val (.long (own_max q2 q3)), .second, .val (.ref (own_of q1 (own_min q2 q3) wD wR)), .val (.ref (own_of q1 (own_max q2 q3) wD wR))] [(.ref (own_of q1 (own_max q2 q3) wD wR))])) _
          refine st31 _ ?_
          show Steps p.tables e below (T31.setTop (mkF m 107 #[.val (.long q1), .second, .val (.long q2), .second, .val (.long q3), .second, .val (.ref (own_of q1 q1 wD wR)), .val (.long (own_min q2 q3)), .second, .val (.long (own_max q2 q3)), .second, .val (.ref (own_of q1 (own_min q2 q3) wD wR)), .val (.ref (own_of q1 (own_max q2 q3) wD wR))] [(.ref wR), (.ref (own_of q1 (own_max q2 q3) wD wR))])) _
          refine Jvm.RoadKit.acmp (g := (mkF m 107 #[.val (.long q1), .second, .val (.long q2), .second, .val (.long q3), .second, .val (.ref (own_of q1 q1 wD wR)), .val (.long (own_min q2 q3)), .second, .val (.long (own_max q2 q3)), .second, .val (.ref (own_of q1 (own_min q2 q3) wD wR)), .val (.ref (own_of q1 (own_max q2 q3) wD wR))] [(.ref wR), (.ref (own_of q1 (own_max q2 q3) wD wR))])) X31 hx rfl rfl rfl (pc0 := 107) (pc' := 112) (same := true) rfl (hb hby at_107) rfl (decide_eq_true (congrArg Value.ref (own_ofF hH))) (by decide) (by decide) ?_
          show Steps p.tables e below (T31.setTop (mkF m 112 #[.val (.long q1), .second, .val (.long q2), .second, .val (.long q3), .second, .val (.ref (own_of q1 q1 wD wR)), .val (.long (own_min q2 q3)), .second, .val (.long (own_max q2 q3)), .second, .val (.ref (own_of q1 (own_min q2 q3) wD wR)), .val (.ref (own_of q1 (own_max q2 q3) wD wR))] [])) _
          refine XS.aload X31.here hx rfl (hb hby at_112) rfl rfl ?_
          show Steps p.tables e below (T31.setTop (mkF m 114 #[.val (.long q1), .second, .val (.long q2), .second, .val (.long q3), .second, .val (.ref (own_of q1 q1 wD wR)), .val (.long (own_min q2 q3)), .second, .val (.long (own_max q2 q3)), .second, .val (.ref (own_of q1 (own_min q2 q3) wD wR)), .val (.ref (own_of q1 (own_max q2 q3) wD wR))] [(.ref (own_of q1 (own_min q2 q3) wD wR))])) _
          refine st32 _ ?_
          show Steps p.tables e below (T32.setTop (mkF m 117 #[.val (.long q1), .second, .val (.long q2), .second, .val (.long q3), .second, .val (.ref (own_of q1 q1 wD wR)), .val (.long (own_min q2 q3)), .second, .val (.long (own_max q2 q3)), .second, .val (.ref (own_of q1 (own_min q2 q3) wD wR)), .val (.ref (own_of q1 (own_max q2 q3) wD wR))] [(.ref wR), (.ref (own_of q1 (own_min q2 q3) wD wR))])) _
          refine Jvm.RoadKit.acmp (g := (mkF m 117 #[.val (.long q1), .second, .val (.long q2), .second, .val (.long q3), .second, .val (.ref (own_of q1 q1 wD wR)), .val (.long (own_min q2 q3)), .second, .val (.long (own_max q2 q3)), .second, .val (.ref (own_of q1 (own_min q2 q3) wD wR)), .val (.ref (own_of q1 (own_max q2 q3) wD wR))] [(.ref wR), (.ref (own_of q1 (own_min q2 q3) wD wR))])) X32 hx rfl rfl rfl (pc0 := 117) (pc' := 130) (same := false) rfl (hb hby at_117) rfl (decide_eq_false fun q => hne ((Value.ref.inj q).symm.trans (own_ofT hL))) (by decide) (by decide) ?_
          show Steps p.tables e below (T32.setTop (mkF m 130 #[.val (.long q1), .second, .val (.long q2), .second, .val (.long q3), .second, .val (.ref (own_of q1 q1 wD wR)), .val (.long (own_min q2 q3)), .second, .val (.long (own_max q2 q3)), .second, .val (.ref (own_of q1 (own_min q2 q3) wD wR)), .val (.ref (own_of q1 (own_max q2 q3) wD wR))] [])) _
          refine XS.iconst X32.here hx rfl (hb hby at_130) ?_
          show Steps p.tables e below (T32.setTop (mkF m 131 #[.val (.long q1), .second, .val (.long q2), .second, .val (.long q3), .second, .val (.ref (own_of q1 q1 wD wR)), .val (.long (own_min q2 q3)), .second, .val (.long (own_max q2 q3)), .second, .val (.ref (own_of q1 (own_min q2 q3) wD wR)), .val (.ref (own_of q1 (own_max q2 q3) wD wR))] [(.int (1 : Int32))])) _
          exact retN X32 hx (t := .boolean) Bd.returns (by simp) (hb hby at_131) hr
        · show Q_rm0 Z q1 q2 q3 wD wR h0 n0 _ T32.heap _
          rw [e32]
          exact ⟨rfl, N25⟩
    · have hH := own_hi hL
      obtain ⟨T33, X33, e33, st33⟩ := getS2 X26 hx hZ hown (host := "") (Or.inl (hw _ (List.mem_of_getElem? (i := 6) rfl))) Via.refl e26 S_READY (g := (mkF m 86 #[.val (.long q1), .second, .val (.long q2), .second, .val (.long q3), .second, .val (.ref (own_of q1 q1 wD wR)), .val (.long (own_min q2 q3)), .second, .val (.long (own_max q2 q3)), .second, .val (.ref (own_of q1 (own_min q2 q3) wD wR)), .val (.ref (own_of q1 (own_max q2 q3) wD wR))] [(.ref (own_of q1 (own_min q2 q3) wD wR))])) rfl (hb hby at_86)
      obtain ⟨T34, X34, e34, st34⟩ := getS2 X33 hx hZ hown (host := "") (Or.inl (hw _ (List.mem_of_getElem? (i := 10) rfl))) Via.refl e33 S_DELAYED (g := (mkF m 96 #[.val (.long q1), .second, .val (.long q2), .second, .val (.long q3), .second, .val (.ref (own_of q1 q1 wD wR)), .val (.long (own_min q2 q3)), .second, .val (.long (own_max q2 q3)), .second, .val (.ref (own_of q1 (own_min q2 q3) wD wR)), .val (.ref (own_of q1 (own_max q2 q3) wD wR))] [(.ref (own_of q1 (own_max q2 q3) wD wR))])) rfl (hb hby at_96)
      obtain ⟨T35, X35, e35, st35⟩ := getS2 X34 hx hZ hown (host := "") (Or.inl (hw _ (List.mem_of_getElem? (i := 6) rfl))) Via.refl e34 S_READY (g := (mkF m 104 #[.val (.long q1), .second, .val (.long q2), .second, .val (.long q3), .second, .val (.ref (own_of q1 q1 wD wR)), .val (.long (own_min q2 q3)), .second, .val (.long (own_max q2 q3)), .second, .val (.ref (own_of q1 (own_min q2 q3) wD wR)), .val (.ref (own_of q1 (own_max q2 q3) wD wR))] [(.ref (own_of q1 (own_max q2 q3) wD wR))])) rfl (hb hby at_104)
      obtain ⟨T36, X36, e36, st36⟩ := getS2 X35 hx hZ hown (host := "") (Or.inl (hw _ (List.mem_of_getElem? (i := 6) rfl))) Via.refl e35 S_READY (g := (mkF m 114 #[.val (.long q1), .second, .val (.long q2), .second, .val (.long q3), .second, .val (.ref (own_of q1 q1 wD wR)), .val (.long (own_min q2 q3)), .second, .val (.long (own_max q2 q3)), .second, .val (.ref (own_of q1 (own_min q2 q3) wD wR)), .val (.ref (own_of q1 (own_max q2 q3) wD wR))] [(.ref (own_of q1 (own_min q2 q3) wD wR))])) rfl (hb hby at_114)
      obtain ⟨T37, X37, e37, st37⟩ := getS2 X36 hx hZ hown (host := "") (Or.inl (hw _ (List.mem_of_getElem? (i := 6) rfl))) Via.refl e36 S_READY (g := (mkF m 122 #[.val (.long q1), .second, .val (.long q2), .second, .val (.long q3), .second, .val (.ref (own_of q1 q1 wD wR)), .val (.long (own_min q2 q3)), .second, .val (.long (own_max q2 q3)), .second, .val (.ref (own_of q1 (own_min q2 q3) wD wR)), .val (.ref (own_of q1 (own_max q2 q3) wD wR))] [(.ref (own_of q1 (own_max q2 q3) wD wR))])) rfl (hb hby at_122)
      obtain ⟨fs, hr, hrun, hended, hW, hsame⟩ := X37.leave (v := some (.int (1 : Int32))) (fun h => by rw [Bd.returns] at h; cases h)
      refine ⟨_, _, pre27 _ ?_, hrun, hended, _, _, rfl, ?_, ⟨_, rfl⟩, hW, hsame.mono (by decide) (by decide)⟩
      · show Steps p.tables e below (T26.setTop (mkF m 81 #[.val (.long q1), .second, .val (.long q2), .second, .val (.long q3), .second, .val (.ref (own_of q1 q1 wD wR)), .val (.long (own_min q2 q3)), .second, .val (.long (own_max q2 q3)), .second, .val (.ref (own_of q1 (own_min q2 q3) wD wR)), .val (.ref (own_of q1 (own_max q2 q3) wD wR))] [(.ref wD), (.ref (own_of q1 (own_min q2 q3) wD wR))])) _
        refine Jvm.RoadKit.acmp (g := (mkF m 81 #[.val (.long q1), .second, .val (.long q2), .second, .val (.long q3), .second, .val (.ref (own_of q1 q1 wD wR)), .val (.long (own_min q2 q3)), .second, .val (.long (own_max q2 q3)), .second, .val (.ref (own_of q1 (own_min q2 q3) wD wR)), .val (.ref (own_of q1 (own_max q2 q3) wD wR))] [(.ref wD), (.ref (own_of q1 (own_min q2 q3) wD wR))])) X26 hx rfl rfl rfl (pc0 := 81) (pc' := 84) (same := false) rfl (hb hby at_81) rfl (decide_eq_false fun q => hne ((own_ofF hL).symm.trans (Value.ref.inj q))) (by decide) (by decide) ?_
        show Steps p.tables e below (T26.setTop (mkF m 84 #[.val (.long q1), .second, .val (.long q2), .second, .val (.long q3), .second, .val (.ref (own_of q1 q1 wD wR)), .val (.long (own_min q2 q3)), .second, .val (.long (own_max q2 q3)), .second, .val (.ref (own_of q1 (own_min q2 q3) wD wR)), .val (.ref (own_of q1 (own_max q2 q3) wD wR))] [])) _
        refine XS.aload X26.here hx rfl (hb hby at_84) rfl rfl ?_
        show Steps p.tables e below (T26.setTop (mkF m 86 #[.val (.long q1), .second, .val (.long q2), .second, .val (.long q3), .second, .val (.ref (own_of q1 q1 wD wR)), .val (.long (own_min q2 q3)), .second, .val (.long (own_max q2 q3)), .second, .val (.ref (own_of q1 (own_min q2 q3) wD wR)), .val (.ref (own_of q1 (own_max q2 q3) wD wR))] [(.ref (own_of q1 (own_min q2 q3) wD wR))])) _
        refine st33 _ ?_
        show Steps p.tables e below (T33.setTop (mkF m 89 #[.val (.long q1), .second, .val (.long q2), .second, .val (.long q3), .second, .val (.ref (own_of q1 q1 wD wR)), .val (.long (own_min q2 q3)), .second, .val (.long (own_max q2 q3)), .second, .val (.ref (own_of q1 (own_min q2 q3) wD wR)), .val (.ref (own_of q1 (own_max q2 q3) wD wR))] [(.ref wR), (.ref (own_of q1 (own_min q2 q3) wD wR))])) _
        refine Jvm.RoadKit.acmp (g := (mkF m 89 #[.val (.long q1), .second, .val (.long q2), .second, .val (.long q3), .second, .val (.ref (own_of q1 q1 wD wR)), .val (.long (own_min q2 q3)), .second, .val (.long (own_max q2 q3)), .second, .val (.ref (own_of q1 (own_min q2 q3) wD wR)), .val (.ref (own_of q1 (own_max q2 q3) wD wR))] [(.ref wR), (.ref (own_of q1 (own_min q2 q3) wD wR))])) X33 hx rfl rfl rfl (pc0 := 89) (pc' := 94) (same := true) rfl (hb hby at_89) rfl (decide_eq_true (congrArg Value.ref (own_ofF hL))) (by decide) (by decide) ?_
        show Steps p.tables e below (T33.setTop (mkF m 94 #[.val (.long q1), .second, .val (.long q2), .second, .val (.long q3), .second, .val (.ref (own_of q1 q1 wD wR)), .val (.long (own_min q2 q3)), .second, .val (.long (own_max q2 q3)), .second, .val (.ref (own_of q1 (own_min q2 q3) wD wR)), .val (.ref (own_of q1 (own_max q2 q3) wD wR))] [])) _
        refine XS.aload X33.here hx rfl (hb hby at_94) rfl rfl ?_
        show Steps p.tables e below (T33.setTop (mkF m 96 #[.val (.long q1), .second, .val (.long q2), .second, .val (.long q3), .second, .val (.ref (own_of q1 q1 wD wR)), .val (.long (own_min q2 q3)), .second, .val (.long (own_max q2 q3)), .second, .val (.ref (own_of q1 (own_min q2 q3) wD wR)), .val (.ref (own_of q1 (own_max q2 q3) wD wR))] [(.ref (own_of q1 (own_max q2 q3) wD wR))])) _
        refine st34 _ ?_
        show Steps p.tables e below (T34.setTop (mkF m 99 #[.val (.long q1), .second, .val (.long q2), .second, .val (.long q3), .second, .val (.ref (own_of q1 q1 wD wR)), .val (.long (own_min q2 q3)), .second, .val (.long (own_max q2 q3)), .second, .val (.ref (own_of q1 (own_min q2 q3) wD wR)), .val (.ref (own_of q1 (own_max q2 q3) wD wR))] [(.ref wD), (.ref (own_of q1 (own_max q2 q3) wD wR))])) _
        refine Jvm.RoadKit.acmp (g := (mkF m 99 #[.val (.long q1), .second, .val (.long q2), .second, .val (.long q3), .second, .val (.ref (own_of q1 q1 wD wR)), .val (.long (own_min q2 q3)), .second, .val (.long (own_max q2 q3)), .second, .val (.ref (own_of q1 (own_min q2 q3) wD wR)), .val (.ref (own_of q1 (own_max q2 q3) wD wR))] [(.ref wD), (.ref (own_of q1 (own_max q2 q3) wD wR))])) X34 hx rfl rfl rfl (pc0 := 99) (pc' := 102) (same := false) rfl (hb hby at_99) rfl (decide_eq_false fun q => hne ((own_ofF hH).symm.trans (Value.ref.inj q))) (by decide) (by decide) ?_
        show Steps p.tables e below (T34.setTop (mkF m 102 #[.val (.long q1), .second, .val (.long q2), .second, .val (.long q3), .second, .val (.ref (own_of q1 q1 wD wR)), .val (.long (own_min q2 q3)), .second, .val (.long (own_max q2 q3)), .second, .val (.ref (own_of q1 (own_min q2 q3) wD wR)), .val (.ref (own_of q1 (own_max q2 q3) wD wR))] [])) _
        refine XS.aload X34.here hx rfl (hb hby at_102) rfl rfl ?_
        show Steps p.tables e below (T34.setTop (mkF m 104 #[.val (.long q1), .second, .val (.long q2), .second, .val (.long q3), .second, .val (.ref (own_of q1 q1 wD wR)), .val (.long (own_min q2 q3)), .second, .val (.long (own_max q2 q3)), .second, .val (.ref (own_of q1 (own_min q2 q3) wD wR)), .val (.ref (own_of q1 (own_max q2 q3) wD wR))] [(.ref (own_of q1 (own_max q2 q3) wD wR))])) _
        refine st35 _ ?_
        show Steps p.tables e below (T35.setTop (mkF m 107 #[.val (.long q1), .second, .val (.long q2), .second, .val (.long q3), .second, .val (.ref (own_of q1 q1 wD wR)), .val (.long (own_min q2 q3)), .second, .val (.long (own_max q2 q3)), .second, .val (.ref (own_of q1 (own_min q2 q3) wD wR)), .val (.ref (own_of q1 (own_max q2 q3) wD wR))] [(.ref wR), (.ref (own_of q1 (own_max q2 q3) wD wR))])) _
        refine Jvm.RoadKit.acmp (g := (mkF m 107 #[.val (.long q1), .second, .val (.long q2), .second, .val (.long q3), .second, .val (.ref (own_of q1 q1 wD wR)), .val (.long (own_min q2 q3)), .second, .val (.long (own_max q2 q3)), .second, .val (.ref (own_of q1 (own_min q2 q3) wD wR)), .val (.ref (own_of q1 (own_max q2 q3) wD wR))] [(.ref wR), (.ref (own_of q1 (own_max q2 q3) wD wR))])) X35 hx rfl rfl rfl (pc0 := 107) (pc' := 112) (same := true) rfl (hb hby at_107) rfl (decide_eq_true (congrArg Value.ref (own_ofF hH))) (by decide) (by decide) ?_
        show Steps p.tables e below (T35.setTop (mkF m 112 #[.val (.long q1), .second, .val (.long q2), .second, .val (.long q3), .second, .val (.ref (own_of q1 q1 wD wR)), .val (.long (own_min q2 q3)), .second, .val (.long (own_max q2 q3)), .second, .val (.ref (own_of q1 (own_min q2 q3) wD wR)), .val (.ref (own_of q1 (own_max q2 q3) wD wR))] [])) _
        refine XS.aload X35.here hx rfl (hb hby at_112) rfl rfl ?_
        show Steps p.tables e below (T35.setTop (mkF m 114 #[.val (.long q1), .second, .val (.long q2), .second, .val (.long q3), .second, .val (.ref (own_of q1 q1 wD wR)), .val (.long (own_min q2 q3)), .second, .val (.long (own_max q2 q3)), .second, .val (.ref (own_of q1 (own_min q2 q3) wD wR)), .val (.ref (own_of q1 (own_max q2 q3) wD wR))] [(.ref (own_of q1 (own_min q2 q3) wD wR))])) _
        refine st36 _ ?_
        show Steps p.tables e below (T36.setTop (mkF m 117 #[.val (.long q1), .second, .val (.long q2), .second, .val (.long q3), .second, .val (.ref (own_of q1 q1 wD wR)), .val (.long (own_min q2 q3)), .second, .val (.long (own_max q2 q3)), .second, .val (.ref (own_of q1 (own_min q2 q3) wD wR)), .val (.ref (own_of q1 (own_max q2 q3) wD wR))] [(.ref wR), (.ref (own_of q1 (own_min q2 q3) wD wR))])) _
        refine Jvm.RoadKit.acmp (g := (mkF m 117 #[.val (.long q1), .second, .val (.long q2), .second, .val (.long q3), .second, .val (.ref (own_of q1 q1 wD wR)), .val (.long (own_min q2 q3)), .second, .val (.long (own_max q2 q3)), .second, .val (.ref (own_of q1 (own_min q2 q3) wD wR)), .val (.ref (own_of q1 (own_max q2 q3) wD wR))] [(.ref wR), (.ref (own_of q1 (own_min q2 q3) wD wR))])) X36 hx rfl rfl rfl (pc0 := 117) (pc' := 120) (same := true) rfl (hb hby at_117) rfl (decide_eq_true (congrArg Value.ref (own_ofF hL))) (by decide) (by decide) ?_
        show Steps p.tables e below (T36.setTop (mkF m 120 #[.val (.long q1), .second, .val (.long q2), .second, .val (.long q3), .second, .val (.ref (own_of q1 q1 wD wR)), .val (.long (own_min q2 q3)), .second, .val (.long (own_max q2 q3)), .second, .val (.ref (own_of q1 (own_min q2 q3) wD wR)), .val (.ref (own_of q1 (own_max q2 q3) wD wR))] [])) _
        refine XS.aload X36.here hx rfl (hb hby at_120) rfl rfl ?_
        show Steps p.tables e below (T36.setTop (mkF m 122 #[.val (.long q1), .second, .val (.long q2), .second, .val (.long q3), .second, .val (.ref (own_of q1 q1 wD wR)), .val (.long (own_min q2 q3)), .second, .val (.long (own_max q2 q3)), .second, .val (.ref (own_of q1 (own_min q2 q3) wD wR)), .val (.ref (own_of q1 (own_max q2 q3) wD wR))] [(.ref (own_of q1 (own_max q2 q3) wD wR))])) _
        refine st37 _ ?_
        show Steps p.tables e below (T37.setTop (mkF m 125 #[.val (.long q1), .second, .val (.long q2), .second, .val (.long q3), .second, .val (.ref (own_of q1 q1 wD wR)), .val (.long (own_min q2 q3)), .second, .val (.long (own_max q2 q3)), .second, .val (.ref (own_of q1 (own_min q2 q3) wD wR)), .val (.ref (own_of q1 (own_max q2 q3) wD wR))] [(.ref wR), (.ref (own_of q1 (own_max q2 q3) wD wR))])) _
        refine Jvm.RoadKit.acmp (g := (mkF m 125 #[.val (.long q1), .second, .val (.long q2), .second, .val (.long q3), .second, .val (.ref (own_of q1 q1 wD wR)), .val (.long (own_min q2 q3)), .second, .val (.long (own_max q2 q3)), .second, .val (.ref (own_of q1 (own_min q2 q3) wD wR)), .val (.ref (own_of q1 (own_max q2 q3) wD wR))] [(.ref wR), (.ref (own_of q1 (own_max q2 q3) wD wR))])) X37 hx rfl rfl rfl (pc0 := 125) (pc' := 130) (same := true) rfl (hb hby at_125) rfl (decide_eq_true (congrArg Value.ref (own_ofF hH))) (by decide) (by decide) ?_
        show Steps p.tables e below (T37.setTop (mkF m 130 #[.val (.long q1), .second, .val (.long q2), .second, .val (.long q3), .second, .val (.ref (own_of q1 q1 wD wR)), .val (.long (own_min q2 q3)), .second, .val (.long (own_max q2 q3)), .second, .val (.ref (own_of q1 (own_min q2 q3) wD wR)), .val (.ref (own_of q1 (own_max q2 q3) wD wR))] [])) _
        refine XS.iconst X37.here hx rfl (hb hby at_130) ?_
        show Steps p.tables e below (T37.setTop (mkF m 131 #[.val (.long q1), .second, .val (.long q2), .second, .val (.long q3), .second, .val (.ref (own_of q1 q1 wD wR)), .val (.long (own_min q2 q3)), .second, .val (.long (own_max q2 q3)), .second, .val (.ref (own_of q1 (own_min q2 q3) wD wR)), .val (.ref (own_of q1 (own_max q2 q3) wD wR))] [(.int (1 : Int32))])) _
        exact retN X37 hx (t := .boolean) Bd.returns (by simp) (hb hby at_131) hr
      · show Q_rm0 Z q1 q2 q3 wD wR h0 n0 _ T37.heap _
        rw [e37]
        exact ⟨rfl, N25⟩
set_option maxRecDepth 65536 in
set_option maxHeartbeats 40000000 in
theorem comes_1 {Post : Tables → Env → Array Value → State → Outcome → State → Prop} (hpost : ∀ tb e args s v u, (limb_1_1.after args s (.returned v) u = true ∧ limb_1_2.after args s (.returned v) u = true ∧ True) → FrameEnd s (.returned v) u (Jvm.fieldLocs frame_1_writes args s ++ Jvm.arrayLocs frame_1_arrays args s ++ Jvm.staticLocs frame_1_statics s) 0 0 → Post tb e args s (.returned v) u) :
    ArmFor flags0 classFile x code maxLocals ret World_1 tables_1 room_1 Calls_1 rest_1 Pre_1 Post := by
  intro l hfl _ _ p e ha hc hk s m args below hf hA hF happ hP
  obtain ⟨hcalls, hrest, hpre⟩ := hP
  obtain ⟨-, -, -, hnamed, -, -, -, hat⟩ := (Spec.applies_iff hf).mp happ
  obtain ⟨hg, hn⟩ := and_e (Cond.before_iff.mp (show (Jvm.Cond.and given_1 narrow_1).before args s = true from hpre))
  obtain ⟨gc, gr0⟩ := and_e hg
  obtain ⟨ga0, gr1⟩ := and_e gr0
  obtain ⟨ga1, gr2⟩ := and_e gr1
  obtain ⟨w0, w1, w2, rfl⟩ : ∃ w0 w1 w2 : Value, args = #[w0, w1, w2] := by
    have hs : args.size = 3 := by simpa [Cond.value, given_1] using gc
    obtain ⟨L⟩ := args
    match L, hs with
    | [w0, w1, w2], _ => exact ⟨w0, w1, w2, rfl⟩
  have hw := fun d (hd : d ∈ tables_1) => atoms_spec (ws := Jvm.Cond.code x code maxLocals ret :: tables_1) hat d (List.mem_cons_of_mem _ hd)
  have hfit : Fit s := fun {y c} hc i hi => by
    obtain ⟨ha, rfl⟩ := Array.getElem?_eq_some_iff.mp hc
    have q := List.all_eq_true.mp ((Array.all_eq_true_iff_forall_mem.mp hF) _ (Array.getElem_mem ha)) i (List.mem_range.mpr hi)
    simpa [Array.getElem?_eq_getElem hi] using q
  obtain ⟨i0, ei0⟩ := isL_v ga0
  obtain rfl : w0 = (.long i0) := Option.some.inj ei0
  obtain ⟨i1, ei1⟩ := isL_v ga1
  obtain rfl : w1 = (.long i1) := Option.some.inj ei1
  obtain ⟨i2, ei2⟩ := isL_v gr2
  obtain rfl : w2 = (.long i2) := Option.some.inj ei2
  obtain ⟨c0, hn0⟩ := and_e hn
  obtain ⟨c1, hn1⟩ := and_e hn0
  obtain ⟨c2, hn2⟩ := and_e hn1
  have c3 := hn2
  obtain ⟨w_READY, ev_READY⟩ := exa_v c0
  have S_READY : Sta s s.heap "com/example/sandglass/sandglass/JobState" "READY" "Lcom/example/sandglass/sandglass/JobState;" (.ref w_READY) := Sta.start ev_READY (Or.inr ⟨(hw _ (List.mem_of_getElem? (i := 2) rfl)), (hw _ (List.mem_of_getElem? (i := 5) rfl))⟩)
  have E_READY : Exa s s.heap w_READY "com/example/sandglass/sandglass/JobState" := Exa.start ev_READY c0
  obtain ⟨w_DELAYED, ev_DELAYED⟩ := exa_v c1
  have S_DELAYED : Sta s s.heap "com/example/sandglass/sandglass/JobState" "DELAYED" "Lcom/example/sandglass/sandglass/JobState;" (.ref w_DELAYED) := Sta.start ev_DELAYED (Or.inr ⟨(hw _ (List.mem_of_getElem? (i := 2) rfl)), (hw _ (List.mem_of_getElem? (i := 9) rfl))⟩)
  have E_DELAYED : Exa s s.heap w_DELAYED "com/example/sandglass/sandglass/JobState" := Exa.start ev_DELAYED c1
  have F_ordinal_DELAYED : Fld s s.heap w_DELAYED "java/lang/Enum" "ordinal" "I" (.int (0 : Int32)) := own_fldI ev_DELAYED c2
  have F_ordinal_READY : Fld s s.heap w_READY "java/lang/Enum" "ordinal" "I" (.int (1 : Int32)) := own_fldI ev_READY c3
  obtain ⟨n, o, h1, h2, h3, _, L, rfl, ⟨rfl, N⟩, hq⟩ := rm0 l s _ hw tables_1 i0 i1 i2 w_DELAYED w_READY s.heap s.heap.size (Nat.le_refl _) S_READY S_DELAYED (own_neF F_ordinal_READY F_ordinal_DELAYED (by decide)) p e ha hc hk s m _ below hf ((Spec.applies_iff_loose hf).mp happ).1 ⟨rfl, State.Warmed39.refl s, rfl⟩ trivial
  refine ⟨n, _, h1, h2, h3, hpost _ _ _ _ _ _ ⟨Cond.after_iff.mpr rfl, Cond.after_iff.mpr (eq_i res_at (Term.int_eval (1)) rfl), trivial⟩ ⟨hq.1, hq.2.1, (hq.2.2.sift fun y hy => Or.inr (N y hy)).mono (by decide) (by decide)⟩⟩
theorem main_1_1 : Claimed_1_1 := comes_1 fun _ _ _ _ _ _ h hF => ⟨h.1, hF⟩
theorem main_1_2 : Claimed_1_2 := comes_1 fun _ _ _ _ _ _ h hF => ⟨h.2.1, hF⟩
end Jvm.Pilot.@@N@@
namespace Jvm.Pilot.@@N@@
open Jvm Jvm.ClassFile Sem Op Lib Jvm.Free Jvm.Stand Jvm.Pilot.@@N@@.Jvm.D
/-! MADE BY PROGRAM (witnessworld.py) out of the Statement's table words and the real class files: 13 classes; the members and pool entries that the words name. The judged class is class 1, her method 1. -/
namespace start1
open Jvm.ClassFile
def u (s : String) : CpInfo := .utf8 (stringToUtf16 s)
/-- a pool by its gaps: so many unusable entries, then the entry; so many at the end -/
def gap : Nat → List CpInfo → List CpInfo
  | 0, r => r
  | n + 1, r => .unusable :: gap n r
def poolList (es : List (Nat × CpInfo)) (last : Nat) : List CpInfo := es.foldr (fun e r => gap e.1 (e.2 :: r)) (gap last [])
def pool (es : List (Nat × CpInfo)) (last : Nat) : Array CpInfo := ⟨poolList es last⟩
def fileOf (pool : Array CpInfo) (this : Nat) (attrs : Array Attribute := #[]) (ms : Array MethodInfo := #[]) (fl : Nat := 33) (sup : Nat := 0) (ifs : Array Nat := #[]) (fds : Array FieldInfo := #[]) : ClassFile where
  minorVersion := 0
  majorVersion := 65
  constantPool := pool
  accessFlags := fl
  thisClass := this
  superClass := sup
  interfaces := ifs
  fields := fds
  methods := ms
  attributes := attrs
def plain (name : String) (sup : Option ClassId) : Class where
  name := name
  kind := .ordinary
  loader := none
  accessFlags := 33
  super := sup
  interfaces := #[]
  cf := none
  fields := #[]
  methods := #[]
  instanceTypes := #[]
  staticTypes := #[]
  resolved := #[]
  callSites := []
  init := .initialized
  statics := none
  mirror := none

def pool0 : Array CpInfo := pool [(5, u "<init>"), (0, u "()V"), (1, .class_ 10), (1, u "java/lang/Object")] 113

def k0m0 : Method := { name := "<init>", desc := "()V", sig := { parameters := [], returnType := none }, accessFlags := 1, code := none }
/-- java/lang/Object -/
def k0 : Class := { plain "java/lang/Object" none with
  accessFlags := 33
  interfaces := #[]
  cf := some (fileOf pool0 8 #[] #[{ accessFlags := 1, nameIndex := 5, descriptorIndex := 6, attributes := #[] }] 33 0 #[] #[])
  fields := #[]
  methods := #[k0m0]
  instanceTypes := #[]
  staticTypes := #[]
  resolved := Array.replicate 124 none
  statics := none }

def pool1 : Array CpInfo := pool [(2, .class_ 4), (1, u "java/lang/Object"), (0, u "<init>"), (0, u "()V"), (0, .methodref 8 9), (0, .class_ 10), (0, .nameAndType 11 12), (0, u "com/example/sandglass/sandglass/JobState"), (0, u "ofWaiting"), (0, u "(JJ)Lcom/example/sandglass/sandglass/JobState;"), (0, .fieldref 8 14), (0, .nameAndType 15 16), (0, u "READY"), (0, u "Lcom/example/sandglass/sandglass/JobState;"), (2, .long 9223372036854775808), (1, .fieldref 8 22), (0, .nameAndType 23 16), (0, u "DELAYED"), (0, .methodref 25 26), (0, .class_ 27), (0, .nameAndType 28 29), (0, u "java/lang/Math"), (0, u "min"), (0, u "(JJ)J"), (0, .methodref 25 31), (0, .nameAndType 32 29), (0, u "max"), (0, .class_ 34), (0, u "com/example/sandglass/sandglass/JobStateOfWaitingPinLaw"), (2, u "law"), (0, u "(JJJ)Z")] 3

def k1m0 : Method := { name := "<init>", desc := "()V", sig := { parameters := [], returnType := none }, accessFlags := 1, code := none }
def k1c1 : Code := { maxStack := 6, maxLocals := 13, code := code, exceptionTable := #[], attributes := #[] }
def k1m1 : Method := { name := "law", desc := "(JJJ)Z", sig := { parameters := [.long, .long, .long], returnType := some .boolean }, accessFlags := 9, code := some k1c1 }
/-- com/example/sandglass/sandglass/JobStateOfWaitingPinLaw -/
def k1 : Class := { plain "com/example/sandglass/sandglass/JobStateOfWaitingPinLaw" (some 0) with
  accessFlags := 49
  interfaces := #[]
  cf := some (fileOf pool1 33 #[] #[{ accessFlags := 1, nameIndex := 5, descriptorIndex := 6, attributes := #[] }, { accessFlags := 9, nameIndex := 37, descriptorIndex := 38, attributes := #[] }] 49 2 #[] #[])
  fields := #[]
  methods := #[k1m0, k1m1]
  instanceTypes := #[]
  staticTypes := #[]
  resolved := Array.replicate 42 none
  statics := none }

def pool2 : Array CpInfo := pool [(1, .class_ 2), (0, u "java/lang/constant/Constable"), (0, .class_ 4), (0, u "java/lang/Object")] 6

/-- java/lang/constant/Constable -/
def k2 : Class := { plain "java/lang/constant/Constable" (some 0) with
  accessFlags := 1537
  interfaces := #[]
  cf := some (fileOf pool2 1 #[] #[] 1537 3 #[] #[])
  fields := #[]
  methods := #[]
  instanceTypes := #[]
  staticTypes := #[]
  resolved := Array.replicate 11 none
  statics := none }

def pool3 : Array CpInfo := pool [(1, .class_ 2), (0, u "java/lang/Comparable"), (0, .class_ 4), (0, u "java/lang/Object")] 7

/-- java/lang/Comparable -/
def k3 : Class := { plain "java/lang/Comparable" (some 0) with
  accessFlags := 1537
  interfaces := #[]
  cf := some (fileOf pool3 1 #[] #[] 1537 3 #[] #[])
  fields := #[]
  methods := #[]
  instanceTypes := #[]
  staticTypes := #[]
  resolved := Array.replicate 12 none
  statics := none }

def pool4 : Array CpInfo := pool [(1, .class_ 2), (0, u "java/io/Serializable"), (0, .class_ 4), (0, u "java/lang/Object")] 2

/-- java/io/Serializable -/
def k4 : Class := { plain "java/io/Serializable" (some 0) with
  accessFlags := 1537
  interfaces := #[]
  cf := some (fileOf pool4 1 #[] #[] 1537 3 #[] #[])
  fields := #[]
  methods := #[]
  instanceTypes := #[]
  staticTypes := #[]
  resolved := Array.replicate 7 none
  statics := none }

def pool5 : Array CpInfo := pool [(2, .class_ 4), (1, u "java/lang/Enum"), (0, u "name"), (0, u "Ljava/lang/String;"), (2, u "ordinal"), (0, u "I"), (1, .class_ 14), (1, u "java/lang/Object"), (4, u "hash"), (86, .class_ 108), (1, u "java/lang/Enum$EnumDesc"), (2, .class_ 112), (0, u "java/lang/constant/Constable"), (0, .class_ 114), (0, u "java/lang/Comparable"), (0, .class_ 116), (0, u "java/io/Serializable")] 87

/-- java/lang/Enum -/
def k5 : Class := { plain "java/lang/Enum" (some 0) with
  accessFlags := 1057
  interfaces := #[2, 3, 4]
  cf := some (fileOf pool5 2 #[.nestMembers #[106]] #[] 1057 12 #[111, 113, 115] #[{ accessFlags := 18, nameIndex := 5, descriptorIndex := 6, attributes := #[] }, { accessFlags := 18, nameIndex := 9, descriptorIndex := 10, attributes := #[] }, { accessFlags := 2, nameIndex := 19, descriptorIndex := 10, attributes := #[] }])
  fields := #[{ name := "name", type := (.object "java/lang/String"), accessFlags := 18, slot := 0, constantValue := 0 }, { name := "ordinal", type := .int, accessFlags := 18, slot := 1, constantValue := 0 }, { name := "hash", type := .int, accessFlags := 2, slot := 2, constantValue := 0 }]
  methods := #[]
  instanceTypes := #[(.object "java/lang/String"), .int, .int]
  staticTypes := #[]
  resolved := Array.replicate 204 none
  statics := none }

def pool6 : Array CpInfo := pool [(1, .class_ 2), (0, u "com/example/sandglass/sandglass/JobState"), (0, .fieldref 1 4), (0, .nameAndType 5 6), (0, u "DELAYED"), (0, u "Lcom/example/sandglass/sandglass/JobState;"), (0, .fieldref 1 8), (0, .nameAndType 9 6), (0, u "READY"), (2, u "RESERVED"), (2, u "DEAD"), (2, u "$VALUES"), (0, u "[Lcom/example/sandglass/sandglass/JobState;"), (6, .class_ 28), (1, u "java/lang/Enum"), (38, u "ofWaiting"), (0, u "(JJ)Lcom/example/sandglass/sandglass/JobState;")] 6

def k6c0 : Code := { maxStack := 4, maxLocals := 4, code := prog_9_method_4_code, exceptionTable := #[], attributes := #[] }
def k6m0 : Method := { name := "ofWaiting", desc := "(JJ)Lcom/example/sandglass/sandglass/JobState;", sig := { parameters := [.long, .long], returnType := some (.object "com/example/sandglass/sandglass/JobState") }, accessFlags := 8, code := some k6c0 }
/-- com/example/sandglass/sandglass/JobState -/
def k6 : Class := { plain "com/example/sandglass/sandglass/JobState" (some 5) with
  accessFlags := 16432
  interfaces := #[]
  cf := some (fileOf pool6 1 #[] #[{ accessFlags := 8, nameIndex := 67, descriptorIndex := 68, attributes := #[] }] 16432 26 #[] #[{ accessFlags := 16409, nameIndex := 5, descriptorIndex := 6, attributes := #[] }, { accessFlags := 16409, nameIndex := 9, descriptorIndex := 6, attributes := #[] }, { accessFlags := 16409, nameIndex := 12, descriptorIndex := 6, attributes := #[] }, { accessFlags := 16409, nameIndex := 15, descriptorIndex := 6, attributes := #[] }, { accessFlags := 4122, nameIndex := 18, descriptorIndex := 19, attributes := #[] }])
  fields := #[{ name := "DELAYED", type := (.object "com/example/sandglass/sandglass/JobState"), accessFlags := 16409, slot := 0, constantValue := 0 }, { name := "READY", type := (.object "com/example/sandglass/sandglass/JobState"), accessFlags := 16409, slot := 1, constantValue := 0 }, { name := "RESERVED", type := (.object "com/example/sandglass/sandglass/JobState"), accessFlags := 16409, slot := 2, constantValue := 0 }, { name := "DEAD", type := (.object "com/example/sandglass/sandglass/JobState"), accessFlags := 16409, slot := 3, constantValue := 0 }, { name := "$VALUES", type := (.array (.object "com/example/sandglass/sandglass/JobState")), accessFlags := 4122, slot := 4, constantValue := 0 }]
  methods := #[k6m0]
  instanceTypes := #[(.object "java/lang/String"), .int, .int]
  staticTypes := #[(.object "com/example/sandglass/sandglass/JobState"), (.object "com/example/sandglass/sandglass/JobState"), (.object "com/example/sandglass/sandglass/JobState"), (.object "com/example/sandglass/sandglass/JobState"), (.array (.object "com/example/sandglass/sandglass/JobState"))]
  resolved := Array.replicate 75 none
  statics := some 0 }

def pool7 : Array CpInfo := pool [(1, .class_ 2), (0, u "java/lang/Math"), (1, .class_ 6), (1, u "java/lang/Object"), (0, u "<init>"), (0, u "()V"), (89, .class_ 100), (1, u "java/lang/Math$RandomNumberGeneratorHolder"), (20, u "(JJ)J"), (50, u "negativeZeroFloatBits"), (0, u "J"), (2, u "negativeZeroDoubleBits"), (21, u "max"), (2, u "min"), (43, u "$assertionsDisabled"), (0, u "Z"), (91, u "twoToTheDoubleScaleDown"), (0, u "D"), (4, u "twoToTheDoubleScaleUp"), (9, u "E"), (3, u "PI"), (2, u "TAU"), (2, u "DEGREES_TO_RADIANS"), (0, u "RADIANS_TO_DEGREES")] 94

def k7m0 : Method := { name := "<init>", desc := "()V", sig := { parameters := [], returnType := none }, accessFlags := 2, code := none }
def k7c1 : Code := { maxStack := 4, maxLocals := 4, code := jdk_29_method_66_code, exceptionTable := #[], attributes := #[] }
def k7m1 : Method := { name := "max", desc := "(JJ)J", sig := { parameters := [.long, .long], returnType := some .long }, accessFlags := 9, code := some k7c1 }
def k7c2 : Code := { maxStack := 4, maxLocals := 4, code := jdk_29_method_70_code, exceptionTable := #[], attributes := #[] }
def k7m2 : Method := { name := "min", desc := "(JJ)J", sig := { parameters := [.long, .long], returnType := some .long }, accessFlags := 9, code := some k7c2 }
/-- java/lang/Math -/
def k7 : Class := { plain "java/lang/Math" (some 0) with
  accessFlags := 49
  interfaces := #[]
  cf := some (fileOf pool7 1 #[.nestMembers #[98]] #[{ accessFlags := 2, nameIndex := 7, descriptorIndex := 8, attributes := #[] }, { accessFlags := 9, nameIndex := 198, descriptorIndex := 121, attributes := #[] }, { accessFlags := 9, nameIndex := 201, descriptorIndex := 121, attributes := #[] }] 49 4 #[] #[{ accessFlags := 25, nameIndex := 354, descriptorIndex := 339, attributes := #[] }, { accessFlags := 25, nameIndex := 358, descriptorIndex := 339, attributes := #[] }, { accessFlags := 25, nameIndex := 361, descriptorIndex := 339, attributes := #[] }, { accessFlags := 26, nameIndex := 364, descriptorIndex := 339, attributes := #[] }, { accessFlags := 26, nameIndex := 365, descriptorIndex := 339, attributes := #[] }, { accessFlags := 26, nameIndex := 172, descriptorIndex := 173, attributes := #[] }, { accessFlags := 26, nameIndex := 176, descriptorIndex := 173, attributes := #[] }, { accessFlags := 8, nameIndex := 344, descriptorIndex := 339, attributes := #[] }, { accessFlags := 8, nameIndex := 338, descriptorIndex := 339, attributes := #[] }, { accessFlags := 4120, nameIndex := 245, descriptorIndex := 246, attributes := #[] }])
  fields := #[{ name := "E", type := .double, accessFlags := 25, slot := 0, constantValue := 0 }, { name := "PI", type := .double, accessFlags := 25, slot := 1, constantValue := 0 }, { name := "TAU", type := .double, accessFlags := 25, slot := 2, constantValue := 0 }, { name := "DEGREES_TO_RADIANS", type := .double, accessFlags := 26, slot := 3, constantValue := 0 }, { name := "RADIANS_TO_DEGREES", type := .double, accessFlags := 26, slot := 4, constantValue := 0 }, { name := "negativeZeroFloatBits", type := .long, accessFlags := 26, slot := 5, constantValue := 0 }, { name := "negativeZeroDoubleBits", type := .long, accessFlags := 26, slot := 6, constantValue := 0 }, { name := "twoToTheDoubleScaleUp", type := .double, accessFlags := 8, slot := 7, constantValue := 0 }, { name := "twoToTheDoubleScaleDown", type := .double, accessFlags := 8, slot := 8, constantValue := 0 }, { name := "$assertionsDisabled", type := .boolean, accessFlags := 4120, slot := 9, constantValue := 0 }]
  methods := #[k7m0, k7m1, k7m2]
  instanceTypes := #[]
  staticTypes := #[.double, .double, .double, .double, .double, .long, .long, .double, .double, .boolean]
  resolved := Array.replicate 460 none
  statics := none }

def pool8 : Array CpInfo := pool [(1, u "java/lang/Cloneable"), (0, .class_ 1), (0, u "java/lang/Object"), (0, .class_ 3)] 3

/-- java/lang/Cloneable -/
def k8 : Class := { plain "java/lang/Cloneable" (some 0) with
  accessFlags := 1537
  interfaces := #[]
  cf := some (fileOf pool8 2 #[] #[] 1537 4 #[] #[])
  fields := #[]
  methods := #[]
  instanceTypes := #[]
  staticTypes := #[]
  resolved := Array.replicate 8 none
  statics := none }

/-- the primitive byte -/
def k9 : Class := { plain "byte" none with kind := .primitive 'B', accessFlags := 0x411 }
/-- [B -/
def k10 : Class := { plain "[B" (some 0) with kind := .array 9 .byte, interfaces := #[8, 4], accessFlags := 1041 }

/-- the primitive int -/
def k11 : Class := { plain "int" none with kind := .primitive 'I', accessFlags := 0x411 }
/-- [I -/
def k12 : Class := { plain "[I" (some 0) with kind := .array 11 .int, interfaces := #[8, 4], accessFlags := 1041 }

def heap : Heap := #[{ cls := 6, slots := #[.ref 2, .ref 1, .null, .null, .null], vm := .statics 6 },
  { cls := 6, slots := #[.null, .int 1, .int 0], vm := .none },
  { cls := 6, slots := #[.null, .int 0, .int 0], vm := .none }]
def classes : Array Class := #[k0, k1, k2, k3, k4, k5, k6, k7, k8, k9, k10, k11, k12]
def interned : List (Array UInt16 × Addr) := []
def slotsUsed : Nat := 11
def theMethod : MethodId := ⟨1, 1⟩
def args0 : Array Value := #[.long 5, .long 9, .long 3]
def aboutOver (below : List Frame) : State where
  vm := { classes := classes, interned := interned.toArray }
  heap := heap
  slotsUsed := slotsUsed
  threads := #[{ frames := .invoking theMethod args0 :: below }]
def below0 : List Frame := [.native { method := ⟨0, 0⟩, args := #[] }]
def about1 : State := aboutOver below0
def p0 : Program := .bare "" "" ""
def e0 : Env := launch0.env 0 0 0
theorem w_frames : about1.frames = Frame.invoking theMethod args0 :: below0 := rfl
set_option maxRecDepth 65536 in
theorem w_args : argsFit about1.vm theMethod args0 = true := by decide +kernel
set_option maxRecDepth 65536 in
theorem w_heap : heapFits about1 = true := by decide +kernel
set_option maxRecDepth 65536 in
theorem w_runnable : about1.curStatus? = some .runnable := by decide +kernel
set_option maxRecDepth 65536 in
theorem w_alone : about1.alone = true := by decide +kernel
set_option maxRecDepth 65536 in
theorem w_named : about1.methodNamed? x = some theMethod := by decide +kernel
set_option maxRecDepth 65536 in
theorem w_hears : about1.hears theMethod below0 = true := by decide +kernel
set_option maxRecDepth 65536 in
theorem w_ripe : about1.ripe theMethod args0 below0 = true := by decide +kernel
theorem w_running : about1.status = .running := rfl
set_option maxRecDepth 65536 in
theorem w_room : about1.hasRoom e0.platform room_1 = true :=
  launch0.hasRoom_least _ room_1 (by decide +kernel) (by decide +kernel) (by decide +kernel) (by decide +kernel) (by decide +kernel) (by decide +kernel)
theorem allAtoms_all (ts : List Jvm.Cond) (a : Array Jvm.Value) (st : Jvm.State) : (allAtoms ts).before a st = ts.all (fun c => c.before a st) := by
  induction ts with
  | nil => rfl
  | cons c t ih =>
    show (Jvm.Cond.and c (allAtoms t)).before a st = _
    rw [Jvm.Cond.before_and, ih, List.all_cons]
def words1 : List Jvm.Cond := Jvm.Cond.code x code maxLocals ret :: tables_1
/-- a 'code' word, met by the world's own term for the bytes: nothing is compared byte by byte -/
theorem code_word {y : MethodName} {bytes : ByteArray} {mx : Nat} {rt : Option FieldType} {a : Array Value} {s : State} {m : MethodId} {meth : Method} {c : Code} (h1 : s.methodNamed? y = some m) (h2 : s.vm.method? m = some meth) (h3 : meth.code = some c) (h4 : c.code = bytes)
    (h5 : (c.maxLocals == mx && c.exceptionTable.isEmpty && decide (c.maxStack ≤ mostOperands) && decide (meth.sig.returnType = rt) && !meth.locks && decide (parseMethodDescriptor y.desc = some meth.sig)) = true) : (Jvm.Cond.code y bytes mx rt).before a s = true := by
  simp only [Bool.and_eq_true, beq_iff_eq, Bool.not_eq_true', decide_eq_true_eq] at h5
  obtain ⟨⟨⟨⟨⟨g1, g2⟩, g3⟩, g4⟩, g5⟩, g6⟩ := h5
  simp [Cond.before, Cond.holds, Cond.value, h1, h2, h3, h4, g1, g2, g3, g4, g5, g6]
def isCode : Jvm.Cond → Bool
  | .code _ _ _ _ => true
  | _ => false
theorem all_split {L : List Jvm.Cond} {P : Jvm.Cond → Bool} (h1 : L.all (fun c => isCode c || P c) = true) (h2 : ∀ c ∈ L.filter isCode, P c = true) : L.all P = true := by
  refine List.all_eq_true.mpr fun c hc => ?_
  have h := List.all_eq_true.mp h1 c hc
  rcases Bool.eq_false_or_eq_true (isCode c) with hi | hi
  · exact h2 c (List.mem_filter.mpr ⟨hc, hi⟩)
  · simpa [hi] using h
set_option maxRecDepth 65536 in
theorem w_c0 : (Jvm.Cond.code x code maxLocals ret).before args0 about1 = true := code_word (m := ⟨1, 1⟩) (meth := k1m1) (c := k1c1) (by decide +kernel) rfl rfl rfl (by decide +kernel)
set_option maxRecDepth 65536 in
theorem w_c1 : (Jvm.Cond.code ({ cls := "com/example/sandglass/sandglass/JobState", name := "ofWaiting", desc := "(JJ)Lcom/example/sandglass/sandglass/JobState;" } : Jvm.MethodName) prog_9_method_4_code (4 : Nat) (Option.some (Jvm.ClassFile.FieldType.object "com/example/sandglass/sandglass/JobState"))).before args0 about1 = true := code_word (m := ⟨6, 0⟩) (meth := k6m0) (c := k6c0) (by decide +kernel) rfl rfl rfl (by decide +kernel)
set_option maxRecDepth 65536 in
theorem w_c2 : (Jvm.Cond.code ({ cls := "java/lang/Math", name := "min", desc := "(JJ)J" } : Jvm.MethodName) jdk_29_method_70_code (4 : Nat) (Option.some Jvm.ClassFile.FieldType.long)).before args0 about1 = true := code_word (m := ⟨7, 2⟩) (meth := k7m2) (c := k7c2) (by decide +kernel) rfl rfl rfl (by decide +kernel)
set_option maxRecDepth 65536 in
theorem w_c3 : (Jvm.Cond.code ({ cls := "java/lang/Math", name := "max", desc := "(JJ)J" } : Jvm.MethodName) jdk_29_method_66_code (4 : Nat) (Option.some Jvm.ClassFile.FieldType.long)).before args0 about1 = true := code_word (m := ⟨7, 1⟩) (meth := k7m1) (c := k7c1) (by decide +kernel) rfl rfl rfl (by decide +kernel)
def codes1 : List Jvm.Cond := [Jvm.Cond.code x code maxLocals ret, Jvm.Cond.code ({ cls := "com/example/sandglass/sandglass/JobState", name := "ofWaiting", desc := "(JJ)Lcom/example/sandglass/sandglass/JobState;" } : Jvm.MethodName) prog_9_method_4_code (4 : Nat) (Option.some (Jvm.ClassFile.FieldType.object "com/example/sandglass/sandglass/JobState")), Jvm.Cond.code ({ cls := "java/lang/Math", name := "min", desc := "(JJ)J" } : Jvm.MethodName) jdk_29_method_70_code (4 : Nat) (Option.some Jvm.ClassFile.FieldType.long), Jvm.Cond.code ({ cls := "java/lang/Math", name := "max", desc := "(JJ)J" } : Jvm.MethodName) jdk_29_method_66_code (4 : Nat) (Option.some Jvm.ClassFile.FieldType.long)]
set_option maxRecDepth 65536 in
theorem codes_eq : words1.filter isCode = codes1 := rfl
theorem w_codes : ∀ c ∈ words1.filter isCode, c.before args0 about1 = true := by
  rw [codes_eq]
  intro c hc
  simp only [codes1, List.mem_cons, List.not_mem_nil, or_false] at hc
  rcases hc with rfl | rfl | rfl | rfl
  · exact w_c0
  · exact w_c1
  · exact w_c2
  · exact w_c3
set_option maxRecDepth 65536 in
theorem w_t1 : words1.all (fun c => isCode c || c.before args0 about1) = true := by decide +kernel
theorem w_tables : (allAtoms (Jvm.Cond.code x code maxLocals ret :: tables_1)).before args0 about1 = true := by
  rw [allAtoms_all]
  show words1.all (fun c => c.before args0 about1) = true
  refine all_split ?_ w_codes
  rw [w_t1]
set_option maxRecDepth 65536 in
theorem w_case : (Jvm.Cond.and given_1 narrow_1).before args0 about1 = true := by decide +kernel
theorem w_applies : (headSpec (Jvm.Cond.code x code maxLocals ret :: tables_1) room_1).applies x e0.platform about1 = true :=
  (Spec.applies_iff w_frames).mpr ⟨w_running, w_runnable, w_alone, w_named, w_hears, w_ripe, w_room, w_tables⟩
theorem atStart : AtStart classFile x code maxLocals ret World_1 tables_1 room_1 Calls_1 rest_1 Pre_1 launch0 p0 e0 about1 theMethod args0 below0 :=
  ⟨lists_1, trivial, launch0.admits_env _ _ _, launch0.least_env, fairChoices_fair.cas, fairChoices_fair.clock, w_frames, w_args, w_heap, w_applies, trivial, trivial, w_case⟩
end start1
theorem witness_1 : WitnessClaimed_1 := ⟨start1.p0, start1.e0, start1.about1, start1.theMethod, start1.args0, start1.below0, start1.atStart⟩
end Jvm.Pilot.@@N@@
