import JvmDerived
import JvmDerived.Pilot.@@N@@Statement
import JvmDerived.Pilot.@@N@@Code
set_option linter.unusedVariables false
set_option linter.unusedSimpArgs false
@@BLOCK:NumsL.lean.txt@@
namespace Jvm.RoadKit
open Sem ClassFile Op Lib Jvm.Stand Jvm.Free Jvm.LawKit
section New
variable {p : Program} {l : Launch} {e : Env} {R : Room} {s : State} {m : MethodId} {args : Array Value} {below : List Frame} {meth : Method} {c : Code} {T : State} {locs : List Loc} {cells slots : Nat}
theorem retI (X : Stand p l e R s m args below meth c T locs cells slots) (hx : p.tables.exec = Jvm.exec) {pc : Nat} {Ls : Array Slot} {z : Int32} {rest : List Value} (hret : meth.sig.returnType = some .int) (hd : decode c.code pc = .ok (.ireturn, 1)) {fs : List Frame}
    (hl : ∀ (f : JFrame) (acts : List Action), f.method = m → f.locked = none → f.entered = [] → (doReturn e (T.setTop f) acts (some (.int z))).1 = T.setFrames fs) : Steps p.tables e below (T.setTop (mkF m pc Ls (.int z :: rest))) (T.setFrames fs) := by
  have hm' : T.vm.method? m = some meth := X.method'
  have hn : narrow .int (.int z) = .int z := rfl
  show Steps p.tables e below (T.setTop { method := m, pc := pc, locals := Ls, stack := _ :: rest, locked := none }) _
  jvm_step X.here [X.here.top, hx, hd, hm', hret, hn]
  first | (intro acts; rw [hl _ acts rfl rfl rfl]) | rw [hl _ _ rfl rfl rfl]
  exact Steps.refl _
end New
end Jvm.RoadKit
namespace Jvm.Pilot.@@N@@
open Jvm Jvm.ClassFile Sem Op Lib Jvm.Free Jvm.Stand Jvm.LawKit Jvm.RoadKit Bundle Jvm.Pilot.@@N@@.Jvm.D

theorem own_lltT {x y : Int64} (h : x < y) : ifCond.holds .lt (lcmpW x y) = true := (if0 _ _).trans ((tlt (by rw [lcW]; exact (lc_lt x y).mpr h)).1)
theorem own_lltF {x y : Int64} (h : ¬ (x < y)) : ifCond.holds .lt (lcmpW x y) = false := (if0 _ _).trans ((flt (by rw [lcW]; exact fun q => h ((lc_lt x y).mp q))).1)
theorem own_lgeT {x y : Int64} (h : ¬ (x < y)) : ifCond.holds .ge (lcmpW x y) = true := (if0 _ _).trans ((flt (by rw [lcW]; exact fun q => h ((lc_lt x y).mp q))).2.1)
theorem own_lgeF {x y : Int64} (h : x < y) : ifCond.holds .ge (lcmpW x y) = false := (if0 _ _).trans ((tlt (by rw [lcW]; exact (lc_lt x y).mpr h)).2.1)
theorem own_lgtT {x y : Int64} (h : y < x) : ifCond.holds .gt (lcmpW x y) = true := (if0 _ _).trans ((tlt (by rw [lcW]; exact (lc_gt x y).mpr h)).2.2.1)
theorem own_lgtF {x y : Int64} (h : ¬ (y < x)) : ifCond.holds .gt (lcmpW x y) = false := (if0 _ _).trans ((flt (by rw [lcW]; exact fun q => h ((lc_gt x y).mp q))).2.2.1)
theorem own_lleT {x y : Int64} (h : ¬ (y < x)) : ifCond.holds .le (lcmpW x y) = true := (if0 _ _).trans ((flt (by rw [lcW]; exact fun q => h ((lc_gt x y).mp q))).2.2.2)
theorem own_lleF {x y : Int64} (h : y < x) : ifCond.holds .le (lcmpW x y) = false := (if0 _ _).trans ((tlt (by rw [lcW]; exact (lc_gt x y).mpr h)).2.2.2)
theorem own_leqT {x y : Int64} (h : x = y) : ifCond.holds .eq (lcmpW x y) = true := (if0 _ _).trans ((teq (by rw [lcW]; exact (lc_eq x y).mpr h)).1)
theorem own_leqF {x y : Int64} (h : ¬ (x = y)) : ifCond.holds .eq (lcmpW x y) = false := (if0 _ _).trans ((feq (by rw [lcW]; exact fun q => h ((lc_eq x y).mp q))).1)
theorem own_lneT {x y : Int64} (h : ¬ (x = y)) : ifCond.holds .ne (lcmpW x y) = true := (if0 _ _).trans ((feq (by rw [lcW]; exact fun q => h ((lc_eq x y).mp q))).2)
theorem own_lneF {x y : Int64} (h : x = y) : ifCond.holds .ne (lcmpW x y) = false := (if0 _ _).trans ((teq (by rw [lcW]; exact (lc_eq x y).mpr h)).2)
theorem own_fldI {s : State} {args : Array Value} {t : Term} {C n d : String} {k : Int32} {a : Addr} (ev : t.eval args s none [] s = some (.ref a)) (h : (Jvm.Cond.eq (Term.field t C n d) (Term.int k)).value args s none s [] = some true) : Fld s s.heap a C n d (.int k) := by
  obtain ⟨x, y, hx, hy, K1, K2⟩ := cmp_v (Or.inl h)
  cases (Term.int_eval k).symm.trans hy
  obtain ⟨z, rfl⟩ := K2
  have q := gotT (Cond.eq_ints hx hy) h
  subst q
  rw [fld_at ev] at hx
  exact Fld.start hx
theorem own_ns0 {h : Heap} : ∀ st ∈ ([] : List Addr), ∀ c : Cell, h[st]? = some c → c.vm.isStatics = false := fun _ q => nomatch q
theorem own_nsE {Z : State} {h : Heap} {y : Addr} {C : String} {L : List Addr} (E : Exa Z h y C) (r : ∀ st ∈ L, ∀ c : Cell, h[st]? = some c → c.vm.isStatics = false) : ∀ st ∈ y :: L, ∀ c : Cell, h[st]? = some c → c.vm.isStatics = false := fun st hm c hc => (List.mem_cons.mp hm).elim (fun u => by
  subst u
  obtain ⟨cell, k, h1, -, -, h4, -⟩ := E
  cases h1.symm.trans hc
  exact h4) (fun u => r st u c hc)
theorem own_nsV {Z : State} {h : Heap} {y : Addr} {k : ClassId} {ty : FieldType} {z : Int32} {vs : List Value} {dv : Value} {L : List Addr} (E : Arv Z h y k ty z vs dv) (r : ∀ st ∈ L, ∀ c : Cell, h[st]? = some c → c.vm.isStatics = false) : ∀ st ∈ y :: L, ∀ c : Cell, h[st]? = some c → c.vm.isStatics = false := fun st hm c hc => (List.mem_cons.mp hm).elim (fun u => by
  subst u
  obtain ⟨cell, A, -⟩ := E
  cases A.1.symm.trans hc
  exact A.plain) (fun u => r st u c hc)
theorem own_staKeep {Z : State} {h h' : Heap} {ws : List Addr} {C n d : String} {v : Value} (F : Sta Z h C n d v) (K : Keep h h' ws) (q : ∀ st ∈ ws, ∀ c : Cell, h[st]? = some c → c.vm.isStatics = false) : Sta Z h' C n d v := by
  obtain ⟨cf, i, k, f, st, cell, h1, h2, h3, h4, h5, h6, h7⟩ := F
  exact ⟨cf, i, k, f, st, cell, h1, h2, h3, h4, K.2.1 st cell h5 (fun hm => by rw [q st hm cell h5] at h6; cases h6), h6, h7⟩
def own_for (p1 : Int32) (w_PING w_PONG w_BYE w_ROUTE_TABLE_UPDATE w_VENDOR w_STANDARD_VENDOR w_PUSH w_QUERY w_QUERY_HIT : Addr) : Value := (if p1 = (0 : Int32) then .ref w_PING else (if p1 = (1 : Int32) then .ref w_PONG else (if p1 = (2 : Int32) then .ref w_BYE else (if p1 = (48 : Int32) then .ref w_ROUTE_TABLE_UPDATE else (if p1 = (49 : Int32) then .ref w_VENDOR else (if p1 = (50 : Int32) then .ref w_STANDARD_VENDOR else (if p1 = (64 : Int32) then .ref w_PUSH else (if p1 = (128 : Int32) then .ref w_QUERY else (if p1 = (129 : Int32) then .ref w_QUERY_HIT else .null)))))))))
theorem own_forR (p1 : Int32) (w_PING w_PONG w_BYE w_ROUTE_TABLE_UPDATE w_VENDOR w_STANDARD_VENDOR w_PUSH w_QUERY w_QUERY_HIT : Addr) : (own_for p1 w_PING w_PONG w_BYE w_ROUTE_TABLE_UPDATE w_VENDOR w_STANDARD_VENDOR w_PUSH w_QUERY w_QUERY_HIT).isRef = true := by
  unfold own_for
  repeat' split
  all_goals rfl
theorem own_arv {Z : State} {h : Heap} {a : Addr} {c : Cell} {C : String} {w_PING w_PONG w_BYE w_ROUTE_TABLE_UPDATE w_VENDOR w_STANDARD_VENDOR w_PUSH w_QUERY w_QUERY_HIT : Addr} (A : Arr Z h a (cloneOf c) (.object C)) (hs : c.slots = #[(.ref w_PING), (.ref w_PONG), (.ref w_BYE), (.ref w_ROUTE_TABLE_UPDATE), (.ref w_VENDOR), (.ref w_STANDARD_VENDOR), (.ref w_PUSH), (.ref w_QUERY), (.ref w_QUERY_HIT)]) : Arv Z h a c.cls (.object C) (9 : Int32) [(.ref w_PING), (.ref w_PONG), (.ref w_BYE), (.ref w_ROUTE_TABLE_UPDATE), (.ref w_VENDOR), (.ref w_STANDARD_VENDOR), (.ref w_PUSH), (.ref w_QUERY), (.ref w_QUERY_HIT)] .null := by
  have hk : ∀ i, i < (cloneOf c).slots.size → i = 0 ∨ i = 1 ∨ i = 2 ∨ i = 3 ∨ i = 4 ∨ i = 5 ∨ i = 6 ∨ i = 7 ∨ i = 8 := fun i hi => by
    have q : (cloneOf c).slots.size = 9 := by show c.slots.size = 9; rw [hs]; rfl
    rw [q] at hi; omega
  refine ⟨cloneOf c, A, rfl, by show c.slots.size = _; rw [hs]; rfl, by decide, fun i hi => ?_, fun i hi => ?_⟩
  · show c.slots[i]? = _
    rw [hs]
    rcases hk i hi with rfl | rfl | rfl | rfl | rfl | rfl | rfl | rfl | rfl <;> rfl
  · rcases hk i hi with rfl | rfl | rfl | rfl | rfl | rfl | rfl | rfl | rfl <;> rfl
theorem own_arr9 {xs : Array Value} {v0 v1 v2 v3 v4 v5 v6 v7 v8 : Value} (hn : xs.size = 9) (h0 : xs[0]? = some v0) (h1 : xs[1]? = some v1) (h2 : xs[2]? = some v2) (h3 : xs[3]? = some v3) (h4 : xs[4]? = some v4) (h5 : xs[5]? = some v5) (h6 : xs[6]? = some v6) (h7 : xs[7]? = some v7) (h8 : xs[8]? = some v8) : xs = #[v0, v1, v2, v3, v4, v5, v6, v7, v8] := by
  obtain ⟨L⟩ := xs
  match L, hn with
  | [a0, a1, a2, a3, a4, a5, a6, a7, a8], _ =>
    cases h0; cases h1; cases h2; cases h3; cases h4; cases h5; cases h6; cases h7; cases h8
    rfl
theorem d2_0 : decode prog_19_method_1_code 0 = .ok (.getstatic 31, 3) := by decide +kernel
theorem d2_3 : decode prog_19_method_1_code 3 = .ok (.invokevirtual 35, 3) := by decide +kernel
theorem d2_6 : decode prog_19_method_1_code 6 = .ok (.checkcast 36, 3) := by decide +kernel
theorem d2_9 : decode prog_19_method_1_code 9 = .ok (.areturn, 1) := by decide +kernel
theorem pn_com_example_hearsay_hearsay_core_MessageType : plainName "com/example/hearsay/hearsay/core/MessageType" = true := by first | (simp [plainName, overriddenIn]; done) | decide +kernel
theorem ef_rm2 (m : MethodId)  : entryFrame m #[] 0 = mkF m 0 #[] [] := by first | (simp [entryFrame, mkF, argsToLocals, Value.category]; done) | rfl
def Q_rm2 (Z : State) (wV : Addr) (cl : Cell) (w_PING : Addr) (w_PONG : Addr) (w_BYE : Addr) (w_ROUTE_TABLE_UPDATE : Addr) (w_VENDOR : Addr) (w_STANDARD_VENDOR : Addr) (w_PUSH : Addr) (w_QUERY : Addr) (w_QUERY_HIT : Addr) (h0 : Heap) (n0 : Nat) (v : Option Value) (h : Heap) (L : List Loc) : Prop := ∃ r : Addr, v = some (.ref r) ∧ Fr n0 L ∧ Keep h0 h [] ∧ h0.size ≤ r ∧ Exa Z h r "[Lcom/example/hearsay/hearsay/core/MessageType;" ∧ Arv Z h r cl.cls (.object "com/example/hearsay/hearsay/core/MessageType") (9 : Int32) [(.ref w_PING), (.ref w_PONG), (.ref w_BYE), (.ref w_ROUTE_TABLE_UPDATE), (.ref w_VENDOR), (.ref w_STANDARD_VENDOR), (.ref w_PUSH), (.ref w_QUERY), (.ref w_QUERY_HIT)] .null
set_option maxRecDepth 65536 in
set_option maxHeartbeats 40000000 in
theorem rm2 (l : Launch) (Z : State) (a0 : Array Value) (hw : ∀ d ∈ tables_1, d.before a0 Z = true) (ws : List Jvm.Cond) (wV : Addr) (cl : Cell) (w_PING : Addr) (w_PONG : Addr) (w_BYE : Addr) (w_ROUTE_TABLE_UPDATE : Addr) (w_VENDOR : Addr) (w_STANDARD_VENDOR : Addr) (w_PUSH : Addr) (w_QUERY : Addr) (w_QUERY_HIT : Addr) (h0 : Heap) (n0 : Nat) (Z0 : n0 ≤ h0.size) (S__VALUES : Sta Z h0 "com/example/hearsay/hearsay/core/MessageType" "$VALUES" "[Lcom/example/hearsay/hearsay/core/MessageType;" (.ref wV)) (E_wV : Exa Z h0 wV "[Lcom/example/hearsay/hearsay/core/MessageType;") (hA : Arr Z h0 wV cl (.object "com/example/hearsay/hearsay/core/MessageType")) (hF : FitC Z cl) (hsl : cl.slots = #[(.ref w_PING), (.ref w_PONG), (.ref w_BYE), (.ref w_ROUTE_TABLE_UPDATE), (.ref w_VENDOR), (.ref w_STANDARD_VENDOR), (.ref w_PUSH), (.ref w_QUERY), (.ref w_QUERY_HIT)]) :
    MetFree l (⟨"com/example/hearsay/hearsay/core/MessageType", "values", "()[Lcom/example/hearsay/hearsay/core/MessageType;"⟩ : MethodName) (head1 (Jvm.Cond.code (⟨"com/example/hearsay/hearsay/core/MessageType", "values", "()[Lcom/example/hearsay/hearsay/core/MessageType;"⟩ : MethodName) prog_19_method_1_code 0 (some (.array (.object "com/example/hearsay/hearsay/core/MessageType"))) :: ws) ({ frames := 1, cells := 1, slots := 9, locals := 14 } : Room)) (fun a U => a = #[] ∧ Z.Warmed39 U.vm ∧ U.heap = h0) (fun _ _ _ _ _ => True) (fun _ U o U' => ∃ v L, o = .returned v ∧ Q_rm2 Z wV cl w_PING w_PONG w_BYE w_ROUTE_TABLE_UPDATE w_VENDOR w_STANDARD_VENDOR w_PUSH w_QUERY w_QUERY_HIT h0 n0 v U'.heap L ∧ FrameEnd U o U' L ({ frames := 1, cells := 1, slots := 9, locals := 14 } : Room).cells ({ frames := 1, cells := 1, slots := 9, locals := 14 } : Room).slots) := by
  refine MetFree.of_bodySF (plainFor_of_name pn_com_example_hearsay_hearsay_core_MessageType) hisR ?_
  intro p e s m args below meth c s₁ Bd hml0 hP hK
  obtain ⟨rfl, hZ, hh⟩ := hP
  have hx := Bd.exec
  have hby := Bd.bytes
  have hml : c.maxLocals = 0 := hml0
  have hown : s.vm.findClass "com/example/hearsay/hearsay/core/MessageType" = some m.cls := findClass_of_methodNamed Bd.named
  have hnm := (name_of_methodNamed Bd.named Bd.method).1
  have X0 : Stand p l e ({ frames := 1, cells := 1, slots := 9, locals := 14 } : Room) s m #[] below meth c s₁ [] 0 0 := Stand.of_body Bd
  have e0 : s₁.heap = h0 := by rw [← hh, Bd.state]; rfl
  have N0 := Fr.nil n0
  have pre0 : ∀ t, Steps p.tables e below (s₁.setTop (mkF m 0 #[] [])) t → Steps p.tables e below (s₁.setTop (entryFrame m #[] 0)) t := fun t k => castTop (ef_rm2 m ) k
  obtain ⟨T1, X1, e1, st1⟩ := getS2 X0 hx hZ hown (host := "") (Or.inl (hw _ (List.mem_of_getElem? (i := 7) rfl))) Via.refl e0 S__VALUES (g := (mkF m 0 #[] [])) rfl (hb hby d2_0)
  obtain ⟨T2, h2, X2, e2, E2, A2, C2, st2⟩ := cloneA X1 hx hZ hown (hw _ (List.mem_of_getElem? (i := 9) rfl)) (hw _ (List.mem_of_getElem? (i := 10) rfl)) (hw _ (List.mem_of_getElem? (i := 14) rfl)) (hw _ (List.mem_of_getElem? (i := 12) rfl)) (hw _ (List.mem_of_getElem? (i := 13) rfl)) (hw _ (List.mem_of_getElem? (i := 15) rfl)) e1 hA E_wV hF (g := (mkF m 3 #[] [(.ref wV)])) rfl (by rw [hml]; rfl) rfl (hb hby d2_3) (by decide) (W := 0) (cap := 9) (by show 2 * 0 + _ ≤ _; exact Nat.le_of_eq rfl) (by decide) (by rw [hsl]; exact Nat.le_refl 9) (by decide) (by decide)
  obtain ⟨b2, g2⟩ : ∃ z, z = h0.size := ⟨_, rfl⟩
  rw [← g2] at A2 C2 st2
  have ne_wV_b2 : wV ≠ b2 := Nat.ne_of_lt (Nat.lt_of_lt_of_le E_wV.lt (Nat.le_of_eq g2.symm))
  have g_b2 : n0 ≤ b2 := Nat.le_trans Z0 (Nat.le_of_eq g2.symm)
  have sz_b2 : h0.size ≤ b2 := Nat.le_trans (Keep.refl h0 []).1 (Nat.le_of_eq g2.symm)
  have K3 : Keep h0 h2 [] := (Keep.refl h0 []).ext E2
  have Vc := own_arv A2 hsl
  obtain ⟨T4, X4, e4, st4⟩ := castY X2 hx hZ hown (hw _ (List.mem_of_getElem? (i := 26) rfl)) e2 (Ins.self C2) (g := (mkF m 6 #[] [(.ref b2)])) rfl rfl (hb hby d2_6)
  obtain ⟨fs, hr, hrun, hended, hW, hsame⟩ := X4.leave (v := some (.ref b2)) (fun h => by rw [Bd.returns] at h; cases h)
  refine ⟨_, _, pre0 _ ?_, hrun, hended, _, _, rfl, ?_, ⟨_, rfl⟩, hW, hsame.mono (by decide) (by decide)⟩
  · show Steps p.tables e below (s₁.setTop (mkF m 0 #[] [])) _
    refine st1 _ ?_
    show Steps p.tables e below (T1.setTop (mkF m 3 #[] [(.ref wV)])) _
    refine st2 _ ?_
    show Steps p.tables e below (T2.setTop (mkF m 6 #[] [(.ref b2)])) _
    refine st4 _ ?_
    show Steps p.tables e below (T4.setTop (mkF m 9 #[] [(.ref b2)])) _
    jvm_step X4.here [X4.here.top, hx, (hb hby d2_9), X4.method', Bd.returns, Value.isRef, FieldType.isReference]
    first | (intro acts; rw [hr _ acts rfl rfl rfl]) | rw [hr _ _ rfl rfl rfl]
    exact Steps.refl _
  · show Q_rm2 Z wV cl w_PING w_PONG w_BYE w_ROUTE_TABLE_UPDATE w_VENDOR w_STANDARD_VENDOR w_PUSH w_QUERY w_QUERY_HIT h0 n0 _ T4.heap _
    rw [e4]
    exact ⟨b2, rfl, N0, K3, sz_b2, C2, Vc⟩
theorem pd__28_29_5bLcom_2fexample_2fhearsay_2fhearsay_2fcore_2fMessageType_3b : parseMethodDescriptor "()[Lcom/example/hearsay/hearsay/core/MessageType;" = some ⟨[], some (.array (.object "com/example/hearsay/hearsay/core/MessageType"))⟩ := by decide +kernel
theorem d1_0 : decode prog_19_method_5_code 0 = .ok (.invokestatic 54, 3) := by decide +kernel
theorem d1_3 : decode prog_19_method_5_code 3 = .ok (.astore_n 1, 1) := by decide +kernel
theorem d1_4 : decode prog_19_method_5_code 4 = .ok (.aload_n 1, 1) := by decide +kernel
theorem d1_5 : decode prog_19_method_5_code 5 = .ok (.arraylength, 1) := by decide +kernel
theorem d1_6 : decode prog_19_method_5_code 6 = .ok (.istore_n 2, 1) := by decide +kernel
theorem d1_7 : decode prog_19_method_5_code 7 = .ok (.iconst 0, 1) := by decide +kernel
theorem d1_8 : decode prog_19_method_5_code 8 = .ok (.istore_n 3, 1) := by decide +kernel
theorem d1_9 : decode prog_19_method_5_code 9 = .ok (.iload_n 3, 1) := by decide +kernel
theorem d1_10 : decode prog_19_method_5_code 10 = .ok (.iload_n 2, 1) := by decide +kernel
theorem d1_11 : decode prog_19_method_5_code 11 = .ok (.if_icmp .ge 26, 3) := by decide +kernel
theorem d1_14 : decode prog_19_method_5_code 14 = .ok (.aload_n 1, 1) := by decide +kernel
theorem d1_15 : decode prog_19_method_5_code 15 = .ok (.iload_n 3, 1) := by decide +kernel
theorem d1_16 : decode prog_19_method_5_code 16 = .ok (.aaload, 1) := by decide +kernel
theorem d1_17 : decode prog_19_method_5_code 17 = .ok (.astore 4, 2) := by decide +kernel
theorem d1_19 : decode prog_19_method_5_code 19 = .ok (.aload 4, 2) := by decide +kernel
theorem d1_21 : decode prog_19_method_5_code 21 = .ok (.getfield 50, 3) := by decide +kernel
theorem d1_24 : decode prog_19_method_5_code 24 = .ok (.iload_n 0, 1) := by decide +kernel
theorem d1_25 : decode prog_19_method_5_code 25 = .ok (.if_icmp .ne 6, 3) := by decide +kernel
theorem d1_28 : decode prog_19_method_5_code 28 = .ok (.aload 4, 2) := by decide +kernel
theorem d1_30 : decode prog_19_method_5_code 30 = .ok (.areturn, 1) := by decide +kernel
theorem d1_31 : decode prog_19_method_5_code 31 = .ok (.iinc 3 1, 3) := by decide +kernel
theorem d1_34 : decode prog_19_method_5_code 34 = .ok (.goto (-25), 3) := by decide +kernel
theorem d1_37 : decode prog_19_method_5_code 37 = .ok (.aconst_null, 1) := by decide +kernel
theorem d1_38 : decode prog_19_method_5_code 38 = .ok (.areturn, 1) := by decide +kernel
theorem ef_rm1 (m : MethodId) (p1 : Int32) : entryFrame m #[(.int p1)] 5 = mkF m 0 #[.val (.int p1), .unset, .unset, .unset, .unset] [] := by first | (simp [entryFrame, mkF, argsToLocals, Value.category]; done) | rfl
def Q_rm1 (Z : State) (p1 : Int32) (wV : Addr) (cl : Cell) (w_PING : Addr) (w_PONG : Addr) (w_BYE : Addr) (w_ROUTE_TABLE_UPDATE : Addr) (w_VENDOR : Addr) (w_STANDARD_VENDOR : Addr) (w_PUSH : Addr) (w_QUERY : Addr) (w_QUERY_HIT : Addr) (h0 : Heap) (n0 : Nat) (v : Option Value) (h : Heap) (L : List Loc) : Prop := v = some (own_for p1 w_PING w_PONG w_BYE w_ROUTE_TABLE_UPDATE w_VENDOR w_STANDARD_VENDOR w_PUSH w_QUERY w_QUERY_HIT) ∧ Fr n0 L ∧ Keep h0 h []
set_option maxRecDepth 65536 in
set_option maxHeartbeats 40000000 in
theorem rm1 (l : Launch) (Z : State) (a0 : Array Value) (hw : ∀ d ∈ tables_1, d.before a0 Z = true) (ws : List Jvm.Cond) (p1 : Int32) (wV : Addr) (cl : Cell) (w_PING : Addr) (w_PONG : Addr) (w_BYE : Addr) (w_ROUTE_TABLE_UPDATE : Addr) (w_VENDOR : Addr) (w_STANDARD_VENDOR : Addr) (w_PUSH : Addr) (w_QUERY : Addr) (w_QUERY_HIT : Addr) (h0 : Heap) (n0 : Nat) (Z0 : n0 ≤ h0.size) (S__VALUES : Sta Z h0 "com/example/hearsay/hearsay/core/MessageType" "$VALUES" "[Lcom/example/hearsay/hearsay/core/MessageType;" (.ref wV)) (E_wV : Exa Z h0 wV "[Lcom/example/hearsay/hearsay/core/MessageType;") (hA : Arr Z h0 wV cl (.object "com/example/hearsay/hearsay/core/MessageType")) (hF : FitC Z cl) (hsl : cl.slots = #[(.ref w_PING), (.ref w_PONG), (.ref w_BYE), (.ref w_ROUTE_TABLE_UPDATE), (.ref w_VENDOR), (.ref w_STANDARD_VENDOR), (.ref w_PUSH), (.ref w_QUERY), (.ref w_QUERY_HIT)]) (F_code_w_PING : Fld Z h0 w_PING "com/example/hearsay/hearsay/core/MessageType" "code" "I" (.int (0 : Int32))) (F_code_w_PONG : Fld Z h0 w_PONG "com/example/hearsay/hearsay/core/MessageType" "code" "I" (.int (1 : Int32))) (F_code_w_BYE : Fld Z h0 w_BYE "com/example/hearsay/hearsay/core/MessageType" "code" "I" (.int (2 : Int32))) (F_code_w_ROUTE_TABLE_UPDATE : Fld Z h0 w_ROUTE_TABLE_UPDATE "com/example/hearsay/hearsay/core/MessageType" "code" "I" (.int (48 : Int32))) (F_code_w_VENDOR : Fld Z h0 w_VENDOR "com/example/hearsay/hearsay/core/MessageType" "code" "I" (.int (49 : Int32))) (F_code_w_STANDARD_VENDOR : Fld Z h0 w_STANDARD_VENDOR "com/example/hearsay/hearsay/core/MessageType" "code" "I" (.int (50 : Int32))) (F_code_w_PUSH : Fld Z h0 w_PUSH "com/example/hearsay/hearsay/core/MessageType" "code" "I" (.int (64 : Int32))) (F_code_w_QUERY : Fld Z h0 w_QUERY "com/example/hearsay/hearsay/core/MessageType" "code" "I" (.int (128 : Int32))) (F_code_w_QUERY_HIT : Fld Z h0 w_QUERY_HIT "com/example/hearsay/hearsay/core/MessageType" "code" "I" (.int (129 : Int32))) :
    MetFree l (⟨"com/example/hearsay/hearsay/core/MessageType", "forCode", "(I)Lcom/example/hearsay/hearsay/core/MessageType;"⟩ : MethodName) (head1 (Jvm.Cond.code (⟨"com/example/hearsay/hearsay/core/MessageType", "forCode", "(I)Lcom/example/hearsay/hearsay/core/MessageType;"⟩ : MethodName) prog_19_method_5_code 5 (some (.object "com/example/hearsay/hearsay/core/MessageType")) :: ws) ({ frames := 2, cells := 1, slots := 9, locals := 25 } : Room)) (fun a U => a = #[(.int p1)] ∧ Z.Warmed39 U.vm ∧ U.heap = h0) (fun _ _ _ _ _ => True) (fun _ U o U' => ∃ v L, o = .returned v ∧ Q_rm1 Z p1 wV cl w_PING w_PONG w_BYE w_ROUTE_TABLE_UPDATE w_VENDOR w_STANDARD_VENDOR w_PUSH w_QUERY w_QUERY_HIT h0 n0 v U'.heap L ∧ FrameEnd U o U' L ({ frames := 2, cells := 1, slots := 9, locals := 25 } : Room).cells ({ frames := 2, cells := 1, slots := 9, locals := 25 } : Room).slots) := by
  refine MetFree.of_bodySF (plainFor_of_name pn_com_example_hearsay_hearsay_core_MessageType) hisR ?_
  intro p e s m args below meth c s₁ Bd hml0 hP hK
  obtain ⟨rfl, hZ, hh⟩ := hP
  have hx := Bd.exec
  have hby := Bd.bytes
  have hml : c.maxLocals = 5 := hml0
  have hown : s.vm.findClass "com/example/hearsay/hearsay/core/MessageType" = some m.cls := findClass_of_methodNamed Bd.named
  have hnm := (name_of_methodNamed Bd.named Bd.method).1
  have X0 : Stand p l e ({ frames := 2, cells := 1, slots := 9, locals := 25 } : Room) s m #[(.int p1)] below meth c s₁ [] 0 0 := Stand.of_body Bd
  have e0 : s₁.heap = h0 := by rw [← hh, Bd.state]; rfl
  have N0 := Fr.nil n0
  have pre0 : ∀ t, Steps p.tables e below (s₁.setTop (mkF m 0 #[.val (.int p1), .unset, .unset, .unset, .unset] [])) t → Steps p.tables e below (s₁.setTop (entryFrame m #[(.int p1)] 5)) t := fun t k => castTop (ef_rm1 m p1) k
  obtain ⟨_, _, ⟨T1, L1, k1, n1⟩, -, X1, ⟨Lc1, hQ1, l1, y1, z1⟩, st1⟩ := Jvm.LawKit.callS X0 hx (y := (⟨"com/example/hearsay/hearsay/core/MessageType", "values", "()[Lcom/example/hearsay/hearsay/core/MessageType;"⟩ : MethodName)) hown (mvT hZ (hw _ (List.mem_of_getElem? (i := 4) rfl))) (mvT hZ (hw _ (List.mem_of_getElem? (i := 5) rfl))) (mvT hZ (hw _ (List.mem_of_getElem? (i := 2) rfl))) (mvT hZ (hw _ (List.mem_of_getElem? (i := 6) rfl))) (by decide) (backOf (W := 0) (rm2 l Z a0 hw [] wV cl w_PING w_PONG w_BYE w_ROUTE_TABLE_UPDATE w_VENDOR w_STANDARD_VENDOR w_PUSH w_QUERY w_QUERY_HIT h0 n0 Z0 S__VALUES E_wV hA hF hsl) hZ (hw _ (List.mem_of_getElem? (i := 6) rfl)) (hw _ (List.mem_of_getElem? (i := 2) rfl)) (by decide) (by decide)) (g := (mkF m 0 #[.val (.int p1), .unset, .unset, .unset, .unset] [])) rfl (by rw [hml]; rfl) (argsL := []) (rest := []) (lenOf pd__28_29_5bLcom_2fexample_2fhearsay_2fhearsay_2fcore_2fMessageType_3b rfl) rfl (by show 2 * 0 + _ ≤ _; exact Nat.le_of_eq rfl) (hb hby d1_0) (fun _ _ => ⟨rfl, e0, (by decide : 0 + 1 ≤ _), (by decide : 0 + 9 ≤ _)⟩)
  dsimp only [Pt.U, Pt.locs, Pt.cells, Pt.slots] at X1 l1 y1 z1 st1 hQ1
  subst l1 y1 z1
  obtain ⟨r_1, rfl, N1q, K1q, t1_0, t1_1, t1_2⟩ := hQ1
  have N1 := Fr.app N0 N1q
  have K1 : Keep h0 T1.heap [] := (Keep.refl h0 []).trans K1q all0
  have ne_wV_r_1 : wV ≠ r_1 := Nat.ne_of_lt (Nat.lt_of_lt_of_le E_wV.lt t1_0)
  have ne_w_BYE_r_1 : w_BYE ≠ r_1 := Nat.ne_of_lt (Nat.lt_of_lt_of_le F_code_w_BYE.lt t1_0)
  have ne_w_PING_r_1 : w_PING ≠ r_1 := Nat.ne_of_lt (Nat.lt_of_lt_of_le F_code_w_PING.lt t1_0)
  have ne_w_PONG_r_1 : w_PONG ≠ r_1 := Nat.ne_of_lt (Nat.lt_of_lt_of_le F_code_w_PONG.lt t1_0)
  have ne_w_PUSH_r_1 : w_PUSH ≠ r_1 := Nat.ne_of_lt (Nat.lt_of_lt_of_le F_code_w_PUSH.lt t1_0)
  have ne_w_QUERY_r_1 : w_QUERY ≠ r_1 := Nat.ne_of_lt (Nat.lt_of_lt_of_le F_code_w_QUERY.lt t1_0)
  have ne_w_QUERY_HIT_r_1 : w_QUERY_HIT ≠ r_1 := Nat.ne_of_lt (Nat.lt_of_lt_of_le F_code_w_QUERY_HIT.lt t1_0)
  have ne_w_ROUTE_TABLE_UPDATE_r_1 : w_ROUTE_TABLE_UPDATE ≠ r_1 := Nat.ne_of_lt (Nat.lt_of_lt_of_le F_code_w_ROUTE_TABLE_UPDATE.lt t1_0)
  have ne_w_STANDARD_VENDOR_r_1 : w_STANDARD_VENDOR ≠ r_1 := Nat.ne_of_lt (Nat.lt_of_lt_of_le F_code_w_STANDARD_VENDOR.lt t1_0)
  have ne_w_VENDOR_r_1 : w_VENDOR ≠ r_1 := Nat.ne_of_lt (Nat.lt_of_lt_of_le F_code_w_VENDOR.lt t1_0)
  have sz_r_1 : h0.size ≤ r_1 := Nat.le_trans (Keep.refl h0 []).1 t1_0
  obtain ⟨c2, Ac2, -, Sc2, Nc2, -, -⟩ := id t1_2
  obtain ⟨c3, Ac3, qc3, Sc3, Nc3, Hc3, Gc3⟩ := id t1_2
  have hinc3 := inb_of Sc3 (j := (0 : Int32)) ⟨by decide, by decide⟩
  have f4 : Fld Z T1.heap w_PING "com/example/hearsay/hearsay/core/MessageType" "code" "I" (.int (0 : Int32)) := (F_code_w_PING.keep K1q nin0)
  obtain ⟨T5, X5, e5, st5⟩ := getF X1 hx hZ hown (host := "") (Or.inl (hw _ (List.mem_of_getElem? (i := 28) rfl))) Via.refl rfl f4 (g := (mkF m 21 #[.val (.int p1), .val (.ref r_1), .val (.int (9 : Int32)), .val (.int (0 : Int32)), .val (.ref w_PING)] [(.ref w_PING)])) rfl rfl (hb hby d1_21)
  have pre7 : ∀ t, Steps p.tables e below (T5.setTop (mkF m 25 #[.val (.int p1), .val (.ref r_1), .val (.int (9 : Int32)), .val (.int (0 : Int32)), .val (.ref w_PING)] [(.int p1), (.int (0 : Int32))])) t → Steps p.tables e below (s₁.setTop (entryFrame m #[(.int p1)] 5)) t := fun t kt => by
    refine pre0 t ?_
    show Steps p.tables e below (s₁.setTop (mkF m 0 #[.val (.int p1), .unset, .unset, .unset, .unset] [])) _
    refine st1 _ ?_
    show Steps p.tables e below (T1.setTop (mkF m 3 #[.val (.int p1), .unset, .unset, .unset, .unset] [(.ref r_1)])) _
    refine XS.astoreN X1.here hx rfl (hb hby d1_3) rfl rfl (l' := #[.val (.int p1), .val (.ref r_1), .unset, .unset, .unset]) rfl ?_
    show Steps p.tables e below (T1.setTop (mkF m 4 #[.val (.int p1), .val (.ref r_1), .unset, .unset, .unset] [])) _
    refine XS.aloadN X1.here hx rfl (hb hby d1_4) rfl rfl ?_
    show Steps p.tables e below (T1.setTop (mkF m 5 #[.val (.int p1), .val (.ref r_1), .unset, .unset, .unset] [(.ref r_1)])) _
    refine X1.arraylength hx Ac2.1 (State.isArrayOf_alike hZ.alike Ac2.2.1) (g := (mkF m 5 #[.val (.int p1), .val (.ref r_1), .unset, .unset, .unset] [(.ref r_1)])) rfl rfl (hb hby d1_5) _ ?_
    rw [len_of Sc2 Nc2]
    show Steps p.tables e below (T1.setTop (mkF m 6 #[.val (.int p1), .val (.ref r_1), .unset, .unset, .unset] [(.int (9 : Int32))])) _
    refine XS.istoreN X1.here hx rfl (hb hby d1_6) rfl (l' := #[.val (.int p1), .val (.ref r_1), .val (.int (9 : Int32)), .unset, .unset]) rfl ?_
    show Steps p.tables e below (T1.setTop (mkF m 7 #[.val (.int p1), .val (.ref r_1), .val (.int (9 : Int32)), .unset, .unset] [])) _
    refine XS.iconst X1.here hx rfl (hb hby d1_7) ?_
    show Steps p.tables e below (T1.setTop (mkF m 8 #[.val (.int p1), .val (.ref r_1), .val (.int (9 : Int32)), .unset, .unset] [(.int (0 : Int32))])) _
    refine XS.istoreN X1.here hx rfl (hb hby d1_8) rfl (l' := #[.val (.int p1), .val (.ref r_1), .val (.int (9 : Int32)), .val (.int (0 : Int32)), .unset]) rfl ?_
    show Steps p.tables e below (T1.setTop (mkF m 9 #[.val (.int p1), .val (.ref r_1), .val (.int (9 : Int32)), .val (.int (0 : Int32)), .unset] [])) _
    refine XS.iloadN X1.here hx rfl (hb hby d1_9) rfl ?_
    show Steps p.tables e below (T1.setTop (mkF m 10 #[.val (.int p1), .val (.ref r_1), .val (.int (9 : Int32)), .val (.int (0 : Int32)), .unset] [(.int (0 : Int32))])) _
    refine XS.iloadN X1.here hx rfl (hb hby d1_10) rfl ?_
    show Steps p.tables e below (T1.setTop (mkF m 11 #[.val (.int p1), .val (.ref r_1), .val (.int (9 : Int32)), .val (.int (0 : Int32)), .unset] [(.int (9 : Int32)), (.int (0 : Int32))])) _
    refine XS.icmpNo X1.here hx rfl (hb hby d1_11) rfl (tlt (by decide : (0 : Int32) < (9 : Int32))).2.1 ?_
    show Steps p.tables e below (T1.setTop (mkF m 14 #[.val (.int p1), .val (.ref r_1), .val (.int (9 : Int32)), .val (.int (0 : Int32)), .unset] [])) _
    refine XS.aloadN X1.here hx rfl (hb hby d1_14) rfl rfl ?_
    show Steps p.tables e below (T1.setTop (mkF m 15 #[.val (.int p1), .val (.ref r_1), .val (.int (9 : Int32)), .val (.int (0 : Int32)), .unset] [(.ref r_1)])) _
    refine XS.iloadN X1.here hx rfl (hb hby d1_15) rfl ?_
    show Steps p.tables e below (T1.setTop (mkF m 16 #[.val (.int p1), .val (.ref r_1), .val (.int (9 : Int32)), .val (.int (0 : Int32)), .unset] [(.int (0 : Int32)), (.ref r_1)])) _
    refine X1.aaload hx (j := (0 : Int32)) (v := (.ref w_PING)) Ac3.1 (State.isArrayOf_alike hZ.alike Ac3.2.1) rfl Ac3.2.2 hinc3 (Has.at Hc3 hinc3 rfl) (g := (mkF m 16 #[.val (.int p1), .val (.ref r_1), .val (.int (9 : Int32)), .val (.int (0 : Int32)), .unset] [(.int (0 : Int32)), (.ref r_1)])) rfl rfl (hb hby d1_16) _ ?_
    show Steps p.tables e below (T1.setTop (mkF m 17 #[.val (.int p1), .val (.ref r_1), .val (.int (9 : Int32)), .val (.int (0 : Int32)), .unset] [(.ref w_PING)])) _
    refine XS.astore X1.here hx rfl (hb hby d1_17) rfl rfl (l' := #[.val (.int p1), .val (.ref r_1), .val (.int (9 : Int32)), .val (.int (0 : Int32)), .val (.ref w_PING)]) rfl ?_
    show Steps p.tables e below (T1.setTop (mkF m 19 #[.val (.int p1), .val (.ref r_1), .val (.int (9 : Int32)), .val (.int (0 : Int32)), .val (.ref w_PING)] [])) _
    refine XS.aload X1.here hx rfl (hb hby d1_19) rfl rfl ?_
    show Steps p.tables e below (T1.setTop (mkF m 21 #[.val (.int p1), .val (.ref r_1), .val (.int (9 : Int32)), .val (.int (0 : Int32)), .val (.ref w_PING)] [(.ref w_PING)])) _
    refine st5 _ ?_
    show Steps p.tables e below (T5.setTop (mkF m 24 #[.val (.int p1), .val (.ref r_1), .val (.int (9 : Int32)), .val (.int (0 : Int32)), .val (.ref w_PING)] [(.int (0 : Int32))])) _
    refine XS.iloadN X5.here hx rfl (hb hby d1_24) rfl ?_
    exact kt
  by_cases hc25_6 : (0 : Int32) = p1
  · obtain ⟨fs, hr, hrun, hended, hW, hsame⟩ := X5.leave (v := some (.ref w_PING)) (fun h => by rw [Bd.returns] at h; cases h)
    refine ⟨_, _, pre7 _ ?_, hrun, hended, _, _, rfl, ?_, ⟨_, rfl⟩, hW, hsame.mono (by decide) (by decide)⟩
    · show Steps p.tables e below (T5.setTop (mkF m 25 #[.val (.int p1), .val (.ref r_1), .val (.int (9 : Int32)), .val (.int (0 : Int32)), .val (.ref w_PING)] [(.int p1), (.int (0 : Int32))])) _
      refine XS.icmpNo X5.here hx rfl (hb hby d1_25) rfl (teq hc25_6).2 ?_
      show Steps p.tables e below (T5.setTop (mkF m 28 #[.val (.int p1), .val (.ref r_1), .val (.int (9 : Int32)), .val (.int (0 : Int32)), .val (.ref w_PING)] [])) _
      refine XS.aload X5.here hx rfl (hb hby d1_28) rfl rfl ?_
      show Steps p.tables e below (T5.setTop (mkF m 30 #[.val (.int p1), .val (.ref r_1), .val (.int (9 : Int32)), .val (.int (0 : Int32)), .val (.ref w_PING)] [(.ref w_PING)])) _
      jvm_step X5.here [X5.here.top, hx, (hb hby d1_30), X5.method', Bd.returns, Value.isRef, FieldType.isReference]
      first | (intro acts; rw [hr _ acts rfl rfl rfl]) | rw [hr _ _ rfl rfl rfl]
      exact Steps.refl _
    · show Q_rm1 Z p1 wV cl w_PING w_PONG w_BYE w_ROUTE_TABLE_UPDATE w_VENDOR w_STANDARD_VENDOR w_PUSH w_QUERY w_QUERY_HIT h0 n0 _ T5.heap _
      rw [e5]
      exact ⟨by rw [own_for, if_pos hc25_6.symm], N1, K1⟩
  · obtain ⟨c8, Ac8, qc8, Sc8, Nc8, Hc8, Gc8⟩ := id t1_2
    have hinc8 := inb_of Sc8 (j := (1 : Int32)) ⟨by decide, by decide⟩
    have f9 : Fld Z T1.heap w_PONG "com/example/hearsay/hearsay/core/MessageType" "code" "I" (.int (1 : Int32)) := (F_code_w_PONG.keep K1q nin0)
    obtain ⟨T10, X10, e10, st10⟩ := getF X5 hx hZ hown (host := "") (Or.inl (hw _ (List.mem_of_getElem? (i := 28) rfl))) Via.refl e5 f9 (g := (mkF m 21 #[.val (.int p1), .val (.ref r_1), .val (.int (9 : Int32)), .val (.int (1 : Int32)), .val (.ref w_PONG)] [(.ref w_PONG)])) rfl rfl (hb hby d1_21)
    have pre12 : ∀ t, Steps p.tables e below (T10.setTop (mkF m 25 #[.val (.int p1), .val (.ref r_1), .val (.int (9 : Int32)), .val (.int (1 : Int32)), .val (.ref w_PONG)] [(.int p1), (.int (1 : Int32))])) t → Steps p.tables e below (s₁.setTop (entryFrame m #[(.int p1)] 5)) t := fun t kt => by
      refine pre7 t ?_
      show Steps p.tables e below (T5.setTop (mkF m 25 #[.val (.int p1), .val (.ref r_1), .val (.int (9 : Int32)), .val (.int (0 : Int32)), .val (.ref w_PING)] [(.int p1), (.int (0 : Int32))])) _
      refine XS.icmpYes X5.here hx rfl (pc0 := 25) (pc' := 31) rfl (hb hby d1_25) rfl (feq hc25_6).2 (by decide) (by decide) ?_
      show Steps p.tables e below (T5.setTop (mkF m 31 #[.val (.int p1), .val (.ref r_1), .val (.int (9 : Int32)), .val (.int (0 : Int32)), .val (.ref w_PING)] [])) _
      refine XS.iinc X5.here hx rfl (hb hby d1_31) rfl (l' := #[.val (.int p1), .val (.ref r_1), .val (.int (9 : Int32)), .val (.int (1 : Int32)), .val (.ref w_PING)]) rfl ?_
      show Steps p.tables e below (T5.setTop (mkF m 34 #[.val (.int p1), .val (.ref r_1), .val (.int (9 : Int32)), .val (.int (1 : Int32)), .val (.ref w_PING)] [])) _
      refine XS.goto X5.here hx rfl (pc0 := 34) (pc' := 9) rfl (hb hby d1_34) (by decide) (by decide) ?_
      show Steps p.tables e below (T5.setTop (mkF m 9 #[.val (.int p1), .val (.ref r_1), .val (.int (9 : Int32)), .val (.int (1 : Int32)), .val (.ref w_PING)] [])) _
      refine XS.iloadN X5.here hx rfl (hb hby d1_9) rfl ?_
      show Steps p.tables e below (T5.setTop (mkF m 10 #[.val (.int p1), .val (.ref r_1), .val (.int (9 : Int32)), .val (.int (1 : Int32)), .val (.ref w_PING)] [(.int (1 : Int32))])) _
      refine XS.iloadN X5.here hx rfl (hb hby d1_10) rfl ?_
      show Steps p.tables e below (T5.setTop (mkF m 11 #[.val (.int p1), .val (.ref r_1), .val (.int (9 : Int32)), .val (.int (1 : Int32)), .val (.ref w_PING)] [(.int (9 : Int32)), (.int (1 : Int32))])) _
      refine XS.icmpNo X5.here hx rfl (hb hby d1_11) rfl (tlt (by decide : (1 : Int32) < (9 : Int32))).2.1 ?_
      show Steps p.tables e below (T5.setTop (mkF m 14 #[.val (.int p1), .val (.ref r_1), .val (.int (9 : Int32)), .val (.int (1 : Int32)), .val (.ref w_PING)] [])) _
      refine XS.aloadN X5.here hx rfl (hb hby d1_14) rfl rfl ?_
      show Steps p.tables e below (T5.setTop (mkF m 15 #[.val (.int p1), .val (.ref r_1), .val (.int (9 : Int32)), .val (.int (1 : Int32)), .val (.ref w_PING)] [(.ref r_1)])) _
      refine XS.iloadN X5.here hx rfl (hb hby d1_15) rfl ?_
      show Steps p.tables e below (T5.setTop (mkF m 16 #[.val (.int p1), .val (.ref r_1), .val (.int (9 : Int32)), .val (.int (1 : Int32)), .val (.ref w_PING)] [(.int (1 : Int32)), (.ref r_1)])) _
      refine X5.aaload hx (j := (1 : Int32)) (v := (.ref w_PONG)) (by rw [e5]; exact Ac8.1) (State.isArrayOf_alike hZ.alike Ac8.2.1) rfl Ac8.2.2 hinc8 (Has.at Hc8 hinc8 rfl) (g := (mkF m 16 #[.val (.int p1), .val (.ref r_1), .val (.int (9 : Int32)), .val (.int (1 : Int32)), .val (.ref w_PING)] [(.int (1 : Int32)), (.ref r_1)])) rfl rfl (hb hby d1_16) _ ?_
      show Steps p.tables e below (T5.setTop (mkF m 17 #[.val (.int p1), .val (.ref r_1), .val (.int (9 : Int32)), .val (.int (1 : Int32)), .val (.ref w_PING)] [(.ref w_PONG)])) _
      refine XS.astore X5.here hx rfl (hb hby d1_17) rfl rfl (l' := #[.val (.int p1), .val (.ref r_1), .val (.int (9 : Int32)), .val (.int (1 : Int32)), .val (.ref w_PONG)]) rfl ?_
      show Steps p.tables e below (T5.setTop (mkF m 19 #[.val (.int p1), .val (.ref r_1), .val (.int (9 : Int32)), .val (.int (1 : Int32)), .val (.ref w_PONG)] [])) _
      refine XS.aload X5.here hx rfl (hb hby d1_19) rfl rfl ?_
      show Steps p.tables e below (T5.setTop (mkF m 21 #[.val (.int p1), .val (.ref r_1), .val (.int (9 : Int32)), .val (.int (1 : Int32)), .val (.ref w_PONG)] [(.ref w_PONG)])) _
      refine st10 _ ?_
      show Steps p.tables e below (T10.setTop (mkF m 24 #[.val (.int p1), .val (.ref r_1), .val (.int (9 : Int32)), .val (.int (1 : Int32)), .val (.ref w_PONG)] [(.int (1 : Int32))])) _
      refine XS.iloadN X10.here hx rfl (hb hby d1_24) rfl ?_
      exact kt
    by_cases hc25_11 : (1 : Int32) = p1
    · obtain ⟨fs, hr, hrun, hended, hW, hsame⟩ := X10.leave (v := some (.ref w_PONG)) (fun h => by rw [Bd.returns] at h; cases h)
      refine ⟨_, _, pre12 _ ?_, hrun, hended, _, _, rfl, ?_, ⟨_, rfl⟩, hW, hsame.mono (by decide) (by decide)⟩
      · show Steps p.tables e below (T10.setTop (mkF m 25 #[.val (.int p1), .val (.ref r_1), .val (.int (9 : Int32)), .val (.int (1 : Int32)), .val (.ref w_PONG)] [(.int p1), (.int (1 : Int32))])) _
        refine XS.icmpNo X10.here hx rfl (hb hby d1_25) rfl (teq hc25_11).2 ?_
        show Steps p.tables e below (T10.setTop (mkF m 28 #[.val (.int p1), .val (.ref r_1), .val (.int (9 : Int32)), .val (.int (1 : Int32)), .val (.ref w_PONG)] [])) _
        refine XS.aload X10.here hx rfl (hb hby d1_28) rfl rfl ?_
        show Steps p.tables e below (T10.setTop (mkF m 30 #[.val (.int p1), .val (.ref r_1), .val (.int (9 : Int32)), .val (.int (1 : Int32)), .val (.ref w_PONG)] [(.ref w_PONG)])) _
        jvm_step X10.here [X10.here.top, hx, (hb hby d1_30), X10.method', Bd.returns, Value.isRef, FieldType.isReference]
        first | (intro acts; rw [hr _ acts rfl rfl rfl]) | rw [hr _ _ rfl rfl rfl]
        exact Steps.refl _
      · show Q_rm1 Z p1 wV cl w_PING w_PONG w_BYE w_ROUTE_TABLE_UPDATE w_VENDOR w_STANDARD_VENDOR w_PUSH w_QUERY w_QUERY_HIT h0 n0 _ T10.heap _
        rw [e10]
        exact ⟨by rw [own_for, if_neg (Ne.symm hc25_6), if_pos hc25_11.symm], N1, K1⟩
    · obtain ⟨c13, Ac13, qc13, Sc13, Nc13, Hc13, Gc13⟩ := id t1_2
      have hinc13 := inb_of Sc13 (j := (2 : Int32)) ⟨by decide, by decide⟩
      have f14 : Fld Z T1.heap w_BYE "com/example/hearsay/hearsay/core/MessageType" "code" "I" (.int (2 : Int32)) := (F_code_w_BYE.keep K1q nin0)
      obtain ⟨T15, X15, e15, st15⟩ := getF X10 hx hZ hown (host := "") (Or.inl (hw _ (List.mem_of_getElem? (i := 28) rfl))) Via.refl e10 f14 (g := (mkF m 21 #[.val (.int p1), .val (.ref r_1), .val (.int (9 : Int32)), .val (.int (2 : Int32)), .val (.ref w_BYE)] [(.ref w_BYE)])) rfl rfl (hb hby d1_21)
      have pre17 : ∀ t, Steps p.tables e below (T15.setTop (mkF m 25 #[.val (.int p1), .val (.ref r_1), .val (.int (9 : Int32)), .val (.int (2 : Int32)), .val (.ref w_BYE)] [(.int p1), (.int (2 : Int32))])) t → Steps p.tables e below (s₁.setTop (entryFrame m #[(.int p1)] 5)) t := fun t kt => by
        refine pre12 t ?_
        show Steps p.tables e below (T10.setTop (mkF m 25 #[.val (.int p1), .val (.ref r_1), .val (.int (9 : Int32)), .val (.int (1 : Int32)), .val (.ref w_PONG)] [(.int p1), (.int (1 : Int32))])) _
        refine XS.icmpYes X10.here hx rfl (pc0 := 25) (pc' := 31) rfl (hb hby d1_25) rfl (feq hc25_11).2 (by decide) (by decide) ?_
        show Steps p.tables e below (T10.setTop (mkF m 31 #[.val (.int p1), .val (.ref r_1), .val (.int (9 : Int32)), .val (.int (1 : Int32)), .val (.ref w_PONG)] [])) _
        refine XS.iinc X10.here hx rfl (hb hby d1_31) rfl (l' := #[.val (.int p1), .val (.ref r_1), .val (.int (9 : Int32)), .val (.int (2 : Int32)), .val (.ref w_PONG)]) rfl ?_
        show Steps p.tables e below (T10.setTop (mkF m 34 #[.val (.int p1), .val (.ref r_1), .val (.int (9 : Int32)), .val (.int (2 : Int32)), .val (.ref w_PONG)] [])) _
        refine XS.goto X10.here hx rfl (pc0 := 34) (pc' := 9) rfl (hb hby d1_34) (by decide) (by decide) ?_
        show Steps p.tables e below (T10.setTop (mkF m 9 #[.val (.int p1), .val (.ref r_1), .val (.int (9 : Int32)), .val (.int (2 : Int32)), .val (.ref w_PONG)] [])) _
        refine XS.iloadN X10.here hx rfl (hb hby d1_9) rfl ?_
        show Steps p.tables e below (T10.setTop (mkF m 10 #[.val (.int p1), .val (.ref r_1), .val (.int (9 : Int32)), .val (.int (2 : Int32)), .val (.ref w_PONG)] [(.int (2 : Int32))])) _
        refine XS.iloadN X10.here hx rfl (hb hby d1_10) rfl ?_
        show Steps p.tables e below (T10.setTop (mkF m 11 #[.val (.int p1), .val (.ref r_1), .val (.int (9 : Int32)), .val (.int (2 : Int32)), .val (.ref w_PONG)] [(.int (9 : Int32)), (.int (2 : Int32))])) _
        refine XS.icmpNo X10.here hx rfl (hb hby d1_11) rfl (tlt (by decide : (2 : Int32) < (9 : Int32))).2.1 ?_
        show Steps p.tables e below (T10.setTop (mkF m 14 #[.val (.int p1), .val (.ref r_1), .val (.int (9 : Int32)), .val (.int (2 : Int32)), .val (.ref w_PONG)] [])) _
        refine XS.aloadN X10.here hx rfl (hb hby d1_14) rfl rfl ?_
        show Steps p.tables e below (T10.setTop (mkF m 15 #[.val (.int p1), .val (.ref r_1), .val (.int (9 : Int32)), .val (.int (2 : Int32)), .val (.ref w_PONG)] [(.ref r_1)])) _
        refine XS.iloadN X10.here hx rfl (hb hby d1_15) rfl ?_
        show Steps p.tables e below (T10.setTop (mkF m 16 #[.val (.int p1), .val (.ref r_1), .val (.int (9 : Int32)), .val (.int (2 : Int32)), .val (.ref w_PONG)] [(.int (2 : Int32)), (.ref r_1)])) _
        refine X10.aaload hx (j := (2 : Int32)) (v := (.ref w_BYE)) (by rw [e10]; exact Ac13.1) (State.isArrayOf_alike hZ.alike Ac13.2.1) rfl Ac13.2.2 hinc13 (Has.at Hc13 hinc13 rfl) (g := (mkF m 16 #[.val (.int p1), .val (.ref r_1), .val (.int (9 : Int32)), .val (.int (2 : Int32)), .val (.ref w_PONG)] [(.int (2 : Int32)), (.ref r_1)])) rfl rfl (hb hby d1_16) _ ?_
        show Steps p.tables e below (T10.setTop (mkF m 17 #[.val (.int p1), .val (.ref r_1), .val (.int (9 : Int32)), .val (.int (2 : Int32)), .val (.ref w_PONG)] [(.ref w_BYE)])) _
        refine XS.astore X10.here hx rfl (hb hby d1_17) rfl rfl (l' := #[.val (.int p1), .val (.ref r_1), .val (.int (9 : Int32)), .val (.int (2 : Int32)), .val (.ref w_BYE)]) rfl ?_
        show Steps p.tables e below (T10.setTop (mkF m 19 #[.val (.int p1), .val (.ref r_1), .val (.int (9 : Int32)), .val (.int (2 : Int32)), .val (.ref w_BYE)] [])) _
        refine XS.aload X10.here hx rfl (hb hby d1_19) rfl rfl ?_
        show Steps p.tables e below (T10.setTop (mkF m 21 #[.val (.int p1), .val (.ref r_1), .val (.int (9 : Int32)), .val (.int (2 : Int32)), .val (.ref w_BYE)] [(.ref w_BYE)])) _
        refine st15 _ ?_
        show Steps p.tables e below (T15.setTop (mkF m 24 #[.val (.int p1), .val (.ref r_1), .val (.int (9 : Int32)), .val (.int (2 : Int32)), .val (.ref w_BYE)] [(.int (2 : Int32))])) _
        refine XS.iloadN X15.here hx rfl (hb hby d1_24) rfl ?_
        exact kt
      by_cases hc25_16 : (2 : Int32) = p1
      · obtain ⟨fs, hr, hrun, hended, hW, hsame⟩ := X15.leave (v := some (.ref w_BYE)) (fun h => by rw [Bd.returns] at h; cases h)
        refine ⟨_, _, pre17 _ ?_, hrun, hended, _, _, rfl, ?_, ⟨_, rfl⟩, hW, hsame.mono (by decide) (by decide)⟩
        · show Steps p.tables e below (T15.setTop (mkF m 25 #[.val (.int p1), .val (.ref r_1), .val (.int (9 : Int32)), .val (.int (2 : Int32)), .val (.ref w_BYE)] [(.int p1), (.int (2 : Int32))])) _
          refine XS.icmpNo X15.here hx rfl (hb hby d1_25) rfl (teq hc25_16).2 ?_
          show Steps p.tables e below (T15.setTop (mkF m 28 #[.val (.int p1), .val (.ref r_1), .val (.int (9 : Int32)), .val (.int (2 : Int32)), .val (.ref w_BYE)] [])) _
          refine XS.aload X15.here hx rfl (hb hby d1_28) rfl rfl ?_
          show Steps p.tables e below (T15.setTop (mkF m 30 #[.val (.int p1), .val (.ref r_1), .val (.int (9 : Int32)), .val (.int (2 : Int32)), .val (.ref w_BYE)] [(.ref w_BYE)])) _
          jvm_step X15.here [X15.here.top, hx, (hb hby d1_30), X15.method', Bd.returns, Value.isRef, FieldType.isReference]
          first | (intro acts; rw [hr _ acts rfl rfl rfl]) | rw [hr _ _ rfl rfl rfl]
          exact Steps.refl _
        · show Q_rm1 Z p1 wV cl w_PING w_PONG w_BYE w_ROUTE_TABLE_UPDATE w_VENDOR w_STANDARD_VENDOR w_PUSH w_QUERY w_QUERY_HIT h0 n0 _ T15.heap _
          rw [e15]
          exact ⟨by rw [own_for, if_neg (Ne.symm hc25_6), if_neg (Ne.symm hc25_11), if_pos hc25_16.symm], N1, K1⟩
      · obtain ⟨c18, Ac18, qc18, Sc18, Nc18, Hc18, Gc18⟩ := id t1_2
        have hinc18 := inb_of Sc18 (j := (3 : Int32)) ⟨by decide, by decide⟩
        have f19 : Fld Z T1.heap w_ROUTE_TABLE_UPDATE "com/example/hearsay/hearsay/core/MessageType" "code" "I" (.int (48 : Int32)) := (F_code_w_ROUTE_TABLE_UPDATE.keep K1q nin0)
        obtain ⟨T20, X20, e20, st20⟩ := getF X15 hx hZ hown (host := "") (Or.inl (hw _ (List.mem_of_getElem? (i := 28) rfl))) Via.refl e15 f19 (g := (mkF m 21 #[.val (.int p1), .val (.ref r_1), .val (.int (9 : Int32)), .val (.int (3 : Int32)), .val (.ref w_ROUTE_TABLE_UPDATE)] [(.ref w_ROUTE_TABLE_UPDATE)])) rfl rfl (hb hby d1_21)
        have pre22 : ∀ t, Steps p.tables e below (T20.setTop (mkF m 25 #[.val (.int p1), .val (.ref r_1), .val (.int (9 : Int32)), .val (.int (3 : Int32)), .val (.ref w_ROUTE_TABLE_UPDATE)] [(.int p1), (.int (48 : Int32))])) t → Steps p.tables e below (s₁.setTop (entryFrame m #[(.int p1)] 5)) t := fun t kt => by
          refine pre17 t ?_
          show Steps p.tables e below (T15.setTop (mkF m 25 #[.val (.int p1), .val (.ref r_1), .val (.int (9 : Int32)), .val (.int (2 : Int32)), .val (.ref w_BYE)] [(.int p1), (.int (2 : Int32))])) _
          refine XS.icmpYes X15.here hx rfl (pc0 := 25) (pc' := 31) rfl (hb hby d1_25) rfl (feq hc25_16).2 (by decide) (by decide) ?_
          show Steps p.tables e below (T15.setTop (mkF m 31 #[.val (.int p1), .val (.ref r_1), .val (.int (9 : Int32)), .val (.int (2 : Int32)), .val (.ref w_BYE)] [])) _
          refine XS.iinc X15.here hx rfl (hb hby d1_31) rfl (l' := #[.val (.int p1), .val (.ref r_1), .val (.int (9 : Int32)), .val (.int (3 : Int32)), .val (.ref w_BYE)]) rfl ?_
          show Steps p.tables e below (T15.setTop (mkF m 34 #[.val (.int p1), .val (.ref r_1), .val (.int (9 : Int32)), .val (.int (3 : Int32)), .val (.ref w_BYE)] [])) _
          refine XS.goto X15.here hx rfl (pc0 := 34) (pc' := 9) rfl (hb hby d1_34) (by decide) (by decide) ?_
          show Steps p.tables e below (T15.setTop (mkF m 9 #[.val (.int p1), .val (.ref r_1), .val (.int (9 : Int32)), .val (.int (3 : Int32)), .val (.ref w_BYE)] [])) _
          refine XS.iloadN X15.here hx rfl (hb hby d1_9) rfl ?_
          show Steps p.tables e below (T15.setTop (mkF m 10 #[.val (.int p1), .val (.ref r_1), .val (.int (9 : Int32)), .val (.int (3 : Int32)), .val (.ref w_BYE)] [(.int (3 : Int32))])) _
          refine XS.iloadN X15.here hx rfl (hb hby d1_10) rfl ?_
          show Steps p.tables e below (T15.setTop (mkF m 11 #[.val (.int p1), .val (.ref r_1), .val (.int (9 : Int32)), .val (.int (3 : Int32)), .val (.ref w_BYE)] [(.int (9 : Int32)), (.int (3 : Int32))])) _
          refine XS.icmpNo X15.here hx rfl (hb hby d1_11) rfl (tlt (by decide : (3 : Int32) < (9 : Int32))).2.1 ?_
          show Steps p.tables e below (T15.setTop (mkF m 14 #[.val (.int p1), .val (.ref r_1), .val (.int (9 : Int32)), .val (.int (3 : Int32)), .val (.ref w_BYE)] [])) _
          refine XS.aloadN X15.here hx rfl (hb hby d1_14) rfl rfl ?_
          show Steps p.tables e below (T15.setTop (mkF m 15 #[.val (.int p1), .val (.ref r_1), .val (.int (9 : Int32)), .val (.int (3 : Int32)), .val (.ref w_BYE)] [(.ref r_1)])) _
          refine XS.iloadN X15.here hx rfl (hb hby d1_15) rfl ?_
          show Steps p.tables e below (T15.setTop (mkF m 16 #[.val (.int p1), .val (.ref r_1), .val (.int (9 : Int32)), .val (.int (3 : Int32)), .val (.ref w_BYE)] [(.int (3 : Int32)), (.ref r_1)])) _
          refine X15.aaload hx (j := (3 : Int32)) (v := (.ref w_ROUTE_TABLE_UPDATE)) (by rw [e15]; exact Ac18.1) (State.isArrayOf_alike hZ.alike Ac18.2.1) rfl Ac18.2.2 hinc18 (Has.at Hc18 hinc18 rfl) (g := (mkF m 16 #[.val (.int p1), .val (.ref r_1), .val (.int (9 : Int32)), .val (.int (3 : Int32)), .val (.ref w_BYE)] [(.int (3 : Int32)), (.ref r_1)])) rfl rfl (hb hby d1_16) _ ?_
          show Steps p.tables e below (T15.setTop (mkF m 17 #[.val (.int p1), .val (.ref r_1), .val (.int (9 : Int32)), .val (.int (3 : Int32)), .val (.ref w_BYE)] [(.ref w_ROUTE_TABLE_UPDATE)])) _
          refine XS.astore X15.here hx rfl (hb hby d1_17) rfl rfl (l' := #[.val (.int p1), .val (.ref r_1), .val (.int (9 : Int32)), .val (.int (3 : Int32)), .val (.ref w_ROUTE_TABLE_UPDATE)]) rfl ?_
          show Steps p.tables e below (T15.setTop (mkF m 19 #[.val (.int p1), .val (.ref r_1), .val (.int (9 : Int32)), .val (.int (3 : Int32)), .val (.ref w_ROUTE_TABLE_UPDATE)] [])) _
          refine XS.aload X15.here hx rfl (hb hby d1_19) rfl rfl ?_
          show Steps p.tables e below (T15.setTop (mkF m 21 #[.val (.int p1), .val (.ref r_1), .val (.int (9 : Int32)), .val (.int (3 : Int32)), .val (.ref w_ROUTE_TABLE_UPDATE)] [(.ref w_ROUTE_TABLE_UPDATE)])) _
          refine st20 _ ?_
          show Steps p.tables e below (T20.setTop (mkF m 24 #[.val (.int p1), .val (.ref r_1), .val (.int (9 : Int32)), .val (.int (3 : Int32)), .val (.ref w_ROUTE_TABLE_UPDATE)] [(.int (48 : Int32))])) _
          refine XS.iloadN X20.here hx rfl (hb hby d1_24) rfl ?_
          exact kt
        by_cases hc25_21 : (48 : Int32) = p1
        · obtain ⟨fs, hr, hrun, hended, hW, hsame⟩ := X20.leave (v := some (.ref w_ROUTE_TABLE_UPDATE)) (fun h => by rw [Bd.returns] at h; cases h)
          refine ⟨_, _, pre22 _ ?_, hrun, hended, _, _, rfl, ?_, ⟨_, rfl⟩, hW, hsame.mono (by decide) (by decide)⟩
          · show Steps p.tables e below (T20.setTop (mkF m 25 #[.val (.int p1), .val (.ref r_1), .val (.int (9 : Int32)), .val (.int (3 : Int32)), .val (.ref w_ROUTE_TABLE_UPDATE)] [(.int p1), (.int (48 : Int32))])) _
            refine XS.icmpNo X20.here hx rfl (hb hby d1_25) rfl (teq hc25_21).2 ?_
            show Steps p.tables e below (T20.setTop (mkF m 28 #[.val (.int p1), .val (.ref r_1), .val (.int (9 : Int32)), .val (.int (3 : Int32)), .val (.ref w_ROUTE_TABLE_UPDATE)] [])) _
            refine XS.aload X20.here hx rfl (hb hby d1_28) rfl rfl ?_
            show Steps p.tables e below (T20.setTop (mkF m 30 #[.val (.int p1), .val (.ref r_1), .val (.int (9 : Int32)), .val (.int (3 : Int32)), .val (.ref w_ROUTE_TABLE_UPDATE)] [(.ref w_ROUTE_TABLE_UPDATE)])) _
            jvm_step X20.here [X20.here.top, hx, (hb hby d1_30), X20.method', Bd.returns, Value.isRef, FieldType.isReference]
            first | (intro acts; rw [hr _ acts rfl rfl rfl]) | rw [hr _ _ rfl rfl rfl]
            exact Steps.refl _
          · show Q_rm1 Z p1 wV cl w_PING w_PONG w_BYE w_ROUTE_TABLE_UPDATE w_VENDOR w_STANDARD_VENDOR w_PUSH w_QUERY w_QUERY_HIT h0 n0 _ T20.heap _
            rw [e20]
            exact ⟨by rw [own_for, if_neg (Ne.symm hc25_6), if_neg (Ne.symm hc25_11), if_neg (Ne.symm hc25_16), if_pos hc25_21.symm], N1, K1⟩
        · obtain ⟨c23, Ac23, qc23, Sc23, Nc23, Hc23, Gc23⟩ := id t1_2
          have hinc23 := inb_of Sc23 (j := (4 : Int32)) ⟨by decide, by decide⟩
          have f24 : Fld Z T1.heap w_VENDOR "com/example/hearsay/hearsay/core/MessageType" "code" "I" (.int (49 : Int32)) := (F_code_w_VENDOR.keep K1q nin0)
          obtain ⟨T25, X25, e25, st25⟩ := getF X20 hx hZ hown (host := "") (Or.inl (hw _ (List.mem_of_getElem? (i := 28) rfl))) Via.refl e20 f24 (g := (mkF m 21 #[.val (.int p1), .val (.ref r_1), .val (.int (9 : Int32)), .val (.int (4 : Int32)), .val (.ref w_VENDOR)] [(.ref w_VENDOR)])) rfl rfl (hb hby d1_21)
          have pre27 : ∀ t, Steps p.tables e below (T25.setTop (mkF m 25 #[.val (.int p1), .val (.ref r_1), .val (.int (9 : Int32)), .val (.int (4 : Int32)), .val (.ref w_VENDOR)] [(.int p1), (.int (49 : Int32))])) t → Steps p.tables e below (s₁.setTop (entryFrame m #[(.int p1)] 5)) t := fun t kt => by
            refine pre22 t ?_
            show Steps p.tables e below (T20.setTop (mkF m 25 #[.val (.int p1), .val (.ref r_1), .val (.int (9 : Int32)), .val (.int (3 : Int32)), .val (.ref w_ROUTE_TABLE_UPDATE)] [(.int p1), (.int (48 : Int32))])) _
            refine XS.icmpYes X20.here hx rfl (pc0 := 25) (pc' := 31) rfl (hb hby d1_25) rfl (feq hc25_21).2 (by decide) (by decide) ?_
            show Steps p.tables e below (T20.setTop (mkF m 31 #[.val (.int p1), .val (.ref r_1), .val (.int (9 : Int32)), .val (.int (3 : Int32)), .val (.ref w_ROUTE_TABLE_UPDATE)] [])) _
            refine XS.iinc X20.here hx rfl (hb hby d1_31) rfl (l' := #[.val (.int p1), .val (.ref r_1), .val (.int (9 : Int32)), .val (.int (4 : Int32)), .val (.ref w_ROUTE_TABLE_UPDATE)]) rfl ?_
            show Steps p.tables e below (T20.setTop (mkF m 34 #[.val (.int p1), .val (.ref r_1), .val (.int (9 : Int32)), .val (.int (4 : Int32)), .val (.ref w_ROUTE_TABLE_UPDATE)] [])) _
            refine XS.goto X20.here hx rfl (pc0 := 34) (pc' := 9) rfl (hb hby d1_34) (by decide) (by decide) ?_
            show Steps p.tables e below (T20.setTop (mkF m 9 #[.val (.int p1), .val (.ref r_1), .val (.int (9 : Int32)), .val (.int (4 : Int32)), .val (.ref w_ROUTE_TABLE_UPDATE)] [])) _
            refine XS.iloadN X20.here hx rfl (hb hby d1_9) rfl ?_
            show Steps p.tables e below (T20.setTop (mkF m 10 #[.val (.int p1), .val (.ref r_1), .val (.int (9 : Int32)), .val (.int (4 : Int32)), .val (.ref w_ROUTE_TABLE_UPDATE)] [(.int (4 : Int32))])) _
            refine XS.iloadN X20.here hx rfl (hb hby d1_10) rfl ?_
            show Steps p.tables e below (T20.setTop (mkF m 11 #[.val (.int p1), .val (.ref r_1), .val (.int (9 : Int32)), .val (.int (4 : Int32)), .val (.ref w_ROUTE_TABLE_UPDATE)] [(.int (9 : Int32)), (.int (4 : Int32))])) _
            refine XS.icmpNo X20.here hx rfl (hb hby d1_11) rfl (tlt (by decide : (4 : Int32) < (9 : Int32))).2.1 ?_
            show Steps p.tables e below (T20.setTop (mkF m 14 #[.val (.int p1), .val (.ref r_1), .val (.int (9 : Int32)), .val (.int (4 : Int32)), .val (.ref w_ROUTE_TABLE_UPDATE)] [])) _
            refine XS.aloadN X20.here hx rfl (hb hby d1_14) rfl rfl ?_
            show Steps p.tables e below (T20.setTop (mkF m 15 #[.val (.int p1), .val (.ref r_1), .val (.int (9 : Int32)), .val (.int (4 : Int32)), .val (.ref w_ROUTE_TABLE_UPDATE)] [(.ref r_1)])) _
            refine XS.iloadN X20.here hx rfl (hb hby d1_15) rfl ?_
            show Steps p.tables e below (T20.setTop (mkF m 16 #[.val (.int p1), .val (.ref r_1), .val (.int (9 : Int32)), .val (.int (4 : Int32)), .val (.ref w_ROUTE_TABLE_UPDATE)] [(.int (4 : Int32)), (.ref r_1)])) _
            refine X20.aaload hx (j := (4 : Int32)) (v := (.ref w_VENDOR)) (by rw [e20]; exact Ac23.1) (State.isArrayOf_alike hZ.alike Ac23.2.1) rfl Ac23.2.2 hinc23 (Has.at Hc23 hinc23 rfl) (g := (mkF m 16 #[.val (.int p1), .val (.ref r_1), .val (.int (9 : Int32)), .val (.int (4 : Int32)), .val (.ref w_ROUTE_TABLE_UPDATE)] [(.int (4 : Int32)), (.ref r_1)])) rfl rfl (hb hby d1_16) _ ?_
            show Steps p.tables e below (T20.setTop (mkF m 17 #[.val (.int p1), .val (.ref r_1), .val (.int (9 : Int32)), .val (.int (4 : Int32)), .val (.ref w_ROUTE_TABLE_UPDATE)] [(.ref w_VENDOR)])) _
            refine XS.astore X20.here hx rfl (hb hby d1_17) rfl rfl (l' := #[.val (.int p1), .val (.ref r_1), .val (.int (9 : Int32)), .val (.int (4 : Int32)), .val (.ref w_VENDOR)]) rfl ?_
            show Steps p.tables e below (T20.setTop (mkF m 19 #[.val (.int p1), .val (.ref r_1), .val (.int (9 : Int32)), .val (.int (4 : Int32)), .val (.ref w_VENDOR)] [])) _
            refine XS.aload X20.here hx rfl (hb hby d1_19) rfl rfl ?_
            show Steps p.tables e below (T20.setTop (mkF m 21 #[.val (.int p1), .val (.ref r_1), .val (.int (9 : Int32)), .val (.int (4 : Int32)), .val (.ref w_VENDOR)] [(.ref w_VENDOR)])) _
            refine st25 _ ?_
            show Steps p.tables e below (T25.setTop (mkF m 24 #[.val (.int p1), .val (.ref r_1), .val (.int (9 : Int32)), .val (.int (4 : Int32)), .val (.ref w_VENDOR)] [(.int (49 : Int32))])) _
            refine XS.iloadN X25.here hx rfl (hb hby d1_24) rfl ?_
            exact kt
          by_cases hc25_26 : (49 : Int32) = p1
          · obtain ⟨fs, hr, hrun, hended, hW, hsame⟩ := X25.leave (v := some (.ref w_VENDOR)) (fun h => by rw [Bd.returns] at h; cases h)
            refine ⟨_, _, pre27 _ ?_, hrun, hended, _, _, rfl, ?_, ⟨_, rfl⟩, hW, hsame.mono (by decide) (by decide)⟩
            · show Steps p.tables e below (T25.setTop (mkF m 25 #[.val (.int p1), .val (.ref r_1), .val (.int (9 : Int32)), .val (.int (4 : Int32)), .val (.ref w_VENDOR)] [(.int p1), (.int (49 : Int32))])) _
              refine XS.icmpNo X25.here hx rfl (hb hby d1_25) rfl (teq hc25_26).2 ?_
              show Steps p.tables e below (T25.setTop (mkF m 28 #[.val (.int p1), .val (.ref r_1), .val (.int (9 : Int32)), .val (.int (4 : Int32)), .val (.ref w_VENDOR)] [])) _
              refine XS.aload X25.here hx rfl (hb hby d1_28) rfl rfl ?_
              show Steps p.tables e below (T25.setTop (mkF m 30 #[.val (.int p1), .val (.ref r_1), .val (.int (9 : Int32)), .val (.int (4 : Int32)), .val (.ref w_VENDOR)] [(.ref w_VENDOR)])) _
              jvm_step X25.here [X25.here.top, hx, (hb hby d1_30), X25.method', Bd.returns, Value.isRef, FieldType.isReference]
              first | (intro acts; rw [hr _ acts rfl rfl rfl]) | rw [hr _ _ rfl rfl rfl]
              exact Steps.refl _
            · show Q_rm1 Z p1 wV cl w_PING w_PONG w_BYE w_ROUTE_TABLE_UPDATE w_VENDOR w_STANDARD_VENDOR w_PUSH w_QUERY w_QUERY_HIT h0 n0 _ T25.heap _
              rw [e25]
              exact ⟨by rw [own_for, if_neg (Ne.symm hc25_6), if_neg (Ne.symm hc25_11), if_neg (Ne.symm hc25_16), if_neg (Ne.symm hc25_21), if_pos hc25_26.symm], N1, K1⟩
          · obtain ⟨c28, Ac28, qc28, Sc28, Nc28, Hc28, Gc28⟩ := id t1_2
            have hinc28 := inb_of Sc28 (j := (5 : Int32)) ⟨by decide, by decide⟩
            have f29 : Fld Z T1.heap w_STANDARD_VENDOR "com/example/hearsay/hearsay/core/MessageType" "code" "I" (.int (50 : Int32)) := (F_code_w_STANDARD_VENDOR.keep K1q nin0)
            obtain ⟨T30, X30, e30, st30⟩ := getF X25 hx hZ hown (host := "") (Or.inl (hw _ (List.mem_of_getElem? (i := 28) rfl))) Via.refl e25 f29 (g := (mkF m 21 #[.val (.int p1), .val (.ref r_1), .val (.int (9 : Int32)), .val (.int (5 : Int32)), .val (.ref w_STANDARD_VENDOR)] [(.ref w_STANDARD_VENDOR)])) rfl rfl (hb hby d1_21)
            have pre32 : ∀ t, Steps p.tables e below (T30.setTop (mkF m 25 #[.val (.int p1), .val (.ref r_1), .val (.int (9 : Int32)), .val (.int (5 : Int32)), .val (.ref w_STANDARD_VENDOR)] [(.int p1), (.int (50 : Int32))])) t → Steps p.tables e below (s₁.setTop (entryFrame m #[(.int p1)] 5)) t := fun t kt => by
              refine pre27 t ?_
              show Steps p.tables e below (T25.setTop (mkF m 25 #[.val (.int p1), .val (.ref r_1), .val (.int (9 : Int32)), .val (.int (4 : Int32)), .val (.ref w_VENDOR)] [(.int p1), (.int (49 : Int32))])) _
              refine XS.icmpYes X25.here hx rfl (pc0 := 25) (pc' := 31) rfl (hb hby d1_25) rfl (feq hc25_26).2 (by decide) (by decide) ?_
              show Steps p.tables e below (T25.setTop (mkF m 31 #[.val (.int p1), .val (.ref r_1), .val (.int (9 : Int32)), .val (.int (4 : Int32)), .val (.ref w_VENDOR)] [])) _
              refine XS.iinc X25.here hx rfl (hb hby d1_31) rfl (l' := #[.val (.int p1), .val (.ref r_1), .val (.int (9 : Int32)), .val (.int (5 : Int32)), .val (.ref w_VENDOR)]) rfl ?_
              show Steps p.tables e below (T25.setTop (mkF m 34 #[.val (.int p1), .val (.ref r_1), .val (.int (9 : Int32)), .val (.int (5 : Int32)), .val (.ref w_VENDOR)] [])) _
              refine XS.goto X25.here hx rfl (pc0 := 34) (pc' := 9) rfl (hb hby d1_34) (by decide) (by decide) ?_
              show Steps p.tables e below (T25.setTop (mkF m 9 #[.val (.int p1), .val (.ref r_1), .val (.int (9 : Int32)), .val (.int (5 : Int32)), .val (.ref w_VENDOR)] [])) _
              refine XS.iloadN X25.here hx rfl (hb hby d1_9) rfl ?_
              show Steps p.tables e below (T25.setTop (mkF m 10 #[.val (.int p1), .val (.ref r_1), .val (.int (9 : Int32)), .val (.int (5 : Int32)), .val (.ref w_VENDOR)] [(.int (5 : Int32))])) _
              refine XS.iloadN X25.here hx rfl (hb hby d1_10) rfl ?_
              show Steps p.tables e below (T25.setTop (mkF m 11 #[.val (.int p1), .val (.ref r_1), .val (.int (9 : Int32)), .val (.int (5 : Int32)), .val (.ref w_VENDOR)] [(.int (9 : Int32)), (.int (5 : Int32))])) _
              refine XS.icmpNo X25.here hx rfl (hb hby d1_11) rfl (tlt (by decide : (5 : Int32) < (9 : Int32))).2.1 ?_
              show Steps p.tables e below (T25.setTop (mkF m 14 #[.val (.int p1), .val (.ref r_1), .val (.int (9 : Int32)), .val (.int (5 : Int32)), .val (.ref w_VENDOR)] [])) _
              refine XS.aloadN X25.here hx rfl (hb hby d1_14) rfl rfl ?_
              show Steps p.tables e below (T25.setTop (mkF m 15 #[.val (.int p1), .val (.ref r_1), .val (.int (9 : Int32)), .val (.int (5 : Int32)), .val (.ref w_VENDOR)] [(.ref r_1)])) _
              refine XS.iloadN X25.here hx rfl (hb hby d1_15) rfl ?_
              show Steps p.tables e below (T25.setTop (mkF m 16 #[.val (.int p1), .val (.ref r_1), .val (.int (9 : Int32)), .val (.int (5 : Int32)), .val (.ref w_VENDOR)] [(.int (5 : Int32)), (.ref r_1)])) _
              refine X25.aaload hx (j := (5 : Int32)) (v := (.ref w_STANDARD_VENDOR)) (by rw [e25]; exact Ac28.1) (State.isArrayOf_alike hZ.alike Ac28.2.1) rfl Ac28.2.2 hinc28 (Has.at Hc28 hinc28 rfl) (g := (mkF m 16 #[.val (.int p1), .val (.ref r_1), .val (.int (9 : Int32)), .val (.int (5 : Int32)), .val (.ref w_VENDOR)] [(.int (5 : Int32)), (.ref r_1)])) rfl rfl (hb hby d1_16) _ ?_
              show Steps p.tables e below (T25.setTop (mkF m 17 #[.val (.int p1), .val (.ref r_1), .val (.int (9 : Int32)), .val (.int (5 : Int32)), .val (.ref w_VENDOR)] [(.ref w_STANDARD_VENDOR)])) _
              refine XS.astore X25.here hx rfl (hb hby d1_17) rfl rfl (l' := #[.val (.int p1), .val (.ref r_1), .val (.int (9 : Int32)), .val (.int (5 : Int32)), .val (.ref w_STANDARD_VENDOR)]) rfl ?_
              show Steps p.tables e below (T25.setTop (mkF m 19 #[.val (.int p1), .val (.ref r_1), .val (.int (9 : Int32)), .val (.int (5 : Int32)), .val (.ref w_STANDARD_VENDOR)] [])) _
              refine XS.aload X25.here hx rfl (hb hby d1_19) rfl rfl ?_
              show Steps p.tables e below (T25.setTop (mkF m 21 #[.val (.int p1), .val (.ref r_1), .val (.int (9 : Int32)), .val (.int (5 : Int32)), .val (.ref w_STANDARD_VENDOR)] [(.ref w_STANDARD_VENDOR)])) _
              refine st30 _ ?_
              show Steps p.tables e below (T30.setTop (mkF m 24 #[.val (.int p1), .val (.ref r_1), .val (.int (9 : Int32)), .val (.int (5 : Int32)), .val (.ref w_STANDARD_VENDOR)] [(.int (50 : Int32))])) _
              refine XS.iloadN X30.here hx rfl (hb hby d1_24) rfl ?_
              exact kt
            by_cases hc25_31 : (50 : Int32) = p1
            · obtain ⟨fs, hr, hrun, hended, hW, hsame⟩ := X30.leave (v := some (.ref w_STANDARD_VENDOR)) (fun h => by rw [Bd.returns] at h; cases h)
              refine ⟨_, _, pre32 _ ?_, hrun, hended, _, _, rfl, ?_, ⟨_, rfl⟩, hW, hsame.mono (by decide) (by decide)⟩
              · show Steps p.tables e below (T30.setTop (mkF m 25 #[.val (.int p1), .val (.ref r_1), .val (.int (9 : Int32)), .val (.int (5 : Int32)), .val (.ref w_STANDARD_VENDOR)] [(.int p1), (.int (50 : Int32))])) _
                refine XS.icmpNo X30.here hx rfl (hb hby d1_25) rfl (teq hc25_31).2 ?_
                show Steps p.tables e below (T30.setTop (mkF m 28 #[.val (.int p1), .val (.ref r_1), .val (.int (9 : Int32)), .val (.int (5 : Int32)), .val (.ref w_STANDARD_VENDOR)] [])) _
                refine XS.aload X30.here hx rfl (hb hby d1_28) rfl rfl ?_
                show Steps p.tables e below (T30.setTop (mkF m 30 #[.val (.int p1), .val (.ref r_1), .val (.int (9 : Int32)), .val (.int (5 : Int32)), .val (.ref w_STANDARD_VENDOR)] [(.ref w_STANDARD_VENDOR)])) _
                jvm_step X30.here [X30.here.top, hx, (hb hby d1_30), X30.method', Bd.returns, Value.isRef, FieldType.isReference]
                first | (intro acts; rw [hr _ acts rfl rfl rfl]) | rw [hr _ _ rfl rfl rfl]
                exact Steps.refl _
              · show Q_rm1 Z p1 wV cl w_PING w_PONG w_BYE w_ROUTE_TABLE_UPDATE w_VENDOR w_STANDARD_VENDOR w_PUSH w_QUERY w_QUERY_HIT h0 n0 _ T30.heap _
                rw [e30]
                exact ⟨by rw [own_for, if_neg (Ne.symm hc25_6), if_neg (Ne.symm hc25_11), if_neg (Ne.symm hc25_16), if_neg (Ne.symm hc25_21), if_neg (Ne.symm hc25_26), if_pos hc25_31.symm], N1, K1⟩
            · obtain ⟨c33, Ac33, qc33, Sc33, Nc33, Hc33, Gc33⟩ := id t1_2
              have hinc33 := inb_of Sc33 (j := (6 : Int32)) ⟨by decide, by decide⟩
              have f34 : Fld Z T1.heap w_PUSH "com/example/hearsay/hearsay/core/MessageType" "code" "I" (.int (64 : Int32)) := (F_code_w_PUSH.keep K1q nin0)
              obtain ⟨T35, X35, e35, st35⟩ := getF X30 hx hZ hown (host := "") (Or.inl (hw _ (List.mem_of_getElem? (i := 28) rfl))) Via.refl e30 f34 (g := (mkF m 21 #[.val (.int p1), .val (.ref r_1), .val (.int (9 : Int32)), .val (.int (6 : Int32)), .val (.ref w_PUSH)] [(.ref w_PUSH)])) rfl rfl (hb hby d1_21)
              have pre37 : ∀ t, Steps p.tables e below (T35.setTop (mkF m 25 #[.val (.int p1), .val (.ref r_1), .val (.int (9 : Int32)), .val (.int (6 : Int32)), .val (.ref w_PUSH)] [(.int p1), (.int (64 : Int32))])) t → Steps p.tables e below (s₁.setTop (entryFrame m #[(.int p1)] 5)) t := fun t kt => by
                refine pre32 t ?_
                show Steps p.tables e below (T30.setTop (mkF m 25 #[.val (.int p1), .val (.ref r_1), .val (.int (9 : Int32)), .val (.int (5 : Int32)), .val (.ref w_STANDARD_VENDOR)] [(.int p1), (.int (50 : Int32))])) _
                refine XS.icmpYes X30.here hx rfl (pc0 := 25) (pc' := 31) rfl (hb hby d1_25) rfl (feq hc25_31).2 (by decide) (by decide) ?_
                show Steps p.tables e below (T30.setTop (mkF m 31 #[.val (.int p1), .val (.ref r_1), .val (.int (9 : Int32)), .val (.int (5 : Int32)), .val (.ref w_STANDARD_VENDOR)] [])) _
                refine XS.iinc X30.here hx rfl (hb hby d1_31) rfl (l' := #[.val (.int p1), .val (.ref r_1), .val (.int (9 : Int32)), .val (.int (6 : Int32)), .val (.ref w_STANDARD_VENDOR)]) rfl ?_
                show Steps p.tables e below (T30.setTop (mkF m 34 #[.val (.int p1), .val (.ref r_1), .val (.int (9 : Int32)), .val (.int (6 : Int32)), .val (.ref w_STANDARD_VENDOR)] [])) _
                refine XS.goto X30.here hx rfl (pc0 := 34) (pc' := 9) rfl (hb hby d1_34) (by decide) (by decide) ?_
                show Steps p.tables e below (T30.setTop (mkF m 9 #[.val (.int p1), .val (.ref r_1), .val (.int (9 : Int32)), .val (.int (6 : Int32)), .val (.ref w_STANDARD_VENDOR)] [])) _
                refine XS.iloadN X30.here hx rfl (hb hby d1_9) rfl ?_
                show Steps p.tables e below (T30.setTop (mkF m 10 #[.val (.int p1), .val (.ref r_1), .val (.int (9 : Int32)), .val (.int (6 : Int32)), .val (.ref w_STANDARD_VENDOR)] [(.int (6 : Int32))])) _
                refine XS.iloadN X30.here hx rfl (hb hby d1_10) rfl ?_
                show Steps p.tables e below (T30.setTop (mkF m 11 #[.val (.int p1), .val (.ref r_1), .val (.int (9 : Int32)), .val (.int (6 : Int32)), .val (.ref w_STANDARD_VENDOR)] [(.int (9 : Int32)), (.int (6 : Int32))])) _
                refine XS.icmpNo X30.here hx rfl (hb hby d1_11) rfl (tlt (by decide : (6 : Int32) < (9 : Int32))).2.1 ?_
                show Steps p.tables e below (T30.setTop (mkF m 14 #[.val (.int p1), .val (.ref r_1), .val (.int (9 : Int32)), .val (.int (6 : Int32)), .val (.ref w_STANDARD_VENDOR)] [])) _
                refine XS.aloadN X30.here hx rfl (hb hby d1_14) rfl rfl ?_
                show Steps p.tables e below (T30.setTop (mkF m 15 #[.val (.int p1), .val (.ref r_1), .val (.int (9 : Int32)), .val (.int (6 : Int32)), .val (.ref w_STANDARD_VENDOR)] [(.ref r_1)])) _
                refine XS.iloadN X30.here hx rfl (hb hby d1_15) rfl ?_
                show Steps p.tables e below (T30.setTop (mkF m 16 #[.val (.int p1), .val (.ref r_1), .val (.int (9 : Int32)), .val (.int (6 : Int32)), .val (.ref w_STANDARD_VENDOR)] [(.int (6 : Int32)), (.ref r_1)])) _
                refine X30.aaload hx (j := (6 : Int32)) (v := (.ref w_PUSH)) (by rw [e30]; exact Ac33.1) (State.isArrayOf_alike hZ.alike Ac33.2.1) rfl Ac33.2.2 hinc33 (Has.at Hc33 hinc33 rfl) (g := (mkF m 16 #[.val (.int p1), .val (.ref r_1), .val (.int (9 : Int32)), .val (.int (6 : Int32)), .val (.ref w_STANDARD_VENDOR)] [(.int (6 : Int32)), (.ref r_1)])) rfl rfl (hb hby d1_16) _ ?_
                show Steps p.tables e below (T30.setTop (mkF m 17 #[.val (.int p1), .val (.ref r_1), .val (.int (9 : Int32)), .val (.int (6 : Int32)), .val (.ref w_STANDARD_VENDOR)] [(.ref w_PUSH)])) _
                refine XS.astore X30.here hx rfl (hb hby d1_17) rfl rfl (l' := #[.val (.int p1), .val (.ref r_1), .val (.int (9 : Int32)), .val (.int (6 : Int32)), .val (.ref w_PUSH)]) rfl ?_
                show Steps p.tables e below (T30.setTop (mkF m 19 #[.val (.int p1), .val (.ref r_1), .val (.int (9 : Int32)), .val (.int (6 : Int32)), .val (.ref w_PUSH)] [])) _
                refine XS.aload X30.here hx rfl (hb hby d1_19) rfl rfl ?_
                show Steps p.tables e below (T30.setTop (mkF m 21 #[.val (.int p1), .val (.ref r_1), .val (.int (9 : Int32)), .val (.int (6 : Int32)), .val (.ref w_PUSH)] [(.ref w_PUSH)])) _
                refine st35 _ ?_
                show Steps p.tables e below (T35.setTop (mkF m 24 #[.val (.int p1), .val (.ref r_1), .val (.int (9 : Int32)), .val (.int (6 : Int32)), .val (.ref w_PUSH)] [(.int (64 : Int32))])) _
                refine XS.iloadN X35.here hx rfl (hb hby d1_24) rfl ?_
                exact kt
              by_cases hc25_36 : (64 : Int32) = p1
              · obtain ⟨fs, hr, hrun, hended, hW, hsame⟩ := X35.leave (v := some (.ref w_PUSH)) (fun h => by rw [Bd.returns] at h; cases h)
                refine ⟨_, _, pre37 _ ?_, hrun, hended, _, _, rfl, ?_, ⟨_, rfl⟩, hW, hsame.mono (by decide) (by decide)⟩
                · show Steps p.tables e below (T35.setTop (mkF m 25 #[.val (.int p1), .val (.ref r_1), .val (.int (9 : Int32)), .val (.int (6 : Int32)), .val (.ref w_PUSH)] [(.int p1), (.int (64 : Int32))])) _
                  refine XS.icmpNo X35.here hx rfl (hb hby d1_25) rfl (teq hc25_36).2 ?_
                  show Steps p.tables e below (T35.setTop (mkF m 28 #[.val (.int p1), .val (.ref r_1), .val (.int (9 : Int32)), .val (.int (6 : Int32)), .val (.ref w_PUSH)] [])) _
                  refine XS.aload X35.here hx rfl (hb hby d1_28) rfl rfl ?_
                  show Steps p.tables e below (T35.setTop (mkF m 30 #[.val (.int p1), .val (.ref r_1), .val (.int (9 : Int32)), .val (.int (6 : Int32)), .val (.ref w_PUSH)] [(.ref w_PUSH)])) _
                  jvm_step X35.here [X35.here.top, hx, (hb hby d1_30), X35.method', Bd.returns, Value.isRef, FieldType.isReference]
                  first | (intro acts; rw [hr _ acts rfl rfl rfl]) | rw [hr _ _ rfl rfl rfl]
                  exact Steps.refl _
                · show Q_rm1 Z p1 wV cl w_PING w_PONG w_BYE w_ROUTE_TABLE_UPDATE w_VENDOR w_STANDARD_VENDOR w_PUSH w_QUERY w_QUERY_HIT h0 n0 _ T35.heap _
                  rw [e35]
                  exact ⟨by rw [own_for, if_neg (Ne.symm hc25_6), if_neg (Ne.symm hc25_11), if_neg (Ne.symm hc25_16), if_neg (Ne.symm hc25_21), if_neg (Ne.symm hc25_26), if_neg (Ne.symm hc25_31), if_pos hc25_36.symm], N1, K1⟩
              · obtain ⟨c38, Ac38, qc38, Sc38, Nc38, Hc38, Gc38⟩ := id t1_2
                have hinc38 := inb_of Sc38 (j := (7 : Int32)) ⟨by decide, by decide⟩
                have f39 : Fld Z T1.heap w_QUERY "com/example/hearsay/hearsay/core/MessageType" "code" "I" (.int (128 : Int32)) := (F_code_w_QUERY.keep K1q nin0)
                obtain ⟨T40, X40, e40, st40⟩ := getF X35 hx hZ hown (host := "") (Or.inl (hw _ (List.mem_of_getElem? (i := 28) rfl))) Via.refl e35 f39 (g := (mkF m 21 #[.val (.int p1), .val (.ref r_1), .val (.int (9 : Int32)), .val (.int (7 : Int32)), .val (.ref w_QUERY)] [(.ref w_QUERY)])) rfl rfl (hb hby d1_21)
                have pre42 : ∀ t, Steps p.tables e below (T40.setTop (mkF m 25 #[.val (.int p1), .val (.ref r_1), .val (.int (9 : Int32)), .val (.int (7 : Int32)), .val (.ref w_QUERY)] [(.int p1), (.int (128 : Int32))])) t → Steps p.tables e below (s₁.setTop (entryFrame m #[(.int p1)] 5)) t := fun t kt => by
                  refine pre37 t ?_
                  show Steps p.tables e below (T35.setTop (mkF m 25 #[.val (.int p1), .val (.ref r_1), .val (.int (9 : Int32)), .val (.int (6 : Int32)), .val (.ref w_PUSH)] [(.int p1), (.int (64 : Int32))])) _
                  refine XS.icmpYes X35.here hx rfl (pc0 := 25) (pc' := 31) rfl (hb hby d1_25) rfl (feq hc25_36).2 (by decide) (by decide) ?_
                  show Steps p.tables e below (T35.setTop (mkF m 31 #[.val (.int p1), .val (.ref r_1), .val (.int (9 : Int32)), .val (.int (6 : Int32)), .val (.ref w_PUSH)] [])) _
                  refine XS.iinc X35.here hx rfl (hb hby d1_31) rfl (l' := #[.val (.int p1), .val (.ref r_1), .val (.int (9 : Int32)), .val (.int (7 : Int32)), .val (.ref w_PUSH)]) rfl ?_
                  show Steps p.tables e below (T35.setTop (mkF m 34 #[.val (.int p1), .val (.ref r_1), .val (.int (9 : Int32)), .val (.int (7 : Int32)), .val (.ref w_PUSH)] [])) _
                  refine XS.goto X35.here hx rfl (pc0 := 34) (pc' := 9) rfl (hb hby d1_34) (by decide) (by decide) ?_
                  show Steps p.tables e below (T35.setTop (mkF m 9 #[.val (.int p1), .val (.ref r_1), .val (.int (9 : Int32)), .val (.int (7 : Int32)), .val (.ref w_PUSH)] [])) _
                  refine XS.iloadN X35.here hx rfl (hb hby d1_9) rfl ?_
                  show Steps p.tables e below (T35.setTop (mkF m 10 #[.val (.int p1), .val (.ref r_1), .val (.int (9 : Int32)), .val (.int (7 : Int32)), .val (.ref w_PUSH)] [(.int (7 : Int32))])) _
                  refine XS.iloadN X35.here hx rfl (hb hby d1_10) rfl ?_
                  show Steps p.tables e below (T35.setTop (mkF m 11 #[.val (.int p1), .val (.ref r_1), .val (.int (9 : Int32)), .val (.int (7 : Int32)), .val (.ref w_PUSH)] [(.int (9 : Int32)), (.int (7 : Int32))])) _
                  refine XS.icmpNo X35.here hx rfl (hb hby d1_11) rfl (tlt (by decide : (7 : Int32) < (9 : Int32))).2.1 ?_
                  show Steps p.tables e below (T35.setTop (mkF m 14 #[.val (.int p1), .val (.ref r_1), .val (.int (9 : Int32)), .val (.int (7 : Int32)), .val (.ref w_PUSH)] [])) _
                  refine XS.aloadN X35.here hx rfl (hb hby d1_14) rfl rfl ?_
                  show Steps p.tables e below (T35.setTop (mkF m 15 #[.val (.int p1), .val (.ref r_1), .val (.int (9 : Int32)), .val (.int (7 : Int32)), .val (.ref w_PUSH)] [(.ref r_1)])) _
                  refine XS.iloadN X35.here hx rfl (hb hby d1_15) rfl ?_
                  show Steps p.tables e below (T35.setTop (mkF m 16 #[.val (.int p1), .val (.ref r_1), .val (.int (9 : Int32)), .val (.int (7 : Int32)), .val (.ref w_PUSH)] [(.int (7 : Int32)), (.ref r_1)])) _
                  refine X35.aaload hx (j := (7 : Int32)) (v := (.ref w_QUERY)) (by rw [e35]; exact Ac38.1) (State.isArrayOf_alike hZ.alike Ac38.2.1) rfl Ac38.2.2 hinc38 (Has.at Hc38 hinc38 rfl) (g := (mkF m 16 #[.val (.int p1), .val (.ref r_1), .val (.int (9 : Int32)), .val (.int (7 : Int32)), .val (.ref w_PUSH)] [(.int (7 : Int32)), (.ref r_1)])) rfl rfl (hb hby d1_16) _ ?_
                  show Steps p.tables e below (T35.setTop (mkF m 17 #[.val (.int p1), .val (.ref r_1), .val (.int (9 : Int32)), .val (.int (7 : Int32)), .val (.ref w_PUSH)] [(.ref w_QUERY)])) _
                  refine XS.astore X35.here hx rfl (hb hby d1_17) rfl rfl (l' := #[.val (.int p1), .val (.ref r_1), .val (.int (9 : Int32)), .val (.int (7 : Int32)), .val (.ref w_QUERY)]) rfl ?_
                  show Steps p.tables e below (T35.setTop (mkF m 19 #[.val (.int p1), .val (.ref r_1), .val (.int (9 : Int32)), .val (.int (7 : Int32)), .val (.ref w_QUERY)] [])) _
                  refine XS.aload X35.here hx rfl (hb hby d1_19) rfl rfl ?_
                  show Steps p.tables e below (T35.setTop (mkF m 21 #[.val (.int p1), .val (.ref r_1), .val (.int (9 : Int32)), .val (.int (7 : Int32)), .val (.ref w_QUERY)] [(.ref w_QUERY)])) _
                  refine st40 _ ?_
                  show Steps p.tables e below (T40.setTop (mkF m 24 #[.val (.int p1), .val (.ref r_1), .val (.int (9 : Int32)), .val (.int (7 : Int32)), .val (.ref w_QUERY)] [(.int (128 : Int32))])) _
                  refine XS.iloadN X40.here hx rfl (hb hby d1_24) rfl ?_
                  exact kt
                by_cases hc25_41 : (128 : Int32) = p1
                · obtain ⟨fs, hr, hrun, hended, hW, hsame⟩ := X40.leave (v := some (.ref w_QUERY)) (fun h => by rw [Bd.returns] at h; cases h)
                  refine ⟨_, _, pre42 _ ?_, hrun, hended, _, _, rfl, ?_, ⟨_, rfl⟩, hW, hsame.mono (by decide) (by decide)⟩
                  · show Steps p.tables e below (T40.setTop (mkF m 25 #[.val (.int p1), .val (.ref r_1), .val (.int (9 : Int32)), .val (.int (7 : Int32)), .val (.ref w_QUERY)] [(.int p1), (.int (128 : Int32))])) _
                    refine XS.icmpNo X40.here hx rfl (hb hby d1_25) rfl (teq hc25_41).2 ?_
                    show Steps p.tables e below (T40.setTop (mkF m 28 #[.val (.int p1), .val (.ref r_1), .val (.int (9 : Int32)), .val (.int (7 : Int32)), .val (.ref w_QUERY)] [])) _
                    refine XS.aload X40.here hx rfl (hb hby d1_28) rfl rfl ?_
                    show Steps p.tables e below (T40.setTop (mkF m 30 #[.val (.int p1), .val (.ref r_1), .val (.int (9 : Int32)), .val (.int (7 : Int32)), .val (.ref w_QUERY)] [(.ref w_QUERY)])) _
                    jvm_step X40.here [X40.here.top, hx, (hb hby d1_30), X40.method', Bd.returns, Value.isRef, FieldType.isReference]
                    first | (intro acts; rw [hr _ acts rfl rfl rfl]) | rw [hr _ _ rfl rfl rfl]
                    exact Steps.refl _
                  · show Q_rm1 Z p1 wV cl w_PING w_PONG w_BYE w_ROUTE_TABLE_UPDATE w_VENDOR w_STANDARD_VENDOR w_PUSH w_QUERY w_QUERY_HIT h0 n0 _ T40.heap _
                    rw [e40]
                    exact ⟨by rw [own_for, if_neg (Ne.symm hc25_6), if_neg (Ne.symm hc25_11), if_neg (Ne.symm hc25_16), if_neg (Ne.symm hc25_21), if_neg (Ne.symm hc25_26), if_neg (Ne.symm hc25_31), if_neg (Ne.symm hc25_36), if_pos hc25_41.symm], N1, K1⟩
                · obtain ⟨c43, Ac43, qc43, Sc43, Nc43, Hc43, Gc43⟩ := id t1_2
                  have hinc43 := inb_of Sc43 (j := (8 : Int32)) ⟨by decide, by decide⟩
                  have f44 : Fld Z T1.heap w_QUERY_HIT "com/example/hearsay/hearsay/core/MessageType" "code" "I" (.int (129 : Int32)) := (F_code_w_QUERY_HIT.keep K1q nin0)
                  obtain ⟨T45, X45, e45, st45⟩ := getF X40 hx hZ hown (host := "") (Or.inl (hw _ (List.mem_of_getElem? (i := 28) rfl))) Via.refl e40 f44 (g := (mkF m 21 #[.val (.int p1), .val (.ref r_1), .val (.int (9 : Int32)), .val (.int (8 : Int32)), .val (.ref w_QUERY_HIT)] [(.ref w_QUERY_HIT)])) rfl rfl (hb hby d1_21)
                  have pre47 : ∀ t, Steps p.tables e below (T45.setTop (mkF m 25 #[.val (.int p1), .val (.ref r_1), .val (.int (9 : Int32)), .val (.int (8 : Int32)), .val (.ref w_QUERY_HIT)] [(.int p1), (.int (129 : Int32))])) t → Steps p.tables e below (s₁.setTop (entryFrame m #[(.int p1)] 5)) t := fun t kt => by
                    refine pre42 t ?_
                    show Steps p.tables e below (T40.setTop (mkF m 25 #[.val (.int p1), .val (.ref r_1), .val (.int (9 : Int32)), .val (.int (7 : Int32)), .val (.ref w_QUERY)] [(.int p1), (.int (128 : Int32))])) _
                    refine XS.icmpYes X40.here hx rfl (pc0 := 25) (pc' := 31) rfl (hb hby d1_25) rfl (feq hc25_41).2 (by decide) (by decide) ?_
                    show Steps p.tables e below (T40.setTop (mkF m 31 #[.val (.int p1), .val (.ref r_1), .val (.int (9 : Int32)), .val (.int (7 : Int32)), .val (.ref w_QUERY)] [])) _
                    refine XS.iinc X40.here hx rfl (hb hby d1_31) rfl (l' := #[.val (.int p1), .val (.ref r_1), .val (.int (9 : Int32)), .val (.int (8 : Int32)), .val (.ref w_QUERY)]) rfl ?_
                    show Steps p.tables e below (T40.setTop (mkF m 34 #[.val (.int p1), .val (.ref r_1), .val (.int (9 : Int32)), .val (.int (8 : Int32)), .val (.ref w_QUERY)] [])) _
                    refine XS.goto X40.here hx rfl (pc0 := 34) (pc' := 9) rfl (hb hby d1_34) (by decide) (by decide) ?_
                    show Steps p.tables e below (T40.setTop (mkF m 9 #[.val (.int p1), .val (.ref r_1), .val (.int (9 : Int32)), .val (.int (8 : Int32)), .val (.ref w_QUERY)] [])) _
                    refine XS.iloadN X40.here hx rfl (hb hby d1_9) rfl ?_
                    show Steps p.tables e below (T40.setTop (mkF m 10 #[.val (.int p1), .val (.ref r_1), .val (.int (9 : Int32)), .val (.int (8 : Int32)), .val (.ref w_QUERY)] [(.int (8 : Int32))])) _
                    refine XS.iloadN X40.here hx rfl (hb hby d1_10) rfl ?_
                    show Steps p.tables e below (T40.setTop (mkF m 11 #[.val (.int p1), .val (.ref r_1), .val (.int (9 : Int32)), .val (.int (8 : Int32)), .val (.ref w_QUERY)] [(.int (9 : Int32)), (.int (8 : Int32))])) _
                    refine XS.icmpNo X40.here hx rfl (hb hby d1_11) rfl (tlt (by decide : (8 : Int32) < (9 : Int32))).2.1 ?_
                    show Steps p.tables e below (T40.setTop (mkF m 14 #[.val (.int p1), .val (.ref r_1), .val (.int (9 : Int32)), .val (.int (8 : Int32)), .val (.ref w_QUERY)] [])) _
                    refine XS.aloadN X40.here hx rfl (hb hby d1_14) rfl rfl ?_
                    show Steps p.tables e below (T40.setTop (mkF m 15 #[.val (.int p1), .val (.ref r_1), .val (.int (9 : Int32)), .val (.int (8 : Int32)), .val (.ref w_QUERY)] [(.ref r_1)])) _
                    refine XS.iloadN X40.here hx rfl (hb hby d1_15) rfl ?_
                    show Steps p.tables e below (T40.setTop (mkF m 16 #[.val (.int p1), .val (.ref r_1), .val (.int (9 : Int32)), .val (.int (8 : Int32)), .val (.ref w_QUERY)] [(.int (8 : Int32)), (.ref r_1)])) _
                    refine X40.aaload hx (j := (8 : Int32)) (v := (.ref w_QUERY_HIT)) (by rw [e40]; exact Ac43.1) (State.isArrayOf_alike hZ.alike Ac43.2.1) rfl Ac43.2.2 hinc43 (Has.at Hc43 hinc43 rfl) (g := (mkF m 16 #[.val (.int p1), .val (.ref r_1), .val (.int (9 : Int32)), .val (.int (8 : Int32)), .val (.ref w_QUERY)] [(.int (8 : Int32)), (.ref r_1)])) rfl rfl (hb hby d1_16) _ ?_
                    show Steps p.tables e below (T40.setTop (mkF m 17 #[.val (.int p1), .val (.ref r_1), .val (.int (9 : Int32)), .val (.int (8 : Int32)), .val (.ref w_QUERY)] [(.ref w_QUERY_HIT)])) _
                    refine XS.astore X40.here hx rfl (hb hby d1_17) rfl rfl (l' := #[.val (.int p1), .val (.ref r_1), .val (.int (9 : Int32)), .val (.int (8 : Int32)), .val (.ref w_QUERY_HIT)]) rfl ?_
                    show Steps p.tables e below (T40.setTop (mkF m 19 #[.val (.int p1), .val (.ref r_1), .val (.int (9 : Int32)), .val (.int (8 : Int32)), .val (.ref w_QUERY_HIT)] [])) _
                    refine XS.aload X40.here hx rfl (hb hby d1_19) rfl rfl ?_
                    show Steps p.tables e below (T40.setTop (mkF m 21 #[.val (.int p1), .val (.ref r_1), .val (.int (9 : Int32)), .val (.int (8 : Int32)), .val (.ref w_QUERY_HIT)] [(.ref w_QUERY_HIT)])) _
                    refine st45 _ ?_
                    show Steps p.tables e below (T45.setTop (mkF m 24 #[.val (.int p1), .val (.ref r_1), .val (.int (9 : Int32)), .val (.int (8 : Int32)), .val (.ref w_QUERY_HIT)] [(.int (129 : Int32))])) _
                    refine XS.iloadN X45.here hx rfl (hb hby d1_24) rfl ?_
                    exact kt
                  by_cases hc25_46 : (129 : Int32) = p1
                  · obtain ⟨fs, hr, hrun, hended, hW, hsame⟩ := X45.leave (v := some (.ref w_QUERY_HIT)) (fun h => by rw [Bd.returns] at h; cases h)
                    refine ⟨_, _, pre47 _ ?_, hrun, hended, _, _, rfl, ?_, ⟨_, rfl⟩, hW, hsame.mono (by decide) (by decide)⟩
                    · show Steps p.tables e below (T45.setTop (mkF m 25 #[.val (.int p1), .val (.ref r_1), .val (.int (9 : Int32)), .val (.int (8 : Int32)), .val (.ref w_QUERY_HIT)] [(.int p1), (.int (129 : Int32))])) _
                      refine XS.icmpNo X45.here hx rfl (hb hby d1_25) rfl (teq hc25_46).2 ?_
                      show Steps p.tables e below (T45.setTop (mkF m 28 #[.val (.int p1), .val (.ref r_1), .val (.int (9 : Int32)), .val (.int (8 : Int32)), .val (.ref w_QUERY_HIT)] [])) _
                      refine XS.aload X45.here hx rfl (hb hby d1_28) rfl rfl ?_
                      show Steps p.tables e below (T45.setTop (mkF m 30 #[.val (.int p1), .val (.ref r_1), .val (.int (9 : Int32)), .val (.int (8 : Int32)), .val (.ref w_QUERY_HIT)] [(.ref w_QUERY_HIT)])) _
                      jvm_step X45.here [X45.here.top, hx, (hb hby d1_30), X45.method', Bd.returns, Value.isRef, FieldType.isReference]
                      first | (intro acts; rw [hr _ acts rfl rfl rfl]) | rw [hr _ _ rfl rfl rfl]
                      exact Steps.refl _
                    · show Q_rm1 Z p1 wV cl w_PING w_PONG w_BYE w_ROUTE_TABLE_UPDATE w_VENDOR w_STANDARD_VENDOR w_PUSH w_QUERY w_QUERY_HIT h0 n0 _ T45.heap _
                      rw [e45]
                      exact ⟨by rw [own_for, if_neg (Ne.symm hc25_6), if_neg (Ne.symm hc25_11), if_neg (Ne.symm hc25_16), if_neg (Ne.symm hc25_21), if_neg (Ne.symm hc25_26), if_neg (Ne.symm hc25_31), if_neg (Ne.symm hc25_36), if_neg (Ne.symm hc25_41), if_pos hc25_46.symm], N1, K1⟩
                  · obtain ⟨fs, hr, hrun, hended, hW, hsame⟩ := X45.leave (v := some .null) (fun h => by rw [Bd.returns] at h; cases h)
                    refine ⟨_, _, pre47 _ ?_, hrun, hended, _, _, rfl, ?_, ⟨_, rfl⟩, hW, hsame.mono (by decide) (by decide)⟩
                    · show Steps p.tables e below (T45.setTop (mkF m 25 #[.val (.int p1), .val (.ref r_1), .val (.int (9 : Int32)), .val (.int (8 : Int32)), .val (.ref w_QUERY_HIT)] [(.int p1), (.int (129 : Int32))])) _
                      refine XS.icmpYes X45.here hx rfl (pc0 := 25) (pc' := 31) rfl (hb hby d1_25) rfl (feq hc25_46).2 (by decide) (by decide) ?_
                      show Steps p.tables e below (T45.setTop (mkF m 31 #[.val (.int p1), .val (.ref r_1), .val (.int (9 : Int32)), .val (.int (8 : Int32)), .val (.ref w_QUERY_HIT)] [])) _
                      refine XS.iinc X45.here hx rfl (hb hby d1_31) rfl (l' := #[.val (.int p1), .val (.ref r_1), .val (.int (9 : Int32)), .val (.int (9 : Int32)), .val (.ref w_QUERY_HIT)]) rfl ?_
                      show Steps p.tables e below (T45.setTop (mkF m 34 #[.val (.int p1), .val (.ref r_1), .val (.int (9 : Int32)), .val (.int (9 : Int32)), .val (.ref w_QUERY_HIT)] [])) _
                      refine XS.goto X45.here hx rfl (pc0 := 34) (pc' := 9) rfl (hb hby d1_34) (by decide) (by decide) ?_
                      show Steps p.tables e below (T45.setTop (mkF m 9 #[.val (.int p1), .val (.ref r_1), .val (.int (9 : Int32)), .val (.int (9 : Int32)), .val (.ref w_QUERY_HIT)] [])) _
                      refine XS.iloadN X45.here hx rfl (hb hby d1_9) rfl ?_
                      show Steps p.tables e below (T45.setTop (mkF m 10 #[.val (.int p1), .val (.ref r_1), .val (.int (9 : Int32)), .val (.int (9 : Int32)), .val (.ref w_QUERY_HIT)] [(.int (9 : Int32))])) _
                      refine XS.iloadN X45.here hx rfl (hb hby d1_10) rfl ?_
                      show Steps p.tables e below (T45.setTop (mkF m 11 #[.val (.int p1), .val (.ref r_1), .val (.int (9 : Int32)), .val (.int (9 : Int32)), .val (.ref w_QUERY_HIT)] [(.int (9 : Int32)), (.int (9 : Int32))])) _
                      refine XS.icmpYes X45.here hx rfl (pc0 := 11) (pc' := 37) rfl (hb hby d1_11) rfl (flt (by decide : ¬ ((9 : Int32) < (9 : Int32)))).2.1 (by decide) (by decide) ?_
                      show Steps p.tables e below (T45.setTop (mkF m 37 #[.val (.int p1), .val (.ref r_1), .val (.int (9 : Int32)), .val (.int (9 : Int32)), .val (.ref w_QUERY_HIT)] [])) _
                      refine XS.aconstNull X45.here hx rfl (hb hby d1_37) ?_
                      show Steps p.tables e below (T45.setTop (mkF m 38 #[.val (.int p1), .val (.ref r_1), .val (.int (9 : Int32)), .val (.int (9 : Int32)), .val (.ref w_QUERY_HIT)] [.null])) _
                      jvm_step X45.here [X45.here.top, hx, (hb hby d1_38), X45.method', Bd.returns, Value.isRef, FieldType.isReference]
                      first | (intro acts; rw [hr _ acts rfl rfl rfl]) | rw [hr _ _ rfl rfl rfl]
                      exact Steps.refl _
                    · show Q_rm1 Z p1 wV cl w_PING w_PONG w_BYE w_ROUTE_TABLE_UPDATE w_VENDOR w_STANDARD_VENDOR w_PUSH w_QUERY w_QUERY_HIT h0 n0 _ T45.heap _
                      rw [e45]
                      exact ⟨by rw [own_for, if_neg (Ne.symm hc25_6), if_neg (Ne.symm hc25_11), if_neg (Ne.symm hc25_16), if_neg (Ne.symm hc25_21), if_neg (Ne.symm hc25_26), if_neg (Ne.symm hc25_31), if_neg (Ne.symm hc25_36), if_neg (Ne.symm hc25_41), if_neg (Ne.symm hc25_46)], N1, K1⟩
theorem d3_0 : decode method_3_code 0 = .ok (.iload_n 0, 1) := by decide +kernel
theorem d3_1 : decode method_3_code 1 = .ok (.ifCond .ne 7, 3) := by decide +kernel
theorem d3_4 : decode method_3_code 4 = .ok (.getstatic 19, 3) := by decide +kernel
theorem d3_7 : decode method_3_code 7 = .ok (.areturn, 1) := by decide +kernel
theorem d3_8 : decode method_3_code 8 = .ok (.iload_n 0, 1) := by decide +kernel
theorem d3_9 : decode method_3_code 9 = .ok (.iconst 1, 1) := by decide +kernel
theorem d3_10 : decode method_3_code 10 = .ok (.if_icmp .ne 7, 3) := by decide +kernel
theorem d3_13 : decode method_3_code 13 = .ok (.getstatic 23, 3) := by decide +kernel
theorem d3_16 : decode method_3_code 16 = .ok (.areturn, 1) := by decide +kernel
theorem d3_17 : decode method_3_code 17 = .ok (.iload_n 0, 1) := by decide +kernel
theorem d3_18 : decode method_3_code 18 = .ok (.iconst 2, 1) := by decide +kernel
theorem d3_19 : decode method_3_code 19 = .ok (.if_icmp .ne 7, 3) := by decide +kernel
theorem d3_22 : decode method_3_code 22 = .ok (.getstatic 26, 3) := by decide +kernel
theorem d3_25 : decode method_3_code 25 = .ok (.areturn, 1) := by decide +kernel
theorem d3_26 : decode method_3_code 26 = .ok (.iload_n 0, 1) := by decide +kernel
theorem d3_27 : decode method_3_code 27 = .ok (.bipush 48, 2) := by decide +kernel
theorem d3_29 : decode method_3_code 29 = .ok (.if_icmp .ne 7, 3) := by decide +kernel
theorem d3_32 : decode method_3_code 32 = .ok (.getstatic 29, 3) := by decide +kernel
theorem d3_35 : decode method_3_code 35 = .ok (.areturn, 1) := by decide +kernel
theorem d3_36 : decode method_3_code 36 = .ok (.iload_n 0, 1) := by decide +kernel
theorem d3_37 : decode method_3_code 37 = .ok (.bipush 49, 2) := by decide +kernel
theorem d3_39 : decode method_3_code 39 = .ok (.if_icmp .ne 7, 3) := by decide +kernel
theorem d3_42 : decode method_3_code 42 = .ok (.getstatic 32, 3) := by decide +kernel
theorem d3_45 : decode method_3_code 45 = .ok (.areturn, 1) := by decide +kernel
theorem d3_46 : decode method_3_code 46 = .ok (.iload_n 0, 1) := by decide +kernel
theorem d3_47 : decode method_3_code 47 = .ok (.bipush 50, 2) := by decide +kernel
theorem d3_49 : decode method_3_code 49 = .ok (.if_icmp .ne 7, 3) := by decide +kernel
theorem d3_52 : decode method_3_code 52 = .ok (.getstatic 35, 3) := by decide +kernel
theorem d3_55 : decode method_3_code 55 = .ok (.areturn, 1) := by decide +kernel
theorem d3_56 : decode method_3_code 56 = .ok (.iload_n 0, 1) := by decide +kernel
theorem d3_57 : decode method_3_code 57 = .ok (.bipush 64, 2) := by decide +kernel
theorem d3_59 : decode method_3_code 59 = .ok (.if_icmp .ne 7, 3) := by decide +kernel
theorem d3_62 : decode method_3_code 62 = .ok (.getstatic 38, 3) := by decide +kernel
theorem d3_65 : decode method_3_code 65 = .ok (.areturn, 1) := by decide +kernel
theorem d3_66 : decode method_3_code 66 = .ok (.iload_n 0, 1) := by decide +kernel
theorem d3_67 : decode method_3_code 67 = .ok (.sipush 128, 3) := by decide +kernel
theorem d3_70 : decode method_3_code 70 = .ok (.if_icmp .ne 7, 3) := by decide +kernel
theorem d3_73 : decode method_3_code 73 = .ok (.getstatic 41, 3) := by decide +kernel
theorem d3_76 : decode method_3_code 76 = .ok (.areturn, 1) := by decide +kernel
theorem d3_77 : decode method_3_code 77 = .ok (.iload_n 0, 1) := by decide +kernel
theorem d3_78 : decode method_3_code 78 = .ok (.sipush 129, 3) := by decide +kernel
theorem d3_81 : decode method_3_code 81 = .ok (.if_icmp .ne 7, 3) := by decide +kernel
theorem d3_84 : decode method_3_code 84 = .ok (.getstatic 44, 3) := by decide +kernel
theorem d3_87 : decode method_3_code 87 = .ok (.areturn, 1) := by decide +kernel
theorem d3_88 : decode method_3_code 88 = .ok (.aconst_null, 1) := by decide +kernel
theorem d3_89 : decode method_3_code 89 = .ok (.areturn, 1) := by decide +kernel
theorem pn_com_example_hearsay_hearsay_core_MessageTypeForCodePinLaw : plainName "com/example/hearsay/hearsay/core/MessageTypeForCodePinLaw" = true := by first | (simp [plainName, overriddenIn]; done) | decide +kernel
theorem ef_rm3 (m : MethodId) (p1 : Int32) : entryFrame m #[(.int p1)] 1 = mkF m 0 #[.val (.int p1)] [] := by first | (simp [entryFrame, mkF, argsToLocals, Value.category]; done) | rfl
def Q_rm3 (Z : State) (p1 : Int32) (w_PING : Addr) (w_PONG : Addr) (w_BYE : Addr) (w_ROUTE_TABLE_UPDATE : Addr) (w_VENDOR : Addr) (w_STANDARD_VENDOR : Addr) (w_PUSH : Addr) (w_QUERY : Addr) (w_QUERY_HIT : Addr) (h0 : Heap) (n0 : Nat) (v : Option Value) (h : Heap) (L : List Loc) : Prop := v = some (own_for p1 w_PING w_PONG w_BYE w_ROUTE_TABLE_UPDATE w_VENDOR w_STANDARD_VENDOR w_PUSH w_QUERY w_QUERY_HIT) ∧ Fr n0 L ∧ h = h0
set_option maxRecDepth 65536 in
set_option maxHeartbeats 40000000 in
theorem rm3 (l : Launch) (Z : State) (a0 : Array Value) (hw : ∀ d ∈ tables_1, d.before a0 Z = true) (ws : List Jvm.Cond) (p1 : Int32) (w_PING : Addr) (w_PONG : Addr) (w_BYE : Addr) (w_ROUTE_TABLE_UPDATE : Addr) (w_VENDOR : Addr) (w_STANDARD_VENDOR : Addr) (w_PUSH : Addr) (w_QUERY : Addr) (w_QUERY_HIT : Addr) (h0 : Heap) (n0 : Nat) (Z0 : n0 ≤ h0.size) (S_PING : Sta Z h0 "com/example/hearsay/hearsay/core/MessageType" "PING" "Lcom/example/hearsay/hearsay/core/MessageType;" (.ref w_PING)) (S_PONG : Sta Z h0 "com/example/hearsay/hearsay/core/MessageType" "PONG" "Lcom/example/hearsay/hearsay/core/MessageType;" (.ref w_PONG)) (S_BYE : Sta Z h0 "com/example/hearsay/hearsay/core/MessageType" "BYE" "Lcom/example/hearsay/hearsay/core/MessageType;" (.ref w_BYE)) (S_ROUTE_TABLE_UPDATE : Sta Z h0 "com/example/hearsay/hearsay/core/MessageType" "ROUTE_TABLE_UPDATE" "Lcom/example/hearsay/hearsay/core/MessageType;" (.ref w_ROUTE_TABLE_UPDATE)) (S_VENDOR : Sta Z h0 "com/example/hearsay/hearsay/core/MessageType" "VENDOR" "Lcom/example/hearsay/hearsay/core/MessageType;" (.ref w_VENDOR)) (S_STANDARD_VENDOR : Sta Z h0 "com/example/hearsay/hearsay/core/MessageType" "STANDARD_VENDOR" "Lcom/example/hearsay/hearsay/core/MessageType;" (.ref w_STANDARD_VENDOR)) (S_PUSH : Sta Z h0 "com/example/hearsay/hearsay/core/MessageType" "PUSH" "Lcom/example/hearsay/hearsay/core/MessageType;" (.ref w_PUSH)) (S_QUERY : Sta Z h0 "com/example/hearsay/hearsay/core/MessageType" "QUERY" "Lcom/example/hearsay/hearsay/core/MessageType;" (.ref w_QUERY)) (S_QUERY_HIT : Sta Z h0 "com/example/hearsay/hearsay/core/MessageType" "QUERY_HIT" "Lcom/example/hearsay/hearsay/core/MessageType;" (.ref w_QUERY_HIT)) :
    MetFree l (⟨"com/example/hearsay/hearsay/core/MessageTypeForCodePinLaw", "expected", "(I)Lcom/example/hearsay/hearsay/core/MessageType;"⟩ : MethodName) (head1 (Jvm.Cond.code (⟨"com/example/hearsay/hearsay/core/MessageTypeForCodePinLaw", "expected", "(I)Lcom/example/hearsay/hearsay/core/MessageType;"⟩ : MethodName) method_3_code 1 (some (.object "com/example/hearsay/hearsay/core/MessageType")) :: ws) ({ frames := 0, cells := 0, slots := 0, locals := 0 } : Room)) (fun a U => a = #[(.int p1)] ∧ Z.Warmed39 U.vm ∧ U.heap = h0) (fun _ _ _ _ _ => True) (fun _ U o U' => ∃ v L, o = .returned v ∧ Q_rm3 Z p1 w_PING w_PONG w_BYE w_ROUTE_TABLE_UPDATE w_VENDOR w_STANDARD_VENDOR w_PUSH w_QUERY w_QUERY_HIT h0 n0 v U'.heap L ∧ FrameEnd U o U' L ({ frames := 0, cells := 0, slots := 0, locals := 0 } : Room).cells ({ frames := 0, cells := 0, slots := 0, locals := 0 } : Room).slots) := by
  refine MetFree.of_bodySF (plainFor_of_name pn_com_example_hearsay_hearsay_core_MessageTypeForCodePinLaw) hisR ?_
  intro p e s m args below meth c s₁ Bd hml0 hP hK
  obtain ⟨rfl, hZ, hh⟩ := hP
  have hx := Bd.exec
  have hby := Bd.bytes
  have hml : c.maxLocals = 1 := hml0
  have hown : s.vm.findClass "com/example/hearsay/hearsay/core/MessageTypeForCodePinLaw" = some m.cls := findClass_of_methodNamed Bd.named
  have hnm := (name_of_methodNamed Bd.named Bd.method).1
  have X0 : Stand p l e ({ frames := 0, cells := 0, slots := 0, locals := 0 } : Room) s m #[(.int p1)] below meth c s₁ [] 0 0 := Stand.of_body Bd
  have e0 : s₁.heap = h0 := by rw [← hh, Bd.state]; rfl
  have N0 := Fr.nil n0
  have pre0 : ∀ t, Steps p.tables e below (s₁.setTop (mkF m 0 #[.val (.int p1)] [])) t → Steps p.tables e below (s₁.setTop (entryFrame m #[(.int p1)] 1)) t := fun t k => castTop (ef_rm3 m p1) k
  have pre2 : ∀ t, Steps p.tables e below (s₁.setTop (mkF m 1 #[.val (.int p1)] [(.int p1)])) t → Steps p.tables e below (s₁.setTop (entryFrame m #[(.int p1)] 1)) t := fun t kt => by
    refine pre0 t ?_
    show Steps p.tables e below (s₁.setTop (mkF m 0 #[.val (.int p1)] [])) _
    refine XS.iloadN X0.here hx rfl (hb hby d3_0) rfl ?_
    exact kt
  by_cases hc1_1 : p1 = (0 : Int32)
  · obtain ⟨T3, X3, e3, st3⟩ := getS2 X0 hx hZ hown (host := "") (Or.inl (hw _ (List.mem_of_getElem? (i := 40) rfl))) Via.refl e0 S_PING (g := (mkF m 4 #[.val (.int p1)] [])) rfl (hb hby d3_4)
    obtain ⟨fs, hr, hrun, hended, hW, hsame⟩ := X3.leave (v := some (.ref w_PING)) (fun h => by rw [Bd.returns] at h; cases h)
    refine ⟨_, _, pre2 _ ?_, hrun, hended, _, _, rfl, ?_, ⟨_, rfl⟩, hW, hsame.mono (by decide) (by decide)⟩
    · show Steps p.tables e below (s₁.setTop (mkF m 1 #[.val (.int p1)] [(.int p1)])) _
      refine XS.ifNo X0.here hx rfl (hb hby d3_1) rfl ((if0 _ _).trans (teq hc1_1).2) ?_
      show Steps p.tables e below (s₁.setTop (mkF m 4 #[.val (.int p1)] [])) _
      refine st3 _ ?_
      show Steps p.tables e below (T3.setTop (mkF m 7 #[.val (.int p1)] [(.ref w_PING)])) _
      jvm_step X3.here [X3.here.top, hx, (hb hby d3_7), X3.method', Bd.returns, Value.isRef, FieldType.isReference]
      first | (intro acts; rw [hr _ acts rfl rfl rfl]) | rw [hr _ _ rfl rfl rfl]
      exact Steps.refl _
    · show Q_rm3 Z p1 w_PING w_PONG w_BYE w_ROUTE_TABLE_UPDATE w_VENDOR w_STANDARD_VENDOR w_PUSH w_QUERY w_QUERY_HIT h0 n0 _ T3.heap _
      rw [e3]
      exact ⟨by rw [own_for, if_pos hc1_1], N0, rfl⟩
  · have pre5 : ∀ t, Steps p.tables e below (s₁.setTop (mkF m 10 #[.val (.int p1)] [(.int (1 : Int32)), (.int p1)])) t → Steps p.tables e below (s₁.setTop (entryFrame m #[(.int p1)] 1)) t := fun t kt => by
      refine pre2 t ?_
      show Steps p.tables e below (s₁.setTop (mkF m 1 #[.val (.int p1)] [(.int p1)])) _
      refine XS.ifYes X0.here hx rfl (pc0 := 1) (pc' := 8) rfl (hb hby d3_1) rfl ((if0 _ _).trans (feq hc1_1).2) (by decide) (by decide) ?_
      show Steps p.tables e below (s₁.setTop (mkF m 8 #[.val (.int p1)] [])) _
      refine XS.iloadN X0.here hx rfl (hb hby d3_8) rfl ?_
      show Steps p.tables e below (s₁.setTop (mkF m 9 #[.val (.int p1)] [(.int p1)])) _
      refine XS.iconst X0.here hx rfl (hb hby d3_9) ?_
      exact kt
    by_cases hc10_4 : p1 = (1 : Int32)
    · obtain ⟨T6, X6, e6, st6⟩ := getS2 X0 hx hZ hown (host := "") (Or.inl (hw _ (List.mem_of_getElem? (i := 38) rfl))) Via.refl e0 S_PONG (g := (mkF m 13 #[.val (.int p1)] [])) rfl (hb hby d3_13)
      obtain ⟨fs, hr, hrun, hended, hW, hsame⟩ := X6.leave (v := some (.ref w_PONG)) (fun h => by rw [Bd.returns] at h; cases h)
      refine ⟨_, _, pre5 _ ?_, hrun, hended, _, _, rfl, ?_, ⟨_, rfl⟩, hW, hsame.mono (by decide) (by decide)⟩
      · show Steps p.tables e below (s₁.setTop (mkF m 10 #[.val (.int p1)] [(.int (1 : Int32)), (.int p1)])) _
        refine XS.icmpNo X0.here hx rfl (hb hby d3_10) rfl (teq hc10_4).2 ?_
        show Steps p.tables e below (s₁.setTop (mkF m 13 #[.val (.int p1)] [])) _
        refine st6 _ ?_
        show Steps p.tables e below (T6.setTop (mkF m 16 #[.val (.int p1)] [(.ref w_PONG)])) _
        jvm_step X6.here [X6.here.top, hx, (hb hby d3_16), X6.method', Bd.returns, Value.isRef, FieldType.isReference]
        first | (intro acts; rw [hr _ acts rfl rfl rfl]) | rw [hr _ _ rfl rfl rfl]
        exact Steps.refl _
      · show Q_rm3 Z p1 w_PING w_PONG w_BYE w_ROUTE_TABLE_UPDATE w_VENDOR w_STANDARD_VENDOR w_PUSH w_QUERY w_QUERY_HIT h0 n0 _ T6.heap _
        rw [e6]
        exact ⟨by rw [own_for, if_neg hc1_1, if_pos hc10_4], N0, rfl⟩
    · have pre8 : ∀ t, Steps p.tables e below (s₁.setTop (mkF m 19 #[.val (.int p1)] [(.int (2 : Int32)), (.int p1)])) t → Steps p.tables e below (s₁.setTop (entryFrame m #[(.int p1)] 1)) t := fun t kt => by
        refine pre5 t ?_
        show Steps p.tables e below (s₁.setTop (mkF m 10 #[.val (.int p1)] [(.int (1 : Int32)), (.int p1)])) _
        refine XS.icmpYes X0.here hx rfl (pc0 := 10) (pc' := 17) rfl (hb hby d3_10) rfl (feq hc10_4).2 (by decide) (by decide) ?_
        show Steps p.tables e below (s₁.setTop (mkF m 17 #[.val (.int p1)] [])) _
        refine XS.iloadN X0.here hx rfl (hb hby d3_17) rfl ?_
        show Steps p.tables e below (s₁.setTop (mkF m 18 #[.val (.int p1)] [(.int p1)])) _
        refine XS.iconst X0.here hx rfl (hb hby d3_18) ?_
        exact kt
      by_cases hc19_7 : p1 = (2 : Int32)
      · obtain ⟨T9, X9, e9, st9⟩ := getS2 X0 hx hZ hown (host := "") (Or.inl (hw _ (List.mem_of_getElem? (i := 36) rfl))) Via.refl e0 S_BYE (g := (mkF m 22 #[.val (.int p1)] [])) rfl (hb hby d3_22)
        obtain ⟨fs, hr, hrun, hended, hW, hsame⟩ := X9.leave (v := some (.ref w_BYE)) (fun h => by rw [Bd.returns] at h; cases h)
        refine ⟨_, _, pre8 _ ?_, hrun, hended, _, _, rfl, ?_, ⟨_, rfl⟩, hW, hsame.mono (by decide) (by decide)⟩
        · show Steps p.tables e below (s₁.setTop (mkF m 19 #[.val (.int p1)] [(.int (2 : Int32)), (.int p1)])) _
          refine XS.icmpNo X0.here hx rfl (hb hby d3_19) rfl (teq hc19_7).2 ?_
          show Steps p.tables e below (s₁.setTop (mkF m 22 #[.val (.int p1)] [])) _
          refine st9 _ ?_
          show Steps p.tables e below (T9.setTop (mkF m 25 #[.val (.int p1)] [(.ref w_BYE)])) _
          jvm_step X9.here [X9.here.top, hx, (hb hby d3_25), X9.method', Bd.returns, Value.isRef, FieldType.isReference]
          first | (intro acts; rw [hr _ acts rfl rfl rfl]) | rw [hr _ _ rfl rfl rfl]
          exact Steps.refl _
        · show Q_rm3 Z p1 w_PING w_PONG w_BYE w_ROUTE_TABLE_UPDATE w_VENDOR w_STANDARD_VENDOR w_PUSH w_QUERY w_QUERY_HIT h0 n0 _ T9.heap _
          rw [e9]
          exact ⟨by rw [own_for, if_neg hc1_1, if_neg hc10_4, if_pos hc19_7], N0, rfl⟩
      · have pre11 : ∀ t, Steps p.tables e below (s₁.setTop (mkF m 29 #[.val (.int p1)] [(.int (48 : Int32)), (.int p1)])) t → Steps p.tables e below (s₁.setTop (entryFrame m #[(.int p1)] 1)) t := fun t kt => by
          refine pre8 t ?_
          show Steps p.tables e below (s₁.setTop (mkF m 19 #[.val (.int p1)] [(.int (2 : Int32)), (.int p1)])) _
          refine XS.icmpYes X0.here hx rfl (pc0 := 19) (pc' := 26) rfl (hb hby d3_19) rfl (feq hc19_7).2 (by decide) (by decide) ?_
          show Steps p.tables e below (s₁.setTop (mkF m 26 #[.val (.int p1)] [])) _
          refine XS.iloadN X0.here hx rfl (hb hby d3_26) rfl ?_
          show Steps p.tables e below (s₁.setTop (mkF m 27 #[.val (.int p1)] [(.int p1)])) _
          refine XS.bipush X0.here hx rfl (hb hby d3_27) ?_
          exact kt
        by_cases hc29_10 : p1 = (48 : Int32)
        · obtain ⟨T12, X12, e12, st12⟩ := getS2 X0 hx hZ hown (host := "") (Or.inl (hw _ (List.mem_of_getElem? (i := 44) rfl))) Via.refl e0 S_ROUTE_TABLE_UPDATE (g := (mkF m 32 #[.val (.int p1)] [])) rfl (hb hby d3_32)
          obtain ⟨fs, hr, hrun, hended, hW, hsame⟩ := X12.leave (v := some (.ref w_ROUTE_TABLE_UPDATE)) (fun h => by rw [Bd.returns] at h; cases h)
          refine ⟨_, _, pre11 _ ?_, hrun, hended, _, _, rfl, ?_, ⟨_, rfl⟩, hW, hsame.mono (by decide) (by decide)⟩
          · show Steps p.tables e below (s₁.setTop (mkF m 29 #[.val (.int p1)] [(.int (48 : Int32)), (.int p1)])) _
            refine XS.icmpNo X0.here hx rfl (hb hby d3_29) rfl (teq hc29_10).2 ?_
            show Steps p.tables e below (s₁.setTop (mkF m 32 #[.val (.int p1)] [])) _
            refine st12 _ ?_
            show Steps p.tables e below (T12.setTop (mkF m 35 #[.val (.int p1)] [(.ref w_ROUTE_TABLE_UPDATE)])) _
            jvm_step X12.here [X12.here.top, hx, (hb hby d3_35), X12.method', Bd.returns, Value.isRef, FieldType.isReference]
            first | (intro acts; rw [hr _ acts rfl rfl rfl]) | rw [hr _ _ rfl rfl rfl]
            exact Steps.refl _
          · show Q_rm3 Z p1 w_PING w_PONG w_BYE w_ROUTE_TABLE_UPDATE w_VENDOR w_STANDARD_VENDOR w_PUSH w_QUERY w_QUERY_HIT h0 n0 _ T12.heap _
            rw [e12]
            exact ⟨by rw [own_for, if_neg hc1_1, if_neg hc10_4, if_neg hc19_7, if_pos hc29_10], N0, rfl⟩
        · have pre14 : ∀ t, Steps p.tables e below (s₁.setTop (mkF m 39 #[.val (.int p1)] [(.int (49 : Int32)), (.int p1)])) t → Steps p.tables e below (s₁.setTop (entryFrame m #[(.int p1)] 1)) t := fun t kt => by
            refine pre11 t ?_
            show Steps p.tables e below (s₁.setTop (mkF m 29 #[.val (.int p1)] [(.int (48 : Int32)), (.int p1)])) _
            refine XS.icmpYes X0.here hx rfl (pc0 := 29) (pc' := 36) rfl (hb hby d3_29) rfl (feq hc29_10).2 (by decide) (by decide) ?_
            show Steps p.tables e below (s₁.setTop (mkF m 36 #[.val (.int p1)] [])) _
            refine XS.iloadN X0.here hx rfl (hb hby d3_36) rfl ?_
            show Steps p.tables e below (s₁.setTop (mkF m 37 #[.val (.int p1)] [(.int p1)])) _
            refine XS.bipush X0.here hx rfl (hb hby d3_37) ?_
            exact kt
          by_cases hc39_13 : p1 = (49 : Int32)
          · obtain ⟨T15, X15, e15, st15⟩ := getS2 X0 hx hZ hown (host := "") (Or.inl (hw _ (List.mem_of_getElem? (i := 43) rfl))) Via.refl e0 S_VENDOR (g := (mkF m 42 #[.val (.int p1)] [])) rfl (hb hby d3_42)
            obtain ⟨fs, hr, hrun, hended, hW, hsame⟩ := X15.leave (v := some (.ref w_VENDOR)) (fun h => by rw [Bd.returns] at h; cases h)
            refine ⟨_, _, pre14 _ ?_, hrun, hended, _, _, rfl, ?_, ⟨_, rfl⟩, hW, hsame.mono (by decide) (by decide)⟩
            · show Steps p.tables e below (s₁.setTop (mkF m 39 #[.val (.int p1)] [(.int (49 : Int32)), (.int p1)])) _
              refine XS.icmpNo X0.here hx rfl (hb hby d3_39) rfl (teq hc39_13).2 ?_
              show Steps p.tables e below (s₁.setTop (mkF m 42 #[.val (.int p1)] [])) _
              refine st15 _ ?_
              show Steps p.tables e below (T15.setTop (mkF m 45 #[.val (.int p1)] [(.ref w_VENDOR)])) _
              jvm_step X15.here [X15.here.top, hx, (hb hby d3_45), X15.method', Bd.returns, Value.isRef, FieldType.isReference]
              first | (intro acts; rw [hr _ acts rfl rfl rfl]) | rw [hr _ _ rfl rfl rfl]
              exact Steps.refl _
            · show Q_rm3 Z p1 w_PING w_PONG w_BYE w_ROUTE_TABLE_UPDATE w_VENDOR w_STANDARD_VENDOR w_PUSH w_QUERY w_QUERY_HIT h0 n0 _ T15.heap _
              rw [e15]
              exact ⟨by rw [own_for, if_neg hc1_1, if_neg hc10_4, if_neg hc19_7, if_neg hc29_10, if_pos hc39_13], N0, rfl⟩
          · have pre17 : ∀ t, Steps p.tables e below (s₁.setTop (mkF m 49 #[.val (.int p1)] [(.int (50 : Int32)), (.int p1)])) t → Steps p.tables e below (s₁.setTop (entryFrame m #[(.int p1)] 1)) t := fun t kt => by
              refine pre14 t ?_
              show Steps p.tables e below (s₁.setTop (mkF m 39 #[.val (.int p1)] [(.int (49 : Int32)), (.int p1)])) _
              refine XS.icmpYes X0.here hx rfl (pc0 := 39) (pc' := 46) rfl (hb hby d3_39) rfl (feq hc39_13).2 (by decide) (by decide) ?_
              show Steps p.tables e below (s₁.setTop (mkF m 46 #[.val (.int p1)] [])) _
              refine XS.iloadN X0.here hx rfl (hb hby d3_46) rfl ?_
              show Steps p.tables e below (s₁.setTop (mkF m 47 #[.val (.int p1)] [(.int p1)])) _
              refine XS.bipush X0.here hx rfl (hb hby d3_47) ?_
              exact kt
            by_cases hc49_16 : p1 = (50 : Int32)
            · obtain ⟨T18, X18, e18, st18⟩ := getS2 X0 hx hZ hown (host := "") (Or.inl (hw _ (List.mem_of_getElem? (i := 37) rfl))) Via.refl e0 S_STANDARD_VENDOR (g := (mkF m 52 #[.val (.int p1)] [])) rfl (hb hby d3_52)
              obtain ⟨fs, hr, hrun, hended, hW, hsame⟩ := X18.leave (v := some (.ref w_STANDARD_VENDOR)) (fun h => by rw [Bd.returns] at h; cases h)
              refine ⟨_, _, pre17 _ ?_, hrun, hended, _, _, rfl, ?_, ⟨_, rfl⟩, hW, hsame.mono (by decide) (by decide)⟩
              · show Steps p.tables e below (s₁.setTop (mkF m 49 #[.val (.int p1)] [(.int (50 : Int32)), (.int p1)])) _
                refine XS.icmpNo X0.here hx rfl (hb hby d3_49) rfl (teq hc49_16).2 ?_
                show Steps p.tables e below (s₁.setTop (mkF m 52 #[.val (.int p1)] [])) _
                refine st18 _ ?_
                show Steps p.tables e below (T18.setTop (mkF m 55 #[.val (.int p1)] [(.ref w_STANDARD_VENDOR)])) _
                jvm_step X18.here [X18.here.top, hx, (hb hby d3_55), X18.method', Bd.returns, Value.isRef, FieldType.isReference]
                first | (intro acts; rw [hr _ acts rfl rfl rfl]) | rw [hr _ _ rfl rfl rfl]
                exact Steps.refl _
              · show Q_rm3 Z p1 w_PING w_PONG w_BYE w_ROUTE_TABLE_UPDATE w_VENDOR w_STANDARD_VENDOR w_PUSH w_QUERY w_QUERY_HIT h0 n0 _ T18.heap _
                rw [e18]
                exact ⟨by rw [own_for, if_neg hc1_1, if_neg hc10_4, if_neg hc19_7, if_neg hc29_10, if_neg hc39_13, if_pos hc49_16], N0, rfl⟩
            · have pre20 : ∀ t, Steps p.tables e below (s₁.setTop (mkF m 59 #[.val (.int p1)] [(.int (64 : Int32)), (.int p1)])) t → Steps p.tables e below (s₁.setTop (entryFrame m #[(.int p1)] 1)) t := fun t kt => by
                refine pre17 t ?_
                show Steps p.tables e below (s₁.setTop (mkF m 49 #[.val (.int p1)] [(.int (50 : Int32)), (.int p1)])) _
                refine XS.icmpYes X0.here hx rfl (pc0 := 49) (pc' := 56) rfl (hb hby d3_49) rfl (feq hc49_16).2 (by decide) (by decide) ?_
                show Steps p.tables e below (s₁.setTop (mkF m 56 #[.val (.int p1)] [])) _
                refine XS.iloadN X0.here hx rfl (hb hby d3_56) rfl ?_
                show Steps p.tables e below (s₁.setTop (mkF m 57 #[.val (.int p1)] [(.int p1)])) _
                refine XS.bipush X0.here hx rfl (hb hby d3_57) ?_
                exact kt
              by_cases hc59_19 : p1 = (64 : Int32)
              · obtain ⟨T21, X21, e21, st21⟩ := getS2 X0 hx hZ hown (host := "") (Or.inl (hw _ (List.mem_of_getElem? (i := 41) rfl))) Via.refl e0 S_PUSH (g := (mkF m 62 #[.val (.int p1)] [])) rfl (hb hby d3_62)
                obtain ⟨fs, hr, hrun, hended, hW, hsame⟩ := X21.leave (v := some (.ref w_PUSH)) (fun h => by rw [Bd.returns] at h; cases h)
                refine ⟨_, _, pre20 _ ?_, hrun, hended, _, _, rfl, ?_, ⟨_, rfl⟩, hW, hsame.mono (by decide) (by decide)⟩
                · show Steps p.tables e below (s₁.setTop (mkF m 59 #[.val (.int p1)] [(.int (64 : Int32)), (.int p1)])) _
                  refine XS.icmpNo X0.here hx rfl (hb hby d3_59) rfl (teq hc59_19).2 ?_
                  show Steps p.tables e below (s₁.setTop (mkF m 62 #[.val (.int p1)] [])) _
                  refine st21 _ ?_
                  show Steps p.tables e below (T21.setTop (mkF m 65 #[.val (.int p1)] [(.ref w_PUSH)])) _
                  jvm_step X21.here [X21.here.top, hx, (hb hby d3_65), X21.method', Bd.returns, Value.isRef, FieldType.isReference]
                  first | (intro acts; rw [hr _ acts rfl rfl rfl]) | rw [hr _ _ rfl rfl rfl]
                  exact Steps.refl _
                · show Q_rm3 Z p1 w_PING w_PONG w_BYE w_ROUTE_TABLE_UPDATE w_VENDOR w_STANDARD_VENDOR w_PUSH w_QUERY w_QUERY_HIT h0 n0 _ T21.heap _
                  rw [e21]
                  exact ⟨by rw [own_for, if_neg hc1_1, if_neg hc10_4, if_neg hc19_7, if_neg hc29_10, if_neg hc39_13, if_neg hc49_16, if_pos hc59_19], N0, rfl⟩
              · have pre23 : ∀ t, Steps p.tables e below (s₁.setTop (mkF m 70 #[.val (.int p1)] [(.int (128 : Int32)), (.int p1)])) t → Steps p.tables e below (s₁.setTop (entryFrame m #[(.int p1)] 1)) t := fun t kt => by
                  refine pre20 t ?_
                  show Steps p.tables e below (s₁.setTop (mkF m 59 #[.val (.int p1)] [(.int (64 : Int32)), (.int p1)])) _
                  refine XS.icmpYes X0.here hx rfl (pc0 := 59) (pc' := 66) rfl (hb hby d3_59) rfl (feq hc59_19).2 (by decide) (by decide) ?_
                  show Steps p.tables e below (s₁.setTop (mkF m 66 #[.val (.int p1)] [])) _
                  refine XS.iloadN X0.here hx rfl (hb hby d3_66) rfl ?_
                  show Steps p.tables e below (s₁.setTop (mkF m 67 #[.val (.int p1)] [(.int p1)])) _
                  refine XS.sipush X0.here hx rfl (hb hby d3_67) ?_
                  exact kt
                by_cases hc70_22 : p1 = (128 : Int32)
                · obtain ⟨T24, X24, e24, st24⟩ := getS2 X0 hx hZ hown (host := "") (Or.inl (hw _ (List.mem_of_getElem? (i := 39) rfl))) Via.refl e0 S_QUERY (g := (mkF m 73 #[.val (.int p1)] [])) rfl (hb hby d3_73)
                  obtain ⟨fs, hr, hrun, hended, hW, hsame⟩ := X24.leave (v := some (.ref w_QUERY)) (fun h => by rw [Bd.returns] at h; cases h)
                  refine ⟨_, _, pre23 _ ?_, hrun, hended, _, _, rfl, ?_, ⟨_, rfl⟩, hW, hsame.mono (by decide) (by decide)⟩
                  · show Steps p.tables e below (s₁.setTop (mkF m 70 #[.val (.int p1)] [(.int (128 : Int32)), (.int p1)])) _
                    refine XS.icmpNo X0.here hx rfl (hb hby d3_70) rfl (teq hc70_22).2 ?_
                    show Steps p.tables e below (s₁.setTop (mkF m 73 #[.val (.int p1)] [])) _
                    refine st24 _ ?_
                    show Steps p.tables e below (T24.setTop (mkF m 76 #[.val (.int p1)] [(.ref w_QUERY)])) _
                    jvm_step X24.here [X24.here.top, hx, (hb hby d3_76), X24.method', Bd.returns, Value.isRef, FieldType.isReference]
                    first | (intro acts; rw [hr _ acts rfl rfl rfl]) | rw [hr _ _ rfl rfl rfl]
                    exact Steps.refl _
                  · show Q_rm3 Z p1 w_PING w_PONG w_BYE w_ROUTE_TABLE_UPDATE w_VENDOR w_STANDARD_VENDOR w_PUSH w_QUERY w_QUERY_HIT h0 n0 _ T24.heap _
                    rw [e24]
                    exact ⟨by rw [own_for, if_neg hc1_1, if_neg hc10_4, if_neg hc19_7, if_neg hc29_10, if_neg hc39_13, if_neg hc49_16, if_neg hc59_19, if_pos hc70_22], N0, rfl⟩
                · have pre26 : ∀ t, Steps p.tables e below (s₁.setTop (mkF m 81 #[.val (.int p1)] [(.int (129 : Int32)), (.int p1)])) t → Steps p.tables e below (s₁.setTop (entryFrame m #[(.int p1)] 1)) t := fun t kt => by
                    refine pre23 t ?_
                    show Steps p.tables e below (s₁.setTop (mkF m 70 #[.val (.int p1)] [(.int (128 : Int32)), (.int p1)])) _
                    refine XS.icmpYes X0.here hx rfl (pc0 := 70) (pc' := 77) rfl (hb hby d3_70) rfl (feq hc70_22).2 (by decide) (by decide) ?_
                    show Steps p.tables e below (s₁.setTop (mkF m 77 #[.val (.int p1)] [])) _
                    refine XS.iloadN X0.here hx rfl (hb hby d3_77) rfl ?_
                    show Steps p.tables e below (s₁.setTop (mkF m 78 #[.val (.int p1)] [(.int p1)])) _
                    refine XS.sipush X0.here hx rfl (hb hby d3_78) ?_
                    exact kt
                  by_cases hc81_25 : p1 = (129 : Int32)
                  · obtain ⟨T27, X27, e27, st27⟩ := getS2 X0 hx hZ hown (host := "") (Or.inl (hw _ (List.mem_of_getElem? (i := 42) rfl))) Via.refl e0 S_QUERY_HIT (g := (mkF m 84 #[.val (.int p1)] [])) rfl (hb hby d3_84)
                    obtain ⟨fs, hr, hrun, hended, hW, hsame⟩ := X27.leave (v := some (.ref w_QUERY_HIT)) (fun h => by rw [Bd.returns] at h; cases h)
                    refine ⟨_, _, pre26 _ ?_, hrun, hended, _, _, rfl, ?_, ⟨_, rfl⟩, hW, hsame.mono (by decide) (by decide)⟩
                    · show Steps p.tables e below (s₁.setTop (mkF m 81 #[.val (.int p1)] [(.int (129 : Int32)), (.int p1)])) _
                      refine XS.icmpNo X0.here hx rfl (hb hby d3_81) rfl (teq hc81_25).2 ?_
                      show Steps p.tables e below (s₁.setTop (mkF m 84 #[.val (.int p1)] [])) _
                      refine st27 _ ?_
                      show Steps p.tables e below (T27.setTop (mkF m 87 #[.val (.int p1)] [(.ref w_QUERY_HIT)])) _
                      jvm_step X27.here [X27.here.top, hx, (hb hby d3_87), X27.method', Bd.returns, Value.isRef, FieldType.isReference]
                      first | (intro acts; rw [hr _ acts rfl rfl rfl]) | rw [hr _ _ rfl rfl rfl]
                      exact Steps.refl _
                    · show Q_rm3 Z p1 w_PING w_PONG w_BYE w_ROUTE_TABLE_UPDATE w_VENDOR w_STANDARD_VENDOR w_PUSH w_QUERY w_QUERY_HIT h0 n0 _ T27.heap _
                      rw [e27]
                      exact ⟨by rw [own_for, if_neg hc1_1, if_neg hc10_4, if_neg hc19_7, if_neg hc29_10, if_neg hc39_13, if_neg hc49_16, if_neg hc59_19, if_neg hc70_22, if_pos hc81_25], N0, rfl⟩
                  · obtain ⟨fs, hr, hrun, hended, hW, hsame⟩ := X0.leave (v := some .null) (fun h => by rw [Bd.returns] at h; cases h)
                    refine ⟨_, _, pre26 _ ?_, hrun, hended, _, _, rfl, ?_, ⟨_, rfl⟩, hW, hsame.mono (by decide) (by decide)⟩
                    · show Steps p.tables e below (s₁.setTop (mkF m 81 #[.val (.int p1)] [(.int (129 : Int32)), (.int p1)])) _
                      refine XS.icmpYes X0.here hx rfl (pc0 := 81) (pc' := 88) rfl (hb hby d3_81) rfl (feq hc81_25).2 (by decide) (by decide) ?_
                      show Steps p.tables e below (s₁.setTop (mkF m 88 #[.val (.int p1)] [])) _
                      refine XS.aconstNull X0.here hx rfl (hb hby d3_88) ?_
                      show Steps p.tables e below (s₁.setTop (mkF m 89 #[.val (.int p1)] [.null])) _
                      jvm_step X0.here [X0.here.top, hx, (hb hby d3_89), X0.method', Bd.returns, Value.isRef, FieldType.isReference]
                      first | (intro acts; rw [hr _ acts rfl rfl rfl]) | rw [hr _ _ rfl rfl rfl]
                      exact Steps.refl _
                    · show Q_rm3 Z p1 w_PING w_PONG w_BYE w_ROUTE_TABLE_UPDATE w_VENDOR w_STANDARD_VENDOR w_PUSH w_QUERY w_QUERY_HIT h0 n0 _ s₁.heap _
                      rw [e0]
                      exact ⟨by rw [own_for, if_neg hc1_1, if_neg hc10_4, if_neg hc19_7, if_neg hc29_10, if_neg hc39_13, if_neg hc49_16, if_neg hc59_19, if_neg hc70_22, if_neg hc81_25], N0, rfl⟩
theorem own_m (p : Int32) : 0 ≤ ((p &&& (2147483647 : Int32)) % (9 : Int32)).toInt ∧ ((p &&& (2147483647 : Int32)) % (9 : Int32)).toInt < 9 := by
  have e : (p &&& (2147483647 : Int32)).toInt = p.toInt % 2 ^ 31 := Jvm.Kit.i32_mask p _ (k := 31) (by decide) (by decide)
  have e1 : ((p &&& (2147483647 : Int32)) % (9 : Int32)).toInt = (p.toInt % 2 ^ 31) % 9 := by
    rw [Jvm.Kit.i32_rem_nonneg (by omega), e]; rfl
  omega
theorem own_in {k : Int32} (h : 0 ≤ k.toInt ∧ k.toInt < 9) : ¬ k < 0 ∧ k < (9 : Int32) := by
  have e : (9 : Int32).toInt = 9 := by decide
  rw [Int32.lt_iff_toInt_lt, Int32.lt_iff_toInt_lt, Int32.toInt_zero, e]; omega
theorem own_ex {k : Int32} (h : 0 ≤ k.toInt ∧ k.toInt < 9) : ∃ z : Int32, ([(.int (0 : Int32)), (.int (1 : Int32)), (.int (2 : Int32)), (.int (48 : Int32)), (.int (49 : Int32)), (.int (50 : Int32)), (.int (64 : Int32)), (.int (128 : Int32)), (.int (129 : Int32))] : List Value).getD k.toNatClampNeg (.int (0 : Int32)) = .int z := by
  have e : k.toInt = 0 ∨ k.toInt = 1 ∨ k.toInt = 2 ∨ k.toInt = 3 ∨ k.toInt = 4 ∨ k.toInt = 5 ∨ k.toInt = 6 ∨ k.toInt = 7 ∨ k.toInt = 8 := by omega
  show ∃ z : Int32, ([(.int (0 : Int32)), (.int (1 : Int32)), (.int (2 : Int32)), (.int (48 : Int32)), (.int (49 : Int32)), (.int (50 : Int32)), (.int (64 : Int32)), (.int (128 : Int32)), (.int (129 : Int32))] : List Value).getD k.toInt.toNat (.int (0 : Int32)) = .int z
  rcases e with e | e | e | e | e | e | e | e | e <;> rw [e] <;> exact ⟨_, rfl⟩
theorem pd__28I_29Lcom_2fexample_2fhearsay_2fhearsay_2fcore_2fMessageType_3b : parseMethodDescriptor "(I)Lcom/example/hearsay/hearsay/core/MessageType;" = some ⟨[.int], some (.object "com/example/hearsay/hearsay/core/MessageType")⟩ := by decide +kernel
theorem ef_rm0 (m : MethodId) (p1 : Int32) (p2 : Int32) : entryFrame m #[(.int p1), (.int p2)] maxLocals = mkF m 0 #[.val (.int p1), .val (.int p2), .unset, .unset, .unset, .unset, .unset] [] := by first | (simp [entryFrame, mkF, argsToLocals, Value.category, maxLocals]; done) | rfl
def Q_rm0 (Z : State) (p1 : Int32) (p2 : Int32) (wV : Addr) (cl : Cell) (w_PING : Addr) (w_PONG : Addr) (w_BYE : Addr) (w_ROUTE_TABLE_UPDATE : Addr) (w_VENDOR : Addr) (w_STANDARD_VENDOR : Addr) (w_PUSH : Addr) (w_QUERY : Addr) (w_QUERY_HIT : Addr) (h0 : Heap) (n0 : Nat) (v : Option Value) (h : Heap) (L : List Loc) : Prop := v = some (.int (1 : Int32)) ∧ Fr n0 L
set_option maxRecDepth 65536 in
set_option maxHeartbeats 40000000 in
theorem rm0 (l : Launch) (Z : State) (a0 : Array Value) (hw : ∀ d ∈ tables_1, d.before a0 Z = true) (ws : List Jvm.Cond) (p1 : Int32) (p2 : Int32) (wV : Addr) (cl : Cell) (w_PING : Addr) (w_PONG : Addr) (w_BYE : Addr) (w_ROUTE_TABLE_UPDATE : Addr) (w_VENDOR : Addr) (w_STANDARD_VENDOR : Addr) (w_PUSH : Addr) (w_QUERY : Addr) (w_QUERY_HIT : Addr) (h0 : Heap) (n0 : Nat) (Z0 : n0 ≤ h0.size) (S__VALUES : Sta Z h0 "com/example/hearsay/hearsay/core/MessageType" "$VALUES" "[Lcom/example/hearsay/hearsay/core/MessageType;" (.ref wV)) (E_wV : Exa Z h0 wV "[Lcom/example/hearsay/hearsay/core/MessageType;") (hA : Arr Z h0 wV cl (.object "com/example/hearsay/hearsay/core/MessageType")) (hF : FitC Z cl) (hsl : cl.slots = #[(.ref w_PING), (.ref w_PONG), (.ref w_BYE), (.ref w_ROUTE_TABLE_UPDATE), (.ref w_VENDOR), (.ref w_STANDARD_VENDOR), (.ref w_PUSH), (.ref w_QUERY), (.ref w_QUERY_HIT)]) (F_code_w_PING : Fld Z h0 w_PING "com/example/hearsay/hearsay/core/MessageType" "code" "I" (.int (0 : Int32))) (F_code_w_PONG : Fld Z h0 w_PONG "com/example/hearsay/hearsay/core/MessageType" "code" "I" (.int (1 : Int32))) (F_code_w_BYE : Fld Z h0 w_BYE "com/example/hearsay/hearsay/core/MessageType" "code" "I" (.int (2 : Int32))) (F_code_w_ROUTE_TABLE_UPDATE : Fld Z h0 w_ROUTE_TABLE_UPDATE "com/example/hearsay/hearsay/core/MessageType" "code" "I" (.int (48 : Int32))) (F_code_w_VENDOR : Fld Z h0 w_VENDOR "com/example/hearsay/hearsay/core/MessageType" "code" "I" (.int (49 : Int32))) (F_code_w_STANDARD_VENDOR : Fld Z h0 w_STANDARD_VENDOR "com/example/hearsay/hearsay/core/MessageType" "code" "I" (.int (50 : Int32))) (F_code_w_PUSH : Fld Z h0 w_PUSH "com/example/hearsay/hearsay/core/MessageType" "code" "I" (.int (64 : Int32))) (F_code_w_QUERY : Fld Z h0 w_QUERY "com/example/hearsay/hearsay/core/MessageType" "code" "I" (.int (128 : Int32))) (F_code_w_QUERY_HIT : Fld Z h0 w_QUERY_HIT "com/example/hearsay/hearsay/core/MessageType" "code" "I" (.int (129 : Int32))) (S_PING : Sta Z h0 "com/example/hearsay/hearsay/core/MessageType" "PING" "Lcom/example/hearsay/hearsay/core/MessageType;" (.ref w_PING)) (S_PONG : Sta Z h0 "com/example/hearsay/hearsay/core/MessageType" "PONG" "Lcom/example/hearsay/hearsay/core/MessageType;" (.ref w_PONG)) (S_BYE : Sta Z h0 "com/example/hearsay/hearsay/core/MessageType" "BYE" "Lcom/example/hearsay/hearsay/core/MessageType;" (.ref w_BYE)) (S_ROUTE_TABLE_UPDATE : Sta Z h0 "com/example/hearsay/hearsay/core/MessageType" "ROUTE_TABLE_UPDATE" "Lcom/example/hearsay/hearsay/core/MessageType;" (.ref w_ROUTE_TABLE_UPDATE)) (S_VENDOR : Sta Z h0 "com/example/hearsay/hearsay/core/MessageType" "VENDOR" "Lcom/example/hearsay/hearsay/core/MessageType;" (.ref w_VENDOR)) (S_STANDARD_VENDOR : Sta Z h0 "com/example/hearsay/hearsay/core/MessageType" "STANDARD_VENDOR" "Lcom/example/hearsay/hearsay/core/MessageType;" (.ref w_STANDARD_VENDOR)) (S_PUSH : Sta Z h0 "com/example/hearsay/hearsay/core/MessageType" "PUSH" "Lcom/example/hearsay/hearsay/core/MessageType;" (.ref w_PUSH)) (S_QUERY : Sta Z h0 "com/example/hearsay/hearsay/core/MessageType" "QUERY" "Lcom/example/hearsay/hearsay/core/MessageType;" (.ref w_QUERY)) (S_QUERY_HIT : Sta Z h0 "com/example/hearsay/hearsay/core/MessageType" "QUERY_HIT" "Lcom/example/hearsay/hearsay/core/MessageType;" (.ref w_QUERY_HIT)) :
    MetFree l x (head1 (Jvm.Cond.code x code maxLocals ret :: ws) room_1) (fun a U => a = #[(.int p1), (.int p2)] ∧ Z.Warmed39 U.vm ∧ U.heap = h0) (fun _ _ _ _ _ => True) (fun _ U o U' => ∃ v L, o = .returned v ∧ Q_rm0 Z p1 p2 wV cl w_PING w_PONG w_BYE w_ROUTE_TABLE_UPDATE w_VENDOR w_STANDARD_VENDOR w_PUSH w_QUERY w_QUERY_HIT h0 n0 v U'.heap L ∧ FrameEnd U o U' L room_1.cells room_1.slots) := by
  refine MetFree.of_bodySF (plainFor_of_name pn_com_example_hearsay_hearsay_core_MessageTypeForCodePinLaw) hisR ?_
  intro p e s m args below meth c s₁ Bd hml0 hP hK
  obtain ⟨rfl, hZ, hh⟩ := hP
  have hx := Bd.exec
  have hby := Bd.bytes
  have hml : c.maxLocals = 7 := hml0
  have hown : s.vm.findClass "com/example/hearsay/hearsay/core/MessageTypeForCodePinLaw" = some m.cls := findClass_of_methodNamed Bd.named
  have hnm := (name_of_methodNamed Bd.named Bd.method).1
  have X0 : Stand p l e room_1 s m #[(.int p1), (.int p2)] below meth c s₁ [] 0 0 := Stand.of_body Bd
  have e0 : s₁.heap = h0 := by rw [← hh, Bd.state]; rfl
  have N0 := Fr.nil n0
  have pre0 : ∀ t, Steps p.tables e below (s₁.setTop (mkF m 0 #[.val (.int p1), .val (.int p2), .unset, .unset, .unset, .unset, .unset] [])) t → Steps p.tables e below (s₁.setTop (entryFrame m #[(.int p1), (.int p2)] maxLocals)) t := fun t k => castTop (ef_rm0 m p1 p2) k
  have pre1 : ∀ t, Steps p.tables e below (s₁.setTop (mkF m 5 #[.val (.int p1), .val (.int p2), .val (.int (p1 &&& (3 : Int32))), .unset, .unset, .unset, .unset] [(.int (p1 &&& (3 : Int32)))])) t → Steps p.tables e below (s₁.setTop (entryFrame m #[(.int p1), (.int p2)] maxLocals)) t := fun t kt => by
    refine pre0 t ?_
    show Steps p.tables e below (s₁.setTop (mkF m 0 #[.val (.int p1), .val (.int p2), .unset, .unset, .unset, .unset, .unset] [])) _
    refine XS.iloadN X0.here hx rfl (hb hby at_0) rfl ?_
    show Steps p.tables e below (s₁.setTop (mkF m 1 #[.val (.int p1), .val (.int p2), .unset, .unset, .unset, .unset, .unset] [(.int p1)])) _
    refine XS.iconst X0.here hx rfl (hb hby at_1) ?_
    show Steps p.tables e below (s₁.setTop (mkF m 2 #[.val (.int p1), .val (.int p2), .unset, .unset, .unset, .unset, .unset] [(.int (3 : Int32)), (.int p1)])) _
    refine XS.iand X0.here hx rfl (hb hby at_2) rfl ?_
    show Steps p.tables e below (s₁.setTop (mkF m 3 #[.val (.int p1), .val (.int p2), .unset, .unset, .unset, .unset, .unset] [(.int (p1 &&& (3 : Int32)))])) _
    refine XS.istoreN X0.here hx rfl (hb hby at_3) rfl (l' := #[.val (.int p1), .val (.int p2), .val (.int (p1 &&& (3 : Int32))), .unset, .unset, .unset, .unset]) rfl ?_
    show Steps p.tables e below (s₁.setTop (mkF m 4 #[.val (.int p1), .val (.int p2), .val (.int (p1 &&& (3 : Int32))), .unset, .unset, .unset, .unset] [])) _
    refine XS.iloadN X0.here hx rfl (hb hby at_4) rfl ?_
    exact kt
  by_cases hA0 : (p1 &&& (3 : Int32)) = (0 : Int32)
  · obtain ⟨_, _, ⟨T2, L2, k2, n2⟩, -, X2, ⟨Lc2, hQ2, l2, y2, z2⟩, st2⟩ := Jvm.LawKit.callS X0 hx (y := (⟨"com/example/hearsay/hearsay/core/MessageType", "forCode", "(I)Lcom/example/hearsay/hearsay/core/MessageType;"⟩ : MethodName)) hown (mvT hZ (hw _ (List.mem_of_getElem? (i := 0) rfl))) (mvT hZ (hw _ (List.mem_of_getElem? (i := 1) rfl))) (mvT hZ (hw _ (List.mem_of_getElem? (i := 2) rfl))) (mvT hZ (hw _ (List.mem_of_getElem? (i := 3) rfl))) (by decide) (backOf (W := 0) (rm1 l Z a0 hw [] p2 wV cl w_PING w_PONG w_BYE w_ROUTE_TABLE_UPDATE w_VENDOR w_STANDARD_VENDOR w_PUSH w_QUERY w_QUERY_HIT h0 n0 Z0 S__VALUES E_wV hA hF hsl F_code_w_PING F_code_w_PONG F_code_w_BYE F_code_w_ROUTE_TABLE_UPDATE F_code_w_VENDOR F_code_w_STANDARD_VENDOR F_code_w_PUSH F_code_w_QUERY F_code_w_QUERY_HIT) hZ (hw _ (List.mem_of_getElem? (i := 3) rfl)) (hw _ (List.mem_of_getElem? (i := 2) rfl)) (by decide) (by decide)) (g := (mkF m 106 #[.val (.int p1), .val (.int p2), .val (.int (p1 &&& (3 : Int32))), .val (.int p2), .unset, .unset, .unset] [(.int p2)])) rfl (by rw [hml]; rfl) (argsL := [(.int p2)]) (rest := []) (lenOf pd__28I_29Lcom_2fexample_2fhearsay_2fhearsay_2fcore_2fMessageType_3b rfl) rfl (by show 2 * 0 + _ ≤ _; exact Nat.le_of_eq rfl) (hb hby at_106) (fun _ _ => ⟨rfl, e0, (by decide : 0 + 1 ≤ _), (by decide : 0 + 9 ≤ _)⟩)
    dsimp only [Pt.U, Pt.locs, Pt.cells, Pt.slots] at X2 l2 y2 z2 st2 hQ2
    subst l2 y2 z2
    obtain ⟨rfl, N2q, K2q⟩ := hQ2
    have N2 := Fr.app N0 N2q
    have K2 : Keep h0 T2.heap [] := (Keep.refl h0 []).trans K2q all0
    have f3 : Sta Z T2.heap "com/example/hearsay/hearsay/core/MessageType" "PING" "Lcom/example/hearsay/hearsay/core/MessageType;" (.ref w_PING) := (own_staKeep S_PING K2q own_ns0)
    have f4 : Sta Z T2.heap "com/example/hearsay/hearsay/core/MessageType" "PONG" "Lcom/example/hearsay/hearsay/core/MessageType;" (.ref w_PONG) := (own_staKeep S_PONG K2q own_ns0)
    have f5 : Sta Z T2.heap "com/example/hearsay/hearsay/core/MessageType" "BYE" "Lcom/example/hearsay/hearsay/core/MessageType;" (.ref w_BYE) := (own_staKeep S_BYE K2q own_ns0)
    have f6 : Sta Z T2.heap "com/example/hearsay/hearsay/core/MessageType" "ROUTE_TABLE_UPDATE" "Lcom/example/hearsay/hearsay/core/MessageType;" (.ref w_ROUTE_TABLE_UPDATE) := (own_staKeep S_ROUTE_TABLE_UPDATE K2q own_ns0)
    have f7 : Sta Z T2.heap "com/example/hearsay/hearsay/core/MessageType" "VENDOR" "Lcom/example/hearsay/hearsay/core/MessageType;" (.ref w_VENDOR) := (own_staKeep S_VENDOR K2q own_ns0)
    have f8 : Sta Z T2.heap "com/example/hearsay/hearsay/core/MessageType" "STANDARD_VENDOR" "Lcom/example/hearsay/hearsay/core/MessageType;" (.ref w_STANDARD_VENDOR) := (own_staKeep S_STANDARD_VENDOR K2q own_ns0)
    have f9 : Sta Z T2.heap "com/example/hearsay/hearsay/core/MessageType" "PUSH" "Lcom/example/hearsay/hearsay/core/MessageType;" (.ref w_PUSH) := (own_staKeep S_PUSH K2q own_ns0)
    have f10 : Sta Z T2.heap "com/example/hearsay/hearsay/core/MessageType" "QUERY" "Lcom/example/hearsay/hearsay/core/MessageType;" (.ref w_QUERY) := (own_staKeep S_QUERY K2q own_ns0)
    have f11 : Sta Z T2.heap "com/example/hearsay/hearsay/core/MessageType" "QUERY_HIT" "Lcom/example/hearsay/hearsay/core/MessageType;" (.ref w_QUERY_HIT) := (own_staKeep S_QUERY_HIT K2q own_ns0)
    obtain ⟨_, _, ⟨T12, L12, k12, n12⟩, -, X12, ⟨Lc12, hQ12, l12, y12, z12⟩, st12⟩ := Jvm.LawKit.callS X2 hx (y := (⟨"com/example/hearsay/hearsay/core/MessageTypeForCodePinLaw", "expected", "(I)Lcom/example/hearsay/hearsay/core/MessageType;"⟩ : MethodName)) hown (mvT hZ (hw _ (List.mem_of_getElem? (i := 30) rfl))) (mvT hZ (hw _ (List.mem_of_getElem? (i := 31) rfl))) (mvT hZ (hw _ (List.mem_of_getElem? (i := 32) rfl))) (mvT hZ (hw _ (List.mem_of_getElem? (i := 33) rfl))) (by decide) (backOf (W := 1) (rm3 l Z a0 hw [] p2 w_PING w_PONG w_BYE w_ROUTE_TABLE_UPDATE w_VENDOR w_STANDARD_VENDOR w_PUSH w_QUERY w_QUERY_HIT T2.heap n0 (Nat.le_trans Z0 K2.1) f3 f4 f5 f6 f7 f8 f9 f10 f11) hZ (hw _ (List.mem_of_getElem? (i := 33) rfl)) (hw _ (List.mem_of_getElem? (i := 32) rfl)) (by decide) (by decide)) (g := (mkF m 114 #[.val (.int p1), .val (.int p2), .val (.int (p1 &&& (3 : Int32))), .val (.int p2), .val (own_for p2 w_PING w_PONG w_BYE w_ROUTE_TABLE_UPDATE w_VENDOR w_STANDARD_VENDOR w_PUSH w_QUERY w_QUERY_HIT), .unset, .unset] [(.int p2), (own_for p2 w_PING w_PONG w_BYE w_ROUTE_TABLE_UPDATE w_VENDOR w_STANDARD_VENDOR w_PUSH w_QUERY w_QUERY_HIT)])) rfl (by rw [hml]; rfl) (argsL := [(.int p2)]) (rest := [(own_for p2 w_PING w_PONG w_BYE w_ROUTE_TABLE_UPDATE w_VENDOR w_STANDARD_VENDOR w_PUSH w_QUERY w_QUERY_HIT)]) (lenOf pd__28I_29Lcom_2fexample_2fhearsay_2fhearsay_2fcore_2fMessageType_3b rfl) rfl (by show 2 * 0 + (List.map (fun v : Value => v.category) [(own_for p2 w_PING w_PONG w_BYE w_ROUTE_TABLE_UPDATE w_VENDOR w_STANDARD_VENDOR w_PUSH w_QUERY w_QUERY_HIT)]).sum ≤ _; simp only [List.map_cons, List.map_nil, List.sum_cons, List.sum_nil, Jvm.Free.XT.cat1 (own_forR _ _ _ _ _ _ _ _ _ _)] <;> decide) (hb hby at_114) (fun _ _ => ⟨rfl, rfl, (by decide : 1 + 0 ≤ _), (by decide : 9 + 0 ≤ _)⟩)
    dsimp only [Pt.U, Pt.locs, Pt.cells, Pt.slots] at X12 l12 y12 z12 st12 hQ12
    subst l12 y12 z12
    obtain ⟨rfl, N12q, e12⟩ := hQ12
    have N12 := Fr.app N2 N12q
    obtain ⟨fs, hr, hrun, hended, hW, hsame⟩ := X12.leave (v := some (.int (1 : Int32))) (fun h => by rw [Bd.returns] at h; cases h)
    refine ⟨_, _, pre1 _ ?_, hrun, hended, _, _, rfl, ?_, ⟨_, rfl⟩, hW, hsame.mono (by decide) (by decide)⟩
    · show Steps p.tables e below (s₁.setTop (mkF m 5 #[.val (.int p1), .val (.int p2), .val (.int (p1 &&& (3 : Int32))), .unset, .unset, .unset, .unset] [(.int (p1 &&& (3 : Int32)))])) _
      refine XS.ifNo X0.here hx rfl (hb hby at_5) rfl ((if0 _ _).trans (teq hA0).2) ?_
      show Steps p.tables e below (s₁.setTop (mkF m 8 #[.val (.int p1), .val (.int p2), .val (.int (p1 &&& (3 : Int32))), .unset, .unset, .unset, .unset] [])) _
      refine XS.iloadN X0.here hx rfl (hb hby at_8) rfl ?_
      show Steps p.tables e below (s₁.setTop (mkF m 9 #[.val (.int p1), .val (.int p2), .val (.int (p1 &&& (3 : Int32))), .unset, .unset, .unset, .unset] [(.int p2)])) _
      refine XS.istoreN X0.here hx rfl (hb hby at_9) rfl (l' := #[.val (.int p1), .val (.int p2), .val (.int (p1 &&& (3 : Int32))), .val (.int p2), .unset, .unset, .unset]) rfl ?_
      show Steps p.tables e below (s₁.setTop (mkF m 10 #[.val (.int p1), .val (.int p2), .val (.int (p1 &&& (3 : Int32))), .val (.int p2), .unset, .unset, .unset] [])) _
      refine XS.goto X0.here hx rfl (pc0 := 10) (pc' := 105) rfl (hb hby at_10) (by decide) (by decide) ?_
      show Steps p.tables e below (s₁.setTop (mkF m 105 #[.val (.int p1), .val (.int p2), .val (.int (p1 &&& (3 : Int32))), .val (.int p2), .unset, .unset, .unset] [])) _
      refine XS.iloadN X0.here hx rfl (hb hby at_105) rfl ?_
      show Steps p.tables e below (s₁.setTop (mkF m 106 #[.val (.int p1), .val (.int p2), .val (.int (p1 &&& (3 : Int32))), .val (.int p2), .unset, .unset, .unset] [(.int p2)])) _
      refine st2 _ ?_
      show Steps p.tables e below (T2.setTop (mkF m 109 #[.val (.int p1), .val (.int p2), .val (.int (p1 &&& (3 : Int32))), .val (.int p2), .unset, .unset, .unset] [(own_for p2 w_PING w_PONG w_BYE w_ROUTE_TABLE_UPDATE w_VENDOR w_STANDARD_VENDOR w_PUSH w_QUERY w_QUERY_HIT)])) _
      refine XS.astoreS X2.here hx rfl (hb hby at_109) rfl (own_forR _ _ _ _ _ _ _ _ _ _) (Jvm.Free.XT.cat1 (own_forR _ _ _ _ _ _ _ _ _ _)) rfl (Or.inl rfl) ?_
      show Steps p.tables e below (T2.setTop (mkF m 111 #[.val (.int p1), .val (.int p2), .val (.int (p1 &&& (3 : Int32))), .val (.int p2), .val (own_for p2 w_PING w_PONG w_BYE w_ROUTE_TABLE_UPDATE w_VENDOR w_STANDARD_VENDOR w_PUSH w_QUERY w_QUERY_HIT), .unset, .unset] [])) _
      refine XS.aload X2.here hx rfl (hb hby at_111) rfl (own_forR _ _ _ _ _ _ _ _ _ _) ?_
      show Steps p.tables e below (T2.setTop (mkF m 113 #[.val (.int p1), .val (.int p2), .val (.int (p1 &&& (3 : Int32))), .val (.int p2), .val (own_for p2 w_PING w_PONG w_BYE w_ROUTE_TABLE_UPDATE w_VENDOR w_STANDARD_VENDOR w_PUSH w_QUERY w_QUERY_HIT), .unset, .unset] [(own_for p2 w_PING w_PONG w_BYE w_ROUTE_TABLE_UPDATE w_VENDOR w_STANDARD_VENDOR w_PUSH w_QUERY w_QUERY_HIT)])) _
      refine XS.iloadN X2.here hx rfl (hb hby at_113) rfl ?_
      show Steps p.tables e below (T2.setTop (mkF m 114 #[.val (.int p1), .val (.int p2), .val (.int (p1 &&& (3 : Int32))), .val (.int p2), .val (own_for p2 w_PING w_PONG w_BYE w_ROUTE_TABLE_UPDATE w_VENDOR w_STANDARD_VENDOR w_PUSH w_QUERY w_QUERY_HIT), .unset, .unset] [(.int p2), (own_for p2 w_PING w_PONG w_BYE w_ROUTE_TABLE_UPDATE w_VENDOR w_STANDARD_VENDOR w_PUSH w_QUERY w_QUERY_HIT)])) _
      refine st12 _ ?_
      show Steps p.tables e below (T12.setTop (mkF m 117 #[.val (.int p1), .val (.int p2), .val (.int (p1 &&& (3 : Int32))), .val (.int p2), .val (own_for p2 w_PING w_PONG w_BYE w_ROUTE_TABLE_UPDATE w_VENDOR w_STANDARD_VENDOR w_PUSH w_QUERY w_QUERY_HIT), .unset, .unset] [(own_for p2 w_PING w_PONG w_BYE w_ROUTE_TABLE_UPDATE w_VENDOR w_STANDARD_VENDOR w_PUSH w_QUERY w_QUERY_HIT), (own_for p2 w_PING w_PONG w_BYE w_ROUTE_TABLE_UPDATE w_VENDOR w_STANDARD_VENDOR w_PUSH w_QUERY w_QUERY_HIT)])) _
      refine Jvm.RoadKit.acmp (g := (mkF m 117 #[.val (.int p1), .val (.int p2), .val (.int (p1 &&& (3 : Int32))), .val (.int p2), .val (own_for p2 w_PING w_PONG w_BYE w_ROUTE_TABLE_UPDATE w_VENDOR w_STANDARD_VENDOR w_PUSH w_QUERY w_QUERY_HIT), .unset, .unset] [(own_for p2 w_PING w_PONG w_BYE w_ROUTE_TABLE_UPDATE w_VENDOR w_STANDARD_VENDOR w_PUSH w_QUERY w_QUERY_HIT), (own_for p2 w_PING w_PONG w_BYE w_ROUTE_TABLE_UPDATE w_VENDOR w_STANDARD_VENDOR w_PUSH w_QUERY w_QUERY_HIT)])) X12 hx rfl (own_forR _ _ _ _ _ _ _ _ _ _) (own_forR _ _ _ _ _ _ _ _ _ _) (pc0 := 117) (pc' := 120) (same := true) rfl (hb hby at_117) rfl (decide_eq_true rfl) (by decide) (by decide) ?_
      show Steps p.tables e below (T12.setTop (mkF m 120 #[.val (.int p1), .val (.int p2), .val (.int (p1 &&& (3 : Int32))), .val (.int p2), .val (own_for p2 w_PING w_PONG w_BYE w_ROUTE_TABLE_UPDATE w_VENDOR w_STANDARD_VENDOR w_PUSH w_QUERY w_QUERY_HIT), .unset, .unset] [])) _
      refine XS.iconst X12.here hx rfl (hb hby at_120) ?_
      show Steps p.tables e below (T12.setTop (mkF m 121 #[.val (.int p1), .val (.int p2), .val (.int (p1 &&& (3 : Int32))), .val (.int p2), .val (own_for p2 w_PING w_PONG w_BYE w_ROUTE_TABLE_UPDATE w_VENDOR w_STANDARD_VENDOR w_PUSH w_QUERY w_QUERY_HIT), .unset, .unset] [(.int (1 : Int32))])) _
      refine XS.goto X12.here hx rfl (pc0 := 121) (pc' := 125) rfl (hb hby at_121) (by decide) (by decide) ?_
      show Steps p.tables e below (T12.setTop (mkF m 125 #[.val (.int p1), .val (.int p2), .val (.int (p1 &&& (3 : Int32))), .val (.int p2), .val (own_for p2 w_PING w_PONG w_BYE w_ROUTE_TABLE_UPDATE w_VENDOR w_STANDARD_VENDOR w_PUSH w_QUERY w_QUERY_HIT), .unset, .unset] [(.int (1 : Int32))])) _
      exact retN X12 hx (t := .boolean) Bd.returns (by simp) (hb hby at_125) hr
    · show Q_rm0 Z p1 p2 wV cl w_PING w_PONG w_BYE w_ROUTE_TABLE_UPDATE w_VENDOR w_STANDARD_VENDOR w_PUSH w_QUERY w_QUERY_HIT h0 n0 _ T12.heap _
      rw [e12]
      exact ⟨rfl, N12⟩
  · have pre13 : ∀ t, Steps p.tables e below (s₁.setTop (mkF m 15 #[.val (.int p1), .val (.int p2), .val (.int (p1 &&& (3 : Int32))), .unset, .unset, .unset, .unset] [(.int (1 : Int32)), (.int (p1 &&& (3 : Int32)))])) t → Steps p.tables e below (s₁.setTop (entryFrame m #[(.int p1), (.int p2)] maxLocals)) t := fun t kt => by
      refine pre1 t ?_
      show Steps p.tables e below (s₁.setTop (mkF m 5 #[.val (.int p1), .val (.int p2), .val (.int (p1 &&& (3 : Int32))), .unset, .unset, .unset, .unset] [(.int (p1 &&& (3 : Int32)))])) _
      refine XS.ifYes X0.here hx rfl (pc0 := 5) (pc' := 13) rfl (hb hby at_5) rfl ((if0 _ _).trans (feq hA0).2) (by decide) (by decide) ?_
      show Steps p.tables e below (s₁.setTop (mkF m 13 #[.val (.int p1), .val (.int p2), .val (.int (p1 &&& (3 : Int32))), .unset, .unset, .unset, .unset] [])) _
      refine XS.iloadN X0.here hx rfl (hb hby at_13) rfl ?_
      show Steps p.tables e below (s₁.setTop (mkF m 14 #[.val (.int p1), .val (.int p2), .val (.int (p1 &&& (3 : Int32))), .unset, .unset, .unset, .unset] [(.int (p1 &&& (3 : Int32)))])) _
      refine XS.iconst X0.here hx rfl (hb hby at_14) ?_
      exact kt
    by_cases hB : (p1 &&& (3 : Int32)) = (1 : Int32)
    · obtain ⟨_, _, ⟨T14, L14, k14, n14⟩, -, X14, ⟨Lc14, hQ14, l14, y14, z14⟩, st14⟩ := Jvm.LawKit.callS X0 hx (y := (⟨"com/example/hearsay/hearsay/core/MessageType", "forCode", "(I)Lcom/example/hearsay/hearsay/core/MessageType;"⟩ : MethodName)) hown (mvT hZ (hw _ (List.mem_of_getElem? (i := 0) rfl))) (mvT hZ (hw _ (List.mem_of_getElem? (i := 1) rfl))) (mvT hZ (hw _ (List.mem_of_getElem? (i := 2) rfl))) (mvT hZ (hw _ (List.mem_of_getElem? (i := 3) rfl))) (by decide) (backOf (W := 0) (rm1 l Z a0 hw [] (p2 &&& (255 : Int32)) wV cl w_PING w_PONG w_BYE w_ROUTE_TABLE_UPDATE w_VENDOR w_STANDARD_VENDOR w_PUSH w_QUERY w_QUERY_HIT h0 n0 Z0 S__VALUES E_wV hA hF hsl F_code_w_PING F_code_w_PONG F_code_w_BYE F_code_w_ROUTE_TABLE_UPDATE F_code_w_VENDOR F_code_w_STANDARD_VENDOR F_code_w_PUSH F_code_w_QUERY F_code_w_QUERY_HIT) hZ (hw _ (List.mem_of_getElem? (i := 3) rfl)) (hw _ (List.mem_of_getElem? (i := 2) rfl)) (by decide) (by decide)) (g := (mkF m 106 #[.val (.int p1), .val (.int p2), .val (.int (p1 &&& (3 : Int32))), .val (.int (p2 &&& (255 : Int32))), .unset, .unset, .unset] [(.int (p2 &&& (255 : Int32)))])) rfl (by rw [hml]; rfl) (argsL := [(.int (p2 &&& (255 : Int32)))]) (rest := []) (lenOf pd__28I_29Lcom_2fexample_2fhearsay_2fhearsay_2fcore_2fMessageType_3b rfl) rfl (by show 2 * 0 + _ ≤ _; exact Nat.le_of_eq rfl) (hb hby at_106) (fun _ _ => ⟨rfl, e0, (by decide : 0 + 1 ≤ _), (by decide : 0 + 9 ≤ _)⟩)
      dsimp only [Pt.U, Pt.locs, Pt.cells, Pt.slots] at X14 l14 y14 z14 st14 hQ14
      subst l14 y14 z14
      obtain ⟨rfl, N14q, K14q⟩ := hQ14
      have N14 := Fr.app N0 N14q
      have K14 : Keep h0 T14.heap [] := (Keep.refl h0 []).trans K14q all0
      have f15 : Sta Z T14.heap "com/example/hearsay/hearsay/core/MessageType" "PING" "Lcom/example/hearsay/hearsay/core/MessageType;" (.ref w_PING) := (own_staKeep S_PING K14q own_ns0)
      have f16 : Sta Z T14.heap "com/example/hearsay/hearsay/core/MessageType" "PONG" "Lcom/example/hearsay/hearsay/core/MessageType;" (.ref w_PONG) := (own_staKeep S_PONG K14q own_ns0)
      have f17 : Sta Z T14.heap "com/example/hearsay/hearsay/core/MessageType" "BYE" "Lcom/example/hearsay/hearsay/core/MessageType;" (.ref w_BYE) := (own_staKeep S_BYE K14q own_ns0)
      have f18 : Sta Z T14.heap "com/example/hearsay/hearsay/core/MessageType" "ROUTE_TABLE_UPDATE" "Lcom/example/hearsay/hearsay/core/MessageType;" (.ref w_ROUTE_TABLE_UPDATE) := (own_staKeep S_ROUTE_TABLE_UPDATE K14q own_ns0)
      have f19 : Sta Z T14.heap "com/example/hearsay/hearsay/core/MessageType" "VENDOR" "Lcom/example/hearsay/hearsay/core/MessageType;" (.ref w_VENDOR) := (own_staKeep S_VENDOR K14q own_ns0)
      have f20 : Sta Z T14.heap "com/example/hearsay/hearsay/core/MessageType" "STANDARD_VENDOR" "Lcom/example/hearsay/hearsay/core/MessageType;" (.ref w_STANDARD_VENDOR) := (own_staKeep S_STANDARD_VENDOR K14q own_ns0)
      have f21 : Sta Z T14.heap "com/example/hearsay/hearsay/core/MessageType" "PUSH" "Lcom/example/hearsay/hearsay/core/MessageType;" (.ref w_PUSH) := (own_staKeep S_PUSH K14q own_ns0)
      have f22 : Sta Z T14.heap "com/example/hearsay/hearsay/core/MessageType" "QUERY" "Lcom/example/hearsay/hearsay/core/MessageType;" (.ref w_QUERY) := (own_staKeep S_QUERY K14q own_ns0)
      have f23 : Sta Z T14.heap "com/example/hearsay/hearsay/core/MessageType" "QUERY_HIT" "Lcom/example/hearsay/hearsay/core/MessageType;" (.ref w_QUERY_HIT) := (own_staKeep S_QUERY_HIT K14q own_ns0)
      obtain ⟨_, _, ⟨T24, L24, k24, n24⟩, -, X24, ⟨Lc24, hQ24, l24, y24, z24⟩, st24⟩ := Jvm.LawKit.callS X14 hx (y := (⟨"com/example/hearsay/hearsay/core/MessageTypeForCodePinLaw", "expected", "(I)Lcom/example/hearsay/hearsay/core/MessageType;"⟩ : MethodName)) hown (mvT hZ (hw _ (List.mem_of_getElem? (i := 30) rfl))) (mvT hZ (hw _ (List.mem_of_getElem? (i := 31) rfl))) (mvT hZ (hw _ (List.mem_of_getElem? (i := 32) rfl))) (mvT hZ (hw _ (List.mem_of_getElem? (i := 33) rfl))) (by decide) (backOf (W := 1) (rm3 l Z a0 hw [] (p2 &&& (255 : Int32)) w_PING w_PONG w_BYE w_ROUTE_TABLE_UPDATE w_VENDOR w_STANDARD_VENDOR w_PUSH w_QUERY w_QUERY_HIT T14.heap n0 (Nat.le_trans Z0 K14.1) f15 f16 f17 f18 f19 f20 f21 f22 f23) hZ (hw _ (List.mem_of_getElem? (i := 33) rfl)) (hw _ (List.mem_of_getElem? (i := 32) rfl)) (by decide) (by decide)) (g := (mkF m 114 #[.val (.int p1), .val (.int p2), .val (.int (p1 &&& (3 : Int32))), .val (.int (p2 &&& (255 : Int32))), .val (own_for (p2 &&& (255 : Int32)) w_PING w_PONG w_BYE w_ROUTE_TABLE_UPDATE w_VENDOR w_STANDARD_VENDOR w_PUSH w_QUERY w_QUERY_HIT), .unset, .unset] [(.int (p2 &&& (255 : Int32))), (own_for (p2 &&& (255 : Int32)) w_PING w_PONG w_BYE w_ROUTE_TABLE_UPDATE w_VENDOR w_STANDARD_VENDOR w_PUSH w_QUERY w_QUERY_HIT)])) rfl (by rw [hml]; rfl) (argsL := [(.int (p2 &&& (255 : Int32)))]) (rest := [(own_for (p2 &&& (255 : Int32)) w_PING w_PONG w_BYE w_ROUTE_TABLE_UPDATE w_VENDOR w_STANDARD_VENDOR w_PUSH w_QUERY w_QUERY_HIT)]) (lenOf pd__28I_29Lcom_2fexample_2fhearsay_2fhearsay_2fcore_2fMessageType_3b rfl) rfl (by show 2 * 0 + (List.map (fun v : Value => v.category) [(own_for (p2 &&& (255 : Int32)) w_PING w_PONG w_BYE w_ROUTE_TABLE_UPDATE w_VENDOR w_STANDARD_VENDOR w_PUSH w_QUERY w_QUERY_HIT)]).sum ≤ _; simp only [List.map_cons, List.map_nil, List.sum_cons, List.sum_nil, Jvm.Free.XT.cat1 (own_forR _ _ _ _ _ _ _ _ _ _)] <;> decide) (hb hby at_114) (fun _ _ => ⟨rfl, rfl, (by decide : 1 + 0 ≤ _), (by decide : 9 + 0 ≤ _)⟩)
      dsimp only [Pt.U, Pt.locs, Pt.cells, Pt.slots] at X24 l24 y24 z24 st24 hQ24
      subst l24 y24 z24
      obtain ⟨rfl, N24q, e24⟩ := hQ24
      have N24 := Fr.app N14 N24q
      obtain ⟨fs, hr, hrun, hended, hW, hsame⟩ := X24.leave (v := some (.int (1 : Int32))) (fun h => by rw [Bd.returns] at h; cases h)
      refine ⟨_, _, pre13 _ ?_, hrun, hended, _, _, rfl, ?_, ⟨_, rfl⟩, hW, hsame.mono (by decide) (by decide)⟩
      · show Steps p.tables e below (s₁.setTop (mkF m 15 #[.val (.int p1), .val (.int p2), .val (.int (p1 &&& (3 : Int32))), .unset, .unset, .unset, .unset] [(.int (1 : Int32)), (.int (p1 &&& (3 : Int32)))])) _
        refine XS.icmpNo X0.here hx rfl (hb hby at_15) rfl (teq hB).2 ?_
        show Steps p.tables e below (s₁.setTop (mkF m 18 #[.val (.int p1), .val (.int p2), .val (.int (p1 &&& (3 : Int32))), .unset, .unset, .unset, .unset] [])) _
        refine XS.iloadN X0.here hx rfl (hb hby at_18) rfl ?_
        show Steps p.tables e below (s₁.setTop (mkF m 19 #[.val (.int p1), .val (.int p2), .val (.int (p1 &&& (3 : Int32))), .unset, .unset, .unset, .unset] [(.int p2)])) _
        refine XS.sipush X0.here hx rfl (hb hby at_19) ?_
        show Steps p.tables e below (s₁.setTop (mkF m 22 #[.val (.int p1), .val (.int p2), .val (.int (p1 &&& (3 : Int32))), .unset, .unset, .unset, .unset] [(.int (255 : Int32)), (.int p2)])) _
        refine XS.iand X0.here hx rfl (hb hby at_22) rfl ?_
        show Steps p.tables e below (s₁.setTop (mkF m 23 #[.val (.int p1), .val (.int p2), .val (.int (p1 &&& (3 : Int32))), .unset, .unset, .unset, .unset] [(.int (p2 &&& (255 : Int32)))])) _
        refine XS.istoreN X0.here hx rfl (hb hby at_23) rfl (l' := #[.val (.int p1), .val (.int p2), .val (.int (p1 &&& (3 : Int32))), .val (.int (p2 &&& (255 : Int32))), .unset, .unset, .unset]) rfl ?_
        show Steps p.tables e below (s₁.setTop (mkF m 24 #[.val (.int p1), .val (.int p2), .val (.int (p1 &&& (3 : Int32))), .val (.int (p2 &&& (255 : Int32))), .unset, .unset, .unset] [])) _
        refine XS.goto X0.here hx rfl (pc0 := 24) (pc' := 105) rfl (hb hby at_24) (by decide) (by decide) ?_
        show Steps p.tables e below (s₁.setTop (mkF m 105 #[.val (.int p1), .val (.int p2), .val (.int (p1 &&& (3 : Int32))), .val (.int (p2 &&& (255 : Int32))), .unset, .unset, .unset] [])) _
        refine XS.iloadN X0.here hx rfl (hb hby at_105) rfl ?_
        show Steps p.tables e below (s₁.setTop (mkF m 106 #[.val (.int p1), .val (.int p2), .val (.int (p1 &&& (3 : Int32))), .val (.int (p2 &&& (255 : Int32))), .unset, .unset, .unset] [(.int (p2 &&& (255 : Int32)))])) _
        refine st14 _ ?_
        show Steps p.tables e below (T14.setTop (mkF m 109 #[.val (.int p1), .val (.int p2), .val (.int (p1 &&& (3 : Int32))), .val (.int (p2 &&& (255 : Int32))), .unset, .unset, .unset] [(own_for (p2 &&& (255 : Int32)) w_PING w_PONG w_BYE w_ROUTE_TABLE_UPDATE w_VENDOR w_STANDARD_VENDOR w_PUSH w_QUERY w_QUERY_HIT)])) _
        refine XS.astoreS X14.here hx rfl (hb hby at_109) rfl (own_forR _ _ _ _ _ _ _ _ _ _) (Jvm.Free.XT.cat1 (own_forR _ _ _ _ _ _ _ _ _ _)) rfl (Or.inl rfl) ?_
        show Steps p.tables e below (T14.setTop (mkF m 111 #[.val (.int p1), .val (.int p2), .val (.int (p1 &&& (3 : Int32))), .val (.int (p2 &&& (255 : Int32))), .val (own_for (p2 &&& (255 : Int32)) w_PING w_PONG w_BYE w_ROUTE_TABLE_UPDATE w_VENDOR w_STANDARD_VENDOR w_PUSH w_QUERY w_QUERY_HIT), .unset, .unset] [])) _
        refine XS.aload X14.here hx rfl (hb hby at_111) rfl (own_forR _ _ _ _ _ _ _ _ _ _) ?_
        show Steps p.tables e below (T14.setTop (mkF m 113 #[.val (.int p1), .val (.int p2), .val (.int (p1 &&& (3 : Int32))), .val (.int (p2 &&& (255 : Int32))), .val (own_for (p2 &&& (255 : Int32)) w_PING w_PONG w_BYE w_ROUTE_TABLE_UPDATE w_VENDOR w_STANDARD_VENDOR w_PUSH w_QUERY w_QUERY_HIT), .unset, .unset] [(own_for (p2 &&& (255 : Int32)) w_PING w_PONG w_BYE w_ROUTE_TABLE_UPDATE w_VENDOR w_STANDARD_VENDOR w_PUSH w_QUERY w_QUERY_HIT)])) _
        refine XS.iloadN X14.here hx rfl (hb hby at_113) rfl ?_
        show Steps p.tables e below (T14.setTop (mkF m 114 #[.val (.int p1), .val (.int p2), .val (.int (p1 &&& (3 : Int32))), .val (.int (p2 &&& (255 : Int32))), .val (own_for (p2 &&& (255 : Int32)) w_PING w_PONG w_BYE w_ROUTE_TABLE_UPDATE w_VENDOR w_STANDARD_VENDOR w_PUSH w_QUERY w_QUERY_HIT), .unset, .unset] [(.int (p2 &&& (255 : Int32))), (own_for (p2 &&& (255 : Int32)) w_PING w_PONG w_BYE w_ROUTE_TABLE_UPDATE w_VENDOR w_STANDARD_VENDOR w_PUSH w_QUERY w_QUERY_HIT)])) _
        refine st24 _ ?_
        show Steps p.tables e below (T24.setTop (mkF m 117 #[.val (.int p1), .val (.int p2), .val (.int (p1 &&& (3 : Int32))), .val (.int (p2 &&& (255 : Int32))), .val (own_for (p2 &&& (255 : Int32)) w_PING w_PONG w_BYE w_ROUTE_TABLE_UPDATE w_VENDOR w_STANDARD_VENDOR w_PUSH w_QUERY w_QUERY_HIT), .unset, .unset] [(own_for (p2 &&& (255 : Int32)) w_PING w_PONG w_BYE w_ROUTE_TABLE_UPDATE w_VENDOR w_STANDARD_VENDOR w_PUSH w_QUERY w_QUERY_HIT), (own_for (p2 &&& (255 : Int32)) w_PING w_PONG w_BYE w_ROUTE_TABLE_UPDATE w_VENDOR w_STANDARD_VENDOR w_PUSH w_QUERY w_QUERY_HIT)])) _
        refine Jvm.RoadKit.acmp (g := (mkF m 117 #[.val (.int p1), .val (.int p2), .val (.int (p1 &&& (3 : Int32))), .val (.int (p2 &&& (255 : Int32))), .val (own_for (p2 &&& (255 : Int32)) w_PING w_PONG w_BYE w_ROUTE_TABLE_UPDATE w_VENDOR w_STANDARD_VENDOR w_PUSH w_QUERY w_QUERY_HIT), .unset, .unset] [(own_for (p2 &&& (255 : Int32)) w_PING w_PONG w_BYE w_ROUTE_TABLE_UPDATE w_VENDOR w_STANDARD_VENDOR w_PUSH w_QUERY w_QUERY_HIT), (own_for (p2 &&& (255 : Int32)) w_PING w_PONG w_BYE w_ROUTE_TABLE_UPDATE w_VENDOR w_STANDARD_VENDOR w_PUSH w_QUERY w_QUERY_HIT)])) X24 hx rfl (own_forR _ _ _ _ _ _ _ _ _ _) (own_forR _ _ _ _ _ _ _ _ _ _) (pc0 := 117) (pc' := 120) (same := true) rfl (hb hby at_117) rfl (decide_eq_true rfl) (by decide) (by decide) ?_
        show Steps p.tables e below (T24.setTop (mkF m 120 #[.val (.int p1), .val (.int p2), .val (.int (p1 &&& (3 : Int32))), .val (.int (p2 &&& (255 : Int32))), .val (own_for (p2 &&& (255 : Int32)) w_PING w_PONG w_BYE w_ROUTE_TABLE_UPDATE w_VENDOR w_STANDARD_VENDOR w_PUSH w_QUERY w_QUERY_HIT), .unset, .unset] [])) _
        refine XS.iconst X24.here hx rfl (hb hby at_120) ?_
        show Steps p.tables e below (T24.setTop (mkF m 121 #[.val (.int p1), .val (.int p2), .val (.int (p1 &&& (3 : Int32))), .val (.int (p2 &&& (255 : Int32))), .val (own_for (p2 &&& (255 : Int32)) w_PING w_PONG w_BYE w_ROUTE_TABLE_UPDATE w_VENDOR w_STANDARD_VENDOR w_PUSH w_QUERY w_QUERY_HIT), .unset, .unset] [(.int (1 : Int32))])) _
        refine XS.goto X24.here hx rfl (pc0 := 121) (pc' := 125) rfl (hb hby at_121) (by decide) (by decide) ?_
        show Steps p.tables e below (T24.setTop (mkF m 125 #[.val (.int p1), .val (.int p2), .val (.int (p1 &&& (3 : Int32))), .val (.int (p2 &&& (255 : Int32))), .val (own_for (p2 &&& (255 : Int32)) w_PING w_PONG w_BYE w_ROUTE_TABLE_UPDATE w_VENDOR w_STANDARD_VENDOR w_PUSH w_QUERY w_QUERY_HIT), .unset, .unset] [(.int (1 : Int32))])) _
        exact retN X24 hx (t := .boolean) Bd.returns (by simp) (hb hby at_125) hr
      · show Q_rm0 Z p1 p2 wV cl w_PING w_PONG w_BYE w_ROUTE_TABLE_UPDATE w_VENDOR w_STANDARD_VENDOR w_PUSH w_QUERY w_QUERY_HIT h0 n0 _ T24.heap _
        rw [e24]
        exact ⟨rfl, N24⟩
    · obtain ⟨z, hz⟩ := own_ex (own_m p2)
      obtain ⟨T25, h25, k25, X25, e25, E25, A25, st25⟩ := newP X0 hx hZ (hw _ (List.mem_of_getElem? (i := 34) rfl)) e0 (g := (mkF m 29 #[.val (.int p1), .val (.int p2), .val (.int (p1 &&& (3 : Int32))), .unset, .unset, .unset, .unset] [(.int (9 : Int32))])) rfl (hb hby at_29) rfl (by decide) (cap := 9) (by decide) (by decide) (by decide) (by decide)
      obtain ⟨b25, g25⟩ : ∃ z, z = h0.size := ⟨_, rfl⟩
      rw [← g25] at A25 st25
      have ne_wV_b25 : wV ≠ b25 := Nat.ne_of_lt (Nat.lt_of_lt_of_le E_wV.lt (Nat.le_of_eq g25.symm))
      have ne_w_BYE_b25 : w_BYE ≠ b25 := Nat.ne_of_lt (Nat.lt_of_lt_of_le F_code_w_BYE.lt (Nat.le_of_eq g25.symm))
      have ne_w_PING_b25 : w_PING ≠ b25 := Nat.ne_of_lt (Nat.lt_of_lt_of_le F_code_w_PING.lt (Nat.le_of_eq g25.symm))
      have ne_w_PONG_b25 : w_PONG ≠ b25 := Nat.ne_of_lt (Nat.lt_of_lt_of_le F_code_w_PONG.lt (Nat.le_of_eq g25.symm))
      have ne_w_PUSH_b25 : w_PUSH ≠ b25 := Nat.ne_of_lt (Nat.lt_of_lt_of_le F_code_w_PUSH.lt (Nat.le_of_eq g25.symm))
      have ne_w_QUERY_b25 : w_QUERY ≠ b25 := Nat.ne_of_lt (Nat.lt_of_lt_of_le F_code_w_QUERY.lt (Nat.le_of_eq g25.symm))
      have ne_w_QUERY_HIT_b25 : w_QUERY_HIT ≠ b25 := Nat.ne_of_lt (Nat.lt_of_lt_of_le F_code_w_QUERY_HIT.lt (Nat.le_of_eq g25.symm))
      have ne_w_ROUTE_TABLE_UPDATE_b25 : w_ROUTE_TABLE_UPDATE ≠ b25 := Nat.ne_of_lt (Nat.lt_of_lt_of_le F_code_w_ROUTE_TABLE_UPDATE.lt (Nat.le_of_eq g25.symm))
      have ne_w_STANDARD_VENDOR_b25 : w_STANDARD_VENDOR ≠ b25 := Nat.ne_of_lt (Nat.lt_of_lt_of_le F_code_w_STANDARD_VENDOR.lt (Nat.le_of_eq g25.symm))
      have ne_w_VENDOR_b25 : w_VENDOR ≠ b25 := Nat.ne_of_lt (Nat.lt_of_lt_of_le F_code_w_VENDOR.lt (Nat.le_of_eq g25.symm))
      have g_b25 : n0 ≤ b25 := Nat.le_trans Z0 (Nat.le_of_eq g25.symm)
      have sz_b25 : h0.size ≤ b25 := Nat.le_trans (Keep.refl h0 []).1 (Nat.le_of_eq g25.symm)
      have K26 : Keep h0 h25 [] := (Keep.refl h0 []).ext E25
      have V_b25 : Arv Z h25 b25 k25 .int (9 : Int32) [(.int (0 : Int32)), (.int (0 : Int32)), (.int (0 : Int32)), (.int (0 : Int32)), (.int (0 : Int32)), (.int (0 : Int32)), (.int (0 : Int32)), (.int (0 : Int32)), (.int (0 : Int32))] (.int (0 : Int32)) := (Arv.new A25 (by decide)).pad (pad_rep [] (.int (0 : Int32)) 9)
      obtain ⟨c27, Ac27, qc27, Sc27, Nc27, Hc27, Gc27⟩ := id V_b25
      obtain ⟨T28, h28, X28, e28, W28, st28⟩ := stI X25 hx hZ e25 Ac27 (j := (0 : Int32)) (inb_of Sc27 ⟨by decide, by decide⟩) (g := (mkF m 34 #[.val (.int p1), .val (.int p2), .val (.int (p1 &&& (3 : Int32))), .unset, .unset, .unset, .unset] [(.int (0 : Int32)), (.int (0 : Int32)), (.ref b25), (.ref b25)])) rfl rfl (hb hby at_34)
      have K29 : Keep h0 h28 [] := K26.wr W28 (Or.inr sz_b25)
      have N30 := Fr.snoc X28 N0 g_b25
      have Vw28 := Arv.set Ac27 qc27 Sc27 Nc27 Hc27 Gc27 rfl W28 0 rfl (Nat.le_of_ble_eq_true rfl)
      change Arv Z h28 b25 k25 .int (9 : Int32) [(.int (0 : Int32)), (.int (0 : Int32)), (.int (0 : Int32)), (.int (0 : Int32)), (.int (0 : Int32)), (.int (0 : Int32)), (.int (0 : Int32)), (.int (0 : Int32)), (.int (0 : Int32))] (.int (0 : Int32)) at Vw28
      obtain ⟨c31, Ac31, qc31, Sc31, Nc31, Hc31, Gc31⟩ := id Vw28
      obtain ⟨T32, h32, X32, e32, W32, st32⟩ := stI X28 hx hZ e28 Ac31 (j := (1 : Int32)) (inb_of Sc31 ⟨by decide, by decide⟩) (g := (mkF m 38 #[.val (.int p1), .val (.int p2), .val (.int (p1 &&& (3 : Int32))), .unset, .unset, .unset, .unset] [(.int (1 : Int32)), (.int (1 : Int32)), (.ref b25), (.ref b25)])) rfl rfl (hb hby at_38)
      have K33 : Keep h0 h32 [] := K29.wr W32 (Or.inr sz_b25)
      have N34 := Fr.snoc X32 N30 g_b25
      have Vw32 := Arv.set Ac31 qc31 Sc31 Nc31 Hc31 Gc31 rfl W32 1 rfl (Nat.le_of_ble_eq_true rfl)
      change Arv Z h32 b25 k25 .int (9 : Int32) [(.int (0 : Int32)), (.int (1 : Int32)), (.int (0 : Int32)), (.int (0 : Int32)), (.int (0 : Int32)), (.int (0 : Int32)), (.int (0 : Int32)), (.int (0 : Int32)), (.int (0 : Int32))] (.int (0 : Int32)) at Vw32
      obtain ⟨c35, Ac35, qc35, Sc35, Nc35, Hc35, Gc35⟩ := id Vw32
      obtain ⟨T36, h36, X36, e36, W36, st36⟩ := stI X32 hx hZ e32 Ac35 (j := (2 : Int32)) (inb_of Sc35 ⟨by decide, by decide⟩) (g := (mkF m 42 #[.val (.int p1), .val (.int p2), .val (.int (p1 &&& (3 : Int32))), .unset, .unset, .unset, .unset] [(.int (2 : Int32)), (.int (2 : Int32)), (.ref b25), (.ref b25)])) rfl rfl (hb hby at_42)
      have K37 : Keep h0 h36 [] := K33.wr W36 (Or.inr sz_b25)
      have N38 := Fr.snoc X36 N34 g_b25
      have Vw36 := Arv.set Ac35 qc35 Sc35 Nc35 Hc35 Gc35 rfl W36 2 rfl (Nat.le_of_ble_eq_true rfl)
      change Arv Z h36 b25 k25 .int (9 : Int32) [(.int (0 : Int32)), (.int (1 : Int32)), (.int (2 : Int32)), (.int (0 : Int32)), (.int (0 : Int32)), (.int (0 : Int32)), (.int (0 : Int32)), (.int (0 : Int32)), (.int (0 : Int32))] (.int (0 : Int32)) at Vw36
      obtain ⟨c39, Ac39, qc39, Sc39, Nc39, Hc39, Gc39⟩ := id Vw36
      obtain ⟨T40, h40, X40, e40, W40, st40⟩ := stI X36 hx hZ e36 Ac39 (j := (3 : Int32)) (inb_of Sc39 ⟨by decide, by decide⟩) (g := (mkF m 47 #[.val (.int p1), .val (.int p2), .val (.int (p1 &&& (3 : Int32))), .unset, .unset, .unset, .unset] [(.int (48 : Int32)), (.int (3 : Int32)), (.ref b25), (.ref b25)])) rfl rfl (hb hby at_47)
      have K41 : Keep h0 h40 [] := K37.wr W40 (Or.inr sz_b25)
      have N42 := Fr.snoc X40 N38 g_b25
      have Vw40 := Arv.set Ac39 qc39 Sc39 Nc39 Hc39 Gc39 rfl W40 3 rfl (Nat.le_of_ble_eq_true rfl)
      change Arv Z h40 b25 k25 .int (9 : Int32) [(.int (0 : Int32)), (.int (1 : Int32)), (.int (2 : Int32)), (.int (48 : Int32)), (.int (0 : Int32)), (.int (0 : Int32)), (.int (0 : Int32)), (.int (0 : Int32)), (.int (0 : Int32))] (.int (0 : Int32)) at Vw40
      obtain ⟨c43, Ac43, qc43, Sc43, Nc43, Hc43, Gc43⟩ := id Vw40
      obtain ⟨T44, h44, X44, e44, W44, st44⟩ := stI X40 hx hZ e40 Ac43 (j := (4 : Int32)) (inb_of Sc43 ⟨by decide, by decide⟩) (g := (mkF m 52 #[.val (.int p1), .val (.int p2), .val (.int (p1 &&& (3 : Int32))), .unset, .unset, .unset, .unset] [(.int (49 : Int32)), (.int (4 : Int32)), (.ref b25), (.ref b25)])) rfl rfl (hb hby at_52)
      have K45 : Keep h0 h44 [] := K41.wr W44 (Or.inr sz_b25)
      have N46 := Fr.snoc X44 N42 g_b25
      have Vw44 := Arv.set Ac43 qc43 Sc43 Nc43 Hc43 Gc43 rfl W44 4 rfl (Nat.le_of_ble_eq_true rfl)
      change Arv Z h44 b25 k25 .int (9 : Int32) [(.int (0 : Int32)), (.int (1 : Int32)), (.int (2 : Int32)), (.int (48 : Int32)), (.int (49 : Int32)), (.int (0 : Int32)), (.int (0 : Int32)), (.int (0 : Int32)), (.int (0 : Int32))] (.int (0 : Int32)) at Vw44
      obtain ⟨c47, Ac47, qc47, Sc47, Nc47, Hc47, Gc47⟩ := id Vw44
      obtain ⟨T48, h48, X48, e48, W48, st48⟩ := stI X44 hx hZ e44 Ac47 (j := (5 : Int32)) (inb_of Sc47 ⟨by decide, by decide⟩) (g := (mkF m 57 #[.val (.int p1), .val (.int p2), .val (.int (p1 &&& (3 : Int32))), .unset, .unset, .unset, .unset] [(.int (50 : Int32)), (.int (5 : Int32)), (.ref b25), (.ref b25)])) rfl rfl (hb hby at_57)
      have K49 : Keep h0 h48 [] := K45.wr W48 (Or.inr sz_b25)
      have N50 := Fr.snoc X48 N46 g_b25
      have Vw48 := Arv.set Ac47 qc47 Sc47 Nc47 Hc47 Gc47 rfl W48 5 rfl (Nat.le_of_ble_eq_true rfl)
      change Arv Z h48 b25 k25 .int (9 : Int32) [(.int (0 : Int32)), (.int (1 : Int32)), (.int (2 : Int32)), (.int (48 : Int32)), (.int (49 : Int32)), (.int (50 : Int32)), (.int (0 : Int32)), (.int (0 : Int32)), (.int (0 : Int32))] (.int (0 : Int32)) at Vw48
      obtain ⟨c51, Ac51, qc51, Sc51, Nc51, Hc51, Gc51⟩ := id Vw48
      obtain ⟨T52, h52, X52, e52, W52, st52⟩ := stI X48 hx hZ e48 Ac51 (j := (6 : Int32)) (inb_of Sc51 ⟨by decide, by decide⟩) (g := (mkF m 63 #[.val (.int p1), .val (.int p2), .val (.int (p1 &&& (3 : Int32))), .unset, .unset, .unset, .unset] [(.int (64 : Int32)), (.int (6 : Int32)), (.ref b25), (.ref b25)])) rfl rfl (hb hby at_63)
      have K53 : Keep h0 h52 [] := K49.wr W52 (Or.inr sz_b25)
      have N54 := Fr.snoc X52 N50 g_b25
      have Vw52 := Arv.set Ac51 qc51 Sc51 Nc51 Hc51 Gc51 rfl W52 6 rfl (Nat.le_of_ble_eq_true rfl)
      change Arv Z h52 b25 k25 .int (9 : Int32) [(.int (0 : Int32)), (.int (1 : Int32)), (.int (2 : Int32)), (.int (48 : Int32)), (.int (49 : Int32)), (.int (50 : Int32)), (.int (64 : Int32)), (.int (0 : Int32)), (.int (0 : Int32))] (.int (0 : Int32)) at Vw52
      obtain ⟨c55, Ac55, qc55, Sc55, Nc55, Hc55, Gc55⟩ := id Vw52
      obtain ⟨T56, h56, X56, e56, W56, st56⟩ := stI X52 hx hZ e52 Ac55 (j := (7 : Int32)) (inb_of Sc55 ⟨by decide, by decide⟩) (g := (mkF m 70 #[.val (.int p1), .val (.int p2), .val (.int (p1 &&& (3 : Int32))), .unset, .unset, .unset, .unset] [(.int (128 : Int32)), (.int (7 : Int32)), (.ref b25), (.ref b25)])) rfl rfl (hb hby at_70)
      have K57 : Keep h0 h56 [] := K53.wr W56 (Or.inr sz_b25)
      have N58 := Fr.snoc X56 N54 g_b25
      have Vw56 := Arv.set Ac55 qc55 Sc55 Nc55 Hc55 Gc55 rfl W56 7 rfl (Nat.le_of_ble_eq_true rfl)
      change Arv Z h56 b25 k25 .int (9 : Int32) [(.int (0 : Int32)), (.int (1 : Int32)), (.int (2 : Int32)), (.int (48 : Int32)), (.int (49 : Int32)), (.int (50 : Int32)), (.int (64 : Int32)), (.int (128 : Int32)), (.int (0 : Int32))] (.int (0 : Int32)) at Vw56
      obtain ⟨c59, Ac59, qc59, Sc59, Nc59, Hc59, Gc59⟩ := id Vw56
      obtain ⟨T60, h60, X60, e60, W60, st60⟩ := stI X56 hx hZ e56 Ac59 (j := (8 : Int32)) (inb_of Sc59 ⟨by decide, by decide⟩) (g := (mkF m 77 #[.val (.int p1), .val (.int p2), .val (.int (p1 &&& (3 : Int32))), .unset, .unset, .unset, .unset] [(.int (129 : Int32)), (.int (8 : Int32)), (.ref b25), (.ref b25)])) rfl rfl (hb hby at_77)
      have K61 : Keep h0 h60 [] := K57.wr W60 (Or.inr sz_b25)
      have N62 := Fr.snoc X60 N58 g_b25
      have Vw60 := Arv.set Ac59 qc59 Sc59 Nc59 Hc59 Gc59 rfl W60 8 rfl (Nat.le_of_ble_eq_true rfl)
      change Arv Z h60 b25 k25 .int (9 : Int32) [(.int (0 : Int32)), (.int (1 : Int32)), (.int (2 : Int32)), (.int (48 : Int32)), (.int (49 : Int32)), (.int (50 : Int32)), (.int (64 : Int32)), (.int (128 : Int32)), (.int (129 : Int32))] (.int (0 : Int32)) at Vw60
      obtain ⟨c63, Ac63, qc63, Sc63, Nc63, Hc63, Gc63⟩ := id Vw60
      have hinc63 := inb_of Sc63 (j := ((p2 &&& (2147483647 : Int32)) % (9 : Int32))) (own_in (own_m p2))
      have hA' : Arr Z h60 wV cl (.object "com/example/hearsay/hearsay/core/MessageType") := ((((((((((hA.ext E25).other W28 ne_wV_b25).other W32 ne_wV_b25).other W36 ne_wV_b25).other W40 ne_wV_b25).other W44 ne_wV_b25).other W48 ne_wV_b25).other W52 ne_wV_b25).other W56 ne_wV_b25).other W60 ne_wV_b25)
      have f64 : Sta Z h60 "com/example/hearsay/hearsay/core/MessageType" "$VALUES" "[Lcom/example/hearsay/hearsay/core/MessageType;" (.ref wV) := ((((((((((S__VALUES.ext E25).wr W28).wr W32).wr W36).wr W40).wr W44).wr W48).wr W52).wr W56).wr W60)
      have f65 : Exa Z h60 wV "[Lcom/example/hearsay/hearsay/core/MessageType;" := ((((((((((E_wV.ext E25).wr W28).wr W32).wr W36).wr W40).wr W44).wr W48).wr W52).wr W56).wr W60)
      have f66 : Fld Z h60 w_PING "com/example/hearsay/hearsay/core/MessageType" "code" "I" (.int (0 : Int32)) := ((((((((((F_code_w_PING.ext E25).other W28 (Or.inl ne_w_PING_b25)).other W32 (Or.inl ne_w_PING_b25)).other W36 (Or.inl ne_w_PING_b25)).other W40 (Or.inl ne_w_PING_b25)).other W44 (Or.inl ne_w_PING_b25)).other W48 (Or.inl ne_w_PING_b25)).other W52 (Or.inl ne_w_PING_b25)).other W56 (Or.inl ne_w_PING_b25)).other W60 (Or.inl ne_w_PING_b25))
      have f67 : Fld Z h60 w_PONG "com/example/hearsay/hearsay/core/MessageType" "code" "I" (.int (1 : Int32)) := ((((((((((F_code_w_PONG.ext E25).other W28 (Or.inl ne_w_PONG_b25)).other W32 (Or.inl ne_w_PONG_b25)).other W36 (Or.inl ne_w_PONG_b25)).other W40 (Or.inl ne_w_PONG_b25)).other W44 (Or.inl ne_w_PONG_b25)).other W48 (Or.inl ne_w_PONG_b25)).other W52 (Or.inl ne_w_PONG_b25)).other W56 (Or.inl ne_w_PONG_b25)).other W60 (Or.inl ne_w_PONG_b25))
      have f68 : Fld Z h60 w_BYE "com/example/hearsay/hearsay/core/MessageType" "code" "I" (.int (2 : Int32)) := ((((((((((F_code_w_BYE.ext E25).other W28 (Or.inl ne_w_BYE_b25)).other W32 (Or.inl ne_w_BYE_b25)).other W36 (Or.inl ne_w_BYE_b25)).other W40 (Or.inl ne_w_BYE_b25)).other W44 (Or.inl ne_w_BYE_b25)).other W48 (Or.inl ne_w_BYE_b25)).other W52 (Or.inl ne_w_BYE_b25)).other W56 (Or.inl ne_w_BYE_b25)).other W60 (Or.inl ne_w_BYE_b25))
      have f69 : Fld Z h60 w_ROUTE_TABLE_UPDATE "com/example/hearsay/hearsay/core/MessageType" "code" "I" (.int (48 : Int32)) := ((((((((((F_code_w_ROUTE_TABLE_UPDATE.ext E25).other W28 (Or.inl ne_w_ROUTE_TABLE_UPDATE_b25)).other W32 (Or.inl ne_w_ROUTE_TABLE_UPDATE_b25)).other W36 (Or.inl ne_w_ROUTE_TABLE_UPDATE_b25)).other W40 (Or.inl ne_w_ROUTE_TABLE_UPDATE_b25)).other W44 (Or.inl ne_w_ROUTE_TABLE_UPDATE_b25)).other W48 (Or.inl ne_w_ROUTE_TABLE_UPDATE_b25)).other W52 (Or.inl ne_w_ROUTE_TABLE_UPDATE_b25)).other W56 (Or.inl ne_w_ROUTE_TABLE_UPDATE_b25)).other W60 (Or.inl ne_w_ROUTE_TABLE_UPDATE_b25))
      have f70 : Fld Z h60 w_VENDOR "com/example/hearsay/hearsay/core/MessageType" "code" "I" (.int (49 : Int32)) := ((((((((((F_code_w_VENDOR.ext E25).other W28 (Or.inl ne_w_VENDOR_b25)).other W32 (Or.inl ne_w_VENDOR_b25)).other W36 (Or.inl ne_w_VENDOR_b25)).other W40 (Or.inl ne_w_VENDOR_b25)).other W44 (Or.inl ne_w_VENDOR_b25)).other W48 (Or.inl ne_w_VENDOR_b25)).other W52 (Or.inl ne_w_VENDOR_b25)).other W56 (Or.inl ne_w_VENDOR_b25)).other W60 (Or.inl ne_w_VENDOR_b25))
      have f71 : Fld Z h60 w_STANDARD_VENDOR "com/example/hearsay/hearsay/core/MessageType" "code" "I" (.int (50 : Int32)) := ((((((((((F_code_w_STANDARD_VENDOR.ext E25).other W28 (Or.inl ne_w_STANDARD_VENDOR_b25)).other W32 (Or.inl ne_w_STANDARD_VENDOR_b25)).other W36 (Or.inl ne_w_STANDARD_VENDOR_b25)).other W40 (Or.inl ne_w_STANDARD_VENDOR_b25)).other W44 (Or.inl ne_w_STANDARD_VENDOR_b25)).other W48 (Or.inl ne_w_STANDARD_VENDOR_b25)).other W52 (Or.inl ne_w_STANDARD_VENDOR_b25)).other W56 (Or.inl ne_w_STANDARD_VENDOR_b25)).other W60 (Or.inl ne_w_STANDARD_VENDOR_b25))
      have f72 : Fld Z h60 w_PUSH "com/example/hearsay/hearsay/core/MessageType" "code" "I" (.int (64 : Int32)) := ((((((((((F_code_w_PUSH.ext E25).other W28 (Or.inl ne_w_PUSH_b25)).other W32 (Or.inl ne_w_PUSH_b25)).other W36 (Or.inl ne_w_PUSH_b25)).other W40 (Or.inl ne_w_PUSH_b25)).other W44 (Or.inl ne_w_PUSH_b25)).other W48 (Or.inl ne_w_PUSH_b25)).other W52 (Or.inl ne_w_PUSH_b25)).other W56 (Or.inl ne_w_PUSH_b25)).other W60 (Or.inl ne_w_PUSH_b25))
      have f73 : Fld Z h60 w_QUERY "com/example/hearsay/hearsay/core/MessageType" "code" "I" (.int (128 : Int32)) := ((((((((((F_code_w_QUERY.ext E25).other W28 (Or.inl ne_w_QUERY_b25)).other W32 (Or.inl ne_w_QUERY_b25)).other W36 (Or.inl ne_w_QUERY_b25)).other W40 (Or.inl ne_w_QUERY_b25)).other W44 (Or.inl ne_w_QUERY_b25)).other W48 (Or.inl ne_w_QUERY_b25)).other W52 (Or.inl ne_w_QUERY_b25)).other W56 (Or.inl ne_w_QUERY_b25)).other W60 (Or.inl ne_w_QUERY_b25))
      have f74 : Fld Z h60 w_QUERY_HIT "com/example/hearsay/hearsay/core/MessageType" "code" "I" (.int (129 : Int32)) := ((((((((((F_code_w_QUERY_HIT.ext E25).other W28 (Or.inl ne_w_QUERY_HIT_b25)).other W32 (Or.inl ne_w_QUERY_HIT_b25)).other W36 (Or.inl ne_w_QUERY_HIT_b25)).other W40 (Or.inl ne_w_QUERY_HIT_b25)).other W44 (Or.inl ne_w_QUERY_HIT_b25)).other W48 (Or.inl ne_w_QUERY_HIT_b25)).other W52 (Or.inl ne_w_QUERY_HIT_b25)).other W56 (Or.inl ne_w_QUERY_HIT_b25)).other W60 (Or.inl ne_w_QUERY_HIT_b25))
      obtain ⟨_, _, ⟨T75, L75, k75, n75⟩, -, X75, ⟨Lc75, hQ75, l75, y75, z75⟩, st75⟩ := Jvm.LawKit.callS X60 hx (y := (⟨"com/example/hearsay/hearsay/core/MessageType", "forCode", "(I)Lcom/example/hearsay/hearsay/core/MessageType;"⟩ : MethodName)) hown (mvT hZ (hw _ (List.mem_of_getElem? (i := 0) rfl))) (mvT hZ (hw _ (List.mem_of_getElem? (i := 1) rfl))) (mvT hZ (hw _ (List.mem_of_getElem? (i := 2) rfl))) (mvT hZ (hw _ (List.mem_of_getElem? (i := 3) rfl))) (by decide) (backOf (W := 0) (rm1 l Z a0 hw [] (z + ((p1 >>> ((2 : Int32) &&& 31)) % (2 : Int32))) wV cl w_PING w_PONG w_BYE w_ROUTE_TABLE_UPDATE w_VENDOR w_STANDARD_VENDOR w_PUSH w_QUERY w_QUERY_HIT h60 n0 (Nat.le_trans Z0 K61.1) f64 f65 hA' hF hsl f66 f67 f68 f69 f70 f71 f72 f73 f74) hZ (hw _ (List.mem_of_getElem? (i := 3) rfl)) (hw _ (List.mem_of_getElem? (i := 2) rfl)) (by decide) (by decide)) (g := (mkF m 106 #[.val (.int p1), .val (.int p2), .val (.int (p1 &&& (3 : Int32))), .val (.int (z + ((p1 >>> ((2 : Int32) &&& 31)) % (2 : Int32)))), .val (.ref b25), .val (.int ((p2 &&& (2147483647 : Int32)) % (9 : Int32))), .val (.int ((p1 >>> ((2 : Int32) &&& 31)) % (2 : Int32)))] [(.int (z + ((p1 >>> ((2 : Int32) &&& 31)) % (2 : Int32))))])) rfl (by rw [hml]; rfl) (argsL := [(.int (z + ((p1 >>> ((2 : Int32) &&& 31)) % (2 : Int32))))]) (rest := []) (lenOf pd__28I_29Lcom_2fexample_2fhearsay_2fhearsay_2fcore_2fMessageType_3b rfl) rfl (by show 2 * 0 + _ ≤ _; exact Nat.le_of_eq rfl) (hb hby at_106) (fun _ _ => ⟨rfl, e60, (by decide : 1 + 1 ≤ _), (by decide : 9 + 9 ≤ _)⟩)
      dsimp only [Pt.U, Pt.locs, Pt.cells, Pt.slots] at X75 l75 y75 z75 st75 hQ75
      subst l75 y75 z75
      obtain ⟨rfl, N75q, K75q⟩ := hQ75
      have N75 := Fr.app N62 N75q
      have K75 : Keep h0 T75.heap [] := K61.trans K75q all0
      have f76 : Sta Z T75.heap "com/example/hearsay/hearsay/core/MessageType" "PING" "Lcom/example/hearsay/hearsay/core/MessageType;" (.ref w_PING) := (own_staKeep ((((((((((S_PING.ext E25).wr W28).wr W32).wr W36).wr W40).wr W44).wr W48).wr W52).wr W56).wr W60) K75q own_ns0)
      have f77 : Sta Z T75.heap "com/example/hearsay/hearsay/core/MessageType" "PONG" "Lcom/example/hearsay/hearsay/core/MessageType;" (.ref w_PONG) := (own_staKeep ((((((((((S_PONG.ext E25).wr W28).wr W32).wr W36).wr W40).wr W44).wr W48).wr W52).wr W56).wr W60) K75q own_ns0)
      have f78 : Sta Z T75.heap "com/example/hearsay/hearsay/core/MessageType" "BYE" "Lcom/example/hearsay/hearsay/core/MessageType;" (.ref w_BYE) := (own_staKeep ((((((((((S_BYE.ext E25).wr W28).wr W32).wr W36).wr W40).wr W44).wr W48).wr W52).wr W56).wr W60) K75q own_ns0)
      have f79 : Sta Z T75.heap "com/example/hearsay/hearsay/core/MessageType" "ROUTE_TABLE_UPDATE" "Lcom/example/hearsay/hearsay/core/MessageType;" (.ref w_ROUTE_TABLE_UPDATE) := (own_staKeep ((((((((((S_ROUTE_TABLE_UPDATE.ext E25).wr W28).wr W32).wr W36).wr W40).wr W44).wr W48).wr W52).wr W56).wr W60) K75q own_ns0)
      have f80 : Sta Z T75.heap "com/example/hearsay/hearsay/core/MessageType" "VENDOR" "Lcom/example/hearsay/hearsay/core/MessageType;" (.ref w_VENDOR) := (own_staKeep ((((((((((S_VENDOR.ext E25).wr W28).wr W32).wr W36).wr W40).wr W44).wr W48).wr W52).wr W56).wr W60) K75q own_ns0)
      have f81 : Sta Z T75.heap "com/example/hearsay/hearsay/core/MessageType" "STANDARD_VENDOR" "Lcom/example/hearsay/hearsay/core/MessageType;" (.ref w_STANDARD_VENDOR) := (own_staKeep ((((((((((S_STANDARD_VENDOR.ext E25).wr W28).wr W32).wr W36).wr W40).wr W44).wr W48).wr W52).wr W56).wr W60) K75q own_ns0)
      have f82 : Sta Z T75.heap "com/example/hearsay/hearsay/core/MessageType" "PUSH" "Lcom/example/hearsay/hearsay/core/MessageType;" (.ref w_PUSH) := (own_staKeep ((((((((((S_PUSH.ext E25).wr W28).wr W32).wr W36).wr W40).wr W44).wr W48).wr W52).wr W56).wr W60) K75q own_ns0)
      have f83 : Sta Z T75.heap "com/example/hearsay/hearsay/core/MessageType" "QUERY" "Lcom/example/hearsay/hearsay/core/MessageType;" (.ref w_QUERY) := (own_staKeep ((((((((((S_QUERY.ext E25).wr W28).wr W32).wr W36).wr W40).wr W44).wr W48).wr W52).wr W56).wr W60) K75q own_ns0)
      have f84 : Sta Z T75.heap "com/example/hearsay/hearsay/core/MessageType" "QUERY_HIT" "Lcom/example/hearsay/hearsay/core/MessageType;" (.ref w_QUERY_HIT) := (own_staKeep ((((((((((S_QUERY_HIT.ext E25).wr W28).wr W32).wr W36).wr W40).wr W44).wr W48).wr W52).wr W56).wr W60) K75q own_ns0)
      obtain ⟨_, _, ⟨T85, L85, k85, n85⟩, -, X85, ⟨Lc85, hQ85, l85, y85, z85⟩, st85⟩ := Jvm.LawKit.callS X75 hx (y := (⟨"com/example/hearsay/hearsay/core/MessageTypeForCodePinLaw", "expected", "(I)Lcom/example/hearsay/hearsay/core/MessageType;"⟩ : MethodName)) hown (mvT hZ (hw _ (List.mem_of_getElem? (i := 30) rfl))) (mvT hZ (hw _ (List.mem_of_getElem? (i := 31) rfl))) (mvT hZ (hw _ (List.mem_of_getElem? (i := 32) rfl))) (mvT hZ (hw _ (List.mem_of_getElem? (i := 33) rfl))) (by decide) (backOf (W := 1) (rm3 l Z a0 hw [] (z + ((p1 >>> ((2 : Int32) &&& 31)) % (2 : Int32))) w_PING w_PONG w_BYE w_ROUTE_TABLE_UPDATE w_VENDOR w_STANDARD_VENDOR w_PUSH w_QUERY w_QUERY_HIT T75.heap n0 (Nat.le_trans Z0 K75.1) f76 f77 f78 f79 f80 f81 f82 f83 f84) hZ (hw _ (List.mem_of_getElem? (i := 33) rfl)) (hw _ (List.mem_of_getElem? (i := 32) rfl)) (by decide) (by decide)) (g := (mkF m 114 #[.val (.int p1), .val (.int p2), .val (.int (p1 &&& (3 : Int32))), .val (.int (z + ((p1 >>> ((2 : Int32) &&& 31)) % (2 : Int32)))), .val (own_for (z + ((p1 >>> ((2 : Int32) &&& 31)) % (2 : Int32))) w_PING w_PONG w_BYE w_ROUTE_TABLE_UPDATE w_VENDOR w_STANDARD_VENDOR w_PUSH w_QUERY w_QUERY_HIT), .val (.int ((p2 &&& (2147483647 : Int32)) % (9 : Int32))), .val (.int ((p1 >>> ((2 : Int32) &&& 31)) % (2 : Int32)))] [(.int (z + ((p1 >>> ((2 : Int32) &&& 31)) % (2 : Int32)))), (own_for (z + ((p1 >>> ((2 : Int32) &&& 31)) % (2 : Int32))) w_PING w_PONG w_BYE w_ROUTE_TABLE_UPDATE w_VENDOR w_STANDARD_VENDOR w_PUSH w_QUERY w_QUERY_HIT)])) rfl (by rw [hml]; rfl) (argsL := [(.int (z + ((p1 >>> ((2 : Int32) &&& 31)) % (2 : Int32))))]) (rest := [(own_for (z + ((p1 >>> ((2 : Int32) &&& 31)) % (2 : Int32))) w_PING w_PONG w_BYE w_ROUTE_TABLE_UPDATE w_VENDOR w_STANDARD_VENDOR w_PUSH w_QUERY w_QUERY_HIT)]) (lenOf pd__28I_29Lcom_2fexample_2fhearsay_2fhearsay_2fcore_2fMessageType_3b rfl) rfl (by show 2 * 0 + (List.map (fun v : Value => v.category) [(own_for (z + ((p1 >>> ((2 : Int32) &&& 31)) % (2 : Int32))) w_PING w_PONG w_BYE w_ROUTE_TABLE_UPDATE w_VENDOR w_STANDARD_VENDOR w_PUSH w_QUERY w_QUERY_HIT)]).sum ≤ _; simp only [List.map_cons, List.map_nil, List.sum_cons, List.sum_nil, Jvm.Free.XT.cat1 (own_forR _ _ _ _ _ _ _ _ _ _)] <;> decide) (hb hby at_114) (fun _ _ => ⟨rfl, rfl, (by decide : 2 + 0 ≤ _), (by decide : 18 + 0 ≤ _)⟩)
      dsimp only [Pt.U, Pt.locs, Pt.cells, Pt.slots] at X85 l85 y85 z85 st85 hQ85
      subst l85 y85 z85
      obtain ⟨rfl, N85q, e85⟩ := hQ85
      have N85 := Fr.app N75 N85q
      obtain ⟨fs, hr, hrun, hended, hW, hsame⟩ := X85.leave (v := some (.int (1 : Int32))) (fun h => by rw [Bd.returns] at h; cases h)
      refine ⟨_, _, pre13 _ ?_, hrun, hended, _, _, rfl, ?_, ⟨_, rfl⟩, hW, hsame.mono (by decide) (by decide)⟩
      · show Steps p.tables e below (s₁.setTop (mkF m 15 #[.val (.int p1), .val (.int p2), .val (.int (p1 &&& (3 : Int32))), .unset, .unset, .unset, .unset] [(.int (1 : Int32)), (.int (p1 &&& (3 : Int32)))])) _
        refine XS.icmpYes X0.here hx rfl (pc0 := 15) (pc' := 27) rfl (hb hby at_15) rfl (feq hB).2 (by decide) (by decide) ?_
        show Steps p.tables e below (s₁.setTop (mkF m 27 #[.val (.int p1), .val (.int p2), .val (.int (p1 &&& (3 : Int32))), .unset, .unset, .unset, .unset] [])) _
        refine XS.bipush X0.here hx rfl (hb hby at_27) ?_
        show Steps p.tables e below (s₁.setTop (mkF m 29 #[.val (.int p1), .val (.int p2), .val (.int (p1 &&& (3 : Int32))), .unset, .unset, .unset, .unset] [(.int (9 : Int32))])) _
        refine st25 _ ?_
        show Steps p.tables e below (T25.setTop (mkF m 31 #[.val (.int p1), .val (.int p2), .val (.int (p1 &&& (3 : Int32))), .unset, .unset, .unset, .unset] [(.ref b25)])) _
        refine XS.dup X25.here hx rfl (hb hby at_31) rfl rfl ?_
        show Steps p.tables e below (T25.setTop (mkF m 32 #[.val (.int p1), .val (.int p2), .val (.int (p1 &&& (3 : Int32))), .unset, .unset, .unset, .unset] [(.ref b25), (.ref b25)])) _
        refine XS.iconst X25.here hx rfl (hb hby at_32) ?_
        show Steps p.tables e below (T25.setTop (mkF m 33 #[.val (.int p1), .val (.int p2), .val (.int (p1 &&& (3 : Int32))), .unset, .unset, .unset, .unset] [(.int (0 : Int32)), (.ref b25), (.ref b25)])) _
        refine XS.iconst X25.here hx rfl (hb hby at_33) ?_
        show Steps p.tables e below (T25.setTop (mkF m 34 #[.val (.int p1), .val (.int p2), .val (.int (p1 &&& (3 : Int32))), .unset, .unset, .unset, .unset] [(.int (0 : Int32)), (.int (0 : Int32)), (.ref b25), (.ref b25)])) _
        refine st28 _ ?_
        show Steps p.tables e below (T28.setTop (mkF m 35 #[.val (.int p1), .val (.int p2), .val (.int (p1 &&& (3 : Int32))), .unset, .unset, .unset, .unset] [(.ref b25)])) _
        refine XS.dup X28.here hx rfl (hb hby at_35) rfl rfl ?_
        show Steps p.tables e below (T28.setTop (mkF m 36 #[.val (.int p1), .val (.int p2), .val (.int (p1 &&& (3 : Int32))), .unset, .unset, .unset, .unset] [(.ref b25), (.ref b25)])) _
        refine XS.iconst X28.here hx rfl (hb hby at_36) ?_
        show Steps p.tables e below (T28.setTop (mkF m 37 #[.val (.int p1), .val (.int p2), .val (.int (p1 &&& (3 : Int32))), .unset, .unset, .unset, .unset] [(.int (1 : Int32)), (.ref b25), (.ref b25)])) _
        refine XS.iconst X28.here hx rfl (hb hby at_37) ?_
        show Steps p.tables e below (T28.setTop (mkF m 38 #[.val (.int p1), .val (.int p2), .val (.int (p1 &&& (3 : Int32))), .unset, .unset, .unset, .unset] [(.int (1 : Int32)), (.int (1 : Int32)), (.ref b25), (.ref b25)])) _
        refine st32 _ ?_
        show Steps p.tables e below (T32.setTop (mkF m 39 #[.val (.int p1), .val (.int p2), .val (.int (p1 &&& (3 : Int32))), .unset, .unset, .unset, .unset] [(.ref b25)])) _
        refine XS.dup X32.here hx rfl (hb hby at_39) rfl rfl ?_
        show Steps p.tables e below (T32.setTop (mkF m 40 #[.val (.int p1), .val (.int p2), .val (.int (p1 &&& (3 : Int32))), .unset, .unset, .unset, .unset] [(.ref b25), (.ref b25)])) _
        refine XS.iconst X32.here hx rfl (hb hby at_40) ?_
        show Steps p.tables e below (T32.setTop (mkF m 41 #[.val (.int p1), .val (.int p2), .val (.int (p1 &&& (3 : Int32))), .unset, .unset, .unset, .unset] [(.int (2 : Int32)), (.ref b25), (.ref b25)])) _
        refine XS.iconst X32.here hx rfl (hb hby at_41) ?_
        show Steps p.tables e below (T32.setTop (mkF m 42 #[.val (.int p1), .val (.int p2), .val (.int (p1 &&& (3 : Int32))), .unset, .unset, .unset, .unset] [(.int (2 : Int32)), (.int (2 : Int32)), (.ref b25), (.ref b25)])) _
        refine st36 _ ?_
        show Steps p.tables e below (T36.setTop (mkF m 43 #[.val (.int p1), .val (.int p2), .val (.int (p1 &&& (3 : Int32))), .unset, .unset, .unset, .unset] [(.ref b25)])) _
        refine XS.dup X36.here hx rfl (hb hby at_43) rfl rfl ?_
        show Steps p.tables e below (T36.setTop (mkF m 44 #[.val (.int p1), .val (.int p2), .val (.int (p1 &&& (3 : Int32))), .unset, .unset, .unset, .unset] [(.ref b25), (.ref b25)])) _
        refine XS.iconst X36.here hx rfl (hb hby at_44) ?_
        show Steps p.tables e below (T36.setTop (mkF m 45 #[.val (.int p1), .val (.int p2), .val (.int (p1 &&& (3 : Int32))), .unset, .unset, .unset, .unset] [(.int (3 : Int32)), (.ref b25), (.ref b25)])) _
        refine XS.bipush X36.here hx rfl (hb hby at_45) ?_
        show Steps p.tables e below (T36.setTop (mkF m 47 #[.val (.int p1), .val (.int p2), .val (.int (p1 &&& (3 : Int32))), .unset, .unset, .unset, .unset] [(.int (48 : Int32)), (.int (3 : Int32)), (.ref b25), (.ref b25)])) _
        refine st40 _ ?_
        show Steps p.tables e below (T40.setTop (mkF m 48 #[.val (.int p1), .val (.int p2), .val (.int (p1 &&& (3 : Int32))), .unset, .unset, .unset, .unset] [(.ref b25)])) _
        refine XS.dup X40.here hx rfl (hb hby at_48) rfl rfl ?_
        show Steps p.tables e below (T40.setTop (mkF m 49 #[.val (.int p1), .val (.int p2), .val (.int (p1 &&& (3 : Int32))), .unset, .unset, .unset, .unset] [(.ref b25), (.ref b25)])) _
        refine XS.iconst X40.here hx rfl (hb hby at_49) ?_
        show Steps p.tables e below (T40.setTop (mkF m 50 #[.val (.int p1), .val (.int p2), .val (.int (p1 &&& (3 : Int32))), .unset, .unset, .unset, .unset] [(.int (4 : Int32)), (.ref b25), (.ref b25)])) _
        refine XS.bipush X40.here hx rfl (hb hby at_50) ?_
        show Steps p.tables e below (T40.setTop (mkF m 52 #[.val (.int p1), .val (.int p2), .val (.int (p1 &&& (3 : Int32))), .unset, .unset, .unset, .unset] [(.int (49 : Int32)), (.int (4 : Int32)), (.ref b25), (.ref b25)])) _
        refine st44 _ ?_
        show Steps p.tables e below (T44.setTop (mkF m 53 #[.val (.int p1), .val (.int p2), .val (.int (p1 &&& (3 : Int32))), .unset, .unset, .unset, .unset] [(.ref b25)])) _
        refine XS.dup X44.here hx rfl (hb hby at_53) rfl rfl ?_
        show Steps p.tables e below (T44.setTop (mkF m 54 #[.val (.int p1), .val (.int p2), .val (.int (p1 &&& (3 : Int32))), .unset, .unset, .unset, .unset] [(.ref b25), (.ref b25)])) _
        refine XS.iconst X44.here hx rfl (hb hby at_54) ?_
        show Steps p.tables e below (T44.setTop (mkF m 55 #[.val (.int p1), .val (.int p2), .val (.int (p1 &&& (3 : Int32))), .unset, .unset, .unset, .unset] [(.int (5 : Int32)), (.ref b25), (.ref b25)])) _
        refine XS.bipush X44.here hx rfl (hb hby at_55) ?_
        show Steps p.tables e below (T44.setTop (mkF m 57 #[.val (.int p1), .val (.int p2), .val (.int (p1 &&& (3 : Int32))), .unset, .unset, .unset, .unset] [(.int (50 : Int32)), (.int (5 : Int32)), (.ref b25), (.ref b25)])) _
        refine st48 _ ?_
        show Steps p.tables e below (T48.setTop (mkF m 58 #[.val (.int p1), .val (.int p2), .val (.int (p1 &&& (3 : Int32))), .unset, .unset, .unset, .unset] [(.ref b25)])) _
        refine XS.dup X48.here hx rfl (hb hby at_58) rfl rfl ?_
        show Steps p.tables e below (T48.setTop (mkF m 59 #[.val (.int p1), .val (.int p2), .val (.int (p1 &&& (3 : Int32))), .unset, .unset, .unset, .unset] [(.ref b25), (.ref b25)])) _
        refine XS.bipush X48.here hx rfl (hb hby at_59) ?_
        show Steps p.tables e below (T48.setTop (mkF m 61 #[.val (.int p1), .val (.int p2), .val (.int (p1 &&& (3 : Int32))), .unset, .unset, .unset, .unset] [(.int (6 : Int32)), (.ref b25), (.ref b25)])) _
        refine XS.bipush X48.here hx rfl (hb hby at_61) ?_
        show Steps p.tables e below (T48.setTop (mkF m 63 #[.val (.int p1), .val (.int p2), .val (.int (p1 &&& (3 : Int32))), .unset, .unset, .unset, .unset] [(.int (64 : Int32)), (.int (6 : Int32)), (.ref b25), (.ref b25)])) _
        refine st52 _ ?_
        show Steps p.tables e below (T52.setTop (mkF m 64 #[.val (.int p1), .val (.int p2), .val (.int (p1 &&& (3 : Int32))), .unset, .unset, .unset, .unset] [(.ref b25)])) _
        refine XS.dup X52.here hx rfl (hb hby at_64) rfl rfl ?_
        show Steps p.tables e below (T52.setTop (mkF m 65 #[.val (.int p1), .val (.int p2), .val (.int (p1 &&& (3 : Int32))), .unset, .unset, .unset, .unset] [(.ref b25), (.ref b25)])) _
        refine XS.bipush X52.here hx rfl (hb hby at_65) ?_
        show Steps p.tables e below (T52.setTop (mkF m 67 #[.val (.int p1), .val (.int p2), .val (.int (p1 &&& (3 : Int32))), .unset, .unset, .unset, .unset] [(.int (7 : Int32)), (.ref b25), (.ref b25)])) _
        refine XS.sipush X52.here hx rfl (hb hby at_67) ?_
        show Steps p.tables e below (T52.setTop (mkF m 70 #[.val (.int p1), .val (.int p2), .val (.int (p1 &&& (3 : Int32))), .unset, .unset, .unset, .unset] [(.int (128 : Int32)), (.int (7 : Int32)), (.ref b25), (.ref b25)])) _
        refine st56 _ ?_
        show Steps p.tables e below (T56.setTop (mkF m 71 #[.val (.int p1), .val (.int p2), .val (.int (p1 &&& (3 : Int32))), .unset, .unset, .unset, .unset] [(.ref b25)])) _
        refine XS.dup X56.here hx rfl (hb hby at_71) rfl rfl ?_
        show Steps p.tables e below (T56.setTop (mkF m 72 #[.val (.int p1), .val (.int p2), .val (.int (p1 &&& (3 : Int32))), .unset, .unset, .unset, .unset] [(.ref b25), (.ref b25)])) _
        refine XS.bipush X56.here hx rfl (hb hby at_72) ?_
        show Steps p.tables e below (T56.setTop (mkF m 74 #[.val (.int p1), .val (.int p2), .val (.int (p1 &&& (3 : Int32))), .unset, .unset, .unset, .unset] [(.int (8 : Int32)), (.ref b25), (.ref b25)])) _
        refine XS.sipush X56.here hx rfl (hb hby at_74) ?_
        show Steps p.tables e below (T56.setTop (mkF m 77 #[.val (.int p1), .val (.int p2), .val (.int (p1 &&& (3 : Int32))), .unset, .unset, .unset, .unset] [(.int (129 : Int32)), (.int (8 : Int32)), (.ref b25), (.ref b25)])) _
        refine st60 _ ?_
        show Steps p.tables e below (T60.setTop (mkF m 78 #[.val (.int p1), .val (.int p2), .val (.int (p1 &&& (3 : Int32))), .unset, .unset, .unset, .unset] [(.ref b25)])) _
        refine XS.astore X60.here hx rfl (hb hby at_78) rfl rfl (l' := #[.val (.int p1), .val (.int p2), .val (.int (p1 &&& (3 : Int32))), .unset, .val (.ref b25), .unset, .unset]) rfl ?_
        show Steps p.tables e below (T60.setTop (mkF m 80 #[.val (.int p1), .val (.int p2), .val (.int (p1 &&& (3 : Int32))), .unset, .val (.ref b25), .unset, .unset] [])) _
        refine XS.iloadN X60.here hx rfl (hb hby at_80) rfl ?_
        show Steps p.tables e below (T60.setTop (mkF m 81 #[.val (.int p1), .val (.int p2), .val (.int (p1 &&& (3 : Int32))), .unset, .val (.ref b25), .unset, .unset] [(.int p2)])) _
        refine X60.ldcInt hx hown (mvT hZ (hw _ (List.mem_of_getElem? (i := 35) rfl))) (g := (mkF m 81 #[.val (.int p1), .val (.int p2), .val (.int (p1 &&& (3 : Int32))), .unset, .val (.ref b25), .unset, .unset] [(.int p2)])) rfl (hb hby at_81) _ ?_
        show Steps p.tables e below (T60.setTop (mkF m 83 #[.val (.int p1), .val (.int p2), .val (.int (p1 &&& (3 : Int32))), .unset, .val (.ref b25), .unset, .unset] [(.int (2147483647 : Int32)), (.int p2)])) _
        refine XS.iand X60.here hx rfl (hb hby at_83) rfl ?_
        show Steps p.tables e below (T60.setTop (mkF m 84 #[.val (.int p1), .val (.int p2), .val (.int (p1 &&& (3 : Int32))), .unset, .val (.ref b25), .unset, .unset] [(.int (p2 &&& (2147483647 : Int32)))])) _
        refine XS.bipush X60.here hx rfl (hb hby at_84) ?_
        show Steps p.tables e below (T60.setTop (mkF m 86 #[.val (.int p1), .val (.int p2), .val (.int (p1 &&& (3 : Int32))), .unset, .val (.ref b25), .unset, .unset] [(.int (9 : Int32)), (.int (p2 &&& (2147483647 : Int32)))])) _
        refine iremM (g := (mkF m 86 #[.val (.int p1), .val (.int p2), .val (.int (p1 &&& (3 : Int32))), .unset, .val (.ref b25), .unset, .unset] [(.int (9 : Int32)), (.int (p2 &&& (2147483647 : Int32)))])) X60 hx rfl (hb hby at_86) rfl (by decide) ?_
        show Steps p.tables e below (T60.setTop (mkF m 87 #[.val (.int p1), .val (.int p2), .val (.int (p1 &&& (3 : Int32))), .unset, .val (.ref b25), .unset, .unset] [(.int ((p2 &&& (2147483647 : Int32)) % (9 : Int32)))])) _
        refine XS.istore X60.here hx rfl (hb hby at_87) rfl (l' := #[.val (.int p1), .val (.int p2), .val (.int (p1 &&& (3 : Int32))), .unset, .val (.ref b25), .val (.int ((p2 &&& (2147483647 : Int32)) % (9 : Int32))), .unset]) rfl ?_
        show Steps p.tables e below (T60.setTop (mkF m 89 #[.val (.int p1), .val (.int p2), .val (.int (p1 &&& (3 : Int32))), .unset, .val (.ref b25), .val (.int ((p2 &&& (2147483647 : Int32)) % (9 : Int32))), .unset] [])) _
        refine XS.iloadN X60.here hx rfl (hb hby at_89) rfl ?_
        show Steps p.tables e below (T60.setTop (mkF m 90 #[.val (.int p1), .val (.int p2), .val (.int (p1 &&& (3 : Int32))), .unset, .val (.ref b25), .val (.int ((p2 &&& (2147483647 : Int32)) % (9 : Int32))), .unset] [(.int p1)])) _
        refine XS.iconst X60.here hx rfl (hb hby at_90) ?_
        show Steps p.tables e below (T60.setTop (mkF m 91 #[.val (.int p1), .val (.int p2), .val (.int (p1 &&& (3 : Int32))), .unset, .val (.ref b25), .val (.int ((p2 &&& (2147483647 : Int32)) % (9 : Int32))), .unset] [(.int (2 : Int32)), (.int p1)])) _
        refine XS.ishr X60.here hx rfl (hb hby at_91) rfl ?_
        show Steps p.tables e below (T60.setTop (mkF m 92 #[.val (.int p1), .val (.int p2), .val (.int (p1 &&& (3 : Int32))), .unset, .val (.ref b25), .val (.int ((p2 &&& (2147483647 : Int32)) % (9 : Int32))), .unset] [(.int (p1 >>> ((2 : Int32) &&& 31)))])) _
        refine XS.iconst X60.here hx rfl (hb hby at_92) ?_
        show Steps p.tables e below (T60.setTop (mkF m 93 #[.val (.int p1), .val (.int p2), .val (.int (p1 &&& (3 : Int32))), .unset, .val (.ref b25), .val (.int ((p2 &&& (2147483647 : Int32)) % (9 : Int32))), .unset] [(.int (2 : Int32)), (.int (p1 >>> ((2 : Int32) &&& 31)))])) _
        refine iremM (g := (mkF m 93 #[.val (.int p1), .val (.int p2), .val (.int (p1 &&& (3 : Int32))), .unset, .val (.ref b25), .val (.int ((p2 &&& (2147483647 : Int32)) % (9 : Int32))), .unset] [(.int (2 : Int32)), (.int (p1 >>> ((2 : Int32) &&& 31)))])) X60 hx rfl (hb hby at_93) rfl (by decide) ?_
        show Steps p.tables e below (T60.setTop (mkF m 94 #[.val (.int p1), .val (.int p2), .val (.int (p1 &&& (3 : Int32))), .unset, .val (.ref b25), .val (.int ((p2 &&& (2147483647 : Int32)) % (9 : Int32))), .unset] [(.int ((p1 >>> ((2 : Int32) &&& 31)) % (2 : Int32)))])) _
        refine XS.istore X60.here hx rfl (hb hby at_94) rfl (l' := #[.val (.int p1), .val (.int p2), .val (.int (p1 &&& (3 : Int32))), .unset, .val (.ref b25), .val (.int ((p2 &&& (2147483647 : Int32)) % (9 : Int32))), .val (.int ((p1 >>> ((2 : Int32) &&& 31)) % (2 : Int32)))]) rfl ?_
        show Steps p.tables e below (T60.setTop (mkF m 96 #[.val (.int p1), .val (.int p2), .val (.int (p1 &&& (3 : Int32))), .unset, .val (.ref b25), .val (.int ((p2 &&& (2147483647 : Int32)) % (9 : Int32))), .val (.int ((p1 >>> ((2 : Int32) &&& 31)) % (2 : Int32)))] [])) _
        refine XS.aload X60.here hx rfl (hb hby at_96) rfl rfl ?_
        show Steps p.tables e below (T60.setTop (mkF m 98 #[.val (.int p1), .val (.int p2), .val (.int (p1 &&& (3 : Int32))), .unset, .val (.ref b25), .val (.int ((p2 &&& (2147483647 : Int32)) % (9 : Int32))), .val (.int ((p1 >>> ((2 : Int32) &&& 31)) % (2 : Int32)))] [(.ref b25)])) _
        refine XS.iload X60.here hx rfl (hb hby at_98) rfl ?_
        show Steps p.tables e below (T60.setTop (mkF m 100 #[.val (.int p1), .val (.int p2), .val (.int (p1 &&& (3 : Int32))), .unset, .val (.ref b25), .val (.int ((p2 &&& (2147483647 : Int32)) % (9 : Int32))), .val (.int ((p1 >>> ((2 : Int32) &&& 31)) % (2 : Int32)))] [(.int ((p2 &&& (2147483647 : Int32)) % (9 : Int32))), (.ref b25)])) _
        refine X60.iaload hx (j := ((p2 &&& (2147483647 : Int32)) % (9 : Int32))) (v := (.int z)) (by rw [e60]; exact Ac63.1) (State.isArrayOf_alike hZ.alike Ac63.2.1) Ac63.2.2 hinc63 (Has.at Hc63 hinc63 hz) (g := (mkF m 100 #[.val (.int p1), .val (.int p2), .val (.int (p1 &&& (3 : Int32))), .unset, .val (.ref b25), .val (.int ((p2 &&& (2147483647 : Int32)) % (9 : Int32))), .val (.int ((p1 >>> ((2 : Int32) &&& 31)) % (2 : Int32)))] [(.int ((p2 &&& (2147483647 : Int32)) % (9 : Int32))), (.ref b25)])) rfl rfl (hb hby at_100) _ ?_
        show Steps p.tables e below (T60.setTop (mkF m 101 #[.val (.int p1), .val (.int p2), .val (.int (p1 &&& (3 : Int32))), .unset, .val (.ref b25), .val (.int ((p2 &&& (2147483647 : Int32)) % (9 : Int32))), .val (.int ((p1 >>> ((2 : Int32) &&& 31)) % (2 : Int32)))] [(.int z)])) _
        refine XS.iload X60.here hx rfl (hb hby at_101) rfl ?_
        show Steps p.tables e below (T60.setTop (mkF m 103 #[.val (.int p1), .val (.int p2), .val (.int (p1 &&& (3 : Int32))), .unset, .val (.ref b25), .val (.int ((p2 &&& (2147483647 : Int32)) % (9 : Int32))), .val (.int ((p1 >>> ((2 : Int32) &&& 31)) % (2 : Int32)))] [(.int ((p1 >>> ((2 : Int32) &&& 31)) % (2 : Int32))), (.int z)])) _
        refine XS.iadd X60.here hx rfl (hb hby at_103) rfl ?_
        show Steps p.tables e below (T60.setTop (mkF m 104 #[.val (.int p1), .val (.int p2), .val (.int (p1 &&& (3 : Int32))), .unset, .val (.ref b25), .val (.int ((p2 &&& (2147483647 : Int32)) % (9 : Int32))), .val (.int ((p1 >>> ((2 : Int32) &&& 31)) % (2 : Int32)))] [(.int (z + ((p1 >>> ((2 : Int32) &&& 31)) % (2 : Int32))))])) _
        refine XS.istoreN X60.here hx rfl (hb hby at_104) rfl (l' := #[.val (.int p1), .val (.int p2), .val (.int (p1 &&& (3 : Int32))), .val (.int (z + ((p1 >>> ((2 : Int32) &&& 31)) % (2 : Int32)))), .val (.ref b25), .val (.int ((p2 &&& (2147483647 : Int32)) % (9 : Int32))), .val (.int ((p1 >>> ((2 : Int32) &&& 31)) % (2 : Int32)))]) rfl ?_
        show Steps p.tables e below (T60.setTop (mkF m 105 #[.val (.int p1), .val (.int p2), .val (.int (p1 &&& (3 : Int32))), .val (.int (z + ((p1 >>> ((2 : Int32) &&& 31)) % (2 : Int32)))), .val (.ref b25), .val (.int ((p2 &&& (2147483647 : Int32)) % (9 : Int32))), .val (.int ((p1 >>> ((2 : Int32) &&& 31)) % (2 : Int32)))] [])) _
        refine XS.iloadN X60.here hx rfl (hb hby at_105) rfl ?_
        show Steps p.tables e below (T60.setTop (mkF m 106 #[.val (.int p1), .val (.int p2), .val (.int (p1 &&& (3 : Int32))), .val (.int (z + ((p1 >>> ((2 : Int32) &&& 31)) % (2 : Int32)))), .val (.ref b25), .val (.int ((p2 &&& (2147483647 : Int32)) % (9 : Int32))), .val (.int ((p1 >>> ((2 : Int32) &&& 31)) % (2 : Int32)))] [(.int (z + ((p1 >>> ((2 : Int32) &&& 31)) % (2 : Int32))))])) _
        refine st75 _ ?_
        show Steps p.tables e below (T75.setTop (mkF m 109 #[.val (.int p1), .val (.int p2), .val (.int (p1 &&& (3 : Int32))), .val (.int (z + ((p1 >>> ((2 : Int32) &&& 31)) % (2 : Int32)))), .val (.ref b25), .val (.int ((p2 &&& (2147483647 : Int32)) % (9 : Int32))), .val (.int ((p1 >>> ((2 : Int32) &&& 31)) % (2 : Int32)))] [(own_for (z + ((p1 >>> ((2 : Int32) &&& 31)) % (2 : Int32))) w_PING w_PONG w_BYE w_ROUTE_TABLE_UPDATE w_VENDOR w_STANDARD_VENDOR w_PUSH w_QUERY w_QUERY_HIT)])) _
        refine XS.astoreS X75.here hx rfl (hb hby at_109) rfl (own_forR _ _ _ _ _ _ _ _ _ _) (Jvm.Free.XT.cat1 (own_forR _ _ _ _ _ _ _ _ _ _)) rfl (Or.inr ⟨_, rfl, rfl⟩) ?_
        show Steps p.tables e below (T75.setTop (mkF m 111 #[.val (.int p1), .val (.int p2), .val (.int (p1 &&& (3 : Int32))), .val (.int (z + ((p1 >>> ((2 : Int32) &&& 31)) % (2 : Int32)))), .val (own_for (z + ((p1 >>> ((2 : Int32) &&& 31)) % (2 : Int32))) w_PING w_PONG w_BYE w_ROUTE_TABLE_UPDATE w_VENDOR w_STANDARD_VENDOR w_PUSH w_QUERY w_QUERY_HIT), .val (.int ((p2 &&& (2147483647 : Int32)) % (9 : Int32))), .val (.int ((p1 >>> ((2 : Int32) &&& 31)) % (2 : Int32)))] [])) _
        refine XS.aload X75.here hx rfl (hb hby at_111) rfl (own_forR _ _ _ _ _ _ _ _ _ _) ?_
        show Steps p.tables e below (T75.setTop (mkF m 113 #[.val (.int p1), .val (.int p2), .val (.int (p1 &&& (3 : Int32))), .val (.int (z + ((p1 >>> ((2 : Int32) &&& 31)) % (2 : Int32)))), .val (own_for (z + ((p1 >>> ((2 : Int32) &&& 31)) % (2 : Int32))) w_PING w_PONG w_BYE w_ROUTE_TABLE_UPDATE w_VENDOR w_STANDARD_VENDOR w_PUSH w_QUERY w_QUERY_HIT), .val (.int ((p2 &&& (2147483647 : Int32)) % (9 : Int32))), .val (.int ((p1 >>> ((2 : Int32) &&& 31)) % (2 : Int32)))] [(own_for (z + ((p1 >>> ((2 : Int32) &&& 31)) % (2 : Int32))) w_PING w_PONG w_BYE w_ROUTE_TABLE_UPDATE w_VENDOR w_STANDARD_VENDOR w_PUSH w_QUERY w_QUERY_HIT)])) _
        refine XS.iloadN X75.here hx rfl (hb hby at_113) rfl ?_
        show Steps p.tables e below (T75.setTop (mkF m 114 #[.val (.int p1), .val (.int p2), .val (.int (p1 &&& (3 : Int32))), .val (.int (z + ((p1 >>> ((2 : Int32) &&& 31)) % (2 : Int32)))), .val (own_for (z + ((p1 >>> ((2 : Int32) &&& 31)) % (2 : Int32))) w_PING w_PONG w_BYE w_ROUTE_TABLE_UPDATE w_VENDOR w_STANDARD_VENDOR w_PUSH w_QUERY w_QUERY_HIT), .val (.int ((p2 &&& (2147483647 : Int32)) % (9 : Int32))), .val (.int ((p1 >>> ((2 : Int32) &&& 31)) % (2 : Int32)))] [(.int (z + ((p1 >>> ((2 : Int32) &&& 31)) % (2 : Int32)))), (own_for (z + ((p1 >>> ((2 : Int32) &&& 31)) % (2 : Int32))) w_PING w_PONG w_BYE w_ROUTE_TABLE_UPDATE w_VENDOR w_STANDARD_VENDOR w_PUSH w_QUERY w_QUERY_HIT)])) _
        refine st85 _ ?_
        show Steps p.tables e below (T85.setTop (mkF m 117 #[.val (.int p1), .val (.int p2), .val (.int (p1 &&& (3 : Int32))), .val (.int (z + ((p1 >>> ((2 : Int32) &&& 31)) % (2 : Int32)))), .val (own_for (z + ((p1 >>> ((2 : Int32) &&& 31)) % (2 : Int32))) w_PING w_PONG w_BYE w_ROUTE_TABLE_UPDATE w_VENDOR w_STANDARD_VENDOR w_PUSH w_QUERY w_QUERY_HIT), .val (.int ((p2 &&& (2147483647 : Int32)) % (9 : Int32))), .val (.int ((p1 >>> ((2 : Int32) &&& 31)) % (2 : Int32)))] [(own_for (z + ((p1 >>> ((2 : Int32) &&& 31)) % (2 : Int32))) w_PING w_PONG w_BYE w_ROUTE_TABLE_UPDATE w_VENDOR w_STANDARD_VENDOR w_PUSH w_QUERY w_QUERY_HIT), (own_for (z + ((p1 >>> ((2 : Int32) &&& 31)) % (2 : Int32))) w_PING w_PONG w_BYE w_ROUTE_TABLE_UPDATE w_VENDOR w_STANDARD_VENDOR w_PUSH w_QUERY w_QUERY_HIT)])) _
        refine Jvm.RoadKit.acmp (g := (mkF m 117 #[.val (.int p1), .val (.int p2), .val (.int (p1 &&& (3 : Int32))), .val (.int (z + ((p1 >>> ((2 : Int32) &&& 31)) % (2 : Int32)))), .val (own_for (z + ((p1 >>> ((2 : Int32) &&& 31)) % (2 : Int32))) w_PING w_PONG w_BYE w_ROUTE_TABLE_UPDATE w_VENDOR w_STANDARD_VENDOR w_PUSH w_QUERY w_QUERY_HIT), .val (.int ((p2 &&& (2147483647 : Int32)) % (9 : Int32))), .val (.int ((p1 >>> ((2 : Int32) &&& 31)) % (2 : Int32)))] [(own_for (z + ((p1 >>> ((2 : Int32) &&& 31)) % (2 : Int32))) w_PING w_PONG w_BYE w_ROUTE_TABLE_UPDATE w_VENDOR w_STANDARD_VENDOR w_PUSH w_QUERY w_QUERY_HIT), (own_for (z + ((p1 >>> ((2 : Int32) &&& 31)) % (2 : Int32))) w_PING w_PONG w_BYE w_ROUTE_TABLE_UPDATE w_VENDOR w_STANDARD_VENDOR w_PUSH w_QUERY w_QUERY_HIT)])) X85 hx rfl (own_forR _ _ _ _ _ _ _ _ _ _) (own_forR _ _ _ _ _ _ _ _ _ _) (pc0 := 117) (pc' := 120) (same := true) rfl (hb hby at_117) rfl (decide_eq_true rfl) (by decide) (by decide) ?_
        show Steps p.tables e below (T85.setTop (mkF m 120 #[.val (.int p1), .val (.int p2), .val (.int (p1 &&& (3 : Int32))), .val (.int (z + ((p1 >>> ((2 : Int32) &&& 31)) % (2 : Int32)))), .val (own_for (z + ((p1 >>> ((2 : Int32) &&& 31)) % (2 : Int32))) w_PING w_PONG w_BYE w_ROUTE_TABLE_UPDATE w_VENDOR w_STANDARD_VENDOR w_PUSH w_QUERY w_QUERY_HIT), .val (.int ((p2 &&& (2147483647 : Int32)) % (9 : Int32))), .val (.int ((p1 >>> ((2 : Int32) &&& 31)) % (2 : Int32)))] [])) _
        refine XS.iconst X85.here hx rfl (hb hby at_120) ?_
        show Steps p.tables e below (T85.setTop (mkF m 121 #[.val (.int p1), .val (.int p2), .val (.int (p1 &&& (3 : Int32))), .val (.int (z + ((p1 >>> ((2 : Int32) &&& 31)) % (2 : Int32)))), .val (own_for (z + ((p1 >>> ((2 : Int32) &&& 31)) % (2 : Int32))) w_PING w_PONG w_BYE w_ROUTE_TABLE_UPDATE w_VENDOR w_STANDARD_VENDOR w_PUSH w_QUERY w_QUERY_HIT), .val (.int ((p2 &&& (2147483647 : Int32)) % (9 : Int32))), .val (.int ((p1 >>> ((2 : Int32) &&& 31)) % (2 : Int32)))] [(.int (1 : Int32))])) _
        refine XS.goto X85.here hx rfl (pc0 := 121) (pc' := 125) rfl (hb hby at_121) (by decide) (by decide) ?_
        show Steps p.tables e below (T85.setTop (mkF m 125 #[.val (.int p1), .val (.int p2), .val (.int (p1 &&& (3 : Int32))), .val (.int (z + ((p1 >>> ((2 : Int32) &&& 31)) % (2 : Int32)))), .val (own_for (z + ((p1 >>> ((2 : Int32) &&& 31)) % (2 : Int32))) w_PING w_PONG w_BYE w_ROUTE_TABLE_UPDATE w_VENDOR w_STANDARD_VENDOR w_PUSH w_QUERY w_QUERY_HIT), .val (.int ((p2 &&& (2147483647 : Int32)) % (9 : Int32))), .val (.int ((p1 >>> ((2 : Int32) &&& 31)) % (2 : Int32)))] [(.int (1 : Int32))])) _
        exact retN X85 hx (t := .boolean) Bd.returns (by simp) (hb hby at_125) hr
      · show Q_rm0 Z p1 p2 wV cl w_PING w_PONG w_BYE w_ROUTE_TABLE_UPDATE w_VENDOR w_STANDARD_VENDOR w_PUSH w_QUERY w_QUERY_HIT h0 n0 _ T85.heap _
        rw [e85]
        exact ⟨rfl, N85⟩
theorem own_len {s : State} {args : Array Value} {t : Term} {k : Int32} {n : Nat} {a : Addr} {cl : Cell} (ev : t.eval args s none [] s = some (.ref a)) (hA : s.arrayAt? a = some cl) (h : (Jvm.Cond.eq (Term.length t) (Term.int k)).value args s none s [] = some true) (hk : k.toNatClampNeg = n := by decide) (hk0 : ¬ k < 0 := by decide) : cl.slots.size = n := by
  obtain ⟨x, y, hx, hy, K1, K2⟩ := cmp_v (Or.inl h)
  cases (Term.int_eval k).symm.trans hy
  obtain ⟨z, rfl⟩ := K2
  have q := gotT (Cond.eq_ints hx hy) h
  subst q
  simp only [Term.eval, ev, hA, Option.bind_eq_bind, Option.bind_some] at hx
  split at hx
  · rename_i hl
    have e := Value.int.inj (Option.some.inj hx)
    have e2 : cl.slots.size.toInt32.toInt = cl.slots.size := len_toInt hl
    rw [e] at e2
    rw [← hk]; show _ = z.toInt.toNat; omega
  · cases hx
theorem own_el {s : State} {args : Array Value} {t u : Term} {k : Int32} {a b : Addr} {cl : Cell} (ev : t.eval args s none [] s = some (.ref a)) (eu : u.eval args s none [] s = some (.ref b)) (hA : s.arrayAt? a = some cl) (h : (Jvm.Cond.eq (Term.elem t (Term.int k)) u).value args s none s [] = some true) {n : Nat} (hk : k.toNatClampNeg = n := by decide) (hk0 : ¬ k < 0 := by decide) : cl.slots[n]? = some (.ref b) := by
  obtain ⟨x, y, hx, hy, K1, K2⟩ := cmp_v (Or.inl h)
  cases eu.symm.trans hy
  have e := elem_f ev (Term.int_eval k) hA hk0
  have hr : x.isRef = true := K2.2
  have q := gotT (eq_R hx hy hr rfl) h
  subst q
  rw [e, hk] at hx
  exact hx
set_option maxRecDepth 65536 in
set_option maxHeartbeats 40000000 in
theorem comes_1 {Post : Tables → Env → Array Value → State → Outcome → State → Prop} (hpost : ∀ tb e args s v u, (limb_1_1.after args s (.returned v) u = true ∧ limb_1_2.after args s (.returned v) u = true ∧ True) → FrameEnd s (.returned v) u (Jvm.fieldLocs frame_1_writes args s ++ Jvm.arrayLocs frame_1_arrays args s ++ Jvm.staticLocs frame_1_statics s) 16 128 → Post tb e args s (.returned v) u) :
    ArmFor flags0 classFile x code maxLocals ret World_1 tables_1 room_1 Calls_1 rest_1 Pre_1 Post := by
  intro l hfl _ _ p e ha hc hk s m args below hf hA hF happ hP
  obtain ⟨hcalls, hrest, hpre⟩ := hP
  obtain ⟨-, -, -, hnamed, -, -, -, hat⟩ := (Spec.applies_iff hf).mp happ
  obtain ⟨hg, hn⟩ := and_e (Cond.before_iff.mp (show (Jvm.Cond.and given_1 narrow_1).before args s = true from hpre))
  obtain ⟨gc, gr0⟩ := and_e hg
  obtain ⟨ga0, gr1⟩ := and_e gr0
  obtain ⟨w0, w1, rfl⟩ : ∃ w0 w1 : Value, args = #[w0, w1] := by
    have hs : args.size = 2 := by simpa [Cond.value, given_1] using gc
    obtain ⟨L⟩ := args
    match L, hs with
    | [w0, w1], _ => exact ⟨w0, w1, rfl⟩
  have hw := fun d (hd : d ∈ tables_1) => atoms_spec (ws := Jvm.Cond.code x code maxLocals ret :: tables_1) hat d (List.mem_cons_of_mem _ hd)
  have hfit : Fit s := fun {y c} hc i hi => by
    obtain ⟨ha, rfl⟩ := Array.getElem?_eq_some_iff.mp hc
    have q := List.all_eq_true.mp ((Array.all_eq_true_iff_forall_mem.mp hF) _ (Array.getElem_mem ha)) i (List.mem_range.mpr hi)
    simpa [Array.getElem?_eq_getElem hi] using q
  obtain ⟨i0, ei0⟩ := is_v ga0
  obtain rfl : w0 = (.int i0) := Option.some.inj ei0
  obtain ⟨i1, ei1⟩ := is_v gr1
  obtain rfl : w1 = (.int i1) := Option.some.inj ei1
  obtain ⟨c0, hn0⟩ := and_e hn
  obtain ⟨c1, hn1⟩ := and_e hn0
  obtain ⟨c2, hn2⟩ := and_e hn1
  obtain ⟨c3, hn3⟩ := and_e hn2
  obtain ⟨c4, hn4⟩ := and_e hn3
  obtain ⟨c5, hn5⟩ := and_e hn4
  obtain ⟨c6, hn6⟩ := and_e hn5
  obtain ⟨c7, hn7⟩ := and_e hn6
  obtain ⟨c8, hn8⟩ := and_e hn7
  obtain ⟨c9, hn9⟩ := and_e hn8
  obtain ⟨c10, hn10⟩ := and_e hn9
  obtain ⟨c11, hn11⟩ := and_e hn10
  obtain ⟨c12, hn12⟩ := and_e hn11
  obtain ⟨c13, hn13⟩ := and_e hn12
  obtain ⟨c14, hn14⟩ := and_e hn13
  obtain ⟨c15, hn15⟩ := and_e hn14
  obtain ⟨c16, hn16⟩ := and_e hn15
  obtain ⟨c17, hn17⟩ := and_e hn16
  obtain ⟨c18, hn18⟩ := and_e hn17
  obtain ⟨c19, hn19⟩ := and_e hn18
  obtain ⟨c20, hn20⟩ := and_e hn19
  obtain ⟨c21, hn21⟩ := and_e hn20
  obtain ⟨c22, hn22⟩ := and_e hn21
  obtain ⟨c23, hn23⟩ := and_e hn22
  obtain ⟨c24, hn24⟩ := and_e hn23
  obtain ⟨c25, hn25⟩ := and_e hn24
  obtain ⟨c26, hn26⟩ := and_e hn25
  obtain ⟨c27, hn27⟩ := and_e hn26
  obtain ⟨c28, hn28⟩ := and_e hn27
  have c29 := hn28
  obtain ⟨w_VALUES, ev_VALUES⟩ := exa_v c1
  have S_VALUES : Sta s s.heap "com/example/hearsay/hearsay/core/MessageType" "$VALUES" "[Lcom/example/hearsay/hearsay/core/MessageType;" (.ref w_VALUES) := Sta.start ev_VALUES (Or.inr ⟨(hw _ (List.mem_of_getElem? (i := 2) rfl)), (hw _ (List.mem_of_getElem? (i := 8) rfl))⟩)
  have E_VALUES : Exa s s.heap w_VALUES "[Lcom/example/hearsay/hearsay/core/MessageType;" := Exa.start ev_VALUES c1
  obtain ⟨w_PING, ev_PING⟩ := exa_v c3
  have S_PING : Sta s s.heap "com/example/hearsay/hearsay/core/MessageType" "PING" "Lcom/example/hearsay/hearsay/core/MessageType;" (.ref w_PING) := Sta.start ev_PING (Or.inr ⟨(hw _ (List.mem_of_getElem? (i := 2) rfl)), (hw _ (List.mem_of_getElem? (i := 16) rfl))⟩)
  have E_PING : Exa s s.heap w_PING "com/example/hearsay/hearsay/core/MessageType" := Exa.start ev_PING c3
  obtain ⟨w_PONG, ev_PONG⟩ := exa_v c5
  have S_PONG : Sta s s.heap "com/example/hearsay/hearsay/core/MessageType" "PONG" "Lcom/example/hearsay/hearsay/core/MessageType;" (.ref w_PONG) := Sta.start ev_PONG (Or.inr ⟨(hw _ (List.mem_of_getElem? (i := 2) rfl)), (hw _ (List.mem_of_getElem? (i := 17) rfl))⟩)
  have E_PONG : Exa s s.heap w_PONG "com/example/hearsay/hearsay/core/MessageType" := Exa.start ev_PONG c5
  obtain ⟨w_BYE, ev_BYE⟩ := exa_v c7
  have S_BYE : Sta s s.heap "com/example/hearsay/hearsay/core/MessageType" "BYE" "Lcom/example/hearsay/hearsay/core/MessageType;" (.ref w_BYE) := Sta.start ev_BYE (Or.inr ⟨(hw _ (List.mem_of_getElem? (i := 2) rfl)), (hw _ (List.mem_of_getElem? (i := 18) rfl))⟩)
  have E_BYE : Exa s s.heap w_BYE "com/example/hearsay/hearsay/core/MessageType" := Exa.start ev_BYE c7
  obtain ⟨w_ROUTE_TABLE_UPDATE, ev_ROUTE_TABLE_UPDATE⟩ := exa_v c9
  have S_ROUTE_TABLE_UPDATE : Sta s s.heap "com/example/hearsay/hearsay/core/MessageType" "ROUTE_TABLE_UPDATE" "Lcom/example/hearsay/hearsay/core/MessageType;" (.ref w_ROUTE_TABLE_UPDATE) := Sta.start ev_ROUTE_TABLE_UPDATE (Or.inr ⟨(hw _ (List.mem_of_getElem? (i := 2) rfl)), (hw _ (List.mem_of_getElem? (i := 19) rfl))⟩)
  have E_ROUTE_TABLE_UPDATE : Exa s s.heap w_ROUTE_TABLE_UPDATE "com/example/hearsay/hearsay/core/MessageType" := Exa.start ev_ROUTE_TABLE_UPDATE c9
  obtain ⟨w_VENDOR, ev_VENDOR⟩ := exa_v c11
  have S_VENDOR : Sta s s.heap "com/example/hearsay/hearsay/core/MessageType" "VENDOR" "Lcom/example/hearsay/hearsay/core/MessageType;" (.ref w_VENDOR) := Sta.start ev_VENDOR (Or.inr ⟨(hw _ (List.mem_of_getElem? (i := 2) rfl)), (hw _ (List.mem_of_getElem? (i := 20) rfl))⟩)
  have E_VENDOR : Exa s s.heap w_VENDOR "com/example/hearsay/hearsay/core/MessageType" := Exa.start ev_VENDOR c11
  obtain ⟨w_STANDARD_VENDOR, ev_STANDARD_VENDOR⟩ := exa_v c13
  have S_STANDARD_VENDOR : Sta s s.heap "com/example/hearsay/hearsay/core/MessageType" "STANDARD_VENDOR" "Lcom/example/hearsay/hearsay/core/MessageType;" (.ref w_STANDARD_VENDOR) := Sta.start ev_STANDARD_VENDOR (Or.inr ⟨(hw _ (List.mem_of_getElem? (i := 2) rfl)), (hw _ (List.mem_of_getElem? (i := 21) rfl))⟩)
  have E_STANDARD_VENDOR : Exa s s.heap w_STANDARD_VENDOR "com/example/hearsay/hearsay/core/MessageType" := Exa.start ev_STANDARD_VENDOR c13
  obtain ⟨w_PUSH, ev_PUSH⟩ := exa_v c15
  have S_PUSH : Sta s s.heap "com/example/hearsay/hearsay/core/MessageType" "PUSH" "Lcom/example/hearsay/hearsay/core/MessageType;" (.ref w_PUSH) := Sta.start ev_PUSH (Or.inr ⟨(hw _ (List.mem_of_getElem? (i := 2) rfl)), (hw _ (List.mem_of_getElem? (i := 22) rfl))⟩)
  have E_PUSH : Exa s s.heap w_PUSH "com/example/hearsay/hearsay/core/MessageType" := Exa.start ev_PUSH c15
  obtain ⟨w_QUERY, ev_QUERY⟩ := exa_v c17
  have S_QUERY : Sta s s.heap "com/example/hearsay/hearsay/core/MessageType" "QUERY" "Lcom/example/hearsay/hearsay/core/MessageType;" (.ref w_QUERY) := Sta.start ev_QUERY (Or.inr ⟨(hw _ (List.mem_of_getElem? (i := 2) rfl)), (hw _ (List.mem_of_getElem? (i := 23) rfl))⟩)
  have E_QUERY : Exa s s.heap w_QUERY "com/example/hearsay/hearsay/core/MessageType" := Exa.start ev_QUERY c17
  obtain ⟨w_QUERY_HIT, ev_QUERY_HIT⟩ := exa_v c19
  have S_QUERY_HIT : Sta s s.heap "com/example/hearsay/hearsay/core/MessageType" "QUERY_HIT" "Lcom/example/hearsay/hearsay/core/MessageType;" (.ref w_QUERY_HIT) := Sta.start ev_QUERY_HIT (Or.inr ⟨(hw _ (List.mem_of_getElem? (i := 2) rfl)), (hw _ (List.mem_of_getElem? (i := 24) rfl))⟩)
  have E_QUERY_HIT : Exa s s.heap w_QUERY_HIT "com/example/hearsay/hearsay/core/MessageType" := Exa.start ev_QUERY_HIT c19
  have F_code_PING : Fld s s.heap w_PING "com/example/hearsay/hearsay/core/MessageType" "code" "I" (.int (0 : Int32)) := own_fldI ev_PING c21
  have F_code_PONG : Fld s s.heap w_PONG "com/example/hearsay/hearsay/core/MessageType" "code" "I" (.int (1 : Int32)) := own_fldI ev_PONG c22
  have F_code_BYE : Fld s s.heap w_BYE "com/example/hearsay/hearsay/core/MessageType" "code" "I" (.int (2 : Int32)) := own_fldI ev_BYE c23
  have F_code_ROUTE_TABLE_UPDATE : Fld s s.heap w_ROUTE_TABLE_UPDATE "com/example/hearsay/hearsay/core/MessageType" "code" "I" (.int (48 : Int32)) := own_fldI ev_ROUTE_TABLE_UPDATE c24
  have F_code_VENDOR : Fld s s.heap w_VENDOR "com/example/hearsay/hearsay/core/MessageType" "code" "I" (.int (49 : Int32)) := own_fldI ev_VENDOR c25
  have F_code_STANDARD_VENDOR : Fld s s.heap w_STANDARD_VENDOR "com/example/hearsay/hearsay/core/MessageType" "code" "I" (.int (50 : Int32)) := own_fldI ev_STANDARD_VENDOR c26
  have F_code_PUSH : Fld s s.heap w_PUSH "com/example/hearsay/hearsay/core/MessageType" "code" "I" (.int (64 : Int32)) := own_fldI ev_PUSH c27
  have F_code_QUERY : Fld s s.heap w_QUERY "com/example/hearsay/hearsay/core/MessageType" "code" "I" (.int (128 : Int32)) := own_fldI ev_QUERY c28
  have F_code_QUERY_HIT : Fld s s.heap w_QUERY_HIT "com/example/hearsay/hearsay/core/MessageType" "code" "I" (.int (129 : Int32)) := own_fldI ev_QUERY_HIT c29
  obtain ⟨cl, A_V⟩ := Arr.start ev_VALUES c0
  have at_V := A_V.fin (Vm.Alike.refl _)
  have sz_V : cl.slots.size = 9 := own_len ev_VALUES at_V c2
  have sl_V : cl.slots = #[(.ref w_PING), (.ref w_PONG), (.ref w_BYE), (.ref w_ROUTE_TABLE_UPDATE), (.ref w_VENDOR), (.ref w_STANDARD_VENDOR), (.ref w_PUSH), (.ref w_QUERY), (.ref w_QUERY_HIT)] := own_arr9 sz_V (own_el ev_VALUES ev_PING at_V c4) (own_el ev_VALUES ev_PONG at_V c6) (own_el ev_VALUES ev_BYE at_V c8) (own_el ev_VALUES ev_ROUTE_TABLE_UPDATE at_V c10) (own_el ev_VALUES ev_VENDOR at_V c12) (own_el ev_VALUES ev_STANDARD_VENDOR at_V c14) (own_el ev_VALUES ev_PUSH at_V c16) (own_el ev_VALUES ev_QUERY at_V c18) (own_el ev_VALUES ev_QUERY_HIT at_V c20)
  obtain ⟨n, o, h1, h2, h3, _, L, rfl, ⟨rfl, N⟩, hq⟩ := rm0 l s _ hw tables_1 i0 i1 w_VALUES cl w_PING w_PONG w_BYE w_ROUTE_TABLE_UPDATE w_VENDOR w_STANDARD_VENDOR w_PUSH w_QUERY w_QUERY_HIT s.heap s.heap.size (Nat.le_refl _) S_VALUES E_VALUES A_V (FitC.start hfit A_V) sl_V F_code_PING F_code_PONG F_code_BYE F_code_ROUTE_TABLE_UPDATE F_code_VENDOR F_code_STANDARD_VENDOR F_code_PUSH F_code_QUERY F_code_QUERY_HIT S_PING S_PONG S_BYE S_ROUTE_TABLE_UPDATE S_VENDOR S_STANDARD_VENDOR S_PUSH S_QUERY S_QUERY_HIT p e ha hc hk s m _ below hf ((Spec.applies_iff_loose hf).mp happ).1 ⟨rfl, State.Warmed39.refl s, rfl⟩ trivial
  refine ⟨n, _, h1, h2, h3, hpost _ _ _ _ _ _ ⟨Cond.after_iff.mpr rfl, Cond.after_iff.mpr (eq_i res_at (Term.int_eval (1)) rfl), trivial⟩ ⟨hq.1, hq.2.1, (hq.2.2.sift fun y hy => Or.inr (N y hy)).mono (by decide) (by decide)⟩⟩
theorem main_1_1 : Claimed_1_1 := comes_1 fun _ _ _ _ _ _ h hF => ⟨h.1, hF⟩
theorem main_1_2 : Claimed_1_2 := comes_1 fun _ _ _ _ _ _ h hF => ⟨h.2.1, hF⟩
end Jvm.Pilot.@@N@@
namespace Jvm.Pilot.@@N@@
open Jvm Jvm.ClassFile Sem Op Lib Jvm.Free Jvm.Stand Jvm.Pilot.@@N@@.Jvm.D
/-! MADE BY PROGRAM (witnessworld.py) out of the Statement's table words and the real class files: 13 classes; the members and pool entries that the words name. The judged class is class 1, her method 1. -/
namespace start1
open Jvm.ClassFile
def u (s : String) : CpInfo := .utf8 (stringToUtf16 s)
/-- a pool by its gaps: so many unusable entries, then the entry; so many at the end -/
def gap : Nat → List CpInfo → List CpInfo
  | 0, r => r
  | n + 1, r => .unusable :: gap n r
def poolList (es : List (Nat × CpInfo)) (last : Nat) : List CpInfo := es.foldr (fun e r => gap e.1 (e.2 :: r)) (gap last [])
def pool (es : List (Nat × CpInfo)) (last : Nat) : Array CpInfo := ⟨poolList es last⟩
def fileOf (pool : Array CpInfo) (this : Nat) (attrs : Array Attribute := #[]) (ms : Array MethodInfo := #[]) (fl : Nat := 33) (sup : Nat := 0) (ifs : Array Nat := #[]) (fds : Array FieldInfo := #[]) : ClassFile where
  minorVersion := 0
  majorVersion := 65
  constantPool := pool
  accessFlags := fl
  thisClass := this
  superClass := sup
  interfaces := ifs
  fields := fds
  methods := ms
  attributes := attrs
def plain (name : String) (sup : Option ClassId) : Class where
  name := name
  kind := .ordinary
  loader := none
  accessFlags := 33
  super := sup
  interfaces := #[]
  cf := none
  fields := #[]
  methods := #[]
  instanceTypes := #[]
  staticTypes := #[]
  resolved := #[]
  callSites := []
  init := .initialized
  statics := none
  mirror := none

def pool0 : Array CpInfo := pool [(5, u "<init>"), (0, u "()V"), (1, .class_ 10), (1, u "java/lang/Object"), (85, u "clone"), (0, u "()Ljava/lang/Object;")] 26

def k0m0 : Method := { name := "<init>", desc := "()V", sig := { parameters := [], returnType := none }, accessFlags := 1, code := none }
def k0m1 : Method := { name := "clone", desc := "()Ljava/lang/Object;", sig := { parameters := [], returnType := some (.object "java/lang/Object") }, accessFlags := 260, code := none }
/-- java/lang/Object -/
def k0 : Class := { plain "java/lang/Object" none with
  accessFlags := 33
  interfaces := #[]
  cf := some (fileOf pool0 8 #[] #[{ accessFlags := 1, nameIndex := 5, descriptorIndex := 6, attributes := #[] }, { accessFlags := 260, nameIndex := 96, descriptorIndex := 97, attributes := #[] }] 33 0 #[] #[])
  fields := #[]
  methods := #[k0m0, k0m1]
  instanceTypes := #[]
  staticTypes := #[]
  resolved := Array.replicate 124 none
  statics := none }

def pool1 : Array CpInfo := pool [(2, .class_ 4), (1, u "java/lang/Object"), (0, u "<init>"), (0, u "()V"), (0, .integer 2147483647), (0, .methodref 9 10), (0, .class_ 11), (0, .nameAndType 12 13), (0, u "com/example/hearsay/hearsay/core/MessageType"), (0, u "forCode"), (0, u "(I)Lcom/example/hearsay/hearsay/core/MessageType;"), (0, .methodref 15 16), (0, .class_ 17), (0, .nameAndType 18 13), (0, u "com/example/hearsay/hearsay/core/MessageTypeForCodePinLaw"), (0, u "expected"), (0, .fieldref 9 20), (0, .nameAndType 21 22), (0, u "PING"), (0, u "Lcom/example/hearsay/hearsay/core/MessageType;"), (0, .fieldref 9 24), (0, .nameAndType 25 22), (0, u "PONG"), (0, .fieldref 9 27), (0, .nameAndType 28 22), (0, u "BYE"), (0, .fieldref 9 30), (0, .nameAndType 31 22), (0, u "ROUTE_TABLE_UPDATE"), (0, .fieldref 9 33), (0, .nameAndType 34 22), (0, u "VENDOR"), (0, .fieldref 9 36), (0, .nameAndType 37 22), (0, u "STANDARD_VENDOR"), (0, .fieldref 9 39), (0, .nameAndType 40 22), (0, u "PUSH"), (0, .fieldref 9 42), (0, .nameAndType 43 22), (0, u "QUERY"), (0, .fieldref 9 45), (0, .nameAndType 46 22), (0, u "QUERY_HIT"), (2, u "law"), (0, u "(II)Z")] 3

def k1m0 : Method := { name := "<init>", desc := "()V", sig := { parameters := [], returnType := none }, accessFlags := 1, code := none }
def k1c1 : Code := { maxStack := 4, maxLocals := 7, code := code, exceptionTable := #[], attributes := #[] }
def k1m1 : Method := { name := "law", desc := "(II)Z", sig := { parameters := [.int, .int], returnType := some .boolean }, accessFlags := 9, code := some k1c1 }
def k1c2 : Code := { maxStack := 2, maxLocals := 1, code := method_3_code, exceptionTable := #[], attributes := #[] }
def k1m2 : Method := { name := "expected", desc := "(I)Lcom/example/hearsay/hearsay/core/MessageType;", sig := { parameters := [.int], returnType := some (.object "com/example/hearsay/hearsay/core/MessageType") }, accessFlags := 10, code := some k1c2 }
/-- com/example/hearsay/hearsay/core/MessageTypeForCodePinLaw -/
def k1 : Class := { plain "com/example/hearsay/hearsay/core/MessageTypeForCodePinLaw" (some 0) with
  accessFlags := 49
  interfaces := #[]
  cf := some (fileOf pool1 15 #[] #[{ accessFlags := 1, nameIndex := 5, descriptorIndex := 6, attributes := #[] }, { accessFlags := 9, nameIndex := 49, descriptorIndex := 50, attributes := #[] }, { accessFlags := 10, nameIndex := 18, descriptorIndex := 13, attributes := #[] }] 49 2 #[] #[])
  fields := #[]
  methods := #[k1m0, k1m1, k1m2]
  instanceTypes := #[]
  staticTypes := #[]
  resolved := Array.replicate 54 none
  statics := none }

def pool2 : Array CpInfo := pool [(1, .class_ 2), (0, u "java/lang/constant/Constable"), (0, .class_ 4), (0, u "java/lang/Object")] 6

/-- java/lang/constant/Constable -/
def k2 : Class := { plain "java/lang/constant/Constable" (some 0) with
  accessFlags := 1537
  interfaces := #[]
  cf := some (fileOf pool2 1 #[] #[] 1537 3 #[] #[])
  fields := #[]
  methods := #[]
  instanceTypes := #[]
  staticTypes := #[]
  resolved := Array.replicate 11 none
  statics := none }

def pool3 : Array CpInfo := pool [(1, .class_ 2), (0, u "java/lang/Comparable"), (0, .class_ 4), (0, u "java/lang/Object")] 7

/-- java/lang/Comparable -/
def k3 : Class := { plain "java/lang/Comparable" (some 0) with
  accessFlags := 1537
  interfaces := #[]
  cf := some (fileOf pool3 1 #[] #[] 1537 3 #[] #[])
  fields := #[]
  methods := #[]
  instanceTypes := #[]
  staticTypes := #[]
  resolved := Array.replicate 12 none
  statics := none }

def pool4 : Array CpInfo := pool [(1, .class_ 2), (0, u "java/io/Serializable"), (0, .class_ 4), (0, u "java/lang/Object")] 2

/-- java/io/Serializable -/
def k4 : Class := { plain "java/io/Serializable" (some 0) with
  accessFlags := 1537
  interfaces := #[]
  cf := some (fileOf pool4 1 #[] #[] 1537 3 #[] #[])
  fields := #[]
  methods := #[]
  instanceTypes := #[]
  staticTypes := #[]
  resolved := Array.replicate 7 none
  statics := none }

def pool5 : Array CpInfo := pool [(2, .class_ 4), (1, u "java/lang/Enum"), (0, u "name"), (0, u "Ljava/lang/String;"), (2, u "ordinal"), (0, u "I"), (1, .class_ 14), (1, u "java/lang/Object"), (4, u "hash"), (86, .class_ 108), (1, u "java/lang/Enum$EnumDesc"), (2, .class_ 112), (0, u "java/lang/constant/Constable"), (0, .class_ 114), (0, u "java/lang/Comparable"), (0, .class_ 116), (0, u "java/io/Serializable")] 87

/-- java/lang/Enum -/
def k5 : Class := { plain "java/lang/Enum" (some 0) with
  accessFlags := 1057
  interfaces := #[2, 3, 4]
  cf := some (fileOf pool5 2 #[.nestMembers #[106]] #[] 1057 12 #[111, 113, 115] #[{ accessFlags := 18, nameIndex := 5, descriptorIndex := 6, attributes := #[] }, { accessFlags := 18, nameIndex := 9, descriptorIndex := 10, attributes := #[] }, { accessFlags := 2, nameIndex := 19, descriptorIndex := 10, attributes := #[] }])
  fields := #[{ name := "name", type := (.object "java/lang/String"), accessFlags := 18, slot := 0, constantValue := 0 }, { name := "ordinal", type := .int, accessFlags := 18, slot := 1, constantValue := 0 }, { name := "hash", type := .int, accessFlags := 2, slot := 2, constantValue := 0 }]
  methods := #[]
  instanceTypes := #[(.object "java/lang/String"), .int, .int]
  staticTypes := #[]
  resolved := Array.replicate 204 none
  statics := none }

def pool6 : Array CpInfo := pool [(1, .class_ 2), (0, u "com/example/hearsay/hearsay/core/MessageType"), (2, u "PING"), (0, u "Lcom/example/hearsay/hearsay/core/MessageType;"), (2, u "PONG"), (2, u "BYE"), (2, u "ROUTE_TABLE_UPDATE"), (2, u "VENDOR"), (2, u "STANDARD_VENDOR"), (2, u "PUSH"), (2, u "QUERY"), (2, u "QUERY_HIT"), (0, .fieldref 1 32), (0, .nameAndType 33 34), (0, u "$VALUES"), (0, u "[Lcom/example/hearsay/hearsay/core/MessageType;"), (0, .methodref 36 37), (0, .class_ 34), (0, .nameAndType 38 39), (0, u "clone"), (0, u "()Ljava/lang/Object;"), (1, .class_ 43), (1, u "java/lang/Enum"), (6, .fieldref 1 51), (0, .nameAndType 52 53), (0, u "code"), (0, u "I"), (0, .methodref 1 55), (0, .nameAndType 56 57), (0, u "values"), (0, u "()[Lcom/example/hearsay/hearsay/core/MessageType;"), (22, u "forCode"), (0, u "(I)Lcom/example/hearsay/hearsay/core/MessageType;")] 6

def k6c0 : Code := { maxStack := 1, maxLocals := 0, code := prog_19_method_1_code, exceptionTable := #[], attributes := #[] }
def k6m0 : Method := { name := "values", desc := "()[Lcom/example/hearsay/hearsay/core/MessageType;", sig := { parameters := [], returnType := some (.array (.object "com/example/hearsay/hearsay/core/MessageType")) }, accessFlags := 9, code := some k6c0 }
def k6c1 : Code := { maxStack := 2, maxLocals := 5, code := prog_19_method_5_code, exceptionTable := #[], attributes := #[] }
def k6m1 : Method := { name := "forCode", desc := "(I)Lcom/example/hearsay/hearsay/core/MessageType;", sig := { parameters := [.int], returnType := some (.object "com/example/hearsay/hearsay/core/MessageType") }, accessFlags := 9, code := some k6c1 }
/-- com/example/hearsay/hearsay/core/MessageType -/
def k6 : Class := { plain "com/example/hearsay/hearsay/core/MessageType" (some 5) with
  accessFlags := 16433
  interfaces := #[]
  cf := some (fileOf pool6 1 #[] #[{ accessFlags := 9, nameIndex := 56, descriptorIndex := 57, attributes := #[] }, { accessFlags := 9, nameIndex := 80, descriptorIndex := 81, attributes := #[] }] 16433 41 #[] #[{ accessFlags := 16409, nameIndex := 5, descriptorIndex := 6, attributes := #[] }, { accessFlags := 16409, nameIndex := 9, descriptorIndex := 6, attributes := #[] }, { accessFlags := 16409, nameIndex := 12, descriptorIndex := 6, attributes := #[] }, { accessFlags := 16409, nameIndex := 15, descriptorIndex := 6, attributes := #[] }, { accessFlags := 16409, nameIndex := 18, descriptorIndex := 6, attributes := #[] }, { accessFlags := 16409, nameIndex := 21, descriptorIndex := 6, attributes := #[] }, { accessFlags := 16409, nameIndex := 24, descriptorIndex := 6, attributes := #[] }, { accessFlags := 16409, nameIndex := 27, descriptorIndex := 6, attributes := #[] }, { accessFlags := 16409, nameIndex := 30, descriptorIndex := 6, attributes := #[] }, { accessFlags := 18, nameIndex := 52, descriptorIndex := 53, attributes := #[] }, { accessFlags := 4122, nameIndex := 33, descriptorIndex := 34, attributes := #[] }])
  fields := #[{ name := "PING", type := (.object "com/example/hearsay/hearsay/core/MessageType"), accessFlags := 16409, slot := 0, constantValue := 0 }, { name := "PONG", type := (.object "com/example/hearsay/hearsay/core/MessageType"), accessFlags := 16409, slot := 1, constantValue := 0 }, { name := "BYE", type := (.object "com/example/hearsay/hearsay/core/MessageType"), accessFlags := 16409, slot := 2, constantValue := 0 }, { name := "ROUTE_TABLE_UPDATE", type := (.object "com/example/hearsay/hearsay/core/MessageType"), accessFlags := 16409, slot := 3, constantValue := 0 }, { name := "VENDOR", type := (.object "com/example/hearsay/hearsay/core/MessageType"), accessFlags := 16409, slot := 4, constantValue := 0 }, { name := "STANDARD_VENDOR", type := (.object "com/example/hearsay/hearsay/core/MessageType"), accessFlags := 16409, slot := 5, constantValue := 0 }, { name := "PUSH", type := (.object "com/example/hearsay/hearsay/core/MessageType"), accessFlags := 16409, slot := 6, constantValue := 0 }, { name := "QUERY", type := (.object "com/example/hearsay/hearsay/core/MessageType"), accessFlags := 16409, slot := 7, constantValue := 0 }, { name := "QUERY_HIT", type := (.object "com/example/hearsay/hearsay/core/MessageType"), accessFlags := 16409, slot := 8, constantValue := 0 }, { name := "code", type := .int, accessFlags := 18, slot := 3, constantValue := 0 }, { name := "$VALUES", type := (.array (.object "com/example/hearsay/hearsay/core/MessageType")), accessFlags := 4122, slot := 9, constantValue := 0 }]
  methods := #[k6m0, k6m1]
  instanceTypes := #[(.object "java/lang/String"), .int, .int, .int]
  staticTypes := #[(.object "com/example/hearsay/hearsay/core/MessageType"), (.object "com/example/hearsay/hearsay/core/MessageType"), (.object "com/example/hearsay/hearsay/core/MessageType"), (.object "com/example/hearsay/hearsay/core/MessageType"), (.object "com/example/hearsay/hearsay/core/MessageType"), (.object "com/example/hearsay/hearsay/core/MessageType"), (.object "com/example/hearsay/hearsay/core/MessageType"), (.object "com/example/hearsay/hearsay/core/MessageType"), (.object "com/example/hearsay/hearsay/core/MessageType"), (.array (.object "com/example/hearsay/hearsay/core/MessageType"))]
  resolved := Array.replicate 88 none
  statics := some 0 }

def pool7 : Array CpInfo := pool [(1, .class_ 2), (0, u "java/lang/Cloneable"), (0, .class_ 4), (0, u "java/lang/Object")] 2

/-- java/lang/Cloneable -/
def k7 : Class := { plain "java/lang/Cloneable" (some 0) with
  accessFlags := 1537
  interfaces := #[]
  cf := some (fileOf pool7 1 #[] #[] 1537 3 #[] #[])
  fields := #[]
  methods := #[]
  instanceTypes := #[]
  staticTypes := #[]
  resolved := Array.replicate 7 none
  statics := none }

/-- the primitive byte -/
def k8 : Class := { plain "byte" none with kind := .primitive 'B', accessFlags := 0x411 }
/-- [B -/
def k9 : Class := { plain "[B" (some 0) with kind := .array 8 .byte, interfaces := #[7, 4], accessFlags := 1041 }

/-- the primitive int -/
def k10 : Class := { plain "int" none with kind := .primitive 'I', accessFlags := 0x411 }
/-- [I -/
def k11 : Class := { plain "[I" (some 0) with kind := .array 10 .int, interfaces := #[7, 4], accessFlags := 1041 }

/-- [Lcom/example/hearsay/hearsay/core/MessageType; -/
def k12 : Class := { plain "[Lcom/example/hearsay/hearsay/core/MessageType;" (some 0) with kind := .array 6 (.object "com/example/hearsay/hearsay/core/MessageType"), interfaces := #[7, 4], accessFlags := 1041 }

def heap : Heap := #[{ cls := 6, slots := #[.ref 2, .ref 3, .ref 4, .ref 5, .ref 6, .ref 7, .ref 8, .ref 9, .ref 10, .ref 1], vm := .statics 6 },
  { cls := 12, slots := #[.ref 2, .ref 3, .ref 4, .ref 5, .ref 6, .ref 7, .ref 8, .ref 9, .ref 10], vm := .none },
  { cls := 6, slots := #[.null, .int 0, .int 0, .int 0], vm := .none },
  { cls := 6, slots := #[.null, .int 0, .int 0, .int 1], vm := .none },
  { cls := 6, slots := #[.null, .int 0, .int 0, .int 2], vm := .none },
  { cls := 6, slots := #[.null, .int 0, .int 0, .int 48], vm := .none },
  { cls := 6, slots := #[.null, .int 0, .int 0, .int 49], vm := .none },
  { cls := 6, slots := #[.null, .int 0, .int 0, .int 50], vm := .none },
  { cls := 6, slots := #[.null, .int 0, .int 0, .int 64], vm := .none },
  { cls := 6, slots := #[.null, .int 0, .int 0, .int 128], vm := .none },
  { cls := 6, slots := #[.null, .int 0, .int 0, .int 129], vm := .none }]
def classes : Array Class := #[k0, k1, k2, k3, k4, k5, k6, k7, k8, k9, k10, k11, k12]
def interned : List (Array UInt16 × Addr) := []
def slotsUsed : Nat := 55
def theMethod : MethodId := ⟨1, 1⟩
def args0 : Array Value := #[.int 5, .int 9]
def aboutOver (below : List Frame) : State where
  vm := { classes := classes, interned := interned.toArray }
  heap := heap
  slotsUsed := slotsUsed
  threads := #[{ frames := .invoking theMethod args0 :: below }]
def below0 : List Frame := [.native { method := ⟨0, 0⟩, args := #[] }]
def about1 : State := aboutOver below0
def p0 : Program := .bare "" "" ""
def e0 : Env := launch0.env 0 0 0
theorem w_frames : about1.frames = Frame.invoking theMethod args0 :: below0 := rfl
set_option maxRecDepth 65536 in
theorem w_args : argsFit about1.vm theMethod args0 = true := by decide +kernel
set_option maxRecDepth 65536 in
theorem w_heap : heapFits about1 = true := by decide +kernel
set_option maxRecDepth 65536 in
theorem w_runnable : about1.curStatus? = some .runnable := by decide +kernel
set_option maxRecDepth 65536 in
theorem w_alone : about1.alone = true := by decide +kernel
set_option maxRecDepth 65536 in
theorem w_named : about1.methodNamed? x = some theMethod := by decide +kernel
set_option maxRecDepth 65536 in
theorem w_hears : about1.hears theMethod below0 = true := by decide +kernel
set_option maxRecDepth 65536 in
theorem w_ripe : about1.ripe theMethod args0 below0 = true := by decide +kernel
theorem w_running : about1.status = .running := rfl
set_option maxRecDepth 65536 in
theorem w_room : about1.hasRoom e0.platform room_1 = true :=
  launch0.hasRoom_least _ room_1 (by decide +kernel) (by decide +kernel) (by decide +kernel) (by decide +kernel) (by decide +kernel) (by decide +kernel)
theorem allAtoms_all (ts : List Jvm.Cond) (a : Array Jvm.Value) (st : Jvm.State) : (allAtoms ts).before a st = ts.all (fun c => c.before a st) := by
  induction ts with
  | nil => rfl
  | cons c t ih =>
    show (Jvm.Cond.and c (allAtoms t)).before a st = _
    rw [Jvm.Cond.before_and, ih, List.all_cons]
def words1 : List Jvm.Cond := Jvm.Cond.code x code maxLocals ret :: tables_1
/-- a 'code' word, met by the world's own term for the bytes: nothing is compared byte by byte -/
theorem code_word {y : MethodName} {bytes : ByteArray} {mx : Nat} {rt : Option FieldType} {a : Array Value} {s : State} {m : MethodId} {meth : Method} {c : Code} (h1 : s.methodNamed? y = some m) (h2 : s.vm.method? m = some meth) (h3 : meth.code = some c) (h4 : c.code = bytes)
    (h5 : (c.maxLocals == mx && c.exceptionTable.isEmpty && decide (c.maxStack ≤ mostOperands) && decide (meth.sig.returnType = rt) && !meth.locks && decide (parseMethodDescriptor y.desc = some meth.sig)) = true) : (Jvm.Cond.code y bytes mx rt).before a s = true := by
  simp only [Bool.and_eq_true, beq_iff_eq, Bool.not_eq_true', decide_eq_true_eq] at h5
  obtain ⟨⟨⟨⟨⟨g1, g2⟩, g3⟩, g4⟩, g5⟩, g6⟩ := h5
  simp [Cond.before, Cond.holds, Cond.value, h1, h2, h3, h4, g1, g2, g3, g4, g5, g6]
def isCode : Jvm.Cond → Bool
  | .code _ _ _ _ => true
  | _ => false
theorem all_split {L : List Jvm.Cond} {P : Jvm.Cond → Bool} (h1 : L.all (fun c => isCode c || P c) = true) (h2 : ∀ c ∈ L.filter isCode, P c = true) : L.all P = true := by
  refine List.all_eq_true.mpr fun c hc => ?_
  have h := List.all_eq_true.mp h1 c hc
  rcases Bool.eq_false_or_eq_true (isCode c) with hi | hi
  · exact h2 c (List.mem_filter.mpr ⟨hc, hi⟩)
  · simpa [hi] using h
set_option maxRecDepth 65536 in
theorem w_c0 : (Jvm.Cond.code x code maxLocals ret).before args0 about1 = true := code_word (m := ⟨1, 1⟩) (meth := k1m1) (c := k1c1) (by decide +kernel) rfl rfl rfl (by decide +kernel)
set_option maxRecDepth 65536 in
theorem w_c1 : (Jvm.Cond.code ({ cls := "com/example/hearsay/hearsay/core/MessageType", name := "forCode", desc := "(I)Lcom/example/hearsay/hearsay/core/MessageType;" } : Jvm.MethodName) prog_19_method_5_code (5 : Nat) (Option.some (Jvm.ClassFile.FieldType.object "com/example/hearsay/hearsay/core/MessageType"))).before args0 about1 = true := code_word (m := ⟨6, 1⟩) (meth := k6m1) (c := k6c1) (by decide +kernel) rfl rfl rfl (by decide +kernel)
set_option maxRecDepth 65536 in
theorem w_c2 : (Jvm.Cond.code ({ cls := "com/example/hearsay/hearsay/core/MessageType", name := "values", desc := "()[Lcom/example/hearsay/hearsay/core/MessageType;" } : Jvm.MethodName) prog_19_method_1_code (0 : Nat) (Option.some (Jvm.ClassFile.FieldType.array (Jvm.ClassFile.FieldType.object "com/example/hearsay/hearsay/core/MessageType")))).before args0 about1 = true := code_word (m := ⟨6, 0⟩) (meth := k6m0) (c := k6c0) (by decide +kernel) rfl rfl rfl (by decide +kernel)
set_option maxRecDepth 65536 in
theorem w_c3 : (Jvm.Cond.code ({ cls := "com/example/hearsay/hearsay/core/MessageTypeForCodePinLaw", name := "expected", desc := "(I)Lcom/example/hearsay/hearsay/core/MessageType;" } : Jvm.MethodName) method_3_code (1 : Nat) (Option.some (Jvm.ClassFile.FieldType.object "com/example/hearsay/hearsay/core/MessageType"))).before args0 about1 = true := code_word (m := ⟨1, 2⟩) (meth := k1m2) (c := k1c2) (by decide +kernel) rfl rfl rfl (by decide +kernel)
def codes1 : List Jvm.Cond := [Jvm.Cond.code x code maxLocals ret, Jvm.Cond.code ({ cls := "com/example/hearsay/hearsay/core/MessageType", name := "forCode", desc := "(I)Lcom/example/hearsay/hearsay/core/MessageType;" } : Jvm.MethodName) prog_19_method_5_code (5 : Nat) (Option.some (Jvm.ClassFile.FieldType.object "com/example/hearsay/hearsay/core/MessageType")), Jvm.Cond.code ({ cls := "com/example/hearsay/hearsay/core/MessageType", name := "values", desc := "()[Lcom/example/hearsay/hearsay/core/MessageType;" } : Jvm.MethodName) prog_19_method_1_code (0 : Nat) (Option.some (Jvm.ClassFile.FieldType.array (Jvm.ClassFile.FieldType.object "com/example/hearsay/hearsay/core/MessageType"))), Jvm.Cond.code ({ cls := "com/example/hearsay/hearsay/core/MessageTypeForCodePinLaw", name := "expected", desc := "(I)Lcom/example/hearsay/hearsay/core/MessageType;" } : Jvm.MethodName) method_3_code (1 : Nat) (Option.some (Jvm.ClassFile.FieldType.object "com/example/hearsay/hearsay/core/MessageType"))]
set_option maxRecDepth 65536 in
theorem codes_eq : words1.filter isCode = codes1 := rfl
theorem w_codes : ∀ c ∈ words1.filter isCode, c.before args0 about1 = true := by
  rw [codes_eq]
  intro c hc
  simp only [codes1, List.mem_cons, List.not_mem_nil, or_false] at hc
  rcases hc with rfl | rfl | rfl | rfl
  · exact w_c0
  · exact w_c1
  · exact w_c2
  · exact w_c3
set_option maxRecDepth 65536 in
theorem w_t1 : (words1.take 24).all (fun c => isCode c || c.before args0 about1) = true := by decide +kernel
set_option maxRecDepth 65536 in
theorem w_t2 : (words1.drop 24).all (fun c => isCode c || c.before args0 about1) = true := by decide +kernel
theorem w_tables : (allAtoms (Jvm.Cond.code x code maxLocals ret :: tables_1)).before args0 about1 = true := by
  rw [allAtoms_all]
  show words1.all (fun c => c.before args0 about1) = true
  refine all_split ?_ w_codes
  rw [← List.take_append_drop 24 words1, List.all_append, w_t1, w_t2]
  rfl
set_option maxRecDepth 65536 in
theorem w_case : (Jvm.Cond.and given_1 narrow_1).before args0 about1 = true := by decide +kernel
theorem w_applies : (headSpec (Jvm.Cond.code x code maxLocals ret :: tables_1) room_1).applies x e0.platform about1 = true :=
  (Spec.applies_iff w_frames).mpr ⟨w_running, w_runnable, w_alone, w_named, w_hears, w_ripe, w_room, w_tables⟩
theorem atStart : AtStart classFile x code maxLocals ret World_1 tables_1 room_1 Calls_1 rest_1 Pre_1 launch0 p0 e0 about1 theMethod args0 below0 :=
  ⟨lists_1, trivial, launch0.admits_env _ _ _, launch0.least_env, fairChoices_fair.cas, fairChoices_fair.clock, w_frames, w_args, w_heap, w_applies, trivial, trivial, w_case⟩
end start1
theorem witness_1 : WitnessClaimed_1 := ⟨start1.p0, start1.e0, start1.about1, start1.theMethod, start1.args0, start1.below0, start1.atStart⟩
end Jvm.Pilot.@@N@@
