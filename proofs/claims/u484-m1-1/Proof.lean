import JvmDerived
import JvmDerived.Pilot.@@N@@Statement
import JvmDerived.Pilot.@@N@@Code
set_option linter.unusedVariables false
set_option linter.unusedSimpArgs false
@@BLOCK:NumsL.lean.txt@@
namespace Jvm.RoadKit
open Sem ClassFile Op Lib Jvm.Stand Jvm.Free Jvm.LawKit
section New
variable {p : Program} {l : Launch} {e : Env} {R : Room} {s : State} {m : MethodId} {args : Array Value} {below : List Frame} {meth : Method} {c : Code} {T : State} {locs : List Loc} {cells slots : Nat}
theorem retI (X : Stand p l e R s m args below meth c T locs cells slots) (hx : p.tables.exec = Jvm.exec) {pc : Nat} {Ls : Array Slot} {z : Int32} {rest : List Value} (hret : meth.sig.returnType = some .int) (hd : decode c.code pc = .ok (.ireturn, 1)) {fs : List Frame}
    (hl : ∀ (f : JFrame) (acts : List Action), f.method = m → f.locked = none → f.entered = [] → (doReturn e (T.setTop f) acts (some (.int z))).1 = T.setFrames fs) : Steps p.tables e below (T.setTop (mkF m pc Ls (.int z :: rest))) (T.setFrames fs) := by
  have hm' : T.vm.method? m = some meth := X.method'
  have hn : narrow .int (.int z) = .int z := rfl
  show Steps p.tables e below (T.setTop { method := m, pc := pc, locals := Ls, stack := _ :: rest, locked := none }) _
  jvm_step X.here [X.here.top, hx, hd, hm', hret, hn]
  first | (intro acts; rw [hl _ acts rfl rfl rfl]) | rw [hl _ _ rfl rfl rfl]
  exact Steps.refl _
end New
end Jvm.RoadKit
namespace Jvm.Pilot.@@N@@
open Jvm Jvm.ClassFile Sem Op Lib Jvm.Free Jvm.Stand Jvm.LawKit Jvm.RoadKit Bundle Jvm.Pilot.@@N@@.Jvm.D

theorem own_lltT {x y : Int64} (h : x < y) : ifCond.holds .lt (lcmpW x y) = true := (if0 _ _).trans ((tlt (by rw [lcW]; exact (lc_lt x y).mpr h)).1)
theorem own_lltF {x y : Int64} (h : ¬ (x < y)) : ifCond.holds .lt (lcmpW x y) = false := (if0 _ _).trans ((flt (by rw [lcW]; exact fun q => h ((lc_lt x y).mp q))).1)
theorem own_lgeT {x y : Int64} (h : ¬ (x < y)) : ifCond.holds .ge (lcmpW x y) = true := (if0 _ _).trans ((flt (by rw [lcW]; exact fun q => h ((lc_lt x y).mp q))).2.1)
theorem own_lgeF {x y : Int64} (h : x < y) : ifCond.holds .ge (lcmpW x y) = false := (if0 _ _).trans ((tlt (by rw [lcW]; exact (lc_lt x y).mpr h)).2.1)
theorem own_lgtT {x y : Int64} (h : y < x) : ifCond.holds .gt (lcmpW x y) = true := (if0 _ _).trans ((tlt (by rw [lcW]; exact (lc_gt x y).mpr h)).2.2.1)
theorem own_lgtF {x y : Int64} (h : ¬ (y < x)) : ifCond.holds .gt (lcmpW x y) = false := (if0 _ _).trans ((flt (by rw [lcW]; exact fun q => h ((lc_gt x y).mp q))).2.2.1)
theorem own_lleT {x y : Int64} (h : ¬ (y < x)) : ifCond.holds .le (lcmpW x y) = true := (if0 _ _).trans ((flt (by rw [lcW]; exact fun q => h ((lc_gt x y).mp q))).2.2.2)
theorem own_lleF {x y : Int64} (h : y < x) : ifCond.holds .le (lcmpW x y) = false := (if0 _ _).trans ((tlt (by rw [lcW]; exact (lc_gt x y).mpr h)).2.2.2)
theorem own_leqT {x y : Int64} (h : x = y) : ifCond.holds .eq (lcmpW x y) = true := (if0 _ _).trans ((teq (by rw [lcW]; exact (lc_eq x y).mpr h)).1)
theorem own_leqF {x y : Int64} (h : ¬ (x = y)) : ifCond.holds .eq (lcmpW x y) = false := (if0 _ _).trans ((feq (by rw [lcW]; exact fun q => h ((lc_eq x y).mp q))).1)
theorem own_lneT {x y : Int64} (h : ¬ (x = y)) : ifCond.holds .ne (lcmpW x y) = true := (if0 _ _).trans ((feq (by rw [lcW]; exact fun q => h ((lc_eq x y).mp q))).2)
theorem own_lneF {x y : Int64} (h : x = y) : ifCond.holds .ne (lcmpW x y) = false := (if0 _ _).trans ((teq (by rw [lcW]; exact (lc_eq x y).mpr h)).2)
theorem own_ns0 {h : Heap} : ∀ st ∈ ([] : List Addr), ∀ c : Cell, h[st]? = some c → c.vm.isStatics = false := fun _ q => nomatch q
theorem own_nsE {Z : State} {h : Heap} {y : Addr} {C : String} {L : List Addr} (E : Exa Z h y C) (r : ∀ st ∈ L, ∀ c : Cell, h[st]? = some c → c.vm.isStatics = false) : ∀ st ∈ y :: L, ∀ c : Cell, h[st]? = some c → c.vm.isStatics = false := fun st hm c hc => (List.mem_cons.mp hm).elim (fun u => by
  subst u
  obtain ⟨cell, k, h1, -, -, h4, -⟩ := E
  cases h1.symm.trans hc
  exact h4) (fun u => r st u c hc)
theorem own_nsV {Z : State} {h : Heap} {y : Addr} {k : ClassId} {ty : FieldType} {z : Int32} {vs : List Value} {dv : Value} {L : List Addr} (E : Arv Z h y k ty z vs dv) (r : ∀ st ∈ L, ∀ c : Cell, h[st]? = some c → c.vm.isStatics = false) : ∀ st ∈ y :: L, ∀ c : Cell, h[st]? = some c → c.vm.isStatics = false := fun st hm c hc => (List.mem_cons.mp hm).elim (fun u => by
  subst u
  obtain ⟨cell, A, -⟩ := E
  cases A.1.symm.trans hc
  exact A.plain) (fun u => r st u c hc)
theorem own_staKeep {Z : State} {h h' : Heap} {ws : List Addr} {C n d : String} {v : Value} (F : Sta Z h C n d v) (K : Keep h h' ws) (q : ∀ st ∈ ws, ∀ c : Cell, h[st]? = some c → c.vm.isStatics = false) : Sta Z h' C n d v := by
  obtain ⟨cf, i, k, f, st, cell, h1, h2, h3, h4, h5, h6, h7⟩ := F
  exact ⟨cf, i, k, f, st, cell, h1, h2, h3, h4, K.2.1 st cell h5 (fun hm => by rw [q st hm cell h5] at h6; cases h6), h6, h7⟩
theorem own_ibmv {Z : State} {vm0 vm1 : Vm} {Ts : List String} (I : IB Z vm0 Ts) (h : vm1.interned = vm0.interned) : IB Z vm1 Ts := by
  obtain ⟨more, e, hm⟩ := I
  exact ⟨more, h.trans e, hm⟩
theorem own_ibup {Z : State} {vm0 : Vm} {Ts Us : List String} (I : IB Z vm0 Ts) (h : ∀ t ∈ Ts, t ∈ Us) : IB Z vm0 Us := by
  obtain ⟨more, e, hm⟩ := I
  exact ⟨more, e, fun q hq => by obtain ⟨t, ht, hd⟩ := hm q hq; exact ⟨t, h t ht, hd⟩⟩
theorem own_frm {n k : Nat} {L : List Loc} (h : n ≤ k) (N : Fr k L) : Fr n L := fun y hy => Nat.le_trans h (N y hy)
theorem own_nin {t u : String} {Ts : List String} (h1 : t ≠ u) (h2 : t ∉ Ts) : t ∉ u :: Ts := fun q => (List.mem_cons.mp q).elim h1 h2
theorem own_backS {p : Program} {l : Launch} {e : Env} {R : Room} {s : State} {args : Array Value} {below : List Frame} {Z : State} {a0 : Array Value} {h : Heap} {y : MethodName} {bytes : ByteArray} {maxL : Nat} {ret : Option FieldType} {rm : Room} {len W : Nat} {as' : Array Value} {Q : Option Value → Heap → List Loc → Vm → Prop} {Ts : List String}
    (hM : MetFree l y (head1 [Cond.code y bytes maxL ret] rm) (fun a U => a = as' ∧ Z.Warmed39 U.vm ∧ U.heap = h ∧ IB Z U.vm Ts) (fun _ _ _ _ _ => True) (fun _ U o U' => ∃ v L, o = .returned v ∧ Q v U'.heap L U'.vm ∧ ReturnedEndW U o U' L rm.cells rm.slots))
    (hZ : Z.Warmed39 s.vm) (hI : IB Z s.vm Ts) (wc : (Cond.code y bytes maxL ret).before a0 Z = true) (wz : (Cond.initialized y.cls).before a0 Z = true) (hf : rm.frames + 1 ≤ R.frames) (hl : W + (maxL + 11) + rm.locals ≤ R.locals) :
    BackS l R p e below s args y len W (fun A a => a = as' ∧ A.U.heap = h ∧ A.cells + rm.cells ≤ R.cells ∧ A.slots + rm.slots ≤ R.slots)
      (fun A _ v B => ∃ L, Q v B.U.heap L B.U.vm ∧ B.locs = A.locs ++ L ∧ B.cells = A.cells + rm.cells ∧ B.slots = A.slots + rm.slots) :=
  BackS.of_freeW (bytes := bytes) (maxL := maxL) (ret := ret) (E := fun _ _ o t L k n => k = rm.cells ∧ n = rm.slots ∧ ∃ v, o = .returned v ∧ Q v t.heap L t.vm) hM hf hl
    (fun m meth c A a Y hp => have hU : Z.Warmed39 A.U.vm := wtrans hZ Y.warmed
      ⟨by show (Cond.and _ .tt).before a A.U = true; rw [Cond.before_and, mv hU wc]; rfl, mv hU wc, mv hU wz, hp.2.2.1, hp.2.2.2⟩)
    (fun m meth c A a g mk Y hp => ⟨hp.1, wtrans hZ Y.warmed, hp.2.1, own_ibmv hI Y.warmed.interned_eq⟩) (fun _ _ _ _ _ _ _ _ _ => trivial)
    (fun _ _ _ _ ⟨v, L, h1, h2, h3⟩ => ⟨L, _, _, h3, rfl, rfl, v, h1, h2⟩)
    (fun m meth c A a g mk v t L k n Y hp _ _ ⟨e1, e2, v', e3, e4⟩ => by cases e3; subst e1 e2; exact ⟨L, e4, rfl, rfl, rfl⟩)
theorem own_wS {Z : State} {a0 : Array Value} (hw : ∀ d ∈ tables_1, d.before a0 Z = true) : ∀ a ∈ Bundle.stringAtoms, a.before a0 Z = true := fun d hd => by
  simp only [Bundle.stringAtoms, List.mem_cons, List.not_mem_nil, or_false] at hd
  rcases hd with rfl | rfl | rfl | rfl | rfl | rfl | rfl
  · exact (hw _ (List.mem_of_getElem? (i := 18) rfl))
  · exact (hw _ (List.mem_of_getElem? (i := 19) rfl))
  · exact (hw _ (List.mem_of_getElem? (i := 20) rfl))
  · exact (hw _ (List.mem_of_getElem? (i := 21) rfl))
  · exact (hw _ (List.mem_of_getElem? (i := 22) rfl))
  · exact (hw _ (List.mem_of_getElem? (i := 23) rfl))
  · exact (hw _ (List.mem_of_getElem? (i := 24) rfl))
open Jvm.FP.Core in
/-- x is the number n / 2^k -/
def own_DV (x : UInt64) (n k : Nat) : Prop := n < 2 ^ 53 ∧ k ≤ 100 ∧ val64 x = roundRatio b64 false n 1 (-(k : Int))
section FPs
open Jvm.FP.Core
theorem own_qmin : Fmt.qmin b64 = -1074 := by decide
theorem own_qmax : Fmt.qmax b64 = 971 := by decide
theorem own_fin {n k : Nat} (hn : n < 2 ^ 53) (hk : k ≤ 100) : ∃ (c : Nat) (q : Int), roundRatio b64 false n 1 (-(k : Int)) = .fin false c q ∧ -1074 ≤ q ∧ c * 2 ^ (q + 1074).toNat = n * 2 ^ (1074 - k) := by
  obtain ⟨c, q, h, hu⟩ := round_exact good_b64 false (c := n) (q := -(k : Int)) hn (by rw [own_qmin]; omega) (by rw [own_qmax]; omega)
  have h' : roundRatio b64 false n 1 (-(k : Int)) = .fin false c q := h
  have hf := roundRatio_fits good_b64 false n (B := 1) (by decide) (-(k : Int))
  rw [h'] at hf
  have hq : -1074 ≤ q := by have := hf.2.1; rw [own_qmin] at this; exact this
  refine ⟨c, q, h', hq, ?_⟩
  unfold inUnits at hu
  rw [own_qmin] at hu
  rw [show (q + 1074).toNat = (q - (-1074)).toNat by omega, hu, show (-(k : Int) - -1074).toNat = 1074 - k by omega]
theorem own_cg {s : Bool} {A B A' B' : Nat} {e e' : Int} {M : Nat} (hB : 0 < B) (hB' : 0 < B') (h1 : 0 ≤ e + M) (h2 : 0 ≤ e' + M) (h : A * B' * 2 ^ (e + M).toNat = A' * B * 2 ^ (e' + M).toNat) : roundRatio b64 s A B e = roundRatio b64 s A' B' e' := by
  apply roundRatio_congr hB hB'
  rcases Int.le_total e' e with g | g
  · rw [show (e + M).toNat = (e - e').toNat + (e' + M).toNat by omega, Nat.pow_add, ← Nat.mul_assoc] at h
    rw [Nat.eq_of_mul_eq_mul_right (Nat.two_pow_pos _) h, show (e' - e).toNat = 0 by omega]; simp
  · rw [show (e' + M).toNat = (e' - e).toNat + (e + M).toNat by omega, Nat.pow_add, ← Nat.mul_assoc] at h
    rw [← Nat.eq_of_mul_eq_mul_right (Nat.two_pow_pos _) h, show (e - e').toNat = 0 by omega]; simp
theorem own_mul {x y : UInt64} {n k m l : Nat} (hx : own_DV x n k) (hy : own_DV y m l) (hb : n * m < 2 ^ 53) (hk : k + l ≤ 100) : own_DV (dmul x y) (n * m) (k + l) := by
  obtain ⟨hn, hk1, vx⟩ := hx
  obtain ⟨hm, hl1, vy⟩ := hy
  obtain ⟨c, q, h1, q1, u1⟩ := own_fin hn hk1
  obtain ⟨d, r, h2, q2, u2⟩ := own_fin hm hl1
  refine ⟨hb, hk, ?_⟩
  rw [val64_dmul, vx, vy, h1, h2]
  show roundRatio b64 false (c * d) 1 (q + r) = _
  apply own_cg (M := 2148) (by decide) (by decide) (by omega) (by omega)
  rw [show (q + r + (2148 : Nat)).toNat = (q + 1074).toNat + (r + 1074).toNat by omega, show (-((k + l : Nat) : Int) + (2148 : Nat)).toNat = (1074 - k) + (1074 - l) by omega, Nat.pow_add, Nat.pow_add, Nat.mul_one, Nat.mul_one]
  have e1 : c * d * (2 ^ (q + 1074).toNat * 2 ^ (r + 1074).toNat) = (c * 2 ^ (q + 1074).toNat) * (d * 2 ^ (r + 1074).toNat) := by ac_rfl
  rw [e1, u1, u2]; ac_rfl
theorem own_scale {x : UInt64} {n k : Nat} (j : Nat) (hx : own_DV x n k) (hb : n * 2 ^ j < 2 ^ 53) (hk : k + j ≤ 100) : own_DV x (n * 2 ^ j) (k + j) := by
  obtain ⟨hn, hk1, vx⟩ := hx
  refine ⟨hb, hk, ?_⟩
  rw [vx]
  apply own_cg (M := 200) (by decide) (by decide) (by omega) (by omega)
  rw [show (-(k : Int) + (200 : Nat)).toNat = j + (-((k + j : Nat) : Int) + (200 : Nat)).toNat by omega, Nat.pow_add]
  ac_rfl
theorem own_units {c : Nat} {q μ : Int} (h1 : μ ≤ q) (h2 : -1074 ≤ μ) : inUnits c q μ * 2 ^ (μ + 1074).toNat = c * 2 ^ (q + 1074).toNat := by
  unfold inUnits
  rw [show (q + 1074).toNat = (q - μ).toNat + (μ + 1074).toNat by omega, Nat.pow_add, Nat.mul_assoc]
theorem own_sg {t : Bool} {N : Nat} : sumSign false t (N : Int) = false := by
  unfold sumSign
  split
  · rfl
  · simp
theorem own_add {x y : UInt64} {n k m : Nat} (hx : own_DV x n k) (hy : own_DV y m k) (hb : n + m < 2 ^ 53) : own_DV (dadd x y) (n + m) k := by
  obtain ⟨hn, hk1, vx⟩ := hx
  obtain ⟨hm, hl1, vy⟩ := hy
  obtain ⟨c, q, h1, q1, u1⟩ := own_fin hn hk1
  obtain ⟨d, r, h2, q2, u2⟩ := own_fin hm hl1
  refine ⟨hb, hk1, ?_⟩
  rw [val64_dadd, vx, vy, h1, h2]
  have hv : sumUnits false c q false d r (min q r) = ((inUnits c q (min q r) + inUnits d r (min q r) : Nat) : Int) := by simp [sumUnits, signed]
  show round b64 (.fin (sumSign false false (sumUnits false c q false d r (min q r))) (sumUnits false c q false d r (min q r)).natAbs (min q r)) = _
  rw [hv, own_sg, Int.natAbs_natCast]
  show roundRatio b64 false _ 1 (min q r) = _
  apply own_cg (M := 1074) (by decide) (by decide) (by omega) (by omega)
  rw [Nat.mul_one, Nat.mul_one, Nat.add_mul, Nat.add_mul, show (min q r + (1074 : Nat)).toNat = (min q r + 1074).toNat by omega, own_units (by omega) (by omega), own_units (by omega) (by omega), u1, u2, show (-(k : Int) + (1074 : Nat)).toNat = 1074 - k by omega]
theorem own_sub {x y : UInt64} {n k m : Nat} (hx : own_DV x n k) (hy : own_DV y m k) (hb : m ≤ n) : own_DV (dsub x y) (n - m) k := by
  obtain ⟨hn, hk1, vx⟩ := hx
  obtain ⟨hm, hl1, vy⟩ := hy
  obtain ⟨c, q, h1, q1, u1⟩ := own_fin hn hk1
  obtain ⟨d, r, h2, q2, u2⟩ := own_fin hm hl1
  refine ⟨by omega, hk1, ?_⟩
  rw [val64_dsub, vx, vy, h1, h2]
  have g1 := own_units (c := c) (q := q) (μ := min q r) (by omega) (by omega)
  have g2 := own_units (c := d) (q := r) (μ := min q r) (by omega) (by omega)
  have hle : inUnits d r (min q r) ≤ inUnits c q (min q r) := by
    apply Nat.le_of_mul_le_mul_right (c := 2 ^ (min q r + 1074).toNat) _ (Nat.two_pow_pos _)
    rw [g1, g2, u1, u2]
    exact Nat.mul_le_mul_right _ hb
  have hv : sumUnits false c q true d r (min q r) = ((inUnits c q (min q r) - inUnits d r (min q r) : Nat) : Int) := by
    simp only [sumUnits, signed, if_true, Bool.false_eq_true, if_false]; omega
  show round b64 (.fin (sumSign false true (sumUnits false c q true d r (min q r))) (sumUnits false c q true d r (min q r)).natAbs (min q r)) = _
  rw [hv, own_sg, Int.natAbs_natCast]
  show roundRatio b64 false _ 1 (min q r) = _
  apply own_cg (M := 1074) (by decide) (by decide) (by omega) (by omega)
  rw [Nat.mul_one, Nat.mul_one, Nat.sub_mul, Nat.sub_mul, show (min q r + (1074 : Nat)).toNat = (min q r + 1074).toNat by omega, g1, g2, u1, u2, show (-(k : Int) + (1074 : Nat)).toNat = 1074 - k by omega]
theorem own_divv {x y : UInt64} {n k m l : Nat} (hx : own_DV x n k) (hy : own_DV y m l) (h0 : 0 < m) : val64 (ddiv x y) = roundRatio b64 false (n * 2 ^ l) (m * 2 ^ k) 0 := by
  obtain ⟨hn, hk1, vx⟩ := hx
  obtain ⟨hm, hl1, vy⟩ := hy
  obtain ⟨c, q, h1, q1, u1⟩ := own_fin hn hk1
  obtain ⟨d, r, h2, q2, u2⟩ := own_fin hm hl1
  have hd : d ≠ 0 := fun e => by
    rw [e, Nat.zero_mul] at u2
    have := Nat.mul_pos h0 (Nat.two_pow_pos (1074 - l))
    omega
  rw [val64_ddiv, vx, vy, h1, h2]
  have hq : quotient b64 (.fin false c q) (.fin false d r) = roundRatio b64 false c d (q - r) := by
    show (if d = 0 then _ else _) = _
    rw [if_neg hd]; rfl
  rw [hq]
  have fr := roundRatio_fits good_b64 false m (B := 1) (by decide) (-(l : Int))
  rw [h2] at fr
  have hr : r ≤ 971 := by have := fr.2.2.1; rw [own_qmax] at this; exact this
  obtain ⟨M, hM⟩ : ∃ M : Nat, 2200 ≤ M := ⟨2200, Nat.le_refl _⟩
  apply own_cg (M := M) (by omega) (Nat.mul_pos h0 (Nat.two_pow_pos _)) (by omega) (by omega)
  apply Nat.eq_of_mul_eq_mul_right (Nat.two_pow_pos (r + 1074).toNat)
  have e1 : c * (m * 2 ^ k) * 2 ^ (q - r + (M : Int)).toNat * 2 ^ (r + 1074).toNat = (c * 2 ^ (q + 1074).toNat) * (m * 2 ^ k) * 2 ^ M := by
    rw [Nat.mul_assoc (c * (m * 2 ^ k)), ← Nat.pow_add, show (q - r + (M : Int)).toNat + (r + 1074).toNat = (q + 1074).toNat + M by omega, Nat.pow_add]; ac_rfl
  have e2 : n * 2 ^ l * d * 2 ^ ((0 : Int) + (M : Int)).toNat * 2 ^ (r + 1074).toNat = n * 2 ^ l * (d * 2 ^ (r + 1074).toNat) * 2 ^ M := by
    rw [show ((0 : Int) + (M : Int)).toNat = M by omega]; ac_rfl
  rw [e1, e2, u1, u2]
  have p1 : 2 ^ (1074 - k) * 2 ^ k = 2 ^ 1074 := by rw [← Nat.pow_add]; congr 1; omega
  have p2 : 2 ^ l * 2 ^ (1074 - l) = 2 ^ 1074 := by rw [← Nat.pow_add]; congr 1; omega
  have e3 : n * 2 ^ (1074 - k) * (m * 2 ^ k) * 2 ^ M = n * m * (2 ^ (1074 - k) * 2 ^ k) * 2 ^ M := by ac_rfl
  have e4 : n * 2 ^ l * (m * 2 ^ (1074 - l)) * 2 ^ M = n * m * (2 ^ l * 2 ^ (1074 - l)) * 2 ^ M := by ac_rfl
  rw [e3, e4, p1, p2]
theorem own_divp {x y : UInt64} {n k j : Nat} (hx : own_DV x n k) (hy : own_DV y (2 ^ j) 0) (hk : k + j ≤ 100) : own_DV (ddiv x y) n (k + j) := by
  refine ⟨hx.1, hk, ?_⟩
  rw [own_divv hx hy (Nat.two_pow_pos _)]
  apply own_cg (M := 200) (Nat.mul_pos (Nat.two_pow_pos _) (Nat.two_pow_pos _)) (by decide) (by omega) (by omega)
  rw [show ((0 : Int) + (200 : Nat)).toNat = j + k + (-((k + j : Nat) : Int) + (200 : Nat)).toNat by omega, Nat.pow_add, Nat.pow_add, Nat.pow_zero]
  ac_rfl
theorem own_i2d {v : Int32} {n : Nat} (h : v.toInt = n) : own_DV (i2d v) n 0 := by
  have hb := Int32.toInt_lt v
  refine ⟨by omega, by omega, ?_⟩
  rw [val64_i2d, h]
  show roundRatio b64 (decide ((n : Int) < 0)) (n : Int).natAbs 1 0 = _
  rw [Int.natAbs_natCast, show decide ((n : Int) < 0) = false from decide_eq_false (by omega)]; rfl
theorem own_l2d {v : Int64} {n : Nat} (h : v.toInt = n) (hb : n < 2 ^ 53) : own_DV (l2d v) n 0 := by
  refine ⟨hb, by omega, ?_⟩
  rw [val64_l2d, h]
  show roundRatio b64 (decide ((n : Int) < 0)) (n : Int).natAbs 1 0 = _
  rw [Int.natAbs_natCast, show decide ((n : Int) < 0) = false from decide_eq_false (by omega)]; rfl
theorem own_one : own_DV 4607182418800017408 1 0 := ⟨by decide, by decide, by decide +kernel⟩
theorem own_four : own_DV 4616189618054758400 (2 ^ 2) 0 := ⟨by decide, by decide, by decide +kernel⟩
theorem own_nn {x : UInt64} (h : val64 x ≠ .nan) : Jvm.Free.Fl.NoNaN64 x := Jvm.Free.Fl.val64_no.mpr h
theorem own_nnD {x : UInt64} {n k : Nat} (h : own_DV x n k) : Jvm.Free.Fl.NoNaN64 x := own_nn (by rw [h.2.2]; exact roundRatio_ne_nan _ _ _ _ _)
theorem own_nnQ {x y : UInt64} {n k m l : Nat} (hx : own_DV x n k) (hy : own_DV y m l) (h0 : 0 < m) : Jvm.Free.Fl.NoNaN64 (ddiv x y) := own_nn (by rw [own_divv hx hy h0]; exact roundRatio_ne_nan _ _ _ _ _)
theorem own_qeq {x y x' y' : UInt64} {n k m l n' k' m' l' : Nat} (hx : own_DV x n k) (hy : own_DV y m l) (h0 : 0 < m) (hx' : own_DV x' n' k') (hy' : own_DV y' m' l') (h0' : 0 < m') (h : n * 2 ^ l * (m' * 2 ^ k') = n' * 2 ^ l' * (m * 2 ^ k)) : ddiv x y = ddiv x' y' := by
  have e := own_divv hx hy h0
  have e' := own_divv hx' hy' h0'
  have c : roundRatio b64 false (n * 2 ^ l) (m * 2 ^ k) 0 = roundRatio b64 false (n' * 2 ^ l') (m' * 2 ^ k') 0 := roundRatio_congr (Nat.mul_pos h0 (Nat.two_pow_pos _)) (Nat.mul_pos h0' (Nat.two_pow_pos _)) (by simpa using h)
  rw [c, ← e'] at e
  rw [← of64_val64 (a := ddiv x y) (by rw [own_divv hx hy h0]; exact roundRatio_ne_nan _ _ _ _ _), ← of64_val64 (a := ddiv x' y') (by rw [own_divv hx' hy' h0']; exact roundRatio_ne_nan _ _ _ _ _), e]
end FPs
theorem own_absS {p : Program} {l : Launch} {e : Env} {R : Room} {s : State} {args : Array Value} {below : List Frame} {len W : Nat} {Z : State} {a0 : Array Value} {h : Heap} {n0 : Nat} (hZ : Z.Warmed39 s.vm) (hw : ∀ d ∈ tables_1, d.before a0 Z = true) {x : UInt64} (hx : Jvm.Free.Fl.NoNaN64 x) (hfr : 1 ≤ R.frames) (hlo : W + 13 ≤ R.locals) :
    Back l R p e below s args (⟨"java/lang/Math", "abs", "(D)D"⟩ : MethodName) len W (fun P a => a = #[.double x] ∧ P.U.heap = h ∧ P.cells + 0 ≤ R.cells ∧ P.slots + 0 ≤ R.slots)
      (fun P _ v B => ∃ L, (v = some (.double (x &&& 9223372036854775807)) ∧ Fr n0 L ∧ B.U.heap = h) ∧ B.locs = P.locs ++ L ∧ B.cells = P.cells + 0 ∧ B.slots = P.slots + 0) :=
  Back.mono (Jvm.Free.NT.Abs64.pays (mvT hZ (hw _ (List.mem_of_getElem? (i := 34) rfl))) (mvT hZ (hw _ (List.mem_of_getElem? (i := 33) rfl))) hfr hlo) (fun P a hp => ⟨x, hp.1, hx⟩) (fun P a v B hp hq => by
    obtain ⟨rfl, hv⟩ := hq
    exact ⟨[], ⟨hv x ⟨hp.1, hx⟩, Fr.nil n0, hp.2.1⟩, (List.append_nil _).symm, rfl, rfl⟩)
theorem d5_0 : decode jdk_117_method_8_code 0 = .ok (.dload_n 0, 1) := by decide +kernel
theorem pd__28D_29D : parseMethodDescriptor "(D)D" = some ⟨[.double], some .double⟩ := by decide +kernel
theorem d5_1 : decode jdk_117_method_8_code 1 = .ok (.invokestatic 38, 3) := by decide +kernel
theorem d5_4 : decode jdk_117_method_8_code 4 = .ok (.ldc2_w 111, 3) := by decide +kernel
theorem d5_7 : decode jdk_117_method_8_code 7 = .ok (.dcmp .g, 1) := by decide +kernel
theorem d5_8 : decode jdk_117_method_8_code 8 = .ok (.ifCond .gt 7, 3) := by decide +kernel
theorem d5_11 : decode jdk_117_method_8_code 11 = .ok (.iconst 1, 1) := by decide +kernel
theorem d5_12 : decode jdk_117_method_8_code 12 = .ok (.goto 4, 3) := by decide +kernel
theorem d5_16 : decode jdk_117_method_8_code 16 = .ok (.ireturn, 1) := by decide +kernel
theorem pn_java_lang_Double : plainName "java/lang/Double" = true := by first | (simp [plainName, overriddenIn]; done) | decide +kernel
theorem ef_rm5 (m : MethodId) (d1 : UInt64) : entryFrame m #[(.double d1)] 2 = mkF m 0 #[.val (.double d1), .second] [] := by first | (simp [entryFrame, mkF, argsToLocals, Value.category]; done) | rfl
def Q_rm5 (Z : State) (d1 : UInt64) (h0 : Heap) (n0 : Nat) (v : Option Value) (h : Heap) (L : List Loc) : Prop := v = some (.int (1 : Int32)) ∧ Fr n0 L ∧ h = h0
set_option maxRecDepth 65536 in
set_option maxHeartbeats 40000000 in
theorem rm5 (l : Launch) (Z : State) (a0 : Array Value) (hw : ∀ d ∈ tables_1, d.before a0 Z = true) (ws : List Jvm.Cond) (d1 : UInt64) (h0 : Heap) (n0 : Nat) (Z0 : n0 ≤ h0.size) (hnn : Jvm.Free.Fl.NoNaN64 d1) (hfin : ¬ ((0 : Int32) < cmpValue (FP.dcmp (d1 &&& 9223372036854775807) (9218868437227405311 : UInt64)) .g)) :
    MetFree l (⟨"java/lang/Double", "isFinite", "(D)Z"⟩ : MethodName) (head1 (Jvm.Cond.code (⟨"java/lang/Double", "isFinite", "(D)Z"⟩ : MethodName) jdk_117_method_8_code 2 (some .boolean) :: ws) ({ frames := 1, cells := 0, slots := 0, locals := 13 } : Room)) (fun a U => a = #[(.double d1)] ∧ Z.Warmed39 U.vm ∧ U.heap = h0) (fun _ _ _ _ _ => True) (fun _ U o U' => ∃ v L, o = .returned v ∧ Q_rm5 Z d1 h0 n0 v U'.heap L ∧ FrameEnd U o U' L ({ frames := 1, cells := 0, slots := 0, locals := 13 } : Room).cells ({ frames := 1, cells := 0, slots := 0, locals := 13 } : Room).slots) := by
  refine MetFree.of_bodySF (plainFor_of_name pn_java_lang_Double) hisR ?_
  intro p e s m args below meth c s₁ Bd hml0 hP hK
  obtain ⟨rfl, hZ, hh⟩ := hP
  have hx := Bd.exec
  have hby := Bd.bytes
  have hml : c.maxLocals = 2 := hml0
  have hown : s.vm.findClass "java/lang/Double" = some m.cls := findClass_of_methodNamed Bd.named
  have hnm := (name_of_methodNamed Bd.named Bd.method).1
  have X0 : Stand p l e ({ frames := 1, cells := 0, slots := 0, locals := 13 } : Room) s m #[(.double d1)] below meth c s₁ [] 0 0 := Stand.of_body Bd
  have e0 : s₁.heap = h0 := by rw [← hh, Bd.state]; rfl
  have N0 := Fr.nil n0
  have pre0 : ∀ t, Steps p.tables e below (s₁.setTop (mkF m 0 #[.val (.double d1), .second] [])) t → Steps p.tables e below (s₁.setTop (entryFrame m #[(.double d1)] 2)) t := fun t k => castTop (ef_rm5 m d1) k
  obtain ⟨_, _, ⟨T1, L1, k1, n1⟩, -, X1, ⟨Lc1, hQ1, l1, y1, z1⟩, st1⟩ := Jvm.LawKit.callS X0 hx (y := (⟨"java/lang/Math", "abs", "(D)D"⟩ : MethodName)) hown (mvT hZ (hw _ (List.mem_of_getElem? (i := 32) rfl))) (mvT hZ (hw _ (List.mem_of_getElem? (i := 33) rfl))) (mvT hZ (hw _ (List.mem_of_getElem? (i := 4) rfl))) (mvT hZ (hw _ (List.mem_of_getElem? (i := 34) rfl))) (by decide) (own_absS (W := 0) (n0 := n0) hZ hw (x := d1) hnn (by decide) (by decide)) (g := (mkF m 1 #[.val (.double d1), .second] [(.double d1)])) rfl (by rw [hml]; rfl) (argsL := [(.double d1)]) (rest := []) (lenOf pd__28D_29D rfl) rfl (by show 2 * 0 + _ ≤ _; exact Nat.le_of_eq rfl) (hb hby d5_1) (fun _ _ => ⟨rfl, e0, (by decide : 0 + 0 ≤ _), (by decide : 0 + 0 ≤ _)⟩)
  dsimp only [Pt.U, Pt.locs, Pt.cells, Pt.slots] at y1 z1 st1 hQ1
  change Stand p l e _ s m _ below meth c T1 L1 k1 n1 at X1
  change L1 = _ ++ Lc1 at l1
  subst y1 z1
  obtain ⟨rfl, N1q, e1⟩ := hQ1
  have N1 : Fr n0 L1 := l1 ▸ Fr.app N0 N1q
  obtain ⟨fs, hr, hrun, hended, hW, hsame⟩ := X1.leave (v := some (.int (1 : Int32))) (fun h => by rw [Bd.returns] at h; cases h)
  refine ⟨_, _, pre0 _ ?_, hrun, hended, _, _, rfl, ?_, ⟨_, rfl⟩, hW, hsame.mono (by decide) (by decide)⟩
  · show Steps p.tables e below (s₁.setTop (mkF m 0 #[.val (.double d1), .second] [])) _
    refine XS.dloadN X0.here hx rfl (hb hby d5_0) rfl ?_
    show Steps p.tables e below (s₁.setTop (mkF m 1 #[.val (.double d1), .second] [(.double d1)])) _
    refine st1 _ ?_
    show Steps p.tables e below (T1.setTop (mkF m 4 #[.val (.double d1), .second] [(.double (d1 &&& 9223372036854775807))])) _
    refine X1.ldc2DoubleC hx hown (mvT hZ (hw _ (List.mem_of_getElem? (i := 35) rfl))) (g := (mkF m 4 #[.val (.double d1), .second] [(.double (d1 &&& 9223372036854775807))])) rfl (hb hby d5_4) _ ?_
    show Steps p.tables e below (T1.setTop (mkF m 7 #[.val (.double d1), .second] [(.double (9218868437227405311 : UInt64)), (.double (d1 &&& 9223372036854775807))])) _
    refine XS.dcmpS X1.here hx rfl (v := (cmpValue (FP.dcmp (d1 &&& 9223372036854775807) (9218868437227405311 : UInt64)) .g)) (hb hby d5_7) rfl rfl ?_
    show Steps p.tables e below (T1.setTop (mkF m 8 #[.val (.double d1), .second] [(.int (cmpValue (FP.dcmp (d1 &&& 9223372036854775807) (9218868437227405311 : UInt64)) .g))])) _
    refine XS.ifNo X1.here hx rfl (hb hby d5_8) rfl ((if0 _ _).trans (flt hfin).2.2.1) ?_
    show Steps p.tables e below (T1.setTop (mkF m 11 #[.val (.double d1), .second] [])) _
    refine XS.iconst X1.here hx rfl (hb hby d5_11) ?_
    show Steps p.tables e below (T1.setTop (mkF m 12 #[.val (.double d1), .second] [(.int (1 : Int32))])) _
    refine XS.goto X1.here hx rfl (pc0 := 12) (pc' := 16) rfl (hb hby d5_12) (by decide) (by decide) ?_
    show Steps p.tables e below (T1.setTop (mkF m 16 #[.val (.double d1), .second] [(.int (1 : Int32))])) _
    exact retN X1 hx (t := .boolean) Bd.returns (by simp) (hb hby d5_16) hr
  · show Q_rm5 Z d1 h0 n0 _ T1.heap _
    rw [e1]
    exact ⟨rfl, N1, rfl⟩
theorem d4_0 : decode prog_38_method_5_code 0 = .ok (.dload_n 1, 1) := by decide +kernel
theorem d4_1 : decode prog_38_method_5_code 1 = .ok (.dconst 0, 1) := by decide +kernel
theorem d4_2 : decode prog_38_method_5_code 2 = .ok (.dcmp .l, 1) := by decide +kernel
theorem d4_3 : decode prog_38_method_5_code 3 = .ok (.ifCond .lt 10, 3) := by decide +kernel
theorem d4_6 : decode prog_38_method_5_code 6 = .ok (.dload_n 1, 1) := by decide +kernel
theorem pd__28D_29Z : parseMethodDescriptor "(D)Z" = some ⟨[.double], some .boolean⟩ := by decide +kernel
theorem d4_7 : decode prog_38_method_5_code 7 = .ok (.invokestatic 54, 3) := by decide +kernel
theorem d4_10 : decode prog_38_method_5_code 10 = .ok (.ifCond .ne 18, 3) := by decide +kernel
theorem d4_28 : decode prog_38_method_5_code 28 = .ok (.dload_n 1, 1) := by decide +kernel
theorem d4_29 : decode prog_38_method_5_code 29 = .ok (.dreturn, 1) := by decide +kernel
theorem pn_com_example_morro_morro_rank_Bm25 : plainName "com/example/morro/morro/rank/Bm25" = true := by first | (simp [plainName, overriddenIn]; done) | decide +kernel
theorem ef_rm4 (m : MethodId) (a1 : Addr) (d2 : UInt64) : entryFrame m #[(.ref a1), (.double d2)] 3 = mkF m 0 #[.val (.ref a1), .val (.double d2), .second] [] := by first | (simp [entryFrame, mkF, argsToLocals, Value.category]; done) | rfl
def Q_rm4 (Z : State) (a1 : Addr) (d2 : UInt64) (h0 : Heap) (n0 : Nat) (v : Option Value) (h : Heap) (L : List Loc) : Prop := v = some (.double d2) ∧ Fr n0 L ∧ h = h0
set_option maxRecDepth 65536 in
set_option maxHeartbeats 40000000 in
theorem rm4 (l : Launch) (Z : State) (a0 : Array Value) (hw : ∀ d ∈ tables_1, d.before a0 Z = true) (ws : List Jvm.Cond) (a1 : Addr) (d2 : UInt64) (h0 : Heap) (n0 : Nat) (Z0 : n0 ≤ h0.size) (hnn : Jvm.Free.Fl.NoNaN64 d2) (hge : ¬ (cmpValue (FP.dcmp d2 (0 : UInt64)) .l < (0 : Int32))) (hfin : ¬ ((0 : Int32) < cmpValue (FP.dcmp (d2 &&& 9223372036854775807) (9218868437227405311 : UInt64)) .g)) :
    MetFree l (⟨"com/example/morro/morro/rank/Bm25", "requireFiniteNonNegative", "(Ljava/lang/String;D)D"⟩ : MethodName) (head1 (Jvm.Cond.code (⟨"com/example/morro/morro/rank/Bm25", "requireFiniteNonNegative", "(Ljava/lang/String;D)D"⟩ : MethodName) prog_38_method_5_code 3 (some .double) :: ws) ({ frames := 2, cells := 0, slots := 0, locals := 26 } : Room)) (fun a U => a = #[(.ref a1), (.double d2)] ∧ Z.Warmed39 U.vm ∧ U.heap = h0) (fun _ _ _ _ _ => True) (fun _ U o U' => ∃ v L, o = .returned v ∧ Q_rm4 Z a1 d2 h0 n0 v U'.heap L ∧ FrameEnd U o U' L ({ frames := 2, cells := 0, slots := 0, locals := 26 } : Room).cells ({ frames := 2, cells := 0, slots := 0, locals := 26 } : Room).slots) := by
  refine MetFree.of_bodySF (plainFor_of_name pn_com_example_morro_morro_rank_Bm25) hisR ?_
  intro p e s m args below meth c s₁ Bd hml0 hP hK
  obtain ⟨rfl, hZ, hh⟩ := hP
  have hx := Bd.exec
  have hby := Bd.bytes
  have hml : c.maxLocals = 3 := hml0
  have hown : s.vm.findClass "com/example/morro/morro/rank/Bm25" = some m.cls := findClass_of_methodNamed Bd.named
  have hnm := (name_of_methodNamed Bd.named Bd.method).1
  have X0 : Stand p l e ({ frames := 2, cells := 0, slots := 0, locals := 26 } : Room) s m #[(.ref a1), (.double d2)] below meth c s₁ [] 0 0 := Stand.of_body Bd
  have e0 : s₁.heap = h0 := by rw [← hh, Bd.state]; rfl
  have N0 := Fr.nil n0
  have pre0 : ∀ t, Steps p.tables e below (s₁.setTop (mkF m 0 #[.val (.ref a1), .val (.double d2), .second] [])) t → Steps p.tables e below (s₁.setTop (entryFrame m #[(.ref a1), (.double d2)] 3)) t := fun t k => castTop (ef_rm4 m a1 d2) k
  obtain ⟨_, _, ⟨T1, L1, k1, n1⟩, -, X1, ⟨Lc1, hQ1, l1, y1, z1⟩, st1⟩ := Jvm.LawKit.callS X0 hx (y := (⟨"java/lang/Double", "isFinite", "(D)Z"⟩ : MethodName)) hown (mvT hZ (hw _ (List.mem_of_getElem? (i := 28) rfl))) (mvT hZ (hw _ (List.mem_of_getElem? (i := 29) rfl))) (mvT hZ (hw _ (List.mem_of_getElem? (i := 30) rfl))) (mvT hZ (hw _ (List.mem_of_getElem? (i := 31) rfl))) (by decide) (backOf (W := 0) (rm5 l Z a0 hw [] d2 h0 n0 Z0 hnn hfin) hZ (hw _ (List.mem_of_getElem? (i := 31) rfl)) (hw _ (List.mem_of_getElem? (i := 30) rfl)) (by decide) (by decide)) (g := (mkF m 7 #[.val (.ref a1), .val (.double d2), .second] [(.double d2)])) rfl (by rw [hml]; rfl) (argsL := [(.double d2)]) (rest := []) (lenOf pd__28D_29Z rfl) rfl (by show 2 * 0 + _ ≤ _; exact Nat.le_of_eq rfl) (hb hby d4_7) (fun _ _ => ⟨rfl, e0, (by decide : 0 + 0 ≤ _), (by decide : 0 + 0 ≤ _)⟩)
  dsimp only [Pt.U, Pt.locs, Pt.cells, Pt.slots] at y1 z1 st1 hQ1
  change Stand p l e _ s m _ below meth c T1 L1 k1 n1 at X1
  change L1 = _ ++ Lc1 at l1
  subst y1 z1
  obtain ⟨rfl, N1q, e1⟩ := hQ1
  have N1 : Fr n0 L1 := l1 ▸ Fr.app N0 N1q
  obtain ⟨fs, hr, hrun, hended, hW, hsame⟩ := X1.leave (v := some (.double d2)) (fun h => by rw [Bd.returns] at h; cases h)
  refine ⟨_, _, pre0 _ ?_, hrun, hended, _, _, rfl, ?_, ⟨_, rfl⟩, hW, hsame.mono (by decide) (by decide)⟩
  · show Steps p.tables e below (s₁.setTop (mkF m 0 #[.val (.ref a1), .val (.double d2), .second] [])) _
    refine XS.dloadN X0.here hx rfl (hb hby d4_0) rfl ?_
    show Steps p.tables e below (s₁.setTop (mkF m 1 #[.val (.ref a1), .val (.double d2), .second] [(.double d2)])) _
    refine XS.dconst0 X0.here hx rfl (hb hby d4_1) (v := (0 : UInt64)) rfl ?_
    show Steps p.tables e below (s₁.setTop (mkF m 2 #[.val (.ref a1), .val (.double d2), .second] [(.double (0 : UInt64)), (.double d2)])) _
    refine XS.dcmpS X0.here hx rfl (v := (cmpValue (FP.dcmp d2 (0 : UInt64)) .l)) (hb hby d4_2) rfl rfl ?_
    show Steps p.tables e below (s₁.setTop (mkF m 3 #[.val (.ref a1), .val (.double d2), .second] [(.int (cmpValue (FP.dcmp d2 (0 : UInt64)) .l))])) _
    refine XS.ifNo X0.here hx rfl (hb hby d4_3) rfl ((if0 _ _).trans (flt hge).1) ?_
    show Steps p.tables e below (s₁.setTop (mkF m 6 #[.val (.ref a1), .val (.double d2), .second] [])) _
    refine XS.dloadN X0.here hx rfl (hb hby d4_6) rfl ?_
    show Steps p.tables e below (s₁.setTop (mkF m 7 #[.val (.ref a1), .val (.double d2), .second] [(.double d2)])) _
    refine st1 _ ?_
    show Steps p.tables e below (T1.setTop (mkF m 10 #[.val (.ref a1), .val (.double d2), .second] [(.int (1 : Int32))])) _
    refine XS.ifYes X1.here hx rfl (pc0 := 10) (pc' := 28) rfl (hb hby d4_10) rfl ((if0 _ _).trans (feq (by decide : ¬ ((1 : Int32) = (0 : Int32)))).2) (by decide) (by decide) ?_
    show Steps p.tables e below (T1.setTop (mkF m 28 #[.val (.ref a1), .val (.double d2), .second] [])) _
    refine XS.dloadN X1.here hx rfl (hb hby d4_28) rfl ?_
    show Steps p.tables e below (T1.setTop (mkF m 29 #[.val (.ref a1), .val (.double d2), .second] [(.double d2)])) _
    jvm_step X1.here [X1.here.top, hx, (hb hby d4_29), X1.method', Bd.returns, narrow]
    first | (intro acts; rw [hr _ acts rfl rfl rfl]) | rw [hr _ _ rfl rfl rfl]
    exact Steps.refl _
  · show Q_rm4 Z a1 d2 h0 n0 _ T1.heap _
    rw [e1]
    exact ⟨rfl, N1, rfl⟩
theorem d1_0 : decode jdk_29_method_70_code 0 = .ok (.lload_n 0, 1) := by decide +kernel
theorem d1_1 : decode jdk_29_method_70_code 1 = .ok (.lload_n 2, 1) := by decide +kernel
theorem d1_2 : decode jdk_29_method_70_code 2 = .ok (.lcmp, 1) := by decide +kernel
theorem d1_3 : decode jdk_29_method_70_code 3 = .ok (.ifCond .gt 7, 3) := by decide +kernel
theorem d1_10 : decode jdk_29_method_70_code 10 = .ok (.lload_n 2, 1) := by decide +kernel
theorem d1_6 : decode jdk_29_method_70_code 6 = .ok (.lload_n 0, 1) := by decide +kernel
theorem d1_7 : decode jdk_29_method_70_code 7 = .ok (.goto 4, 3) := by decide +kernel
theorem d1_11 : decode jdk_29_method_70_code 11 = .ok (.lreturn, 1) := by decide +kernel
def own_min (q1 : Int64) (q2 : Int64) : Int64 := (if q2 < q1 then q2 else q1)
theorem ef_rm1 (m : MethodId) (q1 : Int64) (q2 : Int64) : entryFrame m #[(.long q1), (.long q2)] 4 = mkF m 0 #[.val (.long q1), .second, .val (.long q2), .second] [] := by first | (simp [entryFrame, mkF, argsToLocals, Value.category]; done) | rfl
def Q_rm1 (Z : State) (q1 : Int64) (q2 : Int64) (h0 : Heap) (n0 : Nat) (v : Option Value) (h : Heap) (L : List Loc) : Prop := v = some (.long (own_min q1 q2)) ∧ Fr n0 L ∧ h = h0
set_option maxRecDepth 65536 in
set_option maxHeartbeats 40000000 in
theorem rm1 (l : Launch) (Z : State) (a0 : Array Value) (hw : ∀ d ∈ tables_1, d.before a0 Z = true) (ws : List Jvm.Cond) (q1 : Int64) (q2 : Int64) (h0 : Heap) (n0 : Nat) (Z0 : n0 ≤ h0.size) :
    MetFree l (⟨"java/lang/Math", "min", "(JJ)J"⟩ : MethodName) (head1 (Jvm.Cond.code (⟨"java/lang/Math", "min", "(JJ)J"⟩ : MethodName) jdk_29_method_70_code 4 (some .long) :: ws) ({ frames := 0, cells := 0, slots := 0, locals := 0 } : Room)) (fun a U => a = #[(.long q1), (.long q2)] ∧ Z.Warmed39 U.vm ∧ U.heap = h0) (fun _ _ _ _ _ => True) (fun _ U o U' => ∃ v L, o = .returned v ∧ Q_rm1 Z q1 q2 h0 n0 v U'.heap L ∧ FrameEnd U o U' L ({ frames := 0, cells := 0, slots := 0, locals := 0 } : Room).cells ({ frames := 0, cells := 0, slots := 0, locals := 0 } : Room).slots) := by
  refine MetFree.of_bodySF (Jvm.Free.JP.mathPlain rfl (by decide +kernel)) hisR ?_
  intro p e s m args below meth c s₁ Bd hml0 hP hK
  obtain ⟨rfl, hZ, hh⟩ := hP
  have hx := Bd.exec
  have hby := Bd.bytes
  have hml : c.maxLocals = 4 := hml0
  have hown : s.vm.findClass "java/lang/Math" = some m.cls := findClass_of_methodNamed Bd.named
  have hnm := (name_of_methodNamed Bd.named Bd.method).1
  have X0 : Stand p l e ({ frames := 0, cells := 0, slots := 0, locals := 0 } : Room) s m #[(.long q1), (.long q2)] below meth c s₁ [] 0 0 := Stand.of_body Bd
  have e0 : s₁.heap = h0 := by rw [← hh, Bd.state]; rfl
  have N0 := Fr.nil n0
  have pre0 : ∀ t, Steps p.tables e below (s₁.setTop (mkF m 0 #[.val (.long q1), .second, .val (.long q2), .second] [])) t → Steps p.tables e below (s₁.setTop (entryFrame m #[(.long q1), (.long q2)] 4)) t := fun t k => castTop (ef_rm1 m q1 q2) k
  have pre2 : ∀ t, Steps p.tables e below (s₁.setTop (mkF m 3 #[.val (.long q1), .second, .val (.long q2), .second] [(.int (lcmpW q1 q2))])) t → Steps p.tables e below (s₁.setTop (entryFrame m #[(.long q1), (.long q2)] 4)) t := fun t kt => by
    refine pre0 t ?_
    show Steps p.tables e below (s₁.setTop (mkF m 0 #[.val (.long q1), .second, .val (.long q2), .second] [])) _
    refine XS.lloadN X0.here hx rfl (hb hby d1_0) rfl ?_
    show Steps p.tables e below (s₁.setTop (mkF m 1 #[.val (.long q1), .second, .val (.long q2), .second] [(.long q1)])) _
    refine XS.lloadN X0.here hx rfl (hb hby d1_1) rfl ?_
    show Steps p.tables e below (s₁.setTop (mkF m 2 #[.val (.long q1), .second, .val (.long q2), .second] [(.long q2), (.long q1)])) _
    refine XS.lcmp X0.here hx rfl (hb hby d1_2) rfl ?_
    exact kt
  by_cases hc3_1 : q2 < q1
  · obtain ⟨fs, hr, hrun, hended, hW, hsame⟩ := X0.leave (v := some (.long q2)) (fun h => by rw [Bd.returns] at h; cases h)
    refine ⟨_, _, pre2 _ ?_, hrun, hended, _, _, rfl, ?_, ⟨_, rfl⟩, hW, hsame.mono (by decide) (by decide)⟩
    · show Steps p.tables e below (s₁.setTop (mkF m 3 #[.val (.long q1), .second, .val (.long q2), .second] [(.int (lcmpW q1 q2))])) _
      refine XS.ifYes X0.here hx rfl (pc0 := 3) (pc' := 10) rfl (hb hby d1_3) rfl (own_lgtT hc3_1) (by decide) (by decide) ?_
      show Steps p.tables e below (s₁.setTop (mkF m 10 #[.val (.long q1), .second, .val (.long q2), .second] [])) _
      refine XS.lloadN X0.here hx rfl (hb hby d1_10) rfl ?_
      show Steps p.tables e below (s₁.setTop (mkF m 11 #[.val (.long q1), .second, .val (.long q2), .second] [(.long q2)])) _
      jvm_step X0.here [X0.here.top, hx, (hb hby d1_11), X0.method', Bd.returns, narrow]
      first | (intro acts; rw [hr _ acts rfl rfl rfl]) | rw [hr _ _ rfl rfl rfl]
      exact Steps.refl _
    · show Q_rm1 Z q1 q2 h0 n0 _ s₁.heap _
      rw [e0]
      exact ⟨by rw [own_min, if_pos hc3_1], N0, rfl⟩
  · obtain ⟨fs, hr, hrun, hended, hW, hsame⟩ := X0.leave (v := some (.long q1)) (fun h => by rw [Bd.returns] at h; cases h)
    refine ⟨_, _, pre2 _ ?_, hrun, hended, _, _, rfl, ?_, ⟨_, rfl⟩, hW, hsame.mono (by decide) (by decide)⟩
    · show Steps p.tables e below (s₁.setTop (mkF m 3 #[.val (.long q1), .second, .val (.long q2), .second] [(.int (lcmpW q1 q2))])) _
      refine XS.ifNo X0.here hx rfl (hb hby d1_3) rfl (own_lgtF hc3_1) ?_
      show Steps p.tables e below (s₁.setTop (mkF m 6 #[.val (.long q1), .second, .val (.long q2), .second] [])) _
      refine XS.lloadN X0.here hx rfl (hb hby d1_6) rfl ?_
      show Steps p.tables e below (s₁.setTop (mkF m 7 #[.val (.long q1), .second, .val (.long q2), .second] [(.long q1)])) _
      refine XS.goto X0.here hx rfl (pc0 := 7) (pc' := 11) rfl (hb hby d1_7) (by decide) (by decide) ?_
      show Steps p.tables e below (s₁.setTop (mkF m 11 #[.val (.long q1), .second, .val (.long q2), .second] [(.long q1)])) _
      jvm_step X0.here [X0.here.top, hx, (hb hby d1_11), X0.method', Bd.returns, narrow]
      first | (intro acts; rw [hr _ acts rfl rfl rfl]) | rw [hr _ _ rfl rfl rfl]
      exact Steps.refl _
    · show Q_rm1 Z q1 q2 h0 n0 _ s₁.heap _
      rw [e0]
      exact ⟨by rw [own_min, if_neg hc3_1], N0, rfl⟩
theorem d2_0 : decode prog_38_method_2_code 0 = .ok (.aload_n 0, 1) := by decide +kernel
theorem d2_1 : decode prog_38_method_2_code 1 = .ok (.invokespecial 13, 3) := by decide +kernel
theorem d2_4 : decode prog_38_method_2_code 4 = .ok (.dload_n 3, 1) := by decide +kernel
theorem d2_5 : decode prog_38_method_2_code 5 = .ok (.dconst 0, 1) := by decide +kernel
theorem d2_6 : decode prog_38_method_2_code 6 = .ok (.dcmp .l, 1) := by decide +kernel
theorem d2_7 : decode prog_38_method_2_code 7 = .ok (.ifCond .lt 9, 3) := by decide +kernel
theorem d2_10 : decode prog_38_method_2_code 10 = .ok (.dload_n 3, 1) := by decide +kernel
theorem d2_11 : decode prog_38_method_2_code 11 = .ok (.dconst 1, 1) := by decide +kernel
theorem d2_12 : decode prog_38_method_2_code 12 = .ok (.dcmp .g, 1) := by decide +kernel
theorem d2_13 : decode prog_38_method_2_code 13 = .ok (.ifCond .le 17, 3) := by decide +kernel
theorem d2_30 : decode prog_38_method_2_code 30 = .ok (.aload_n 0, 1) := by decide +kernel
theorem d2_31 : decode prog_38_method_2_code 31 = .ok (.ldc 27, 2) := by decide +kernel
theorem d2_33 : decode prog_38_method_2_code 33 = .ok (.dload_n 1, 1) := by decide +kernel
theorem pd__28Ljava_2flang_2fString_3bD_29D : parseMethodDescriptor "(Ljava/lang/String;D)D" = some ⟨[(.object "java/lang/String"), .double], some .double⟩ := by decide +kernel
theorem d2_34 : decode prog_38_method_2_code 34 = .ok (.invokestatic 29, 3) := by decide +kernel
theorem d2_37 : decode prog_38_method_2_code 37 = .ok (.putfield 33, 3) := by decide +kernel
theorem d2_40 : decode prog_38_method_2_code 40 = .ok (.aload_n 0, 1) := by decide +kernel
theorem d2_41 : decode prog_38_method_2_code 41 = .ok (.dload_n 3, 1) := by decide +kernel
theorem d2_42 : decode prog_38_method_2_code 42 = .ok (.putfield 36, 3) := by decide +kernel
theorem d2_45 : decode prog_38_method_2_code 45 = .ok (.aload_n 0, 1) := by decide +kernel
theorem d2_46 : decode prog_38_method_2_code 46 = .ok (.ldc 39, 2) := by decide +kernel
theorem d2_48 : decode prog_38_method_2_code 48 = .ok (.dload 5, 2) := by decide +kernel
theorem d2_50 : decode prog_38_method_2_code 50 = .ok (.invokestatic 29, 3) := by decide +kernel
theorem d2_53 : decode prog_38_method_2_code 53 = .ok (.putfield 41, 3) := by decide +kernel
theorem d2_56 : decode prog_38_method_2_code 56 = .ok (.return_, 1) := by decide +kernel
theorem ef_rm2 (m : MethodId) (x : Addr) (d2 : UInt64) (d3 : UInt64) (d4 : UInt64) : entryFrame m #[(.ref x), (.double d2), (.double d3), (.double d4)] 7 = mkF m 0 #[.val (.ref x), .val (.double d2), .second, .val (.double d3), .second, .val (.double d4), .second] [] := by first | (simp [entryFrame, mkF, argsToLocals, Value.category]; done) | rfl
def Q_rm2 (Z : State) (x : Addr) (d2 : UInt64) (d3 : UInt64) (d4 : UInt64) (u1 : Value) (u2 : Value) (u3 : Value) (Ts : List String) (h0 : Heap) (n0 : Nat) (v : Option Value) (h : Heap) (L : List Loc) (vm : Vm) : Prop := v = none ∧ Fr n0 L ∧ Keep h0 h [x] ∧ Exa Z h x "com/example/morro/morro/rank/Bm25" ∧ Fld Z h x "com/example/morro/morro/rank/Bm25" "k1" "D" (.double d2) ∧ Fld Z h x "com/example/morro/morro/rank/Bm25" "b" "D" (.double d3) ∧ Fld Z h x "com/example/morro/morro/rank/Bm25" "k3" "D" (.double d4)
set_option maxRecDepth 65536 in
set_option maxHeartbeats 40000000 in
theorem rm2 (l : Launch) (Z : State) (a0 : Array Value) (hw : ∀ d ∈ tables_1, d.before a0 Z = true) (ws : List Jvm.Cond) (x : Addr) (d2 : UInt64) (d3 : UInt64) (d4 : UInt64) (u1 : Value) (u2 : Value) (u3 : Value) (Ts : List String) (h0 : Heap) (n0 : Nat) (Z0 : n0 ≤ h0.size) (E_x : Exa Z h0 x "com/example/morro/morro/rank/Bm25") (F_k1_x : Fld Z h0 x "com/example/morro/morro/rank/Bm25" "k1" "D" u1) (F_b_x : Fld Z h0 x "com/example/morro/morro/rank/Bm25" "b" "D" u2) (F_k3_x : Fld Z h0 x "com/example/morro/morro/rank/Bm25" "k3" "D" u3) (g_x : n0 ≤ x) (hb0 : ¬ (cmpValue (FP.dcmp d3 (0 : UInt64)) .l < (0 : Int32))) (hb1 : ¬ ((0 : Int32) < cmpValue (FP.dcmp d3 (4607182418800017408 : UInt64)) .g)) (hnnd2 : Jvm.Free.Fl.NoNaN64 d2) (hged2 : ¬ (cmpValue (FP.dcmp d2 (0 : UInt64)) .l < (0 : Int32))) (hfind2 : ¬ ((0 : Int32) < cmpValue (FP.dcmp (d2 &&& 9223372036854775807) (9218868437227405311 : UInt64)) .g)) (hnnd4 : Jvm.Free.Fl.NoNaN64 d4) (hged4 : ¬ (cmpValue (FP.dcmp d4 (0 : UInt64)) .l < (0 : Int32))) (hfind4 : ¬ ((0 : Int32) < cmpValue (FP.dcmp (d4 &&& 9223372036854775807) (9218868437227405311 : UInt64)) .g)) :
    MetFree l (⟨"com/example/morro/morro/rank/Bm25", "<init>", "(DDD)V"⟩ : MethodName) (head1 (Jvm.Cond.code (⟨"com/example/morro/morro/rank/Bm25", "<init>", "(DDD)V"⟩ : MethodName) prog_38_method_2_code 7 none :: ws) ({ frames := 3, cells := 4, slots := 24, locals := 41 } : Room)) (fun a U => a = #[(.ref x), (.double d2), (.double d3), (.double d4)] ∧ Z.Warmed39 U.vm ∧ U.heap = h0 ∧ IB Z U.vm Ts) (fun _ _ _ _ _ => True) (fun _ U o U' => ∃ v L, o = .returned v ∧ Q_rm2 Z x d2 d3 d4 u1 u2 u3 Ts h0 n0 v U'.heap L U'.vm ∧ ReturnedEndW U o U' L ({ frames := 3, cells := 4, slots := 24, locals := 41 } : Room).cells ({ frames := 3, cells := 4, slots := 24, locals := 41 } : Room).slots) := by
  refine MetFree.of_bodySF (plainFor_of_name pn_com_example_morro_morro_rank_Bm25) hisR ?_
  intro p e s m args below meth c s₁ Bd hml0 hP hK
  obtain ⟨rfl, hZ0', hh, I0⟩ := hP
  have hZ0 : Z.Warmed39 (s.setVm s.vm).vm := hZ0'
  have hS0 : s.Since s.vm 0 := (State.WarmedH.refl s).since 0
  have hk0 : 0 ≤ h0.size := Nat.zero_le _
  have hx := Bd.exec
  have hby := Bd.bytes
  have hml : c.maxLocals = 7 := hml0
  have hown0 : (s.setVm s.vm).vm.findClass "com/example/morro/morro/rank/Bm25" = some m.cls := findClass_of_methodNamed Bd.named
  have hnm := (name_of_methodNamed Bd.named Bd.method).1
  have X0 : Stand p l e ({ frames := 3, cells := 4, slots := 24, locals := 41 } : Room) (s.setVm s.vm) m #[(.ref x), (.double d2), (.double d3), (.double d4)] below meth c s₁ [] 0 0 := Stand.of_body Bd
  have e0 : s₁.heap = h0 := by rw [← hh, Bd.state]; rfl
  have N0 := Fr.nil n0
  have pre0 : ∀ t, Steps p.tables e below (s₁.setTop (mkF m 0 #[.val (.ref x), .val (.double d2), .second, .val (.double d3), .second, .val (.double d4), .second] [])) t → Steps p.tables e below (s₁.setTop (entryFrame m #[(.ref x), (.double d2), (.double d3), (.double d4)] 7)) t := fun t k => castTop (ef_rm2 m x d2 d3 d4) k
  obtain ⟨T1, X1, e1, st1⟩ := initO X0 hx hZ0 hown0 (hw _ (List.mem_of_getElem? (i := 14) rfl)) (hw _ (List.mem_of_getElem? (i := 15) rfl)) (hw _ (List.mem_of_getElem? (i := 16) rfl)) e0 (g := (mkF m 1 #[.val (.ref x), .val (.double d2), .second, .val (.double d3), .second, .val (.double d4), .second] [(.ref x)])) rfl (by rw [hml]; rfl) rfl (hb hby d2_1) (by decide) (W := 0) (by show 2 * 0 + _ ≤ _; exact Nat.le_of_eq rfl) (by decide)
  obtain ⟨a2, T2, h2, k2, X2, e2, E2, hS2, hk2, hZ2, hown2, st2⟩ := ldcS (s := s) X1 hx hZ0 hown0 (hw _ (List.mem_of_getElem? (i := 17) rfl)) (own_wS hw) e1 hS0 hk0 (g := (mkF m 31 #[.val (.ref x), .val (.double d2), .second, .val (.double d3), .second, .val (.double d4), .second] [(.ref x)])) rfl (hb hby d2_31) (n := 8) (by decide) (by decide) (by decide) (by decide)
  have K3 : Keep h0 h2 [x] := (Keep.refl h0 [x]).ext E2
  obtain ⟨_, _, ⟨T4, L4, k4, n4⟩, -, X4, ⟨Lc4, hQ4, l4, y4, z4⟩, st4⟩ := Jvm.LawKit.callS X2 hx (y := (⟨"com/example/morro/morro/rank/Bm25", "requireFiniteNonNegative", "(Ljava/lang/String;D)D"⟩ : MethodName)) hown2 (mvT hZ2 (hw _ (List.mem_of_getElem? (i := 25) rfl))) (mvT hZ2 (hw _ (List.mem_of_getElem? (i := 26) rfl))) (mvT hZ2 (hw _ (List.mem_of_getElem? (i := 9) rfl))) (mvT hZ2 (hw _ (List.mem_of_getElem? (i := 27) rfl))) (by decide) (backOf (W := 1) (rm4 l Z a0 hw [] a2 d2 h2 n0 (Nat.le_trans Z0 K3.1) hnnd2 hged2 hfind2) hZ2 (hw _ (List.mem_of_getElem? (i := 27) rfl)) (hw _ (List.mem_of_getElem? (i := 9) rfl)) (by decide) (by decide)) (g := (mkF m 34 #[.val (.ref x), .val (.double d2), .second, .val (.double d3), .second, .val (.double d4), .second] [(.double d2), (.ref a2), (.ref x)])) rfl (by rw [hml]; rfl) (argsL := [(.ref a2), (.double d2)]) (rest := [(.ref x)]) (lenOf pd__28Ljava_2flang_2fString_3bD_29D rfl) rfl (by show 2 * 0 + _ ≤ _; exact Nat.le_of_eq rfl) (hb hby d2_34) (fun _ _ => ⟨rfl, e2, (by decide : 2 + 0 ≤ _), (by decide : 12 + 0 ≤ _)⟩)
  dsimp only [Pt.U, Pt.locs, Pt.cells, Pt.slots] at y4 z4 st4 hQ4
  change Stand p l e _ _ m _ below meth c T4 L4 k4 n4 at X4
  change L4 = _ ++ Lc4 at l4
  subst y4 z4
  obtain ⟨rfl, N4q, e4⟩ := hQ4
  have N4 : Fr n0 L4 := l4 ▸ Fr.app N0 N4q
  have f5 : Fld Z h2 x "com/example/morro/morro/rank/Bm25" "k1" "D" u1 := (F_k1_x.ext E2)
  have f6 : Exa Z h2 x "com/example/morro/morro/rank/Bm25" := (E_x.ext E2)
  obtain ⟨T7, h7, X7, e7, W7, st7⟩ := putF X4 hx hZ2 hown2 (host := "") (Or.inl (hw _ (List.mem_of_getElem? (i := 36) rfl))) Via.refl e4 f5 f6 (Or.inr ⟨(hw _ (List.mem_of_getElem? (i := 37) rfl)), rfl, hnm⟩) (hw _ (List.mem_of_getElem? (i := 8) rfl)) (ty := .double) (by decide) rfl rfl (g := (mkF m 37 #[.val (.ref x), .val (.double d2), .second, .val (.double d3), .second, .val (.double d4), .second] [(.double d2), (.ref x)])) rfl rfl (hb hby d2_37)
  have K8 : Keep h0 h7 [x] := K3.wr W7 (Or.inl (List.mem_of_getElem? (i := 0) rfl))
  have N9 := Fr.snoc X7 N4 g_x
  have Fw7 := f5.same W7
  have f10 : Fld Z h7 x "com/example/morro/morro/rank/Bm25" "b" "D" u2 := ((F_b_x.ext E2).other W7 (Or.inr (slot_ne (Or.inr (hw _ (List.mem_of_getElem? (i := 39) rfl))) (Or.inr (hw _ (List.mem_of_getElem? (i := 37) rfl))) (by decide) (t := .double) (t' := .double) (by decide) (by decide))))
  have f11 : Exa Z h7 x "com/example/morro/morro/rank/Bm25" := (f6.wr W7)
  obtain ⟨T12, h12, X12, e12, W12, st12⟩ := putF X7 hx hZ2 hown2 (host := "") (Or.inl (hw _ (List.mem_of_getElem? (i := 38) rfl))) Via.refl e7 f10 f11 (Or.inr ⟨(hw _ (List.mem_of_getElem? (i := 39) rfl)), rfl, hnm⟩) (hw _ (List.mem_of_getElem? (i := 8) rfl)) (ty := .double) (by decide) rfl rfl (g := (mkF m 42 #[.val (.ref x), .val (.double d2), .second, .val (.double d3), .second, .val (.double d4), .second] [(.double d3), (.ref x)])) rfl rfl (hb hby d2_42)
  have K13 : Keep h0 h12 [x] := K8.wr W12 (Or.inl (List.mem_of_getElem? (i := 0) rfl))
  have N14 := Fr.snoc X12 N9 g_x
  have Fw12 := f10.same W12
  obtain ⟨a15, T15, h15, k15, X15, e15, E15, hS15, hk15, hZ15, hown15, st15⟩ := ldcS (s := s) X12 hx hZ2 hown2 (hw _ (List.mem_of_getElem? (i := 40) rfl)) (own_wS hw) e12 hS2 (Nat.le_trans (Nat.le_trans hk2 (Keep.of_wr W7).1) (Keep.of_wr W12).1) (g := (mkF m 46 #[.val (.ref x), .val (.double d2), .second, .val (.double d3), .second, .val (.double d4), .second] [(.ref x)])) rfl (hb hby d2_46) (n := 8) (by decide) (by decide) (by decide) (by decide)
  have K16 : Keep h0 h15 [x] := K13.ext E15
  obtain ⟨_, _, ⟨T17, L17, k17, n17⟩, -, X17, ⟨Lc17, hQ17, l17, y17, z17⟩, st17⟩ := Jvm.LawKit.callS X15 hx (y := (⟨"com/example/morro/morro/rank/Bm25", "requireFiniteNonNegative", "(Ljava/lang/String;D)D"⟩ : MethodName)) hown15 (mvT hZ15 (hw _ (List.mem_of_getElem? (i := 25) rfl))) (mvT hZ15 (hw _ (List.mem_of_getElem? (i := 26) rfl))) (mvT hZ15 (hw _ (List.mem_of_getElem? (i := 9) rfl))) (mvT hZ15 (hw _ (List.mem_of_getElem? (i := 27) rfl))) (by decide) (backOf (W := 1) (rm4 l Z a0 hw [] a15 d4 h15 n0 (Nat.le_trans Z0 K16.1) hnnd4 hged4 hfind4) hZ15 (hw _ (List.mem_of_getElem? (i := 27) rfl)) (hw _ (List.mem_of_getElem? (i := 9) rfl)) (by decide) (by decide)) (g := (mkF m 50 #[.val (.ref x), .val (.double d2), .second, .val (.double d3), .second, .val (.double d4), .second] [(.double d4), (.ref a15), (.ref x)])) rfl (by rw [hml]; rfl) (argsL := [(.ref a15), (.double d4)]) (rest := [(.ref x)]) (lenOf pd__28Ljava_2flang_2fString_3bD_29D rfl) rfl (by show 2 * 0 + _ ≤ _; exact Nat.le_of_eq rfl) (hb hby d2_50) (fun _ _ => ⟨rfl, e15, (by decide : 4 + 0 ≤ _), (by decide : 24 + 0 ≤ _)⟩)
  dsimp only [Pt.U, Pt.locs, Pt.cells, Pt.slots] at y17 z17 st17 hQ17
  change Stand p l e _ _ m _ below meth c T17 L17 k17 n17 at X17
  change L17 = _ ++ Lc17 at l17
  subst y17 z17
  obtain ⟨rfl, N17q, e17⟩ := hQ17
  have N17 : Fr n0 L17 := l17 ▸ Fr.app N14 N17q
  have f18 : Fld Z h15 x "com/example/morro/morro/rank/Bm25" "k3" "D" u3 := ((((F_k3_x.ext E2).other W7 (Or.inr (slot_ne (Or.inr (hw _ (List.mem_of_getElem? (i := 42) rfl))) (Or.inr (hw _ (List.mem_of_getElem? (i := 37) rfl))) (by decide) (t := .double) (t' := .double) (by decide) (by decide)))).other W12 (Or.inr (slot_ne (Or.inr (hw _ (List.mem_of_getElem? (i := 42) rfl))) (Or.inr (hw _ (List.mem_of_getElem? (i := 39) rfl))) (by decide) (t := .double) (t' := .double) (by decide) (by decide)))).ext E15)
  have f19 : Exa Z h15 x "com/example/morro/morro/rank/Bm25" := ((f11.wr W12).ext E15)
  obtain ⟨T20, h20, X20, e20, W20, st20⟩ := putF X17 hx hZ15 hown15 (host := "") (Or.inl (hw _ (List.mem_of_getElem? (i := 41) rfl))) Via.refl e17 f18 f19 (Or.inr ⟨(hw _ (List.mem_of_getElem? (i := 42) rfl)), rfl, hnm⟩) (hw _ (List.mem_of_getElem? (i := 8) rfl)) (ty := .double) (by decide) rfl rfl (g := (mkF m 53 #[.val (.ref x), .val (.double d2), .second, .val (.double d3), .second, .val (.double d4), .second] [(.double d4), (.ref x)])) rfl rfl (hb hby d2_53)
  have K21 : Keep h0 h20 [x] := K16.wr W20 (Or.inl (List.mem_of_getElem? (i := 0) rfl))
  have N22 := Fr.snoc X20 N17 g_x
  have Fw20 := f18.same W20
  have f23 : Exa Z h20 x "com/example/morro/morro/rank/Bm25" := (f19.wr W20)
  have f24 : Fld Z h20 x "com/example/morro/morro/rank/Bm25" "k1" "D" (.double d2) := (((Fw7.other W12 (Or.inr (slot_ne (Or.inr (hw _ (List.mem_of_getElem? (i := 37) rfl))) (Or.inr (hw _ (List.mem_of_getElem? (i := 39) rfl))) (by decide) (t := .double) (t' := .double) (by decide) (by decide)))).ext E15).other W20 (Or.inr (slot_ne (Or.inr (hw _ (List.mem_of_getElem? (i := 37) rfl))) (Or.inr (hw _ (List.mem_of_getElem? (i := 42) rfl))) (by decide) (t := .double) (t' := .double) (by decide) (by decide))))
  have f25 : Fld Z h20 x "com/example/morro/morro/rank/Bm25" "b" "D" (.double d3) := ((Fw12.ext E15).other W20 (Or.inr (slot_ne (Or.inr (hw _ (List.mem_of_getElem? (i := 39) rfl))) (Or.inr (hw _ (List.mem_of_getElem? (i := 42) rfl))) (by decide) (t := .double) (t' := .double) (by decide) (by decide))))
  obtain ⟨fs, hr, hrun, hended, hRW⟩ := X20.leaveW hS15 (Nat.le_trans (Nat.le_trans hk15 (Keep.of_wr W20).1) (Nat.le_of_eq (congrArg Array.size e20.symm))) (v := none) (fun _ => rfl)
  refine ⟨_, _, pre0 _ ?_, hrun, hended, _, _, rfl, ?_, hRW.1, hRW.2.1, hRW.2.2.1, hRW.2.2.2.mono (by decide) (by decide)⟩
  · show Steps p.tables e below (s₁.setTop (mkF m 0 #[.val (.ref x), .val (.double d2), .second, .val (.double d3), .second, .val (.double d4), .second] [])) _
    refine XS.aloadN X0.here hx rfl (hb hby d2_0) rfl rfl ?_
    show Steps p.tables e below (s₁.setTop (mkF m 1 #[.val (.ref x), .val (.double d2), .second, .val (.double d3), .second, .val (.double d4), .second] [(.ref x)])) _
    refine st1 _ ?_
    show Steps p.tables e below (T1.setTop (mkF m 4 #[.val (.ref x), .val (.double d2), .second, .val (.double d3), .second, .val (.double d4), .second] [])) _
    refine XS.dloadN X1.here hx rfl (hb hby d2_4) rfl ?_
    show Steps p.tables e below (T1.setTop (mkF m 5 #[.val (.ref x), .val (.double d2), .second, .val (.double d3), .second, .val (.double d4), .second] [(.double d3)])) _
    refine XS.dconst0 X1.here hx rfl (hb hby d2_5) (v := (0 : UInt64)) rfl ?_
    show Steps p.tables e below (T1.setTop (mkF m 6 #[.val (.ref x), .val (.double d2), .second, .val (.double d3), .second, .val (.double d4), .second] [(.double (0 : UInt64)), (.double d3)])) _
    refine XS.dcmpS X1.here hx rfl (v := (cmpValue (FP.dcmp d3 (0 : UInt64)) .l)) (hb hby d2_6) rfl rfl ?_
    show Steps p.tables e below (T1.setTop (mkF m 7 #[.val (.ref x), .val (.double d2), .second, .val (.double d3), .second, .val (.double d4), .second] [(.int (cmpValue (FP.dcmp d3 (0 : UInt64)) .l))])) _
    refine XS.ifNo X1.here hx rfl (hb hby d2_7) rfl ((if0 _ _).trans (flt hb0).1) ?_
    show Steps p.tables e below (T1.setTop (mkF m 10 #[.val (.ref x), .val (.double d2), .second, .val (.double d3), .second, .val (.double d4), .second] [])) _
    refine XS.dloadN X1.here hx rfl (hb hby d2_10) rfl ?_
    show Steps p.tables e below (T1.setTop (mkF m 11 #[.val (.ref x), .val (.double d2), .second, .val (.double d3), .second, .val (.double d4), .second] [(.double d3)])) _
    refine XS.dconst1 X1.here hx rfl (hb hby d2_11) (v := (4607182418800017408 : UInt64)) rfl ?_
    show Steps p.tables e below (T1.setTop (mkF m 12 #[.val (.ref x), .val (.double d2), .second, .val (.double d3), .second, .val (.double d4), .second] [(.double (4607182418800017408 : UInt64)), (.double d3)])) _
    refine XS.dcmpS X1.here hx rfl (v := (cmpValue (FP.dcmp d3 (4607182418800017408 : UInt64)) .g)) (hb hby d2_12) rfl rfl ?_
    show Steps p.tables e below (T1.setTop (mkF m 13 #[.val (.ref x), .val (.double d2), .second, .val (.double d3), .second, .val (.double d4), .second] [(.int (cmpValue (FP.dcmp d3 (4607182418800017408 : UInt64)) .g))])) _
    refine XS.ifYes X1.here hx rfl (pc0 := 13) (pc' := 30) rfl (hb hby d2_13) rfl ((if0 _ _).trans (flt hb1).2.2.2) (by decide) (by decide) ?_
    show Steps p.tables e below (T1.setTop (mkF m 30 #[.val (.ref x), .val (.double d2), .second, .val (.double d3), .second, .val (.double d4), .second] [])) _
    refine XS.aloadN X1.here hx rfl (hb hby d2_30) rfl rfl ?_
    show Steps p.tables e below (T1.setTop (mkF m 31 #[.val (.ref x), .val (.double d2), .second, .val (.double d3), .second, .val (.double d4), .second] [(.ref x)])) _
    refine st2 _ ?_
    show Steps p.tables e below (T2.setTop (mkF m 33 #[.val (.ref x), .val (.double d2), .second, .val (.double d3), .second, .val (.double d4), .second] [(.ref a2), (.ref x)])) _
    refine XS.dloadN X2.here hx rfl (hb hby d2_33) rfl ?_
    show Steps p.tables e below (T2.setTop (mkF m 34 #[.val (.ref x), .val (.double d2), .second, .val (.double d3), .second, .val (.double d4), .second] [(.double d2), (.ref a2), (.ref x)])) _
    refine st4 _ ?_
    show Steps p.tables e below (T4.setTop (mkF m 37 #[.val (.ref x), .val (.double d2), .second, .val (.double d3), .second, .val (.double d4), .second] [(.double d2), (.ref x)])) _
    refine st7 _ ?_
    show Steps p.tables e below (T7.setTop (mkF m 40 #[.val (.ref x), .val (.double d2), .second, .val (.double d3), .second, .val (.double d4), .second] [])) _
    refine XS.aloadN X7.here hx rfl (hb hby d2_40) rfl rfl ?_
    show Steps p.tables e below (T7.setTop (mkF m 41 #[.val (.ref x), .val (.double d2), .second, .val (.double d3), .second, .val (.double d4), .second] [(.ref x)])) _
    refine XS.dloadN X7.here hx rfl (hb hby d2_41) rfl ?_
    show Steps p.tables e below (T7.setTop (mkF m 42 #[.val (.ref x), .val (.double d2), .second, .val (.double d3), .second, .val (.double d4), .second] [(.double d3), (.ref x)])) _
    refine st12 _ ?_
    show Steps p.tables e below (T12.setTop (mkF m 45 #[.val (.ref x), .val (.double d2), .second, .val (.double d3), .second, .val (.double d4), .second] [])) _
    refine XS.aloadN X12.here hx rfl (hb hby d2_45) rfl rfl ?_
    show Steps p.tables e below (T12.setTop (mkF m 46 #[.val (.ref x), .val (.double d2), .second, .val (.double d3), .second, .val (.double d4), .second] [(.ref x)])) _
    refine st15 _ ?_
    show Steps p.tables e below (T15.setTop (mkF m 48 #[.val (.ref x), .val (.double d2), .second, .val (.double d3), .second, .val (.double d4), .second] [(.ref a15), (.ref x)])) _
    refine XS.dload X15.here hx rfl (hb hby d2_48) rfl ?_
    show Steps p.tables e below (T15.setTop (mkF m 50 #[.val (.ref x), .val (.double d2), .second, .val (.double d3), .second, .val (.double d4), .second] [(.double d4), (.ref a15), (.ref x)])) _
    refine st17 _ ?_
    show Steps p.tables e below (T17.setTop (mkF m 53 #[.val (.ref x), .val (.double d2), .second, .val (.double d3), .second, .val (.double d4), .second] [(.double d4), (.ref x)])) _
    refine st20 _ ?_
    show Steps p.tables e below (T20.setTop (mkF m 56 #[.val (.ref x), .val (.double d2), .second, .val (.double d3), .second, .val (.double d4), .second] [])) _
    exact X20.returnOut hx Bd.returns (hb hby d2_56) hr
  · show Q_rm2 Z x d2 d3 d4 u1 u2 u3 Ts h0 n0 _ T20.heap _ T20.vm
    rw [e20]
    exact ⟨rfl, N22, K21, f23, f24, f25, Fw20⟩
theorem d7_0 : decode prog_38_method_3_code 0 = .ok (.dload_n 1, 1) := by decide +kernel
theorem d7_1 : decode prog_38_method_3_code 1 = .ok (.dconst 0, 1) := by decide +kernel
theorem d7_2 : decode prog_38_method_3_code 2 = .ok (.dcmp .l, 1) := by decide +kernel
theorem d7_3 : decode prog_38_method_3_code 3 = .ok (.ifCond .ne 5, 3) := by decide +kernel
theorem d7_6 : decode prog_38_method_3_code 6 = .ok (.dconst 0, 1) := by decide +kernel
theorem d7_7 : decode prog_38_method_3_code 7 = .ok (.dreturn, 1) := by decide +kernel
theorem ef_rtf0 (m : MethodId) (x : Addr) (tf : UInt64) (p3 : Int32) (p4 : Int32) (av : UInt64) : entryFrame m #[(.ref x), (.double tf), (.int p3), (.int p4), (.double av)] 11 = mkF m 0 #[.val (.ref x), .val (.double tf), .second, .val (.int p3), .val (.int p4), .val (.double av), .second, .unset, .unset, .unset, .unset] [] := by first | (simp [entryFrame, mkF, argsToLocals, Value.category]; done) | rfl
def Q_rtf0 (Z : State) (x : Addr) (tf : UInt64) (p3 : Int32) (p4 : Int32) (av : UInt64) (v1 : UInt64) (vb : UInt64) (v3 : UInt64) (h0 : Heap) (n0 : Nat) (v : Option Value) (h : Heap) (L : List Loc) : Prop := v = some (.double (0 : UInt64)) ∧ Fr n0 L ∧ h = h0
set_option maxRecDepth 65536 in
set_option maxHeartbeats 40000000 in
theorem rtf0 (l : Launch) (Z : State) (a0 : Array Value) (hw : ∀ d ∈ tables_1, d.before a0 Z = true) (ws : List Jvm.Cond) (x : Addr) (tf : UInt64) (p3 : Int32) (p4 : Int32) (av : UInt64) (v1 : UInt64) (vb : UInt64) (v3 : UInt64) (h0 : Heap) (n0 : Nat) (Z0 : n0 ≤ h0.size) (E_x : Exa Z h0 x "com/example/morro/morro/rank/Bm25") (F_k1_x : Fld Z h0 x "com/example/morro/morro/rank/Bm25" "k1" "D" (.double v1)) (F_b_x : Fld Z h0 x "com/example/morro/morro/rank/Bm25" "b" "D" (.double vb)) (F_k3_x : Fld Z h0 x "com/example/morro/morro/rank/Bm25" "k3" "D" (.double v3)) (hz : cmpValue (FP.dcmp tf (0 : UInt64)) .l = (0 : Int32)) :
    MetFree l (⟨"com/example/morro/morro/rank/Bm25", "tf", "(DIID)D"⟩ : MethodName) (head1 (Jvm.Cond.code (⟨"com/example/morro/morro/rank/Bm25", "tf", "(DIID)D"⟩ : MethodName) prog_38_method_3_code 11 (some .double) :: ws) ({ frames := 0, cells := 0, slots := 0, locals := 0 } : Room)) (fun a U => a = #[(.ref x), (.double tf), (.int p3), (.int p4), (.double av)] ∧ Z.Warmed39 U.vm ∧ U.heap = h0) (fun _ _ _ _ _ => True) (fun _ U o U' => ∃ v L, o = .returned v ∧ Q_rtf0 Z x tf p3 p4 av v1 vb v3 h0 n0 v U'.heap L ∧ FrameEnd U o U' L ({ frames := 0, cells := 0, slots := 0, locals := 0 } : Room).cells ({ frames := 0, cells := 0, slots := 0, locals := 0 } : Room).slots) := by
  refine MetFree.of_bodySF (plainFor_of_name pn_com_example_morro_morro_rank_Bm25) hisR ?_
  intro p e s m args below meth c s₁ Bd hml0 hP hK
  obtain ⟨rfl, hZ, hh⟩ := hP
  have hx := Bd.exec
  have hby := Bd.bytes
  have hml : c.maxLocals = 11 := hml0
  have hown : s.vm.findClass "com/example/morro/morro/rank/Bm25" = some m.cls := findClass_of_methodNamed Bd.named
  have hnm := (name_of_methodNamed Bd.named Bd.method).1
  have X0 : Stand p l e ({ frames := 0, cells := 0, slots := 0, locals := 0 } : Room) s m #[(.ref x), (.double tf), (.int p3), (.int p4), (.double av)] below meth c s₁ [] 0 0 := Stand.of_body Bd
  have e0 : s₁.heap = h0 := by rw [← hh, Bd.state]; rfl
  have N0 := Fr.nil n0
  have pre0 : ∀ t, Steps p.tables e below (s₁.setTop (mkF m 0 #[.val (.ref x), .val (.double tf), .second, .val (.int p3), .val (.int p4), .val (.double av), .second, .unset, .unset, .unset, .unset] [])) t → Steps p.tables e below (s₁.setTop (entryFrame m #[(.ref x), (.double tf), (.int p3), (.int p4), (.double av)] 11)) t := fun t k => castTop (ef_rtf0 m x tf p3 p4 av) k
  obtain ⟨fs, hr, hrun, hended, hW, hsame⟩ := X0.leave (v := some (.double (0 : UInt64))) (fun h => by rw [Bd.returns] at h; cases h)
  refine ⟨_, _, pre0 _ ?_, hrun, hended, _, _, rfl, ?_, ⟨_, rfl⟩, hW, hsame.mono (by decide) (by decide)⟩
  · show Steps p.tables e below (s₁.setTop (mkF m 0 #[.val (.ref x), .val (.double tf), .second, .val (.int p3), .val (.int p4), .val (.double av), .second, .unset, .unset, .unset, .unset] [])) _
    refine XS.dloadN X0.here hx rfl (hb hby d7_0) rfl ?_
    show Steps p.tables e below (s₁.setTop (mkF m 1 #[.val (.ref x), .val (.double tf), .second, .val (.int p3), .val (.int p4), .val (.double av), .second, .unset, .unset, .unset, .unset] [(.double tf)])) _
    refine XS.dconst0 X0.here hx rfl (hb hby d7_1) (v := (0 : UInt64)) rfl ?_
    show Steps p.tables e below (s₁.setTop (mkF m 2 #[.val (.ref x), .val (.double tf), .second, .val (.int p3), .val (.int p4), .val (.double av), .second, .unset, .unset, .unset, .unset] [(.double (0 : UInt64)), (.double tf)])) _
    refine XS.dcmpS X0.here hx rfl (v := (cmpValue (FP.dcmp tf (0 : UInt64)) .l)) (hb hby d7_2) rfl rfl ?_
    show Steps p.tables e below (s₁.setTop (mkF m 3 #[.val (.ref x), .val (.double tf), .second, .val (.int p3), .val (.int p4), .val (.double av), .second, .unset, .unset, .unset, .unset] [(.int (cmpValue (FP.dcmp tf (0 : UInt64)) .l))])) _
    refine XS.ifNo X0.here hx rfl (hb hby d7_3) rfl ((if0 _ _).trans (teq hz).2) ?_
    show Steps p.tables e below (s₁.setTop (mkF m 6 #[.val (.ref x), .val (.double tf), .second, .val (.int p3), .val (.int p4), .val (.double av), .second, .unset, .unset, .unset, .unset] [])) _
    refine XS.dconst0 X0.here hx rfl (hb hby d7_6) (v := (0 : UInt64)) rfl ?_
    show Steps p.tables e below (s₁.setTop (mkF m 7 #[.val (.ref x), .val (.double tf), .second, .val (.int p3), .val (.int p4), .val (.double av), .second, .unset, .unset, .unset, .unset] [(.double (0 : UInt64))])) _
    jvm_step X0.here [X0.here.top, hx, (hb hby d7_7), X0.method', Bd.returns, narrow]
    first | (intro acts; rw [hr _ acts rfl rfl rfl]) | rw [hr _ _ rfl rfl rfl]
    exact Steps.refl _
  · show Q_rtf0 Z x tf p3 p4 av v1 vb v3 h0 n0 _ s₁.heap _
    rw [e0]
    exact ⟨rfl, N0, rfl⟩
def own_got (v1 vb v3 tf av : UInt64) (p3 p4 : Int32) : UInt64 := (FP.ddiv (FP.dmul (FP.dmul (FP.dadd v3 (4607182418800017408 : UInt64)) tf) (FP.i2d p3)) (FP.dmul (FP.dadd v3 (FP.i2d p3)) (FP.dadd (FP.dmul v1 (FP.dadd (FP.dsub (4607182418800017408 : UInt64) vb) (FP.ddiv (FP.dmul vb (FP.i2d p4)) av))) tf)))
/-- what the call reckons with: whole numbers over powers of two -/
def own_In (v1 vb v3 tf av : UInt64) (p3 p4 : Int32) (kq bq k3q tq qt dl a : Nat) : Prop := (own_DV v1 kq 2) ∧ (own_DV vb bq 2) ∧ (own_DV v3 k3q 2) ∧ (own_DV tf tq 2) ∧ (own_DV av (2 ^ a) 0) ∧ (p3.toInt = qt) ∧ (p4.toInt = dl) ∧ (kq ≤ 31) ∧ (bq ≤ 4) ∧ (k3q ≤ 63) ∧ (tq ≤ 1023) ∧ (qt ≤ 65536) ∧ (dl ≤ 1048575) ∧ (a ≤ 7) ∧ (0 < qt) ∧ (0 < tq)
theorem own_In.hk1 {v1 vb v3 tf av : UInt64} {p3 p4 : Int32} {kq bq k3q tq qt dl a : Nat} (I : own_In v1 vb v3 tf av p3 p4 kq bq k3q tq qt dl a) : own_DV v1 kq 2 := I.1
theorem own_In.hb {v1 vb v3 tf av : UInt64} {p3 p4 : Int32} {kq bq k3q tq qt dl a : Nat} (I : own_In v1 vb v3 tf av p3 p4 kq bq k3q tq qt dl a) : own_DV vb bq 2 := I.2.1
theorem own_In.hk3 {v1 vb v3 tf av : UInt64} {p3 p4 : Int32} {kq bq k3q tq qt dl a : Nat} (I : own_In v1 vb v3 tf av p3 p4 kq bq k3q tq qt dl a) : own_DV v3 k3q 2 := I.2.2.1
theorem own_In.htf {v1 vb v3 tf av : UInt64} {p3 p4 : Int32} {kq bq k3q tq qt dl a : Nat} (I : own_In v1 vb v3 tf av p3 p4 kq bq k3q tq qt dl a) : own_DV tf tq 2 := I.2.2.2.1
theorem own_In.hav {v1 vb v3 tf av : UInt64} {p3 p4 : Int32} {kq bq k3q tq qt dl a : Nat} (I : own_In v1 vb v3 tf av p3 p4 kq bq k3q tq qt dl a) : own_DV av (2 ^ a) 0 := I.2.2.2.2.1
theorem own_In.hqt {v1 vb v3 tf av : UInt64} {p3 p4 : Int32} {kq bq k3q tq qt dl a : Nat} (I : own_In v1 vb v3 tf av p3 p4 kq bq k3q tq qt dl a) : p3.toInt = qt := I.2.2.2.2.2.1
theorem own_In.hdl {v1 vb v3 tf av : UInt64} {p3 p4 : Int32} {kq bq k3q tq qt dl a : Nat} (I : own_In v1 vb v3 tf av p3 p4 kq bq k3q tq qt dl a) : p4.toInt = dl := I.2.2.2.2.2.2.1
theorem own_In.bk {v1 vb v3 tf av : UInt64} {p3 p4 : Int32} {kq bq k3q tq qt dl a : Nat} (I : own_In v1 vb v3 tf av p3 p4 kq bq k3q tq qt dl a) : kq ≤ 31 := I.2.2.2.2.2.2.2.1
theorem own_In.bb {v1 vb v3 tf av : UInt64} {p3 p4 : Int32} {kq bq k3q tq qt dl a : Nat} (I : own_In v1 vb v3 tf av p3 p4 kq bq k3q tq qt dl a) : bq ≤ 4 := I.2.2.2.2.2.2.2.2.1
theorem own_In.bk3 {v1 vb v3 tf av : UInt64} {p3 p4 : Int32} {kq bq k3q tq qt dl a : Nat} (I : own_In v1 vb v3 tf av p3 p4 kq bq k3q tq qt dl a) : k3q ≤ 63 := I.2.2.2.2.2.2.2.2.2.1
theorem own_In.bt {v1 vb v3 tf av : UInt64} {p3 p4 : Int32} {kq bq k3q tq qt dl a : Nat} (I : own_In v1 vb v3 tf av p3 p4 kq bq k3q tq qt dl a) : tq ≤ 1023 := I.2.2.2.2.2.2.2.2.2.2.1
theorem own_In.bqt {v1 vb v3 tf av : UInt64} {p3 p4 : Int32} {kq bq k3q tq qt dl a : Nat} (I : own_In v1 vb v3 tf av p3 p4 kq bq k3q tq qt dl a) : qt ≤ 65536 := I.2.2.2.2.2.2.2.2.2.2.2.1
theorem own_In.bd {v1 vb v3 tf av : UInt64} {p3 p4 : Int32} {kq bq k3q tq qt dl a : Nat} (I : own_In v1 vb v3 tf av p3 p4 kq bq k3q tq qt dl a) : dl ≤ 1048575 := I.2.2.2.2.2.2.2.2.2.2.2.2.1
theorem own_In.ba {v1 vb v3 tf av : UInt64} {p3 p4 : Int32} {kq bq k3q tq qt dl a : Nat} (I : own_In v1 vb v3 tf av p3 p4 kq bq k3q tq qt dl a) : a ≤ 7 := I.2.2.2.2.2.2.2.2.2.2.2.2.2.1
theorem own_In.qp {v1 vb v3 tf av : UInt64} {p3 p4 : Int32} {kq bq k3q tq qt dl a : Nat} (I : own_In v1 vb v3 tf av p3 p4 kq bq k3q tq qt dl a) : 0 < qt := I.2.2.2.2.2.2.2.2.2.2.2.2.2.2.1
theorem own_In.tp {v1 vb v3 tf av : UInt64} {p3 p4 : Int32} {kq bq k3q tq qt dl a : Nat} (I : own_In v1 vb v3 tf av p3 p4 kq bq k3q tq qt dl a) : 0 < tq := I.2.2.2.2.2.2.2.2.2.2.2.2.2.2.2
theorem own_pa {v1 vb v3 tf av : UInt64} {p3 p4 : Int32} {kq bq k3q tq qt dl a : Nat} (I : own_In v1 vb v3 tf av p3 p4 kq bq k3q tq qt dl a) : 2 ^ a ≤ 128 := Nat.le_trans (Nat.pow_le_pow_right (by decide) I.ba) (by decide)
theorem own_e1 {v1 vb v3 tf av : UInt64} {p3 p4 : Int32} {kq bq k3q tq qt dl a : Nat} (I : own_In v1 vb v3 tf av p3 p4 kq bq k3q tq qt dl a) : own_DV (FP.dsub (4607182418800017408 : UInt64) vb) (4 - bq) 2 := own_sub (n := 4) (k := 2) (own_scale (n := 1) (k := 0) 2 own_one (by decide) (by decide)) I.hb I.bb
theorem own_e2 {v1 vb v3 tf av : UInt64} {p3 p4 : Int32} {kq bq k3q tq qt dl a : Nat} (I : own_In v1 vb v3 tf av p3 p4 kq bq k3q tq qt dl a) : own_DV (FP.dmul vb (FP.i2d p4)) (bq * dl) 2 := own_mul I.hb (own_i2d I.hdl) (by have := Nat.mul_le_mul I.bb I.bd; omega) (by decide)
theorem own_e3 {v1 vb v3 tf av : UInt64} {p3 p4 : Int32} {kq bq k3q tq qt dl a : Nat} (I : own_In v1 vb v3 tf av p3 p4 kq bq k3q tq qt dl a) : own_DV (FP.ddiv (FP.dmul vb (FP.i2d p4)) av) (bq * dl) (2 + a) := own_divp (own_e2 I) I.hav (by have := I.ba; omega)
theorem own_b4 {v1 vb v3 tf av : UInt64} {p3 p4 : Int32} {kq bq k3q tq qt dl a : Nat} (I : own_In v1 vb v3 tf av p3 p4 kq bq k3q tq qt dl a) : (4 - bq) * 2 ^ a ≤ 512 := by have := Nat.mul_le_mul (show 4 - bq ≤ 4 by omega) (own_pa I); omega
theorem own_e4 {v1 vb v3 tf av : UInt64} {p3 p4 : Int32} {kq bq k3q tq qt dl a : Nat} (I : own_In v1 vb v3 tf av p3 p4 kq bq k3q tq qt dl a) : own_DV (FP.dadd (FP.dsub (4607182418800017408 : UInt64) vb) (FP.ddiv (FP.dmul vb (FP.i2d p4)) av)) ((4 - bq) * 2 ^ a + bq * dl) (2 + a) := own_add (own_scale a (own_e1 I) (by have := own_b4 I; omega) (by have := I.ba; omega)) (own_e3 I) (by have := own_b4 I; have := Nat.mul_le_mul I.bb I.bd; omega)
theorem own_b5 {v1 vb v3 tf av : UInt64} {p3 p4 : Int32} {kq bq k3q tq qt dl a : Nat} (I : own_In v1 vb v3 tf av p3 p4 kq bq k3q tq qt dl a) : kq * ((4 - bq) * 2 ^ a + bq * dl) ≤ 31 * 4194812 := Nat.mul_le_mul I.bk (by have := own_b4 I; have := Nat.mul_le_mul I.bb I.bd; omega)
theorem own_e5 {v1 vb v3 tf av : UInt64} {p3 p4 : Int32} {kq bq k3q tq qt dl a : Nat} (I : own_In v1 vb v3 tf av p3 p4 kq bq k3q tq qt dl a) : own_DV (FP.dmul v1 (FP.dadd (FP.dsub (4607182418800017408 : UInt64) vb) (FP.ddiv (FP.dmul vb (FP.i2d p4)) av))) (kq * ((4 - bq) * 2 ^ a + bq * dl)) (4 + a) := (show 2 + (2 + a) = 4 + a by omega) ▸ own_mul I.hk1 (own_e4 I) (by have := own_b5 I; omega) (by have := I.ba; omega)
theorem own_b6 {v1 vb v3 tf av : UInt64} {p3 p4 : Int32} {kq bq k3q tq qt dl a : Nat} (I : own_In v1 vb v3 tf av p3 p4 kq bq k3q tq qt dl a) : tq * 2 ^ (a + 2) ≤ 1023 * 512 := Nat.mul_le_mul I.bt (by have := own_pa I; rw [Nat.pow_add]; omega)
theorem own_e6 {v1 vb v3 tf av : UInt64} {p3 p4 : Int32} {kq bq k3q tq qt dl a : Nat} (I : own_In v1 vb v3 tf av p3 p4 kq bq k3q tq qt dl a) : own_DV (FP.dadd (FP.dmul v1 (FP.dadd (FP.dsub (4607182418800017408 : UInt64) vb) (FP.ddiv (FP.dmul vb (FP.i2d p4)) av))) tf) (kq * ((4 - bq) * 2 ^ a + bq * dl) + tq * 2 ^ (a + 2)) (4 + a) := own_add (own_e5 I) ((show 2 + (a + 2) = 4 + a by omega) ▸ own_scale (a + 2) I.htf (by have := own_b6 I; omega) (by have := I.ba; omega)) (by have := own_b5 I; have := own_b6 I; omega)
theorem own_e7 {v1 vb v3 tf av : UInt64} {p3 p4 : Int32} {kq bq k3q tq qt dl a : Nat} (I : own_In v1 vb v3 tf av p3 p4 kq bq k3q tq qt dl a) : own_DV (FP.dadd v3 (4607182418800017408 : UInt64)) (k3q + 4) 2 := own_add I.hk3 (own_scale (n := 1) (k := 0) 2 own_one (by decide) (by decide)) (by have := I.bk3; omega)
theorem own_b8 {v1 vb v3 tf av : UInt64} {p3 p4 : Int32} {kq bq k3q tq qt dl a : Nat} (I : own_In v1 vb v3 tf av p3 p4 kq bq k3q tq qt dl a) : (k3q + 4) * tq ≤ 67 * 1023 := Nat.mul_le_mul (by have := I.bk3; omega) I.bt
theorem own_e8 {v1 vb v3 tf av : UInt64} {p3 p4 : Int32} {kq bq k3q tq qt dl a : Nat} (I : own_In v1 vb v3 tf av p3 p4 kq bq k3q tq qt dl a) : own_DV (FP.dmul (FP.dadd v3 (4607182418800017408 : UInt64)) tf) ((k3q + 4) * tq) 4 := own_mul (own_e7 I) I.htf (by have := own_b8 I; omega) (by decide)
theorem own_b9 {v1 vb v3 tf av : UInt64} {p3 p4 : Int32} {kq bq k3q tq qt dl a : Nat} (I : own_In v1 vb v3 tf av p3 p4 kq bq k3q tq qt dl a) : (k3q + 4) * tq * qt ≤ 67 * 1023 * 65536 := Nat.mul_le_mul (own_b8 I) I.bqt
theorem own_e9 {v1 vb v3 tf av : UInt64} {p3 p4 : Int32} {kq bq k3q tq qt dl a : Nat} (I : own_In v1 vb v3 tf av p3 p4 kq bq k3q tq qt dl a) : own_DV (FP.dmul (FP.dmul (FP.dadd v3 (4607182418800017408 : UInt64)) tf) (FP.i2d p3)) ((k3q + 4) * tq * qt) 4 := own_mul (own_e8 I) (own_i2d I.hqt) (by have := own_b9 I; omega) (by decide)
theorem own_e10 {v1 vb v3 tf av : UInt64} {p3 p4 : Int32} {kq bq k3q tq qt dl a : Nat} (I : own_In v1 vb v3 tf av p3 p4 kq bq k3q tq qt dl a) : own_DV (FP.dadd v3 (FP.i2d p3)) (k3q + qt * 2 ^ 2) 2 := own_add I.hk3 (own_scale (k := 0) 2 (own_i2d I.hqt) (by have := I.bqt; omega) (by decide)) (by have := I.bk3; have := I.bqt; omega)
theorem own_b11 {v1 vb v3 tf av : UInt64} {p3 p4 : Int32} {kq bq k3q tq qt dl a : Nat} (I : own_In v1 vb v3 tf av p3 p4 kq bq k3q tq qt dl a) : (k3q + qt * 2 ^ 2) * (kq * ((4 - bq) * 2 ^ a + bq * dl) + tq * 2 ^ (a + 2)) ≤ 262207 * 130562948 := Nat.mul_le_mul (by have := I.bk3; have := I.bqt; omega) (by have := own_b5 I; have := own_b6 I; omega)
theorem own_e11 {v1 vb v3 tf av : UInt64} {p3 p4 : Int32} {kq bq k3q tq qt dl a : Nat} (I : own_In v1 vb v3 tf av p3 p4 kq bq k3q tq qt dl a) : own_DV (FP.dmul (FP.dadd v3 (FP.i2d p3)) (FP.dadd (FP.dmul v1 (FP.dadd (FP.dsub (4607182418800017408 : UInt64) vb) (FP.ddiv (FP.dmul vb (FP.i2d p4)) av))) tf)) ((k3q + qt * 2 ^ 2) * (kq * ((4 - bq) * 2 ^ a + bq * dl) + tq * 2 ^ (a + 2))) (6 + a) := (show 2 + (4 + a) = 6 + a by omega) ▸ own_mul (own_e10 I) (own_e6 I) (by have := own_b11 I; omega) (by have := I.ba; omega)
theorem own_p11 {v1 vb v3 tf av : UInt64} {p3 p4 : Int32} {kq bq k3q tq qt dl a : Nat} (I : own_In v1 vb v3 tf av p3 p4 kq bq k3q tq qt dl a) : 0 < (k3q + qt * 2 ^ 2) * (kq * ((4 - bq) * 2 ^ a + bq * dl) + tq * 2 ^ (a + 2)) := Nat.mul_pos (by have := I.qp; omega) (Nat.lt_of_lt_of_le (Nat.mul_pos I.tp (Nat.two_pow_pos _)) (Nat.le_add_left _ _))
theorem d7_8 : decode prog_38_method_3_code 8 = .ok (.dconst 1, 1) := by decide +kernel
theorem d7_9 : decode prog_38_method_3_code 9 = .ok (.aload_n 0, 1) := by decide +kernel
theorem d7_10 : decode prog_38_method_3_code 10 = .ok (.getfield 36, 3) := by decide +kernel
theorem d7_13 : decode prog_38_method_3_code 13 = .ok (.dsub, 1) := by decide +kernel
theorem d7_14 : decode prog_38_method_3_code 14 = .ok (.aload_n 0, 1) := by decide +kernel
theorem d7_15 : decode prog_38_method_3_code 15 = .ok (.getfield 36, 3) := by decide +kernel
theorem d7_18 : decode prog_38_method_3_code 18 = .ok (.iload 4, 2) := by decide +kernel
theorem d7_20 : decode prog_38_method_3_code 20 = .ok (.i2d, 1) := by decide +kernel
theorem d7_21 : decode prog_38_method_3_code 21 = .ok (.dmul, 1) := by decide +kernel
theorem d7_22 : decode prog_38_method_3_code 22 = .ok (.dload 5, 2) := by decide +kernel
theorem d7_24 : decode prog_38_method_3_code 24 = .ok (.ddiv, 1) := by decide +kernel
theorem d7_25 : decode prog_38_method_3_code 25 = .ok (.dadd, 1) := by decide +kernel
theorem d7_26 : decode prog_38_method_3_code 26 = .ok (.dstore 7, 2) := by decide +kernel
theorem d7_28 : decode prog_38_method_3_code 28 = .ok (.aload_n 0, 1) := by decide +kernel
theorem d7_29 : decode prog_38_method_3_code 29 = .ok (.getfield 33, 3) := by decide +kernel
theorem d7_32 : decode prog_38_method_3_code 32 = .ok (.dload 7, 2) := by decide +kernel
theorem d7_34 : decode prog_38_method_3_code 34 = .ok (.dmul, 1) := by decide +kernel
theorem d7_35 : decode prog_38_method_3_code 35 = .ok (.dload_n 1, 1) := by decide +kernel
theorem d7_36 : decode prog_38_method_3_code 36 = .ok (.dadd, 1) := by decide +kernel
theorem d7_37 : decode prog_38_method_3_code 37 = .ok (.dstore 9, 2) := by decide +kernel
theorem d7_39 : decode prog_38_method_3_code 39 = .ok (.aload_n 0, 1) := by decide +kernel
theorem d7_40 : decode prog_38_method_3_code 40 = .ok (.getfield 41, 3) := by decide +kernel
theorem d7_43 : decode prog_38_method_3_code 43 = .ok (.dconst 1, 1) := by decide +kernel
theorem d7_44 : decode prog_38_method_3_code 44 = .ok (.dadd, 1) := by decide +kernel
theorem d7_45 : decode prog_38_method_3_code 45 = .ok (.dload_n 1, 1) := by decide +kernel
theorem d7_46 : decode prog_38_method_3_code 46 = .ok (.dmul, 1) := by decide +kernel
theorem d7_47 : decode prog_38_method_3_code 47 = .ok (.iload_n 3, 1) := by decide +kernel
theorem d7_48 : decode prog_38_method_3_code 48 = .ok (.i2d, 1) := by decide +kernel
theorem d7_49 : decode prog_38_method_3_code 49 = .ok (.dmul, 1) := by decide +kernel
theorem d7_50 : decode prog_38_method_3_code 50 = .ok (.aload_n 0, 1) := by decide +kernel
theorem d7_51 : decode prog_38_method_3_code 51 = .ok (.getfield 41, 3) := by decide +kernel
theorem d7_54 : decode prog_38_method_3_code 54 = .ok (.iload_n 3, 1) := by decide +kernel
theorem d7_55 : decode prog_38_method_3_code 55 = .ok (.i2d, 1) := by decide +kernel
theorem d7_56 : decode prog_38_method_3_code 56 = .ok (.dadd, 1) := by decide +kernel
theorem d7_57 : decode prog_38_method_3_code 57 = .ok (.dload 9, 2) := by decide +kernel
theorem d7_59 : decode prog_38_method_3_code 59 = .ok (.dmul, 1) := by decide +kernel
theorem d7_60 : decode prog_38_method_3_code 60 = .ok (.ddiv, 1) := by decide +kernel
theorem d7_61 : decode prog_38_method_3_code 61 = .ok (.dreturn, 1) := by decide +kernel
theorem ef_rtf1 (m : MethodId) (x : Addr) (tf : UInt64) (p3 : Int32) (p4 : Int32) (av : UInt64) : entryFrame m #[(.ref x), (.double tf), (.int p3), (.int p4), (.double av)] 11 = mkF m 0 #[.val (.ref x), .val (.double tf), .second, .val (.int p3), .val (.int p4), .val (.double av), .second, .unset, .unset, .unset, .unset] [] := by first | (simp [entryFrame, mkF, argsToLocals, Value.category]; done) | rfl
def Q_rtf1 (Z : State) (x : Addr) (tf : UInt64) (p3 : Int32) (p4 : Int32) (av : UInt64) (v1 : UInt64) (vb : UInt64) (v3 : UInt64) (kq : Nat) (bq : Nat) (k3q : Nat) (tq : Nat) (qt : Nat) (dl : Nat) (a : Nat) (h0 : Heap) (n0 : Nat) (v : Option Value) (h : Heap) (L : List Loc) : Prop := v = some (.double (own_got v1 vb v3 tf av p3 p4)) ∧ Fr n0 L ∧ h = h0
set_option maxRecDepth 65536 in
set_option maxHeartbeats 40000000 in
theorem rtf1 (l : Launch) (Z : State) (a0 : Array Value) (hw : ∀ d ∈ tables_1, d.before a0 Z = true) (ws : List Jvm.Cond) (x : Addr) (tf : UInt64) (p3 : Int32) (p4 : Int32) (av : UInt64) (v1 : UInt64) (vb : UInt64) (v3 : UInt64) (kq : Nat) (bq : Nat) (k3q : Nat) (tq : Nat) (qt : Nat) (dl : Nat) (a : Nat) (h0 : Heap) (n0 : Nat) (Z0 : n0 ≤ h0.size) (E_x : Exa Z h0 x "com/example/morro/morro/rank/Bm25") (F_k1_x : Fld Z h0 x "com/example/morro/morro/rank/Bm25" "k1" "D" (.double v1)) (F_b_x : Fld Z h0 x "com/example/morro/morro/rank/Bm25" "b" "D" (.double vb)) (F_k3_x : Fld Z h0 x "com/example/morro/morro/rank/Bm25" "k3" "D" (.double v3)) (hz : ¬ (cmpValue (FP.dcmp tf (0 : UInt64)) .l = (0 : Int32))) (hI : own_In v1 vb v3 tf av p3 p4 kq bq k3q tq qt dl a) :
    MetFree l (⟨"com/example/morro/morro/rank/Bm25", "tf", "(DIID)D"⟩ : MethodName) (head1 (Jvm.Cond.code (⟨"com/example/morro/morro/rank/Bm25", "tf", "(DIID)D"⟩ : MethodName) prog_38_method_3_code 11 (some .double) :: ws) ({ frames := 0, cells := 0, slots := 0, locals := 0 } : Room)) (fun a U => a = #[(.ref x), (.double tf), (.int p3), (.int p4), (.double av)] ∧ Z.Warmed39 U.vm ∧ U.heap = h0) (fun _ _ _ _ _ => True) (fun _ U o U' => ∃ v L, o = .returned v ∧ Q_rtf1 Z x tf p3 p4 av v1 vb v3 kq bq k3q tq qt dl a h0 n0 v U'.heap L ∧ FrameEnd U o U' L ({ frames := 0, cells := 0, slots := 0, locals := 0 } : Room).cells ({ frames := 0, cells := 0, slots := 0, locals := 0 } : Room).slots) := by
  refine MetFree.of_bodySF (plainFor_of_name pn_com_example_morro_morro_rank_Bm25) hisR ?_
  intro p e s m args below meth c s₁ Bd hml0 hP hK
  obtain ⟨rfl, hZ, hh⟩ := hP
  have hx := Bd.exec
  have hby := Bd.bytes
  have hml : c.maxLocals = 11 := hml0
  have hown : s.vm.findClass "com/example/morro/morro/rank/Bm25" = some m.cls := findClass_of_methodNamed Bd.named
  have hnm := (name_of_methodNamed Bd.named Bd.method).1
  have X0 : Stand p l e ({ frames := 0, cells := 0, slots := 0, locals := 0 } : Room) s m #[(.ref x), (.double tf), (.int p3), (.int p4), (.double av)] below meth c s₁ [] 0 0 := Stand.of_body Bd
  have e0 : s₁.heap = h0 := by rw [← hh, Bd.state]; rfl
  have N0 := Fr.nil n0
  have pre0 : ∀ t, Steps p.tables e below (s₁.setTop (mkF m 0 #[.val (.ref x), .val (.double tf), .second, .val (.int p3), .val (.int p4), .val (.double av), .second, .unset, .unset, .unset, .unset] [])) t → Steps p.tables e below (s₁.setTop (entryFrame m #[(.ref x), (.double tf), (.int p3), (.int p4), (.double av)] 11)) t := fun t k => castTop (ef_rtf1 m x tf p3 p4 av) k
  obtain ⟨T1, X1, e1, st1⟩ := getF X0 hx hZ hown (host := "") (Or.inl (hw _ (List.mem_of_getElem? (i := 38) rfl))) Via.refl e0 F_b_x (g := (mkF m 10 #[.val (.ref x), .val (.double tf), .second, .val (.int p3), .val (.int p4), .val (.double av), .second, .unset, .unset, .unset, .unset] [(.ref x), (.double (4607182418800017408 : UInt64))])) rfl rfl (hb hby d7_10)
  obtain ⟨T2, X2, e2, st2⟩ := getF X1 hx hZ hown (host := "") (Or.inl (hw _ (List.mem_of_getElem? (i := 38) rfl))) Via.refl e1 F_b_x (g := (mkF m 15 #[.val (.ref x), .val (.double tf), .second, .val (.int p3), .val (.int p4), .val (.double av), .second, .unset, .unset, .unset, .unset] [(.ref x), (.double (FP.dsub (4607182418800017408 : UInt64) vb))])) rfl rfl (hb hby d7_15)
  obtain ⟨T3, X3, e3, st3⟩ := getF X2 hx hZ hown (host := "") (Or.inl (hw _ (List.mem_of_getElem? (i := 36) rfl))) Via.refl e2 F_k1_x (g := (mkF m 29 #[.val (.ref x), .val (.double tf), .second, .val (.int p3), .val (.int p4), .val (.double av), .second, .val (.double (FP.dadd (FP.dsub (4607182418800017408 : UInt64) vb) (FP.ddiv (FP.dmul vb (FP.i2d p4)) av))), .second, .unset, .unset] [(.ref x)])) rfl rfl (hb hby d7_29)
  obtain ⟨T4, X4, e4, st4⟩ := getF X3 hx hZ hown (host := "") (Or.inl (hw _ (List.mem_of_getElem? (i := 41) rfl))) Via.refl e3 F_k3_x (g := (mkF m 40 #[.val (.ref x), .val (.double tf), .second, .val (.int p3), .val (.int p4), .val (.double av), .second, .val (.double (FP.dadd (FP.dsub (4607182418800017408 : UInt64) vb) (FP.ddiv (FP.dmul vb (FP.i2d p4)) av))), .second, .val (.double (FP.dadd (FP.dmul v1 (FP.dadd (FP.dsub (4607182418800017408 : UInt64) vb) (FP.ddiv (FP.dmul vb (FP.i2d p4)) av))) tf)), .second] [(.ref x)])) rfl rfl (hb hby d7_40)
  obtain ⟨T5, X5, e5, st5⟩ := getF X4 hx hZ hown (host := "") (Or.inl (hw _ (List.mem_of_getElem? (i := 41) rfl))) Via.refl e4 F_k3_x (g := (mkF m 51 #[.val (.ref x), .val (.double tf), .second, .val (.int p3), .val (.int p4), .val (.double av), .second, .val (.double (FP.dadd (FP.dsub (4607182418800017408 : UInt64) vb) (FP.ddiv (FP.dmul vb (FP.i2d p4)) av))), .second, .val (.double (FP.dadd (FP.dmul v1 (FP.dadd (FP.dsub (4607182418800017408 : UInt64) vb) (FP.ddiv (FP.dmul vb (FP.i2d p4)) av))) tf)), .second] [(.ref x), (.double (FP.dmul (FP.dmul (FP.dadd v3 (4607182418800017408 : UInt64)) tf) (FP.i2d p3)))])) rfl rfl (hb hby d7_51)
  have pre6 : ∀ t, Steps p.tables e below (T5.setTop (mkF m 55 #[.val (.ref x), .val (.double tf), .second, .val (.int p3), .val (.int p4), .val (.double av), .second, .val (.double (FP.dadd (FP.dsub (4607182418800017408 : UInt64) vb) (FP.ddiv (FP.dmul vb (FP.i2d p4)) av))), .second, .val (.double (FP.dadd (FP.dmul v1 (FP.dadd (FP.dsub (4607182418800017408 : UInt64) vb) (FP.ddiv (FP.dmul vb (FP.i2d p4)) av))) tf)), .second] [(.int p3), (.double v3), (.double (FP.dmul (FP.dmul (FP.dadd v3 (4607182418800017408 : UInt64)) tf) (FP.i2d p3)))])) t → Steps p.tables e below (s₁.setTop (entryFrame m #[(.ref x), (.double tf), (.int p3), (.int p4), (.double av)] 11)) t := fun t kt => by
    refine pre0 t ?_
    show Steps p.tables e below (s₁.setTop (mkF m 0 #[.val (.ref x), .val (.double tf), .second, .val (.int p3), .val (.int p4), .val (.double av), .second, .unset, .unset, .unset, .unset] [])) _
    refine XS.dloadN X0.here hx rfl (hb hby d7_0) rfl ?_
    show Steps p.tables e below (s₁.setTop (mkF m 1 #[.val (.ref x), .val (.double tf), .second, .val (.int p3), .val (.int p4), .val (.double av), .second, .unset, .unset, .unset, .unset] [(.double tf)])) _
    refine XS.dconst0 X0.here hx rfl (hb hby d7_1) (v := (0 : UInt64)) rfl ?_
    show Steps p.tables e below (s₁.setTop (mkF m 2 #[.val (.ref x), .val (.double tf), .second, .val (.int p3), .val (.int p4), .val (.double av), .second, .unset, .unset, .unset, .unset] [(.double (0 : UInt64)), (.double tf)])) _
    refine XS.dcmpS X0.here hx rfl (v := (cmpValue (FP.dcmp tf (0 : UInt64)) .l)) (hb hby d7_2) rfl rfl ?_
    show Steps p.tables e below (s₁.setTop (mkF m 3 #[.val (.ref x), .val (.double tf), .second, .val (.int p3), .val (.int p4), .val (.double av), .second, .unset, .unset, .unset, .unset] [(.int (cmpValue (FP.dcmp tf (0 : UInt64)) .l))])) _
    refine XS.ifYes X0.here hx rfl (pc0 := 3) (pc' := 8) rfl (hb hby d7_3) rfl ((if0 _ _).trans (feq hz).2) (by decide) (by decide) ?_
    show Steps p.tables e below (s₁.setTop (mkF m 8 #[.val (.ref x), .val (.double tf), .second, .val (.int p3), .val (.int p4), .val (.double av), .second, .unset, .unset, .unset, .unset] [])) _
    refine XS.dconst1 X0.here hx rfl (hb hby d7_8) (v := (4607182418800017408 : UInt64)) rfl ?_
    show Steps p.tables e below (s₁.setTop (mkF m 9 #[.val (.ref x), .val (.double tf), .second, .val (.int p3), .val (.int p4), .val (.double av), .second, .unset, .unset, .unset, .unset] [(.double (4607182418800017408 : UInt64))])) _
    refine XS.aloadN X0.here hx rfl (hb hby d7_9) rfl rfl ?_
    show Steps p.tables e below (s₁.setTop (mkF m 10 #[.val (.ref x), .val (.double tf), .second, .val (.int p3), .val (.int p4), .val (.double av), .second, .unset, .unset, .unset, .unset] [(.ref x), (.double (4607182418800017408 : UInt64))])) _
    refine st1 _ ?_
    show Steps p.tables e below (T1.setTop (mkF m 13 #[.val (.ref x), .val (.double tf), .second, .val (.int p3), .val (.int p4), .val (.double av), .second, .unset, .unset, .unset, .unset] [(.double vb), (.double (4607182418800017408 : UInt64))])) _
    refine XS.dsubS X1.here hx rfl (hb hby d7_13) rfl (own_nnD (own_e1 hI)) rfl ?_
    show Steps p.tables e below (T1.setTop (mkF m 14 #[.val (.ref x), .val (.double tf), .second, .val (.int p3), .val (.int p4), .val (.double av), .second, .unset, .unset, .unset, .unset] [(.double (FP.dsub (4607182418800017408 : UInt64) vb))])) _
    refine XS.aloadN X1.here hx rfl (hb hby d7_14) rfl rfl ?_
    show Steps p.tables e below (T1.setTop (mkF m 15 #[.val (.ref x), .val (.double tf), .second, .val (.int p3), .val (.int p4), .val (.double av), .second, .unset, .unset, .unset, .unset] [(.ref x), (.double (FP.dsub (4607182418800017408 : UInt64) vb))])) _
    refine st2 _ ?_
    show Steps p.tables e below (T2.setTop (mkF m 18 #[.val (.ref x), .val (.double tf), .second, .val (.int p3), .val (.int p4), .val (.double av), .second, .unset, .unset, .unset, .unset] [(.double vb), (.double (FP.dsub (4607182418800017408 : UInt64) vb))])) _
    refine XS.iload X2.here hx rfl (hb hby d7_18) rfl ?_
    show Steps p.tables e below (T2.setTop (mkF m 20 #[.val (.ref x), .val (.double tf), .second, .val (.int p3), .val (.int p4), .val (.double av), .second, .unset, .unset, .unset, .unset] [(.int p4), (.double vb), (.double (FP.dsub (4607182418800017408 : UInt64) vb))])) _
    refine XS.i2dS X2.here hx rfl (hb hby d7_20) rfl rfl ?_
    show Steps p.tables e below (T2.setTop (mkF m 21 #[.val (.ref x), .val (.double tf), .second, .val (.int p3), .val (.int p4), .val (.double av), .second, .unset, .unset, .unset, .unset] [(.double (FP.i2d p4)), (.double vb), (.double (FP.dsub (4607182418800017408 : UInt64) vb))])) _
    refine XS.dmulS X2.here hx rfl (hb hby d7_21) rfl (own_nnD (own_e2 hI)) rfl ?_
    show Steps p.tables e below (T2.setTop (mkF m 22 #[.val (.ref x), .val (.double tf), .second, .val (.int p3), .val (.int p4), .val (.double av), .second, .unset, .unset, .unset, .unset] [(.double (FP.dmul vb (FP.i2d p4))), (.double (FP.dsub (4607182418800017408 : UInt64) vb))])) _
    refine XS.dload X2.here hx rfl (hb hby d7_22) rfl ?_
    show Steps p.tables e below (T2.setTop (mkF m 24 #[.val (.ref x), .val (.double tf), .second, .val (.int p3), .val (.int p4), .val (.double av), .second, .unset, .unset, .unset, .unset] [(.double av), (.double (FP.dmul vb (FP.i2d p4))), (.double (FP.dsub (4607182418800017408 : UInt64) vb))])) _
    refine XS.ddivS X2.here hx rfl (hb hby d7_24) rfl (own_nnD (own_e3 hI)) rfl ?_
    show Steps p.tables e below (T2.setTop (mkF m 25 #[.val (.ref x), .val (.double tf), .second, .val (.int p3), .val (.int p4), .val (.double av), .second, .unset, .unset, .unset, .unset] [(.double (FP.ddiv (FP.dmul vb (FP.i2d p4)) av)), (.double (FP.dsub (4607182418800017408 : UInt64) vb))])) _
    refine XS.daddS X2.here hx rfl (hb hby d7_25) rfl (own_nnD (own_e4 hI)) rfl ?_
    show Steps p.tables e below (T2.setTop (mkF m 26 #[.val (.ref x), .val (.double tf), .second, .val (.int p3), .val (.int p4), .val (.double av), .second, .unset, .unset, .unset, .unset] [(.double (FP.dadd (FP.dsub (4607182418800017408 : UInt64) vb) (FP.ddiv (FP.dmul vb (FP.i2d p4)) av)))])) _
    refine XS.dstore X2.here hx rfl (hb hby d7_26) rfl (l' := #[.val (.ref x), .val (.double tf), .second, .val (.int p3), .val (.int p4), .val (.double av), .second, .val (.double (FP.dadd (FP.dsub (4607182418800017408 : UInt64) vb) (FP.ddiv (FP.dmul vb (FP.i2d p4)) av))), .second, .unset, .unset]) rfl ?_
    show Steps p.tables e below (T2.setTop (mkF m 28 #[.val (.ref x), .val (.double tf), .second, .val (.int p3), .val (.int p4), .val (.double av), .second, .val (.double (FP.dadd (FP.dsub (4607182418800017408 : UInt64) vb) (FP.ddiv (FP.dmul vb (FP.i2d p4)) av))), .second, .unset, .unset] [])) _
    refine XS.aloadN X2.here hx rfl (hb hby d7_28) rfl rfl ?_
    show Steps p.tables e below (T2.setTop (mkF m 29 #[.val (.ref x), .val (.double tf), .second, .val (.int p3), .val (.int p4), .val (.double av), .second, .val (.double (FP.dadd (FP.dsub (4607182418800017408 : UInt64) vb) (FP.ddiv (FP.dmul vb (FP.i2d p4)) av))), .second, .unset, .unset] [(.ref x)])) _
    refine st3 _ ?_
    show Steps p.tables e below (T3.setTop (mkF m 32 #[.val (.ref x), .val (.double tf), .second, .val (.int p3), .val (.int p4), .val (.double av), .second, .val (.double (FP.dadd (FP.dsub (4607182418800017408 : UInt64) vb) (FP.ddiv (FP.dmul vb (FP.i2d p4)) av))), .second, .unset, .unset] [(.double v1)])) _
    refine XS.dload X3.here hx rfl (hb hby d7_32) rfl ?_
    show Steps p.tables e below (T3.setTop (mkF m 34 #[.val (.ref x), .val (.double tf), .second, .val (.int p3), .val (.int p4), .val (.double av), .second, .val (.double (FP.dadd (FP.dsub (4607182418800017408 : UInt64) vb) (FP.ddiv (FP.dmul vb (FP.i2d p4)) av))), .second, .unset, .unset] [(.double (FP.dadd (FP.dsub (4607182418800017408 : UInt64) vb) (FP.ddiv (FP.dmul vb (FP.i2d p4)) av))), (.double v1)])) _
    refine XS.dmulS X3.here hx rfl (hb hby d7_34) rfl (own_nnD (own_e5 hI)) rfl ?_
    show Steps p.tables e below (T3.setTop (mkF m 35 #[.val (.ref x), .val (.double tf), .second, .val (.int p3), .val (.int p4), .val (.double av), .second, .val (.double (FP.dadd (FP.dsub (4607182418800017408 : UInt64) vb) (FP.ddiv (FP.dmul vb (FP.i2d p4)) av))), .second, .unset, .unset] [(.double (FP.dmul v1 (FP.dadd (FP.dsub (4607182418800017408 : UInt64) vb) (FP.ddiv (FP.dmul vb (FP.i2d p4)) av))))])) _
    refine XS.dloadN X3.here hx rfl (hb hby d7_35) rfl ?_
    show Steps p.tables e below (T3.setTop (mkF m 36 #[.val (.ref x), .val (.double tf), .second, .val (.int p3), .val (.int p4), .val (.double av), .second, .val (.double (FP.dadd (FP.dsub (4607182418800017408 : UInt64) vb) (FP.ddiv (FP.dmul vb (FP.i2d p4)) av))), .second, .unset, .unset] [(.double tf), (.double (FP.dmul v1 (FP.dadd (FP.dsub (4607182418800017408 : UInt64) vb) (FP.ddiv (FP.dmul vb (FP.i2d p4)) av))))])) _
    refine XS.daddS X3.here hx rfl (hb hby d7_36) rfl (own_nnD (own_e6 hI)) rfl ?_
    show Steps p.tables e below (T3.setTop (mkF m 37 #[.val (.ref x), .val (.double tf), .second, .val (.int p3), .val (.int p4), .val (.double av), .second, .val (.double (FP.dadd (FP.dsub (4607182418800017408 : UInt64) vb) (FP.ddiv (FP.dmul vb (FP.i2d p4)) av))), .second, .unset, .unset] [(.double (FP.dadd (FP.dmul v1 (FP.dadd (FP.dsub (4607182418800017408 : UInt64) vb) (FP.ddiv (FP.dmul vb (FP.i2d p4)) av))) tf))])) _
    refine XS.dstore X3.here hx rfl (hb hby d7_37) rfl (l' := #[.val (.ref x), .val (.double tf), .second, .val (.int p3), .val (.int p4), .val (.double av), .second, .val (.double (FP.dadd (FP.dsub (4607182418800017408 : UInt64) vb) (FP.ddiv (FP.dmul vb (FP.i2d p4)) av))), .second, .val (.double (FP.dadd (FP.dmul v1 (FP.dadd (FP.dsub (4607182418800017408 : UInt64) vb) (FP.ddiv (FP.dmul vb (FP.i2d p4)) av))) tf)), .second]) rfl ?_
    show Steps p.tables e below (T3.setTop (mkF m 39 #[.val (.ref x), .val (.double tf), .second, .val (.int p3), .val (.int p4), .val (.double av), .second, .val (.double (FP.dadd (FP.dsub (4607182418800017408 : UInt64) vb) (FP.ddiv (FP.dmul vb (FP.i2d p4)) av))), .second, .val (.double (FP.dadd (FP.dmul v1 (FP.dadd (FP.dsub (4607182418800017408 : UInt64) vb) (FP.ddiv (FP.dmul vb (FP.i2d p4)) av))) tf)), .second] [])) _
    refine XS.aloadN X3.here hx rfl (hb hby d7_39) rfl rfl ?_
    show Steps p.tables e below (T3.setTop (mkF m 40 #[.val (.ref x), .val (.double tf), .second, .val (.int p3), .val (.int p4), .val (.double av), .second, .val (.double (FP.dadd (FP.dsub (4607182418800017408 : UInt64) vb) (FP.ddiv (FP.dmul vb (FP.i2d p4)) av))), .second, .val (.double (FP.dadd (FP.dmul v1 (FP.dadd (FP.dsub (4607182418800017408 : UInt64) vb) (FP.ddiv (FP.dmul vb (FP.i2d p4)) av))) tf)), .second] [(.ref x)])) _
    refine st4 _ ?_
    show Steps p.tables e below (T4.setTop (mkF m 43 #[.val (.ref x), .val (.double tf), .second, .val (.int p3), .val (.int p4), .val (.double av), .second, .val (.double (FP.dadd (FP.dsub (4607182418800017408 : UInt64) vb) (FP.ddiv (FP.dmul vb (FP.i2d p4)) av))), .second, .val (.double (FP.dadd (FP.dmul v1 (FP.dadd (FP.dsub (4607182418800017408 : UInt64) vb) (FP.ddiv (FP.dmul vb (FP.i2d p4)) av))) tf)), .second] [(.double v3)])) _
    refine XS.dconst1 X4.here hx rfl (hb hby d7_43) (v := (4607182418800017408 : UInt64)) rfl ?_
    show Steps p.tables e below (T4.setTop (mkF m 44 #[.val (.ref x), .val (.double tf), .second, .val (.int p3), .val (.int p4), .val (.double av), .second, .val (.double (FP.dadd (FP.dsub (4607182418800017408 : UInt64) vb) (FP.ddiv (FP.dmul vb (FP.i2d p4)) av))), .second, .val (.double (FP.dadd (FP.dmul v1 (FP.dadd (FP.dsub (4607182418800017408 : UInt64) vb) (FP.ddiv (FP.dmul vb (FP.i2d p4)) av))) tf)), .second] [(.double (4607182418800017408 : UInt64)), (.double v3)])) _
    refine XS.daddS X4.here hx rfl (hb hby d7_44) rfl (own_nnD (own_e7 hI)) rfl ?_
    show Steps p.tables e below (T4.setTop (mkF m 45 #[.val (.ref x), .val (.double tf), .second, .val (.int p3), .val (.int p4), .val (.double av), .second, .val (.double (FP.dadd (FP.dsub (4607182418800017408 : UInt64) vb) (FP.ddiv (FP.dmul vb (FP.i2d p4)) av))), .second, .val (.double (FP.dadd (FP.dmul v1 (FP.dadd (FP.dsub (4607182418800017408 : UInt64) vb) (FP.ddiv (FP.dmul vb (FP.i2d p4)) av))) tf)), .second] [(.double (FP.dadd v3 (4607182418800017408 : UInt64)))])) _
    refine XS.dloadN X4.here hx rfl (hb hby d7_45) rfl ?_
    show Steps p.tables e below (T4.setTop (mkF m 46 #[.val (.ref x), .val (.double tf), .second, .val (.int p3), .val (.int p4), .val (.double av), .second, .val (.double (FP.dadd (FP.dsub (4607182418800017408 : UInt64) vb) (FP.ddiv (FP.dmul vb (FP.i2d p4)) av))), .second, .val (.double (FP.dadd (FP.dmul v1 (FP.dadd (FP.dsub (4607182418800017408 : UInt64) vb) (FP.ddiv (FP.dmul vb (FP.i2d p4)) av))) tf)), .second] [(.double tf), (.double (FP.dadd v3 (4607182418800017408 : UInt64)))])) _
    refine XS.dmulS X4.here hx rfl (hb hby d7_46) rfl (own_nnD (own_e8 hI)) rfl ?_
    show Steps p.tables e below (T4.setTop (mkF m 47 #[.val (.ref x), .val (.double tf), .second, .val (.int p3), .val (.int p4), .val (.double av), .second, .val (.double (FP.dadd (FP.dsub (4607182418800017408 : UInt64) vb) (FP.ddiv (FP.dmul vb (FP.i2d p4)) av))), .second, .val (.double (FP.dadd (FP.dmul v1 (FP.dadd (FP.dsub (4607182418800017408 : UInt64) vb) (FP.ddiv (FP.dmul vb (FP.i2d p4)) av))) tf)), .second] [(.double (FP.dmul (FP.dadd v3 (4607182418800017408 : UInt64)) tf))])) _
    refine XS.iloadN X4.here hx rfl (hb hby d7_47) rfl ?_
    show Steps p.tables e below (T4.setTop (mkF m 48 #[.val (.ref x), .val (.double tf), .second, .val (.int p3), .val (.int p4), .val (.double av), .second, .val (.double (FP.dadd (FP.dsub (4607182418800017408 : UInt64) vb) (FP.ddiv (FP.dmul vb (FP.i2d p4)) av))), .second, .val (.double (FP.dadd (FP.dmul v1 (FP.dadd (FP.dsub (4607182418800017408 : UInt64) vb) (FP.ddiv (FP.dmul vb (FP.i2d p4)) av))) tf)), .second] [(.int p3), (.double (FP.dmul (FP.dadd v3 (4607182418800017408 : UInt64)) tf))])) _
    refine XS.i2dS X4.here hx rfl (hb hby d7_48) rfl rfl ?_
    show Steps p.tables e below (T4.setTop (mkF m 49 #[.val (.ref x), .val (.double tf), .second, .val (.int p3), .val (.int p4), .val (.double av), .second, .val (.double (FP.dadd (FP.dsub (4607182418800017408 : UInt64) vb) (FP.ddiv (FP.dmul vb (FP.i2d p4)) av))), .second, .val (.double (FP.dadd (FP.dmul v1 (FP.dadd (FP.dsub (4607182418800017408 : UInt64) vb) (FP.ddiv (FP.dmul vb (FP.i2d p4)) av))) tf)), .second] [(.double (FP.i2d p3)), (.double (FP.dmul (FP.dadd v3 (4607182418800017408 : UInt64)) tf))])) _
    refine XS.dmulS X4.here hx rfl (hb hby d7_49) rfl (own_nnD (own_e9 hI)) rfl ?_
    show Steps p.tables e below (T4.setTop (mkF m 50 #[.val (.ref x), .val (.double tf), .second, .val (.int p3), .val (.int p4), .val (.double av), .second, .val (.double (FP.dadd (FP.dsub (4607182418800017408 : UInt64) vb) (FP.ddiv (FP.dmul vb (FP.i2d p4)) av))), .second, .val (.double (FP.dadd (FP.dmul v1 (FP.dadd (FP.dsub (4607182418800017408 : UInt64) vb) (FP.ddiv (FP.dmul vb (FP.i2d p4)) av))) tf)), .second] [(.double (FP.dmul (FP.dmul (FP.dadd v3 (4607182418800017408 : UInt64)) tf) (FP.i2d p3)))])) _
    refine XS.aloadN X4.here hx rfl (hb hby d7_50) rfl rfl ?_
    show Steps p.tables e below (T4.setTop (mkF m 51 #[.val (.ref x), .val (.double tf), .second, .val (.int p3), .val (.int p4), .val (.double av), .second, .val (.double (FP.dadd (FP.dsub (4607182418800017408 : UInt64) vb) (FP.ddiv (FP.dmul vb (FP.i2d p4)) av))), .second, .val (.double (FP.dadd (FP.dmul v1 (FP.dadd (FP.dsub (4607182418800017408 : UInt64) vb) (FP.ddiv (FP.dmul vb (FP.i2d p4)) av))) tf)), .second] [(.ref x), (.double (FP.dmul (FP.dmul (FP.dadd v3 (4607182418800017408 : UInt64)) tf) (FP.i2d p3)))])) _
    refine st5 _ ?_
    show Steps p.tables e below (T5.setTop (mkF m 54 #[.val (.ref x), .val (.double tf), .second, .val (.int p3), .val (.int p4), .val (.double av), .second, .val (.double (FP.dadd (FP.dsub (4607182418800017408 : UInt64) vb) (FP.ddiv (FP.dmul vb (FP.i2d p4)) av))), .second, .val (.double (FP.dadd (FP.dmul v1 (FP.dadd (FP.dsub (4607182418800017408 : UInt64) vb) (FP.ddiv (FP.dmul vb (FP.i2d p4)) av))) tf)), .second] [(.double v3), (.double (FP.dmul (FP.dmul (FP.dadd v3 (4607182418800017408 : UInt64)) tf) (FP.i2d p3)))])) _
    refine XS.iloadN X5.here hx rfl (hb hby d7_54) rfl ?_
    exact kt
  obtain ⟨fs, hr, hrun, hended, hW, hsame⟩ := X5.leave (v := some (.double (FP.ddiv (FP.dmul (FP.dmul (FP.dadd v3 (4607182418800017408 : UInt64)) tf) (FP.i2d p3)) (FP.dmul (FP.dadd v3 (FP.i2d p3)) (FP.dadd (FP.dmul v1 (FP.dadd (FP.dsub (4607182418800017408 : UInt64) vb) (FP.ddiv (FP.dmul vb (FP.i2d p4)) av))) tf))))) (fun h => by rw [Bd.returns] at h; cases h)
  refine ⟨_, _, pre6 _ ?_, hrun, hended, _, _, rfl, ?_, ⟨_, rfl⟩, hW, hsame.mono (by decide) (by decide)⟩
  · show Steps p.tables e below (T5.setTop (mkF m 55 #[.val (.ref x), .val (.double tf), .second, .val (.int p3), .val (.int p4), .val (.double av), .second, .val (.double (FP.dadd (FP.dsub (4607182418800017408 : UInt64) vb) (FP.ddiv (FP.dmul vb (FP.i2d p4)) av))), .second, .val (.double (FP.dadd (FP.dmul v1 (FP.dadd (FP.dsub (4607182418800017408 : UInt64) vb) (FP.ddiv (FP.dmul vb (FP.i2d p4)) av))) tf)), .second] [(.int p3), (.double v3), (.double (FP.dmul (FP.dmul (FP.dadd v3 (4607182418800017408 : UInt64)) tf) (FP.i2d p3)))])) _
    refine XS.i2dS X5.here hx rfl (hb hby d7_55) rfl rfl ?_
    show Steps p.tables e below (T5.setTop (mkF m 56 #[.val (.ref x), .val (.double tf), .second, .val (.int p3), .val (.int p4), .val (.double av), .second, .val (.double (FP.dadd (FP.dsub (4607182418800017408 : UInt64) vb) (FP.ddiv (FP.dmul vb (FP.i2d p4)) av))), .second, .val (.double (FP.dadd (FP.dmul v1 (FP.dadd (FP.dsub (4607182418800017408 : UInt64) vb) (FP.ddiv (FP.dmul vb (FP.i2d p4)) av))) tf)), .second] [(.double (FP.i2d p3)), (.double v3), (.double (FP.dmul (FP.dmul (FP.dadd v3 (4607182418800017408 : UInt64)) tf) (FP.i2d p3)))])) _
    refine XS.daddS X5.here hx rfl (hb hby d7_56) rfl (own_nnD (own_e10 hI)) rfl ?_
    show Steps p.tables e below (T5.setTop (mkF m 57 #[.val (.ref x), .val (.double tf), .second, .val (.int p3), .val (.int p4), .val (.double av), .second, .val (.double (FP.dadd (FP.dsub (4607182418800017408 : UInt64) vb) (FP.ddiv (FP.dmul vb (FP.i2d p4)) av))), .second, .val (.double (FP.dadd (FP.dmul v1 (FP.dadd (FP.dsub (4607182418800017408 : UInt64) vb) (FP.ddiv (FP.dmul vb (FP.i2d p4)) av))) tf)), .second] [(.double (FP.dadd v3 (FP.i2d p3))), (.double (FP.dmul (FP.dmul (FP.dadd v3 (4607182418800017408 : UInt64)) tf) (FP.i2d p3)))])) _
    refine XS.dload X5.here hx rfl (hb hby d7_57) rfl ?_
    show Steps p.tables e below (T5.setTop (mkF m 59 #[.val (.ref x), .val (.double tf), .second, .val (.int p3), .val (.int p4), .val (.double av), .second, .val (.double (FP.dadd (FP.dsub (4607182418800017408 : UInt64) vb) (FP.ddiv (FP.dmul vb (FP.i2d p4)) av))), .second, .val (.double (FP.dadd (FP.dmul v1 (FP.dadd (FP.dsub (4607182418800017408 : UInt64) vb) (FP.ddiv (FP.dmul vb (FP.i2d p4)) av))) tf)), .second] [(.double (FP.dadd (FP.dmul v1 (FP.dadd (FP.dsub (4607182418800017408 : UInt64) vb) (FP.ddiv (FP.dmul vb (FP.i2d p4)) av))) tf)), (.double (FP.dadd v3 (FP.i2d p3))), (.double (FP.dmul (FP.dmul (FP.dadd v3 (4607182418800017408 : UInt64)) tf) (FP.i2d p3)))])) _
    refine XS.dmulS X5.here hx rfl (hb hby d7_59) rfl (own_nnD (own_e11 hI)) rfl ?_
    show Steps p.tables e below (T5.setTop (mkF m 60 #[.val (.ref x), .val (.double tf), .second, .val (.int p3), .val (.int p4), .val (.double av), .second, .val (.double (FP.dadd (FP.dsub (4607182418800017408 : UInt64) vb) (FP.ddiv (FP.dmul vb (FP.i2d p4)) av))), .second, .val (.double (FP.dadd (FP.dmul v1 (FP.dadd (FP.dsub (4607182418800017408 : UInt64) vb) (FP.ddiv (FP.dmul vb (FP.i2d p4)) av))) tf)), .second] [(.double (FP.dmul (FP.dadd v3 (FP.i2d p3)) (FP.dadd (FP.dmul v1 (FP.dadd (FP.dsub (4607182418800017408 : UInt64) vb) (FP.ddiv (FP.dmul vb (FP.i2d p4)) av))) tf))), (.double (FP.dmul (FP.dmul (FP.dadd v3 (4607182418800017408 : UInt64)) tf) (FP.i2d p3)))])) _
    refine XS.ddivS X5.here hx rfl (hb hby d7_60) rfl (own_nnQ (own_e9 hI) (own_e11 hI) (own_p11 hI)) rfl ?_
    show Steps p.tables e below (T5.setTop (mkF m 61 #[.val (.ref x), .val (.double tf), .second, .val (.int p3), .val (.int p4), .val (.double av), .second, .val (.double (FP.dadd (FP.dsub (4607182418800017408 : UInt64) vb) (FP.ddiv (FP.dmul vb (FP.i2d p4)) av))), .second, .val (.double (FP.dadd (FP.dmul v1 (FP.dadd (FP.dsub (4607182418800017408 : UInt64) vb) (FP.ddiv (FP.dmul vb (FP.i2d p4)) av))) tf)), .second] [(.double (FP.ddiv (FP.dmul (FP.dmul (FP.dadd v3 (4607182418800017408 : UInt64)) tf) (FP.i2d p3)) (FP.dmul (FP.dadd v3 (FP.i2d p3)) (FP.dadd (FP.dmul v1 (FP.dadd (FP.dsub (4607182418800017408 : UInt64) vb) (FP.ddiv (FP.dmul vb (FP.i2d p4)) av))) tf))))])) _
    jvm_step X5.here [X5.here.top, hx, (hb hby d7_61), X5.method', Bd.returns, narrow]
    first | (intro acts; rw [hr _ acts rfl rfl rfl]) | rw [hr _ _ rfl rfl rfl]
    exact Steps.refl _
  · show Q_rtf1 Z x tf p3 p4 av v1 vb v3 kq bq k3q tq qt dl a h0 n0 _ T5.heap _
    rw [e5]
    exact ⟨rfl, N0, rfl⟩
/-- what the law's inputs are cut to -/
def own_B (dl qt a kq bq kv : Int32) (tq : Int64) : Prop := (0 ≤ dl.toInt) ∧ (dl.toInt ≤ 1048575) ∧ (1 ≤ qt.toInt) ∧ (qt.toInt ≤ 65536) ∧ (0 ≤ a.toInt) ∧ (a.toInt ≤ 7) ∧ (0 ≤ kq.toInt) ∧ (kq.toInt ≤ 31) ∧ (0 ≤ bq.toInt) ∧ (bq.toInt ≤ 4) ∧ (0 ≤ kv.toInt) ∧ (kv.toInt ≤ 63) ∧ (0 ≤ tq.toInt) ∧ (tq.toInt ≤ 1023)
theorem own_B.d0 {dl qt a kq bq kv : Int32} {tq : Int64} (I : own_B dl qt a kq bq kv tq) : 0 ≤ dl.toInt := I.1
theorem own_B.d1 {dl qt a kq bq kv : Int32} {tq : Int64} (I : own_B dl qt a kq bq kv tq) : dl.toInt ≤ 1048575 := I.2.1
theorem own_B.q0 {dl qt a kq bq kv : Int32} {tq : Int64} (I : own_B dl qt a kq bq kv tq) : 1 ≤ qt.toInt := I.2.2.1
theorem own_B.q1 {dl qt a kq bq kv : Int32} {tq : Int64} (I : own_B dl qt a kq bq kv tq) : qt.toInt ≤ 65536 := I.2.2.2.1
theorem own_B.a0 {dl qt a kq bq kv : Int32} {tq : Int64} (I : own_B dl qt a kq bq kv tq) : 0 ≤ a.toInt := I.2.2.2.2.1
theorem own_B.a1 {dl qt a kq bq kv : Int32} {tq : Int64} (I : own_B dl qt a kq bq kv tq) : a.toInt ≤ 7 := I.2.2.2.2.2.1
theorem own_B.k0 {dl qt a kq bq kv : Int32} {tq : Int64} (I : own_B dl qt a kq bq kv tq) : 0 ≤ kq.toInt := I.2.2.2.2.2.2.1
theorem own_B.k1 {dl qt a kq bq kv : Int32} {tq : Int64} (I : own_B dl qt a kq bq kv tq) : kq.toInt ≤ 31 := I.2.2.2.2.2.2.2.1
theorem own_B.b0 {dl qt a kq bq kv : Int32} {tq : Int64} (I : own_B dl qt a kq bq kv tq) : 0 ≤ bq.toInt := I.2.2.2.2.2.2.2.2.1
theorem own_B.b1 {dl qt a kq bq kv : Int32} {tq : Int64} (I : own_B dl qt a kq bq kv tq) : bq.toInt ≤ 4 := I.2.2.2.2.2.2.2.2.2.1
theorem own_B.c0 {dl qt a kq bq kv : Int32} {tq : Int64} (I : own_B dl qt a kq bq kv tq) : 0 ≤ kv.toInt := I.2.2.2.2.2.2.2.2.2.2.1
theorem own_B.c1 {dl qt a kq bq kv : Int32} {tq : Int64} (I : own_B dl qt a kq bq kv tq) : kv.toInt ≤ 63 := I.2.2.2.2.2.2.2.2.2.2.2.1
theorem own_B.t0 {dl qt a kq bq kv : Int32} {tq : Int64} (I : own_B dl qt a kq bq kv tq) : 0 ≤ tq.toInt := I.2.2.2.2.2.2.2.2.2.2.2.2.1
theorem own_B.t1 {dl qt a kq bq kv : Int32} {tq : Int64} (I : own_B dl qt a kq bq kv tq) : tq.toInt ≤ 1023 := I.2.2.2.2.2.2.2.2.2.2.2.2.2
theorem own_cut {p1 p2 p3 p4 p5 p6 dl qt a kq bq kv : Int32} {tq : Int64} (h1 : dl = p3 &&& (1048575 : Int32)) (h2 : tq = own_min ((p1 &&& (1023 : Int32)).toInt64) ((4 : Int64) * (dl.toInt64))) (h3 : qt = (1 : Int32) + (p2 &&& (65535 : Int32))) (h4 : a = p4 &&& (7 : Int32)) (h5 : kq = p5 &&& (31 : Int32)) (h6 : bq = (p6 &&& (255 : Int32)) % (5 : Int32)) (h7 : kv = (((p6.toUInt32 >>> ((8 : Int32) &&& 31).toUInt32).toInt32) &&& (63 : Int32))) : own_B dl qt a kq bq kv tq := by
  have m := fun (x k : Int32) (j : Nat) (hj : j < 32) (hk : k.toBitVec.toNat = 2 ^ j - 1) => Jvm.Kit.i32_mask x k hj hk
  have e1 := m p3 1048575 20 (by decide) (by decide)
  have e2 := m p1 1023 10 (by decide) (by decide)
  have e3 := m p2 65535 16 (by decide) (by decide)
  have e4 := m p4 7 3 (by decide) (by decide)
  have e5 := m p5 31 5 (by decide) (by decide)
  have e6 := m p6 255 8 (by decide) (by decide)
  have e7 := m ((p6.toUInt32 >>> ((8 : Int32) &&& 31).toUInt32).toInt32) 63 6 (by decide) (by decide)
  have f1 : (1 : Int32).toInt = 1 := by decide
  have f5 : (5 : Int32).toInt = 5 := by decide
  have g3 : qt.toInt = 1 + p2.toInt % 2 ^ 16 := by rw [h3, Jvm.Kit.i32_add (by omega) (by omega), f1, e3]
  have g6 : bq.toInt = (p6.toInt % 2 ^ 8) % 5 := by rw [h6, Jvm.Kit.i32_rem_nonneg (by omega), e6, f5]
  have g1 : dl.toInt = p3.toInt % 2 ^ 20 := by rw [h1, e1]
  have c4 : (4 : Int64).toInt = 4 := by decide
  have q4 : ((4 : Int64) * dl.toInt64).toInt = 4 * dl.toInt := by rw [Jvm.Kit.i64_mul (by rw [c4, Jvm.Kit.i64_of_i32]; omega) (by rw [c4, Jvm.Kit.i64_of_i32]; omega), c4, Jvm.Kit.i64_of_i32]
  have q2 : ((p1 &&& (1023 : Int32)).toInt64).toInt = p1.toInt % 2 ^ 10 := by rw [Jvm.Kit.i64_of_i32, e2]
  have g2 : 0 ≤ tq.toInt ∧ tq.toInt ≤ 1023 := by
    rw [h2]; unfold own_min
    split
    · rename_i h; rw [Int64.lt_iff_toInt_lt, q4, q2] at h; rw [q4]; omega
    · rw [q2]; omega
  have g4 : a.toInt = p4.toInt % 2 ^ 3 := by rw [h4, e4]
  have g5 : kq.toInt = p5.toInt % 2 ^ 5 := by rw [h5, e5]
  have g7 : kv.toInt = ((p6.toUInt32 >>> ((8 : Int32) &&& 31).toUInt32).toInt32).toInt % 2 ^ 6 := by rw [h7, e7]
  exact ⟨by omega, by omega, by omega, by omega, by omega, by omega, by omega, by omega, by omega, by omega, by omega, by omega, g2.1, g2.2⟩
theorem own_of {v : Int32} (h : 0 ≤ v.toInt) : v = Int32.ofNat v.toInt.toNat := by
  apply Int32.toInt_inj.mp
  rw [Int32.toInt_ofNat_of_lt (by have := Int32.toInt_lt v; omega)]; omega
theorem own_of64 {v : Int64} (h : 0 ≤ v.toInt) : v = Int64.ofNat v.toInt.toNat := by
  apply Int64.toInt_inj.mp
  rw [Int64.toInt_ofNat_of_lt (by have := Int64.toInt_lt v; omega)]; omega
theorem own_x {v : Int32} (h : 0 ≤ v.toInt) : own_DV (FP.ddiv (FP.i2d v) (4616189618054758400 : UInt64)) v.toInt.toNat 2 := own_divp (k := 0) (own_i2d (by omega)) own_four (by decide)
theorem own_y {v : Int64} (h : 0 ≤ v.toInt) (h1 : v.toInt ≤ 1023) : own_DV (FP.ddiv (FP.l2d v) (4616189618054758400 : UInt64)) v.toInt.toNat 2 := own_divp (k := 0) (own_l2d (by omega) (by omega)) own_four (by decide)
theorem own_en {v : Int32} (h0 : 0 ≤ v.toInt) (h1 : v.toInt ≤ 63) : ¬ (cmpValue (FP.dcmp (FP.ddiv (FP.i2d v) (4616189618054758400 : UInt64)) (0 : UInt64)) .l < (0 : Int32)) ∧ ¬ ((0 : Int32) < cmpValue (FP.dcmp ((FP.ddiv (FP.i2d v) (4616189618054758400 : UInt64)) &&& 9223372036854775807) (9218868437227405311 : UInt64)) .g) := by
  have t : ∀ k : Fin 64, ¬ (cmpValue (FP.dcmp (FP.ddiv (FP.i2d (Int32.ofNat k.val)) (4616189618054758400 : UInt64)) (0 : UInt64)) .l < (0 : Int32)) ∧ ¬ ((0 : Int32) < cmpValue (FP.dcmp ((FP.ddiv (FP.i2d (Int32.ofNat k.val)) (4616189618054758400 : UInt64)) &&& 9223372036854775807) (9218868437227405311 : UInt64)) .g) := by decide +kernel
  rw [own_of h0]
  exact t ⟨v.toInt.toNat, by omega⟩
theorem own_eb {v : Int32} (h0 : 0 ≤ v.toInt) (h1 : v.toInt ≤ 4) : ¬ ((0 : Int32) < cmpValue (FP.dcmp (FP.ddiv (FP.i2d v) (4616189618054758400 : UInt64)) (4607182418800017408 : UInt64)) .g) := by
  have t : ∀ k : Fin 5, ¬ ((0 : Int32) < cmpValue (FP.dcmp (FP.ddiv (FP.i2d (Int32.ofNat k.val)) (4616189618054758400 : UInt64)) (4607182418800017408 : UInt64)) .g) := by decide +kernel
  rw [own_of h0]
  exact t ⟨v.toInt.toNat, by omega⟩
theorem own_z0 {v : Int64} (h : v = (0 : Int64)) : cmpValue (FP.dcmp (FP.ddiv (FP.l2d v) (4616189618054758400 : UInt64)) (0 : UInt64)) .l = (0 : Int32) := by subst h; decide +kernel
theorem own_z1 {v : Int64} (h0 : 0 ≤ v.toInt) (h1 : v.toInt ≤ 1023) (h : ¬ (v = (0 : Int64))) : ¬ (cmpValue (FP.dcmp (FP.ddiv (FP.l2d v) (4616189618054758400 : UInt64)) (0 : UInt64)) .l = (0 : Int32)) := by
  have t : ∀ k : Fin 1024, cmpValue (FP.dcmp (FP.ddiv (FP.l2d (Int64.ofNat k.val)) (4616189618054758400 : UInt64)) (0 : UInt64)) .l = (0 : Int32) → k.val = 0 := by decide +kernel
  intro q
  rw [own_of64 h0] at q
  have := t ⟨v.toInt.toNat, by omega⟩ q
  exact h (Int64.toInt_inj.mp (by rw [Int64.toInt_zero]; simp only at this; omega))
theorem own_s31 {a : Int32} (h0 : 0 ≤ a.toInt) (h1 : a.toInt ≤ 7) : ((a &&& 31).toBitVec.smod 32).toNat = a.toInt.toNat := by
  have t : ∀ k : Fin 8, (((Int32.ofNat k.val) &&& 31).toBitVec.smod 32).toNat = k.val := by decide +kernel
  have e := own_of h0
  have q := t ⟨a.toInt.toNat, by omega⟩
  simp only at q
  rw [← e] at q; exact q
theorem own_s63 {a : Int32} (h0 : 0 ≤ a.toInt) (h1 : a.toInt ≤ 7) : ((a &&& 0x3f).toInt64.toBitVec.smod 64).toNat = a.toInt.toNat := by
  have t : ∀ k : Fin 8, (((Int32.ofNat k.val) &&& 0x3f).toInt64.toBitVec.smod 64).toNat = k.val := by decide +kernel
  have e := own_of h0
  have q := t ⟨a.toInt.toNat, by omega⟩
  simp only at q
  rw [← e] at q; exact q
theorem own_s632 {a : Int32} (h0 : 0 ≤ a.toInt) (h1 : a.toInt ≤ 7) : (((a + (2 : Int32)) &&& 0x3f).toInt64.toBitVec.smod 64).toNat = a.toInt.toNat + 2 := by
  have t : ∀ k : Fin 8, (((Int32.ofNat k.val + (2 : Int32)) &&& 0x3f).toInt64.toBitVec.smod 64).toNat = k.val + 2 := by decide +kernel
  have e := own_of h0
  have q := t ⟨a.toInt.toNat, by omega⟩
  simp only at q
  rw [← e] at q; exact q
theorem own_m64 {x y : Int64} {n m : Nat} (hx : x.toInt = n) (hy : y.toInt = m) (h : n * m < 2 ^ 53) : (x * y).toInt = ((n * m : Nat) : Int) := by
  have e : x.toInt * y.toInt = ((n * m : Nat) : Int) := by rw [hx, hy]; exact (Int.natCast_mul n m).symm
  rw [Jvm.Kit.i64_mul (by omega) (by omega), e]
theorem own_a64 {x y : Int64} {n m : Nat} (hx : x.toInt = n) (hy : y.toInt = m) (h : n + m < 2 ^ 53) : (x + y).toInt = ((n + m : Nat) : Int) := by
  rw [Jvm.Kit.i64_add (by omega) (by omega)]; omega
theorem own_b64 {x y : Int64} {n m : Nat} (hx : x.toInt = n) (hy : y.toInt = m) (h : m ≤ n) (h2 : n < 2 ^ 53) : (x - y).toInt = ((n - m : Nat) : Int) := by
  rw [Jvm.Kit.i64_sub (by omega) (by omega)]; omega
theorem own_h64 {x s : Int64} {n k : Nat} (hx : x.toInt = n) (hs : (s.toBitVec.smod 64).toNat = k) (h : n * 2 ^ k < 2 ^ 53) : (x <<< s).toInt = ((n * 2 ^ k : Nat) : Int) := by
  have e : x.toInt * 2 ^ k = ((n * 2 ^ k : Nat) : Int) := by rw [hx, Int.natCast_mul, Int.natCast_pow]; rfl
  rw [Jvm.Kit.i64_shl x s hs (by omega) (by omega), e]
theorem own_c64 {x : Int32} (h : 0 ≤ x.toInt) : x.toInt64.toInt = ((x.toInt.toNat : Nat) : Int) := by rw [Jvm.Kit.i64_of_i32]; omega
theorem own_one64 : (1 : Int64).toInt = ((1 : Nat) : Int) := by decide
theorem own_four64 : (4 : Int64).toInt = ((4 : Nat) : Int) := by decide
theorem own_mkI {dl qt a kq bq kv : Int32} {tq : Int64} (B : own_B dl qt a kq bq kv tq) (h : ¬ (tq = (0 : Int64))) : own_In (FP.ddiv (FP.i2d kq) (4616189618054758400 : UInt64)) (FP.ddiv (FP.i2d bq) (4616189618054758400 : UInt64)) (FP.ddiv (FP.i2d kv) (4616189618054758400 : UInt64)) (FP.ddiv (FP.l2d tq) (4616189618054758400 : UInt64)) (FP.i2d ((1 : Int32) <<< (a &&& 31))) qt dl kq.toInt.toNat bq.toInt.toNat kv.toInt.toNat tq.toInt.toNat qt.toInt.toNat dl.toInt.toNat a.toInt.toNat := by
  refine ⟨?_, ?_, ?_, ?_, ?_, ?_, ?_, ?_, ?_, ?_, ?_, ?_, ?_, ?_, ?_, ?_⟩
  · exact own_x B.k0
  · exact own_x B.b0
  · exact own_x B.c0
  · exact own_y B.t0 B.t1
  · exact own_i2d (by
    have p : (2 : Nat) ^ a.toInt.toNat ≤ 128 := Nat.le_trans (Nat.pow_le_pow_right (by decide) (show a.toInt.toNat ≤ 7 by have := B.a1; omega)) (by decide)
    have f1 : (1 : Int32).toInt = 1 := by decide
    have e : (1 : Int32).toInt * 2 ^ a.toInt.toNat = ((2 ^ a.toInt.toNat : Nat) : Int) := by rw [f1, Int.one_mul, Int.natCast_pow]; rfl
    obtain ⟨W, hW⟩ : ∃ W : Nat, W = 2 ^ a.toInt.toNat := ⟨_, rfl⟩
    rw [← hW] at p e
    rw [Jvm.Kit.i32_shl _ _ (own_s31 B.a0 B.a1) (by rw [e]; omega) (by rw [e]; omega), e, hW])
  · have := B.q0; omega
  · have := B.d0; omega
  · have := B.k1; omega
  · have := B.b1; omega
  · have := B.c1; omega
  · have := B.t1; omega
  · have := B.q1; omega
  · have := B.d1; omega
  · have := B.a1; omega
  · have := B.q0; omega
  · have h0 := B.t0
    have : tq.toInt ≠ 0 := fun q => h (Int64.toInt_inj.mp (by rw [q, Int64.toInt_zero]))
    omega
theorem own_E1 {dl qt a kq bq kv : Int32} {tq : Int64} (B : own_B dl qt a kq bq kv tq) (h : ¬ (tq = (0 : Int64))) : own_DV (FP.l2d ((((kv.toInt64 + (4 : Int64)) * tq) * qt.toInt64) <<< ((a + (2 : Int32)) &&& 0x3f).toInt64)) ((kv.toInt.toNat + 4) * tq.toInt.toNat * qt.toInt.toNat * 2 ^ (a.toInt.toNat + 2)) 0 := by
  have I := own_mkI B h
  have b8 := own_b8 I
  have b9 := own_b9 I
  have p2 : (2 : Nat) ^ (a.toInt.toNat + 2) ≤ 512 := by have := own_pa I; rw [Nat.pow_add]; omega
  have bb := Nat.mul_le_mul b9 p2
  have c1 := B.c1
  have c0 := B.c0
  have t0 := B.t0
  have q0 := B.q0
  refine own_l2d ?_ (by omega)
  exact own_h64 (own_m64 (own_m64 (own_a64 (own_c64 c0) own_four64 (by omega)) (show tq.toInt = ((tq.toInt.toNat : Nat) : Int) by omega) (by omega)) (own_c64 (by omega)) (by omega)) (own_s632 B.a0 B.a1) (by omega)
theorem own_E2 {dl qt a kq bq kv : Int32} {tq : Int64} (B : own_B dl qt a kq bq kv tq) (h : ¬ (tq = (0 : Int64))) : own_DV (FP.l2d ((kv.toInt64 + ((4 : Int64) * qt.toInt64)) * ((kq.toInt64 * ((((4 : Int64) - bq.toInt64) * ((1 : Int64) <<< (a &&& 0x3f).toInt64)) + (bq.toInt64 * dl.toInt64))) + (tq * ((1 : Int64) <<< ((a + (2 : Int32)) &&& 0x3f).toInt64))))) ((kv.toInt.toNat + qt.toInt.toNat * 2 ^ 2) * (kq.toInt.toNat * ((4 - bq.toInt.toNat) * 2 ^ a.toInt.toNat + bq.toInt.toNat * dl.toInt.toNat) + tq.toInt.toNat * 2 ^ (a.toInt.toNat + 2))) 0 := by
  have I := own_mkI B h
  have b4 := own_b4 I
  have b5 := own_b5 I
  have b6 := own_b6 I
  have b11 := own_b11 I
  have bd := Nat.mul_le_mul I.bb I.bd
  have p2 : (2 : Nat) ^ (a.toInt.toNat + 2) ≤ 512 := by have := own_pa I; rw [Nat.pow_add]; omega
  have pa := own_pa I
  have c1 := B.c1
  have c0 := B.c0
  have t0 := B.t0
  have q0 := B.q0
  have q1 := B.q1
  have k0 := B.k0
  have z0 := B.b0
  have z1 := B.b1
  have d0 := B.d0
  refine own_l2d ?_ (by omega)
  have e4 : kv.toInt.toNat + qt.toInt.toNat * 2 ^ 2 = kv.toInt.toNat + 4 * qt.toInt.toNat := by omega
  have s1 : ((1 : Int64) <<< (a &&& 0x3f).toInt64).toInt = ((2 ^ a.toInt.toNat : Nat) : Int) := by
    have q := own_h64 (n := 1) own_one64 (own_s63 B.a0 B.a1) (by omega); rw [Nat.one_mul] at q; exact q
  have s2 : ((1 : Int64) <<< ((a + (2 : Int32)) &&& 0x3f).toInt64).toInt = ((2 ^ (a.toInt.toNat + 2) : Nat) : Int) := by
    have q := own_h64 (n := 1) own_one64 (own_s632 B.a0 B.a1) (by omega); rw [Nat.one_mul] at q; exact q
  rw [e4] at b11 ⊢
  exact own_m64 (own_a64 (own_c64 c0) (own_m64 own_four64 (own_c64 (by omega)) (by omega)) (by omega)) (own_a64 (own_m64 (own_c64 k0) (own_a64 (own_m64 (own_b64 own_four64 (own_c64 z0) (by omega) (by omega)) s1 (by omega)) (own_m64 (own_c64 z0) (own_c64 d0) (by omega)) (by omega)) (by omega)) (own_m64 (show tq.toInt = ((tq.toInt.toNat : Nat) : Int) by omega) s2 (by omega)) (by omega)) (by omega)
theorem own_all {dl qt a kq bq kv : Int32} {tq : Int64} (B : own_B dl qt a kq bq kv tq) (h : ¬ (tq = (0 : Int64))) : own_got (FP.ddiv (FP.i2d kq) (4616189618054758400 : UInt64)) (FP.ddiv (FP.i2d bq) (4616189618054758400 : UInt64)) (FP.ddiv (FP.i2d kv) (4616189618054758400 : UInt64)) (FP.ddiv (FP.l2d tq) (4616189618054758400 : UInt64)) (FP.i2d ((1 : Int32) <<< (a &&& 31))) qt dl = FP.ddiv (FP.l2d ((((kv.toInt64 + (4 : Int64)) * tq) * qt.toInt64) <<< ((a + (2 : Int32)) &&& 0x3f).toInt64)) (FP.l2d ((kv.toInt64 + ((4 : Int64) * qt.toInt64)) * ((kq.toInt64 * ((((4 : Int64) - bq.toInt64) * ((1 : Int64) <<< (a &&& 0x3f).toInt64)) + (bq.toInt64 * dl.toInt64))) + (tq * ((1 : Int64) <<< ((a + (2 : Int32)) &&& 0x3f).toInt64))))) := by
  have I := own_mkI B h
  refine own_qeq (own_e9 I) (own_e11 I) (own_p11 I) (own_E1 B h) (own_E2 B h) (own_p11 I) ?_
  generalize (kv.toInt.toNat + qt.toInt.toNat * 2 ^ 2) * (kq.toInt.toNat * ((4 - bq.toInt.toNat) * 2 ^ a.toInt.toNat + bq.toInt.toNat * dl.toInt.toNat) + tq.toInt.toNat * 2 ^ (a.toInt.toNat + 2)) = M
  generalize (kv.toInt.toNat + 4) * tq.toInt.toNat * qt.toInt.toNat = N
  rw [show 6 + a.toInt.toNat = a.toInt.toNat + 2 + 4 by omega, Nat.pow_add 2 (a.toInt.toNat + 2) 4, Nat.pow_zero]
  ac_rfl
theorem own_nq {dl qt a kq bq kv : Int32} {tq : Int64} (B : own_B dl qt a kq bq kv tq) (h : ¬ (tq = (0 : Int64))) : Jvm.Free.Fl.NoNaN64 (FP.ddiv (FP.l2d ((((kv.toInt64 + (4 : Int64)) * tq) * qt.toInt64) <<< ((a + (2 : Int32)) &&& 0x3f).toInt64)) (FP.l2d ((kv.toInt64 + ((4 : Int64) * qt.toInt64)) * ((kq.toInt64 * ((((4 : Int64) - bq.toInt64) * ((1 : Int64) <<< (a &&& 0x3f).toInt64)) + (bq.toInt64 * dl.toInt64))) + (tq * ((1 : Int64) <<< ((a + (2 : Int32)) &&& 0x3f).toInt64)))))) := own_nnQ (own_E1 B h) (own_E2 B h) (own_p11 (own_mkI B h))
theorem own_cm {dl qt a kq bq kv : Int32} {tq : Int64} (B : own_B dl qt a kq bq kv tq) (h : ¬ (tq = (0 : Int64))) : cmpValue (FP.dcmp (own_got (FP.ddiv (FP.i2d kq) (4616189618054758400 : UInt64)) (FP.ddiv (FP.i2d bq) (4616189618054758400 : UInt64)) (FP.ddiv (FP.i2d kv) (4616189618054758400 : UInt64)) (FP.ddiv (FP.l2d tq) (4616189618054758400 : UInt64)) (FP.i2d ((1 : Int32) <<< (a &&& 31))) qt dl) (FP.ddiv (FP.l2d ((((kv.toInt64 + (4 : Int64)) * tq) * qt.toInt64) <<< ((a + (2 : Int32)) &&& 0x3f).toInt64)) (FP.l2d ((kv.toInt64 + ((4 : Int64) * qt.toInt64)) * ((kq.toInt64 * ((((4 : Int64) - bq.toInt64) * ((1 : Int64) <<< (a &&& 0x3f).toInt64)) + (bq.toInt64 * dl.toInt64))) + (tq * ((1 : Int64) <<< ((a + (2 : Int32)) &&& 0x3f).toInt64))))))) .l = (0 : Int32) := by
  rw [own_all B h]; exact dcmpV_self (own_nq B h) .l
theorem pd__28JJ_29J : parseMethodDescriptor "(JJ)J" = some ⟨[.long, .long], some .long⟩ := by decide +kernel
theorem pd__28DDD_29V : parseMethodDescriptor "(DDD)V" = some ⟨[.double, .double, .double], none⟩ := by decide +kernel
theorem pd__28DIID_29D : parseMethodDescriptor "(DIID)D" = some ⟨[.double, .int, .int, .double], some .double⟩ := by decide +kernel
theorem pn_com_example_morro_morro_rank_Bm25TfPinLaw : plainName "com/example/morro/morro/rank/Bm25TfPinLaw" = true := by first | (simp [plainName, overriddenIn]; done) | decide +kernel
theorem ef_rm0 (m : MethodId) (p1 : Int32) (p2 : Int32) (p3 : Int32) (p4 : Int32) (p5 : Int32) (p6 : Int32) : entryFrame m #[(.int p1), (.int p2), (.int p3), (.int p4), (.int p5), (.int p6)] maxLocals = mkF m 0 #[.val (.int p1), .val (.int p2), .val (.int p3), .val (.int p4), .val (.int p5), .val (.int p6), .unset, .unset, .unset, .unset, .unset, .unset, .unset, .unset, .unset, .unset, .unset, .unset, .unset, .unset, .unset, .unset, .unset, .unset, .unset, .unset, .unset] [] := by first | (simp [entryFrame, mkF, argsToLocals, Value.category, maxLocals]; done) | rfl
def Q_rm0 (Z : State) (p1 : Int32) (p2 : Int32) (p3 : Int32) (p4 : Int32) (p5 : Int32) (p6 : Int32) (h0 : Heap) (n0 : Nat) (v : Option Value) (h : Heap) (L : List Loc) (vm : Vm) : Prop := v = some (.int (1 : Int32)) ∧ Fr n0 L
set_option maxRecDepth 65536 in
set_option maxHeartbeats 40000000 in
theorem rm0 (l : Launch) (Z : State) (a0 : Array Value) (hw : ∀ d ∈ tables_1, d.before a0 Z = true) (ws : List Jvm.Cond) (p1 : Int32) (p2 : Int32) (p3 : Int32) (p4 : Int32) (p5 : Int32) (p6 : Int32) (h0 : Heap) (n0 : Nat) (Z0 : n0 ≤ h0.size) :
    MetFree l x (head1 (Jvm.Cond.code x code maxLocals ret :: ws) room_1) (fun a U => a = #[(.int p1), (.int p2), (.int p3), (.int p4), (.int p5), (.int p6)] ∧ Z.Warmed39 U.vm ∧ U.heap = h0 ∧ IB Z U.vm ([] : List String)) (fun _ _ _ _ _ => True) (fun _ U o U' => ∃ v L, o = .returned v ∧ Q_rm0 Z p1 p2 p3 p4 p5 p6 h0 n0 v U'.heap L U'.vm ∧ ReturnedEndW U o U' L room_1.cells room_1.slots) := by
  refine MetFree.of_bodySF (plainFor_of_name pn_com_example_morro_morro_rank_Bm25TfPinLaw) hisR ?_
  intro p e s m args below meth c s₁ Bd hml0 hP hK
  obtain ⟨rfl, hZ0', hh, I0⟩ := hP
  have hZ0 : Z.Warmed39 (s.setVm s.vm).vm := hZ0'
  have hS0 : s.Since s.vm 0 := (State.WarmedH.refl s).since 0
  have hk0 : 0 ≤ h0.size := Nat.zero_le _
  have hx := Bd.exec
  have hby := Bd.bytes
  have hml : c.maxLocals = 27 := hml0
  have hown0 : (s.setVm s.vm).vm.findClass "com/example/morro/morro/rank/Bm25TfPinLaw" = some m.cls := findClass_of_methodNamed Bd.named
  have hnm := (name_of_methodNamed Bd.named Bd.method).1
  have X0 : Stand p l e room_1 (s.setVm s.vm) m #[(.int p1), (.int p2), (.int p3), (.int p4), (.int p5), (.int p6)] below meth c s₁ [] 0 0 := Stand.of_body Bd
  have e0 : s₁.heap = h0 := by rw [← hh, Bd.state]; rfl
  have N0 := Fr.nil n0
  have pre0 : ∀ t, Steps p.tables e below (s₁.setTop (mkF m 0 #[.val (.int p1), .val (.int p2), .val (.int p3), .val (.int p4), .val (.int p5), .val (.int p6), .unset, .unset, .unset, .unset, .unset, .unset, .unset, .unset, .unset, .unset, .unset, .unset, .unset, .unset, .unset, .unset, .unset, .unset, .unset, .unset, .unset] [])) t → Steps p.tables e below (s₁.setTop (entryFrame m #[(.int p1), (.int p2), (.int p3), (.int p4), (.int p5), (.int p6)] maxLocals)) t := fun t k => castTop (ef_rm0 m p1 p2 p3 p4 p5 p6) k
  obtain ⟨dl, h_dl, pre1⟩ : ∃ z : Int32, z = (p3 &&& (1048575 : Int32)) ∧ ∀ t, Steps p.tables e below (s₁.setTop (mkF m 6 #[.val (.int p1), .val (.int p2), .val (.int p3), .val (.int p4), .val (.int p5), .val (.int p6), .val (.int z), .unset, .unset, .unset, .unset, .unset, .unset, .unset, .unset, .unset, .unset, .unset, .unset, .unset, .unset, .unset, .unset, .unset, .unset, .unset, .unset] [])) t → Steps p.tables e below (s₁.setTop (entryFrame m #[(.int p1), (.int p2), (.int p3), (.int p4), (.int p5), (.int p6)] maxLocals)) t := ⟨_, rfl, fun t kt => by
    refine pre0 t ?_
    show Steps p.tables e below (s₁.setTop (mkF m 0 #[.val (.int p1), .val (.int p2), .val (.int p3), .val (.int p4), .val (.int p5), .val (.int p6), .unset, .unset, .unset, .unset, .unset, .unset, .unset, .unset, .unset, .unset, .unset, .unset, .unset, .unset, .unset, .unset, .unset, .unset, .unset, .unset, .unset] [])) _
    refine XS.iloadN X0.here hx rfl (hb hby at_0) rfl ?_
    show Steps p.tables e below (s₁.setTop (mkF m 1 #[.val (.int p1), .val (.int p2), .val (.int p3), .val (.int p4), .val (.int p5), .val (.int p6), .unset, .unset, .unset, .unset, .unset, .unset, .unset, .unset, .unset, .unset, .unset, .unset, .unset, .unset, .unset, .unset, .unset, .unset, .unset, .unset, .unset] [(.int p3)])) _
    refine X0.ldcInt hx hown0 (mvT hZ0 (hw _ (List.mem_of_getElem? (i := 0) rfl))) (g := (mkF m 1 #[.val (.int p1), .val (.int p2), .val (.int p3), .val (.int p4), .val (.int p5), .val (.int p6), .unset, .unset, .unset, .unset, .unset, .unset, .unset, .unset, .unset, .unset, .unset, .unset, .unset, .unset, .unset, .unset, .unset, .unset, .unset, .unset, .unset] [(.int p3)])) rfl (hb hby at_1) _ ?_
    show Steps p.tables e below (s₁.setTop (mkF m 3 #[.val (.int p1), .val (.int p2), .val (.int p3), .val (.int p4), .val (.int p5), .val (.int p6), .unset, .unset, .unset, .unset, .unset, .unset, .unset, .unset, .unset, .unset, .unset, .unset, .unset, .unset, .unset, .unset, .unset, .unset, .unset, .unset, .unset] [(.int (1048575 : Int32)), (.int p3)])) _
    refine XS.iand X0.here hx rfl (hb hby at_3) rfl ?_
    show Steps p.tables e below (s₁.setTop (mkF m 4 #[.val (.int p1), .val (.int p2), .val (.int p3), .val (.int p4), .val (.int p5), .val (.int p6), .unset, .unset, .unset, .unset, .unset, .unset, .unset, .unset, .unset, .unset, .unset, .unset, .unset, .unset, .unset, .unset, .unset, .unset, .unset, .unset, .unset] [(.int (p3 &&& (1048575 : Int32)))])) _
    refine XS.istore X0.here hx rfl (hb hby at_4) rfl (l' := #[.val (.int p1), .val (.int p2), .val (.int p3), .val (.int p4), .val (.int p5), .val (.int p6), .val (.int (p3 &&& (1048575 : Int32))), .unset, .unset, .unset, .unset, .unset, .unset, .unset, .unset, .unset, .unset, .unset, .unset, .unset, .unset, .unset, .unset, .unset, .unset, .unset, .unset]) rfl ?_
    exact kt⟩
  obtain ⟨_, _, ⟨T2, L2, k2, n2⟩, -, X2, ⟨Lc2, hQ2, l2, y2, z2⟩, st2⟩ := Jvm.LawKit.callS X0 hx (y := (⟨"java/lang/Math", "min", "(JJ)J"⟩ : MethodName)) hown0 (mvT hZ0 (hw _ (List.mem_of_getElem? (i := 2) rfl))) (mvT hZ0 (hw _ (List.mem_of_getElem? (i := 3) rfl))) (mvT hZ0 (hw _ (List.mem_of_getElem? (i := 4) rfl))) (mvT hZ0 (hw _ (List.mem_of_getElem? (i := 5) rfl))) (by decide) (backOf (W := 0) (rm1 l Z a0 hw [] ((p1 &&& (1023 : Int32)).toInt64) ((4 : Int64) * (dl.toInt64)) h0 n0 Z0 ) hZ0 (hw _ (List.mem_of_getElem? (i := 5) rfl)) (hw _ (List.mem_of_getElem? (i := 4) rfl)) (by decide) (by decide)) (g := (mkF m 19 #[.val (.int p1), .val (.int p2), .val (.int p3), .val (.int p4), .val (.int p5), .val (.int p6), .val (.int dl), .unset, .unset, .unset, .unset, .unset, .unset, .unset, .unset, .unset, .unset, .unset, .unset, .unset, .unset, .unset, .unset, .unset, .unset, .unset, .unset] [(.long ((4 : Int64) * (dl.toInt64))), (.long ((p1 &&& (1023 : Int32)).toInt64))])) rfl (by rw [hml]; rfl) (argsL := [(.long ((p1 &&& (1023 : Int32)).toInt64)), (.long ((4 : Int64) * (dl.toInt64)))]) (rest := []) (lenOf pd__28JJ_29J rfl) rfl (by show 2 * 0 + _ ≤ _; exact Nat.le_of_eq rfl) (hb hby at_19) (fun _ _ => ⟨rfl, e0, (by decide : 0 + 0 ≤ _), (by decide : 0 + 0 ≤ _)⟩)
  dsimp only [Pt.U, Pt.locs, Pt.cells, Pt.slots] at y2 z2 st2 hQ2
  change Stand p l e _ _ m _ below meth c T2 L2 k2 n2 at X2
  change L2 = _ ++ Lc2 at l2
  subst y2 z2
  obtain ⟨rfl, N2q, e2⟩ := hQ2
  have N2 : Fr n0 L2 := l2 ▸ Fr.app N0 N2q
  obtain ⟨tq, h_tq, pre3⟩ : ∃ z : Int64, z = (own_min ((p1 &&& (1023 : Int32)).toInt64) ((4 : Int64) * (dl.toInt64))) ∧ ∀ t, Steps p.tables e below (T2.setTop (mkF m 24 #[.val (.int p1), .val (.int p2), .val (.int p3), .val (.int p4), .val (.int p5), .val (.int p6), .val (.int dl), .val (.long z), .second, .unset, .unset, .unset, .unset, .unset, .unset, .unset, .unset, .unset, .unset, .unset, .unset, .unset, .unset, .unset, .unset, .unset, .unset] [])) t → Steps p.tables e below (s₁.setTop (entryFrame m #[(.int p1), (.int p2), (.int p3), (.int p4), (.int p5), (.int p6)] maxLocals)) t := ⟨_, rfl, fun t kt => by
    refine pre1 t ?_
    show Steps p.tables e below (s₁.setTop (mkF m 6 #[.val (.int p1), .val (.int p2), .val (.int p3), .val (.int p4), .val (.int p5), .val (.int p6), .val (.int dl), .unset, .unset, .unset, .unset, .unset, .unset, .unset, .unset, .unset, .unset, .unset, .unset, .unset, .unset, .unset, .unset, .unset, .unset, .unset, .unset] [])) _
    refine XS.iloadN X0.here hx rfl (hb hby at_6) rfl ?_
    show Steps p.tables e below (s₁.setTop (mkF m 7 #[.val (.int p1), .val (.int p2), .val (.int p3), .val (.int p4), .val (.int p5), .val (.int p6), .val (.int dl), .unset, .unset, .unset, .unset, .unset, .unset, .unset, .unset, .unset, .unset, .unset, .unset, .unset, .unset, .unset, .unset, .unset, .unset, .unset, .unset] [(.int p1)])) _
    refine XS.sipush X0.here hx rfl (hb hby at_7) ?_
    show Steps p.tables e below (s₁.setTop (mkF m 10 #[.val (.int p1), .val (.int p2), .val (.int p3), .val (.int p4), .val (.int p5), .val (.int p6), .val (.int dl), .unset, .unset, .unset, .unset, .unset, .unset, .unset, .unset, .unset, .unset, .unset, .unset, .unset, .unset, .unset, .unset, .unset, .unset, .unset, .unset] [(.int (1023 : Int32)), (.int p1)])) _
    refine XS.iand X0.here hx rfl (hb hby at_10) rfl ?_
    show Steps p.tables e below (s₁.setTop (mkF m 11 #[.val (.int p1), .val (.int p2), .val (.int p3), .val (.int p4), .val (.int p5), .val (.int p6), .val (.int dl), .unset, .unset, .unset, .unset, .unset, .unset, .unset, .unset, .unset, .unset, .unset, .unset, .unset, .unset, .unset, .unset, .unset, .unset, .unset, .unset] [(.int (p1 &&& (1023 : Int32)))])) _
    refine XS.i2l X0.here hx rfl (hb hby at_11) rfl ?_
    show Steps p.tables e below (s₁.setTop (mkF m 12 #[.val (.int p1), .val (.int p2), .val (.int p3), .val (.int p4), .val (.int p5), .val (.int p6), .val (.int dl), .unset, .unset, .unset, .unset, .unset, .unset, .unset, .unset, .unset, .unset, .unset, .unset, .unset, .unset, .unset, .unset, .unset, .unset, .unset, .unset] [(.long ((p1 &&& (1023 : Int32)).toInt64))])) _
    refine X0.ldc2Long hx hown0 (mvT hZ0 (hw _ (List.mem_of_getElem? (i := 1) rfl))) (g := (mkF m 12 #[.val (.int p1), .val (.int p2), .val (.int p3), .val (.int p4), .val (.int p5), .val (.int p6), .val (.int dl), .unset, .unset, .unset, .unset, .unset, .unset, .unset, .unset, .unset, .unset, .unset, .unset, .unset, .unset, .unset, .unset, .unset, .unset, .unset, .unset] [(.long ((p1 &&& (1023 : Int32)).toInt64))])) rfl (hb hby at_12) _ ?_
    show Steps p.tables e below (s₁.setTop (mkF m 15 #[.val (.int p1), .val (.int p2), .val (.int p3), .val (.int p4), .val (.int p5), .val (.int p6), .val (.int dl), .unset, .unset, .unset, .unset, .unset, .unset, .unset, .unset, .unset, .unset, .unset, .unset, .unset, .unset, .unset, .unset, .unset, .unset, .unset, .unset] [(.long (4 : Int64)), (.long ((p1 &&& (1023 : Int32)).toInt64))])) _
    refine XS.iload X0.here hx rfl (hb hby at_15) rfl ?_
    show Steps p.tables e below (s₁.setTop (mkF m 17 #[.val (.int p1), .val (.int p2), .val (.int p3), .val (.int p4), .val (.int p5), .val (.int p6), .val (.int dl), .unset, .unset, .unset, .unset, .unset, .unset, .unset, .unset, .unset, .unset, .unset, .unset, .unset, .unset, .unset, .unset, .unset, .unset, .unset, .unset] [(.int dl), (.long (4 : Int64)), (.long ((p1 &&& (1023 : Int32)).toInt64))])) _
    refine XS.i2l X0.here hx rfl (hb hby at_17) rfl ?_
    show Steps p.tables e below (s₁.setTop (mkF m 18 #[.val (.int p1), .val (.int p2), .val (.int p3), .val (.int p4), .val (.int p5), .val (.int p6), .val (.int dl), .unset, .unset, .unset, .unset, .unset, .unset, .unset, .unset, .unset, .unset, .unset, .unset, .unset, .unset, .unset, .unset, .unset, .unset, .unset, .unset] [(.long (dl.toInt64)), (.long (4 : Int64)), (.long ((p1 &&& (1023 : Int32)).toInt64))])) _
    refine XS.lmul X0.here hx rfl (hb hby at_18) rfl ?_
    show Steps p.tables e below (s₁.setTop (mkF m 19 #[.val (.int p1), .val (.int p2), .val (.int p3), .val (.int p4), .val (.int p5), .val (.int p6), .val (.int dl), .unset, .unset, .unset, .unset, .unset, .unset, .unset, .unset, .unset, .unset, .unset, .unset, .unset, .unset, .unset, .unset, .unset, .unset, .unset, .unset] [(.long ((4 : Int64) * (dl.toInt64))), (.long ((p1 &&& (1023 : Int32)).toInt64))])) _
    refine st2 _ ?_
    show Steps p.tables e below (T2.setTop (mkF m 22 #[.val (.int p1), .val (.int p2), .val (.int p3), .val (.int p4), .val (.int p5), .val (.int p6), .val (.int dl), .unset, .unset, .unset, .unset, .unset, .unset, .unset, .unset, .unset, .unset, .unset, .unset, .unset, .unset, .unset, .unset, .unset, .unset, .unset, .unset] [(.long (own_min ((p1 &&& (1023 : Int32)).toInt64) ((4 : Int64) * (dl.toInt64))))])) _
    refine XS.lstore X2.here hx rfl (hb hby at_22) rfl (l' := #[.val (.int p1), .val (.int p2), .val (.int p3), .val (.int p4), .val (.int p5), .val (.int p6), .val (.int dl), .val (.long (own_min ((p1 &&& (1023 : Int32)).toInt64) ((4 : Int64) * (dl.toInt64)))), .second, .unset, .unset, .unset, .unset, .unset, .unset, .unset, .unset, .unset, .unset, .unset, .unset, .unset, .unset, .unset, .unset, .unset, .unset]) rfl ?_
    exact kt⟩
  obtain ⟨qt, h_qt, pre4⟩ : ∃ z : Int32, z = ((1 : Int32) + (p2 &&& (65535 : Int32))) ∧ ∀ t, Steps p.tables e below (T2.setTop (mkF m 32 #[.val (.int p1), .val (.int p2), .val (.int p3), .val (.int p4), .val (.int p5), .val (.int p6), .val (.int dl), .val (.long tq), .second, .val (.int z), .unset, .unset, .unset, .unset, .unset, .unset, .unset, .unset, .unset, .unset, .unset, .unset, .unset, .unset, .unset, .unset, .unset] [])) t → Steps p.tables e below (s₁.setTop (entryFrame m #[(.int p1), (.int p2), (.int p3), (.int p4), (.int p5), (.int p6)] maxLocals)) t := ⟨_, rfl, fun t kt => by
    refine pre3 t ?_
    show Steps p.tables e below (T2.setTop (mkF m 24 #[.val (.int p1), .val (.int p2), .val (.int p3), .val (.int p4), .val (.int p5), .val (.int p6), .val (.int dl), .val (.long tq), .second, .unset, .unset, .unset, .unset, .unset, .unset, .unset, .unset, .unset, .unset, .unset, .unset, .unset, .unset, .unset, .unset, .unset, .unset] [])) _
    refine XS.iconst X2.here hx rfl (hb hby at_24) ?_
    show Steps p.tables e below (T2.setTop (mkF m 25 #[.val (.int p1), .val (.int p2), .val (.int p3), .val (.int p4), .val (.int p5), .val (.int p6), .val (.int dl), .val (.long tq), .second, .unset, .unset, .unset, .unset, .unset, .unset, .unset, .unset, .unset, .unset, .unset, .unset, .unset, .unset, .unset, .unset, .unset, .unset] [(.int (1 : Int32))])) _
    refine XS.iloadN X2.here hx rfl (hb hby at_25) rfl ?_
    show Steps p.tables e below (T2.setTop (mkF m 26 #[.val (.int p1), .val (.int p2), .val (.int p3), .val (.int p4), .val (.int p5), .val (.int p6), .val (.int dl), .val (.long tq), .second, .unset, .unset, .unset, .unset, .unset, .unset, .unset, .unset, .unset, .unset, .unset, .unset, .unset, .unset, .unset, .unset, .unset, .unset] [(.int p2), (.int (1 : Int32))])) _
    refine X2.ldcInt hx hown0 (mvT hZ0 (hw _ (List.mem_of_getElem? (i := 6) rfl))) (g := (mkF m 26 #[.val (.int p1), .val (.int p2), .val (.int p3), .val (.int p4), .val (.int p5), .val (.int p6), .val (.int dl), .val (.long tq), .second, .unset, .unset, .unset, .unset, .unset, .unset, .unset, .unset, .unset, .unset, .unset, .unset, .unset, .unset, .unset, .unset, .unset, .unset] [(.int p2), (.int (1 : Int32))])) rfl (hb hby at_26) _ ?_
    show Steps p.tables e below (T2.setTop (mkF m 28 #[.val (.int p1), .val (.int p2), .val (.int p3), .val (.int p4), .val (.int p5), .val (.int p6), .val (.int dl), .val (.long tq), .second, .unset, .unset, .unset, .unset, .unset, .unset, .unset, .unset, .unset, .unset, .unset, .unset, .unset, .unset, .unset, .unset, .unset, .unset] [(.int (65535 : Int32)), (.int p2), (.int (1 : Int32))])) _
    refine XS.iand X2.here hx rfl (hb hby at_28) rfl ?_
    show Steps p.tables e below (T2.setTop (mkF m 29 #[.val (.int p1), .val (.int p2), .val (.int p3), .val (.int p4), .val (.int p5), .val (.int p6), .val (.int dl), .val (.long tq), .second, .unset, .unset, .unset, .unset, .unset, .unset, .unset, .unset, .unset, .unset, .unset, .unset, .unset, .unset, .unset, .unset, .unset, .unset] [(.int (p2 &&& (65535 : Int32))), (.int (1 : Int32))])) _
    refine XS.iadd X2.here hx rfl (hb hby at_29) rfl ?_
    show Steps p.tables e below (T2.setTop (mkF m 30 #[.val (.int p1), .val (.int p2), .val (.int p3), .val (.int p4), .val (.int p5), .val (.int p6), .val (.int dl), .val (.long tq), .second, .unset, .unset, .unset, .unset, .unset, .unset, .unset, .unset, .unset, .unset, .unset, .unset, .unset, .unset, .unset, .unset, .unset, .unset] [(.int ((1 : Int32) + (p2 &&& (65535 : Int32))))])) _
    refine XS.istore X2.here hx rfl (hb hby at_30) rfl (l' := #[.val (.int p1), .val (.int p2), .val (.int p3), .val (.int p4), .val (.int p5), .val (.int p6), .val (.int dl), .val (.long tq), .second, .val (.int ((1 : Int32) + (p2 &&& (65535 : Int32)))), .unset, .unset, .unset, .unset, .unset, .unset, .unset, .unset, .unset, .unset, .unset, .unset, .unset, .unset, .unset, .unset, .unset]) rfl ?_
    exact kt⟩
  obtain ⟨a, h_a, pre5⟩ : ∃ z : Int32, z = (p4 &&& (7 : Int32)) ∧ ∀ t, Steps p.tables e below (T2.setTop (mkF m 38 #[.val (.int p1), .val (.int p2), .val (.int p3), .val (.int p4), .val (.int p5), .val (.int p6), .val (.int dl), .val (.long tq), .second, .val (.int qt), .val (.int z), .unset, .unset, .unset, .unset, .unset, .unset, .unset, .unset, .unset, .unset, .unset, .unset, .unset, .unset, .unset, .unset] [])) t → Steps p.tables e below (s₁.setTop (entryFrame m #[(.int p1), (.int p2), (.int p3), (.int p4), (.int p5), (.int p6)] maxLocals)) t := ⟨_, rfl, fun t kt => by
    refine pre4 t ?_
    show Steps p.tables e below (T2.setTop (mkF m 32 #[.val (.int p1), .val (.int p2), .val (.int p3), .val (.int p4), .val (.int p5), .val (.int p6), .val (.int dl), .val (.long tq), .second, .val (.int qt), .unset, .unset, .unset, .unset, .unset, .unset, .unset, .unset, .unset, .unset, .unset, .unset, .unset, .unset, .unset, .unset, .unset] [])) _
    refine XS.iloadN X2.here hx rfl (hb hby at_32) rfl ?_
    show Steps p.tables e below (T2.setTop (mkF m 33 #[.val (.int p1), .val (.int p2), .val (.int p3), .val (.int p4), .val (.int p5), .val (.int p6), .val (.int dl), .val (.long tq), .second, .val (.int qt), .unset, .unset, .unset, .unset, .unset, .unset, .unset, .unset, .unset, .unset, .unset, .unset, .unset, .unset, .unset, .unset, .unset] [(.int p4)])) _
    refine XS.bipush X2.here hx rfl (hb hby at_33) ?_
    show Steps p.tables e below (T2.setTop (mkF m 35 #[.val (.int p1), .val (.int p2), .val (.int p3), .val (.int p4), .val (.int p5), .val (.int p6), .val (.int dl), .val (.long tq), .second, .val (.int qt), .unset, .unset, .unset, .unset, .unset, .unset, .unset, .unset, .unset, .unset, .unset, .unset, .unset, .unset, .unset, .unset, .unset] [(.int (7 : Int32)), (.int p4)])) _
    refine XS.iand X2.here hx rfl (hb hby at_35) rfl ?_
    show Steps p.tables e below (T2.setTop (mkF m 36 #[.val (.int p1), .val (.int p2), .val (.int p3), .val (.int p4), .val (.int p5), .val (.int p6), .val (.int dl), .val (.long tq), .second, .val (.int qt), .unset, .unset, .unset, .unset, .unset, .unset, .unset, .unset, .unset, .unset, .unset, .unset, .unset, .unset, .unset, .unset, .unset] [(.int (p4 &&& (7 : Int32)))])) _
    refine XS.istore X2.here hx rfl (hb hby at_36) rfl (l' := #[.val (.int p1), .val (.int p2), .val (.int p3), .val (.int p4), .val (.int p5), .val (.int p6), .val (.int dl), .val (.long tq), .second, .val (.int qt), .val (.int (p4 &&& (7 : Int32))), .unset, .unset, .unset, .unset, .unset, .unset, .unset, .unset, .unset, .unset, .unset, .unset, .unset, .unset, .unset, .unset]) rfl ?_
    exact kt⟩
  obtain ⟨kq, h_kq, pre6⟩ : ∃ z : Int32, z = (p5 &&& (31 : Int32)) ∧ ∀ t, Steps p.tables e below (T2.setTop (mkF m 45 #[.val (.int p1), .val (.int p2), .val (.int p3), .val (.int p4), .val (.int p5), .val (.int p6), .val (.int dl), .val (.long tq), .second, .val (.int qt), .val (.int a), .val (.int z), .unset, .unset, .unset, .unset, .unset, .unset, .unset, .unset, .unset, .unset, .unset, .unset, .unset, .unset, .unset] [])) t → Steps p.tables e below (s₁.setTop (entryFrame m #[(.int p1), (.int p2), (.int p3), (.int p4), (.int p5), (.int p6)] maxLocals)) t := ⟨_, rfl, fun t kt => by
    refine pre5 t ?_
    show Steps p.tables e below (T2.setTop (mkF m 38 #[.val (.int p1), .val (.int p2), .val (.int p3), .val (.int p4), .val (.int p5), .val (.int p6), .val (.int dl), .val (.long tq), .second, .val (.int qt), .val (.int a), .unset, .unset, .unset, .unset, .unset, .unset, .unset, .unset, .unset, .unset, .unset, .unset, .unset, .unset, .unset, .unset] [])) _
    refine XS.iload X2.here hx rfl (hb hby at_38) rfl ?_
    show Steps p.tables e below (T2.setTop (mkF m 40 #[.val (.int p1), .val (.int p2), .val (.int p3), .val (.int p4), .val (.int p5), .val (.int p6), .val (.int dl), .val (.long tq), .second, .val (.int qt), .val (.int a), .unset, .unset, .unset, .unset, .unset, .unset, .unset, .unset, .unset, .unset, .unset, .unset, .unset, .unset, .unset, .unset] [(.int p5)])) _
    refine XS.bipush X2.here hx rfl (hb hby at_40) ?_
    show Steps p.tables e below (T2.setTop (mkF m 42 #[.val (.int p1), .val (.int p2), .val (.int p3), .val (.int p4), .val (.int p5), .val (.int p6), .val (.int dl), .val (.long tq), .second, .val (.int qt), .val (.int a), .unset, .unset, .unset, .unset, .unset, .unset, .unset, .unset, .unset, .unset, .unset, .unset, .unset, .unset, .unset, .unset] [(.int (31 : Int32)), (.int p5)])) _
    refine XS.iand X2.here hx rfl (hb hby at_42) rfl ?_
    show Steps p.tables e below (T2.setTop (mkF m 43 #[.val (.int p1), .val (.int p2), .val (.int p3), .val (.int p4), .val (.int p5), .val (.int p6), .val (.int dl), .val (.long tq), .second, .val (.int qt), .val (.int a), .unset, .unset, .unset, .unset, .unset, .unset, .unset, .unset, .unset, .unset, .unset, .unset, .unset, .unset, .unset, .unset] [(.int (p5 &&& (31 : Int32)))])) _
    refine XS.istore X2.here hx rfl (hb hby at_43) rfl (l' := #[.val (.int p1), .val (.int p2), .val (.int p3), .val (.int p4), .val (.int p5), .val (.int p6), .val (.int dl), .val (.long tq), .second, .val (.int qt), .val (.int a), .val (.int (p5 &&& (31 : Int32))), .unset, .unset, .unset, .unset, .unset, .unset, .unset, .unset, .unset, .unset, .unset, .unset, .unset, .unset, .unset]) rfl ?_
    exact kt⟩
  obtain ⟨bq, h_bq, pre7⟩ : ∃ z : Int32, z = ((p6 &&& (255 : Int32)) % (5 : Int32)) ∧ ∀ t, Steps p.tables e below (T2.setTop (mkF m 55 #[.val (.int p1), .val (.int p2), .val (.int p3), .val (.int p4), .val (.int p5), .val (.int p6), .val (.int dl), .val (.long tq), .second, .val (.int qt), .val (.int a), .val (.int kq), .val (.int z), .unset, .unset, .unset, .unset, .unset, .unset, .unset, .unset, .unset, .unset, .unset, .unset, .unset, .unset] [])) t → Steps p.tables e below (s₁.setTop (entryFrame m #[(.int p1), (.int p2), (.int p3), (.int p4), (.int p5), (.int p6)] maxLocals)) t := ⟨_, rfl, fun t kt => by
    refine pre6 t ?_
    show Steps p.tables e below (T2.setTop (mkF m 45 #[.val (.int p1), .val (.int p2), .val (.int p3), .val (.int p4), .val (.int p5), .val (.int p6), .val (.int dl), .val (.long tq), .second, .val (.int qt), .val (.int a), .val (.int kq), .unset, .unset, .unset, .unset, .unset, .unset, .unset, .unset, .unset, .unset, .unset, .unset, .unset, .unset, .unset] [])) _
    refine XS.iload X2.here hx rfl (hb hby at_45) rfl ?_
    show Steps p.tables e below (T2.setTop (mkF m 47 #[.val (.int p1), .val (.int p2), .val (.int p3), .val (.int p4), .val (.int p5), .val (.int p6), .val (.int dl), .val (.long tq), .second, .val (.int qt), .val (.int a), .val (.int kq), .unset, .unset, .unset, .unset, .unset, .unset, .unset, .unset, .unset, .unset, .unset, .unset, .unset, .unset, .unset] [(.int p6)])) _
    refine XS.sipush X2.here hx rfl (hb hby at_47) ?_
    show Steps p.tables e below (T2.setTop (mkF m 50 #[.val (.int p1), .val (.int p2), .val (.int p3), .val (.int p4), .val (.int p5), .val (.int p6), .val (.int dl), .val (.long tq), .second, .val (.int qt), .val (.int a), .val (.int kq), .unset, .unset, .unset, .unset, .unset, .unset, .unset, .unset, .unset, .unset, .unset, .unset, .unset, .unset, .unset] [(.int (255 : Int32)), (.int p6)])) _
    refine XS.iand X2.here hx rfl (hb hby at_50) rfl ?_
    show Steps p.tables e below (T2.setTop (mkF m 51 #[.val (.int p1), .val (.int p2), .val (.int p3), .val (.int p4), .val (.int p5), .val (.int p6), .val (.int dl), .val (.long tq), .second, .val (.int qt), .val (.int a), .val (.int kq), .unset, .unset, .unset, .unset, .unset, .unset, .unset, .unset, .unset, .unset, .unset, .unset, .unset, .unset, .unset] [(.int (p6 &&& (255 : Int32)))])) _
    refine XS.iconst X2.here hx rfl (hb hby at_51) ?_
    show Steps p.tables e below (T2.setTop (mkF m 52 #[.val (.int p1), .val (.int p2), .val (.int p3), .val (.int p4), .val (.int p5), .val (.int p6), .val (.int dl), .val (.long tq), .second, .val (.int qt), .val (.int a), .val (.int kq), .unset, .unset, .unset, .unset, .unset, .unset, .unset, .unset, .unset, .unset, .unset, .unset, .unset, .unset, .unset] [(.int (5 : Int32)), (.int (p6 &&& (255 : Int32)))])) _
    refine iremM (g := (mkF m 52 #[.val (.int p1), .val (.int p2), .val (.int p3), .val (.int p4), .val (.int p5), .val (.int p6), .val (.int dl), .val (.long tq), .second, .val (.int qt), .val (.int a), .val (.int kq), .unset, .unset, .unset, .unset, .unset, .unset, .unset, .unset, .unset, .unset, .unset, .unset, .unset, .unset, .unset] [(.int (5 : Int32)), (.int (p6 &&& (255 : Int32)))])) X2 hx rfl (hb hby at_52) rfl (by decide) ?_
    show Steps p.tables e below (T2.setTop (mkF m 53 #[.val (.int p1), .val (.int p2), .val (.int p3), .val (.int p4), .val (.int p5), .val (.int p6), .val (.int dl), .val (.long tq), .second, .val (.int qt), .val (.int a), .val (.int kq), .unset, .unset, .unset, .unset, .unset, .unset, .unset, .unset, .unset, .unset, .unset, .unset, .unset, .unset, .unset] [(.int ((p6 &&& (255 : Int32)) % (5 : Int32)))])) _
    refine XS.istore X2.here hx rfl (hb hby at_53) rfl (l' := #[.val (.int p1), .val (.int p2), .val (.int p3), .val (.int p4), .val (.int p5), .val (.int p6), .val (.int dl), .val (.long tq), .second, .val (.int qt), .val (.int a), .val (.int kq), .val (.int ((p6 &&& (255 : Int32)) % (5 : Int32))), .unset, .unset, .unset, .unset, .unset, .unset, .unset, .unset, .unset, .unset, .unset, .unset, .unset, .unset]) rfl ?_
    exact kt⟩
  obtain ⟨kv, h_kv, pre8⟩ : ∃ z : Int32, z = (((p6.toUInt32 >>> ((8 : Int32) &&& 31).toUInt32).toInt32) &&& (63 : Int32)) ∧ ∀ t, Steps p.tables e below (T2.setTop (mkF m 65 #[.val (.int p1), .val (.int p2), .val (.int p3), .val (.int p4), .val (.int p5), .val (.int p6), .val (.int dl), .val (.long tq), .second, .val (.int qt), .val (.int a), .val (.int kq), .val (.int bq), .val (.int z), .unset, .unset, .unset, .unset, .unset, .unset, .unset, .unset, .unset, .unset, .unset, .unset, .unset] [])) t → Steps p.tables e below (s₁.setTop (entryFrame m #[(.int p1), (.int p2), (.int p3), (.int p4), (.int p5), (.int p6)] maxLocals)) t := ⟨_, rfl, fun t kt => by
    refine pre7 t ?_
    show Steps p.tables e below (T2.setTop (mkF m 55 #[.val (.int p1), .val (.int p2), .val (.int p3), .val (.int p4), .val (.int p5), .val (.int p6), .val (.int dl), .val (.long tq), .second, .val (.int qt), .val (.int a), .val (.int kq), .val (.int bq), .unset, .unset, .unset, .unset, .unset, .unset, .unset, .unset, .unset, .unset, .unset, .unset, .unset, .unset] [])) _
    refine XS.iload X2.here hx rfl (hb hby at_55) rfl ?_
    show Steps p.tables e below (T2.setTop (mkF m 57 #[.val (.int p1), .val (.int p2), .val (.int p3), .val (.int p4), .val (.int p5), .val (.int p6), .val (.int dl), .val (.long tq), .second, .val (.int qt), .val (.int a), .val (.int kq), .val (.int bq), .unset, .unset, .unset, .unset, .unset, .unset, .unset, .unset, .unset, .unset, .unset, .unset, .unset, .unset] [(.int p6)])) _
    refine XS.bipush X2.here hx rfl (hb hby at_57) ?_
    show Steps p.tables e below (T2.setTop (mkF m 59 #[.val (.int p1), .val (.int p2), .val (.int p3), .val (.int p4), .val (.int p5), .val (.int p6), .val (.int dl), .val (.long tq), .second, .val (.int qt), .val (.int a), .val (.int kq), .val (.int bq), .unset, .unset, .unset, .unset, .unset, .unset, .unset, .unset, .unset, .unset, .unset, .unset, .unset, .unset] [(.int (8 : Int32)), (.int p6)])) _
    refine XS.iushr X2.here hx rfl (hb hby at_59) rfl ?_
    show Steps p.tables e below (T2.setTop (mkF m 60 #[.val (.int p1), .val (.int p2), .val (.int p3), .val (.int p4), .val (.int p5), .val (.int p6), .val (.int dl), .val (.long tq), .second, .val (.int qt), .val (.int a), .val (.int kq), .val (.int bq), .unset, .unset, .unset, .unset, .unset, .unset, .unset, .unset, .unset, .unset, .unset, .unset, .unset, .unset] [(.int ((p6.toUInt32 >>> ((8 : Int32) &&& 31).toUInt32).toInt32))])) _
    refine XS.bipush X2.here hx rfl (hb hby at_60) ?_
    show Steps p.tables e below (T2.setTop (mkF m 62 #[.val (.int p1), .val (.int p2), .val (.int p3), .val (.int p4), .val (.int p5), .val (.int p6), .val (.int dl), .val (.long tq), .second, .val (.int qt), .val (.int a), .val (.int kq), .val (.int bq), .unset, .unset, .unset, .unset, .unset, .unset, .unset, .unset, .unset, .unset, .unset, .unset, .unset, .unset] [(.int (63 : Int32)), (.int ((p6.toUInt32 >>> ((8 : Int32) &&& 31).toUInt32).toInt32))])) _
    refine XS.iand X2.here hx rfl (hb hby at_62) rfl ?_
    show Steps p.tables e below (T2.setTop (mkF m 63 #[.val (.int p1), .val (.int p2), .val (.int p3), .val (.int p4), .val (.int p5), .val (.int p6), .val (.int dl), .val (.long tq), .second, .val (.int qt), .val (.int a), .val (.int kq), .val (.int bq), .unset, .unset, .unset, .unset, .unset, .unset, .unset, .unset, .unset, .unset, .unset, .unset, .unset, .unset] [(.int (((p6.toUInt32 >>> ((8 : Int32) &&& 31).toUInt32).toInt32) &&& (63 : Int32)))])) _
    refine XS.istore X2.here hx rfl (hb hby at_63) rfl (l' := #[.val (.int p1), .val (.int p2), .val (.int p3), .val (.int p4), .val (.int p5), .val (.int p6), .val (.int dl), .val (.long tq), .second, .val (.int qt), .val (.int a), .val (.int kq), .val (.int bq), .val (.int (((p6.toUInt32 >>> ((8 : Int32) &&& 31).toUInt32).toInt32) &&& (63 : Int32))), .unset, .unset, .unset, .unset, .unset, .unset, .unset, .unset, .unset, .unset, .unset, .unset, .unset]) rfl ?_
    exact kt⟩
  have B := own_cut h_dl h_tq h_qt h_a h_kq h_bq h_kv
  obtain ⟨T9, h9, X9, e9, E9, A9, D9, -, st9⟩ := newO X2 hx hZ0 hown0 (hw _ (List.mem_of_getElem? (i := 7) rfl)) (hw _ (List.mem_of_getElem? (i := 8) rfl)) (hw _ (List.mem_of_getElem? (i := 9) rfl)) e2 (g := (mkF m 65 #[.val (.int p1), .val (.int p2), .val (.int p3), .val (.int p4), .val (.int p5), .val (.int p6), .val (.int dl), .val (.long tq), .second, .val (.int qt), .val (.int a), .val (.int kq), .val (.int bq), .val (.int kv), .unset, .unset, .unset, .unset, .unset, .unset, .unset, .unset, .unset, .unset, .unset, .unset, .unset] [])) rfl (hb hby at_65) (by decide) (by decide)
  obtain ⟨b9, g9⟩ : ∃ z, z = h0.size := ⟨_, rfl⟩
  rw [← g9] at A9 D9 st9
  have g_b9 : n0 ≤ b9 := Nat.le_trans Z0 (Nat.le_of_eq g9.symm)
  have sz_b9 : h0.size ≤ b9 := Nat.le_trans (Keep.refl h0 []).1 (Nat.le_of_eq g9.symm)
  have K10 : Keep h0 h9 [] := (Keep.refl h0 []).ext E9
  have F_k1_b9 : Fld Z h9 b9 "com/example/morro/morro/rank/Bm25" "k1" "D" (.double (0 : UInt64)) := D9 (Or.inr (hw _ (List.mem_of_getElem? (i := 37) rfl))) (ty := .double) (by decide)
  have F_b_b9 : Fld Z h9 b9 "com/example/morro/morro/rank/Bm25" "b" "D" (.double (0 : UInt64)) := D9 (Or.inr (hw _ (List.mem_of_getElem? (i := 39) rfl))) (ty := .double) (by decide)
  have F_k3_b9 : Fld Z h9 b9 "com/example/morro/morro/rank/Bm25" "k3" "D" (.double (0 : UInt64)) := D9 (Or.inr (hw _ (List.mem_of_getElem? (i := 42) rfl))) (ty := .double) (by decide)
  obtain ⟨_, _, ⟨T11, L11, k11, n11⟩, -, X11, hs11, hg11, ⟨Lc11, hQ11, l11, y11, z11⟩, st11⟩ := X9.specialBackS hx (y := (⟨"com/example/morro/morro/rank/Bm25", "<init>", "(DDD)V"⟩ : MethodName)) rfl hown0 (mvT hZ0 (hw _ (List.mem_of_getElem? (i := 11) rfl))) (mvT hZ0 (hw _ (List.mem_of_getElem? (i := 12) rfl))) (mvT hZ0 (hw _ (List.mem_of_getElem? (i := 13) rfl))) (by decide) (own_backS (W := 1) (rm2 l Z a0 hw [] b9 (FP.ddiv (FP.i2d kq) (4616189618054758400 : UInt64)) (FP.ddiv (FP.i2d bq) (4616189618054758400 : UInt64)) (FP.ddiv (FP.i2d kv) (4616189618054758400 : UInt64)) (.double (0 : UInt64)) (.double (0 : UInt64)) (.double (0 : UInt64)) ([] : List String) h9 n0 (Nat.le_trans Z0 K10.1) A9 F_k1_b9 F_b_b9 F_k3_b9 g_b9 (own_en B.b0 (by have := B.b1; omega)).1 (own_eb B.b0 B.b1) (own_nnD (own_x B.k0)) (own_en B.k0 (by have := B.k1; omega)).1 (own_en B.k0 (by have := B.k1; omega)).2 (own_nnD (own_x B.c0)) (own_en B.c0 (by have := B.c1; omega)).1 (own_en B.c0 (by have := B.c1; omega)).2) hZ0 I0 (hw _ (List.mem_of_getElem? (i := 13) rfl)) (hw _ (List.mem_of_getElem? (i := 9) rfl)) (by decide) (by decide)) (g := (mkF m 90 #[.val (.int p1), .val (.int p2), .val (.int p3), .val (.int p4), .val (.int p5), .val (.int p6), .val (.int dl), .val (.long tq), .second, .val (.int qt), .val (.int a), .val (.int kq), .val (.int bq), .val (.int kv), .unset, .unset, .unset, .unset, .unset, .unset, .unset, .unset, .unset, .unset, .unset, .unset, .unset] [(.double (FP.ddiv (FP.i2d kv) (4616189618054758400 : UInt64))), (.double (FP.ddiv (FP.i2d bq) (4616189618054758400 : UInt64))), (.double (FP.ddiv (FP.i2d kq) (4616189618054758400 : UInt64))), (.ref b9), (.ref b9)])) rfl (by rw [hml]; rfl) (Steps.refl _) (a := b9) (argsL := [(.double (FP.ddiv (FP.i2d kq) (4616189618054758400 : UInt64))), (.double (FP.ddiv (FP.i2d bq) (4616189618054758400 : UInt64))), (.double (FP.ddiv (FP.i2d kv) (4616189618054758400 : UInt64)))]) (rest := [(.ref b9)]) (lenOf pd__28DDD_29V rfl) rfl (by show 2 * 0 + _ ≤ _; exact Nat.le_of_eq rfl) (hb hby at_90) (fun _ _ => ⟨rfl, e9, (by decide : 1 + 4 ≤ _), (by decide : 3 + 24 ≤ _)⟩)
  dsimp only [Pt.U, Pt.locs, Pt.cells, Pt.slots] at hs11 hg11
  dsimp only [Pt.U, Pt.locs, Pt.cells, Pt.slots] at y11 z11 st11 hQ11
  change Stand p l e _ _ m _ below meth c T11 L11 k11 n11 at X11
  change L11 = _ ++ Lc11 at l11
  subst y11 z11
  obtain ⟨rfl, N11q, K11q, t11_0, t11_1, t11_2, t11_3⟩ := hQ11
  have N11 : Fr n0 L11 := l11 ▸ Fr.app N2 N11q
  obtain ⟨X11r, hS11, hZ11, hown11⟩ := rebS hS0 (Nat.le_trans (Nat.le_trans hk0 E9.1) (Nat.le_of_eq (congrArg Array.size e9.symm))) X11 hs11 hg11 hZ0 hown0
  replace X11 := X11r
  have K11 : Keep h0 T11.heap [] := K10.trans K11q (allS (P := fun xz => xz ∈ [] ∨ h0.size ≤ xz) (Or.inr sz_b9) all0)
  have pre12 : ∀ t, Steps p.tables e below (T11.setTop (mkF m 113 #[.val (.int p1), .val (.int p2), .val (.int p3), .val (.int p4), .val (.int p5), .val (.int p6), .val (.int dl), .val (.long tq), .second, .val (.int qt), .val (.int a), .val (.int kq), .val (.int bq), .val (.int kv), .val (.ref b9), .unset, .unset, .unset, .unset, .unset, .unset, .unset, .unset, .unset, .unset, .unset, .unset] [(.double (FP.i2d ((1 : Int32) <<< (a &&& 31)))), (.int dl), (.int qt), (.double (FP.ddiv (FP.l2d tq) (4616189618054758400 : UInt64))), (.ref b9)])) t → Steps p.tables e below (s₁.setTop (entryFrame m #[(.int p1), (.int p2), (.int p3), (.int p4), (.int p5), (.int p6)] maxLocals)) t := fun t kt => by
    refine pre8 t ?_
    show Steps p.tables e below (T2.setTop (mkF m 65 #[.val (.int p1), .val (.int p2), .val (.int p3), .val (.int p4), .val (.int p5), .val (.int p6), .val (.int dl), .val (.long tq), .second, .val (.int qt), .val (.int a), .val (.int kq), .val (.int bq), .val (.int kv), .unset, .unset, .unset, .unset, .unset, .unset, .unset, .unset, .unset, .unset, .unset, .unset, .unset] [])) _
    refine st9 _ ?_
    show Steps p.tables e below (T9.setTop (mkF m 68 #[.val (.int p1), .val (.int p2), .val (.int p3), .val (.int p4), .val (.int p5), .val (.int p6), .val (.int dl), .val (.long tq), .second, .val (.int qt), .val (.int a), .val (.int kq), .val (.int bq), .val (.int kv), .unset, .unset, .unset, .unset, .unset, .unset, .unset, .unset, .unset, .unset, .unset, .unset, .unset] [(.ref b9)])) _
    refine XS.dup X9.here hx rfl (hb hby at_68) rfl rfl ?_
    show Steps p.tables e below (T9.setTop (mkF m 69 #[.val (.int p1), .val (.int p2), .val (.int p3), .val (.int p4), .val (.int p5), .val (.int p6), .val (.int dl), .val (.long tq), .second, .val (.int qt), .val (.int a), .val (.int kq), .val (.int bq), .val (.int kv), .unset, .unset, .unset, .unset, .unset, .unset, .unset, .unset, .unset, .unset, .unset, .unset, .unset] [(.ref b9), (.ref b9)])) _
    refine XS.iload X9.here hx rfl (hb hby at_69) rfl ?_
    show Steps p.tables e below (T9.setTop (mkF m 71 #[.val (.int p1), .val (.int p2), .val (.int p3), .val (.int p4), .val (.int p5), .val (.int p6), .val (.int dl), .val (.long tq), .second, .val (.int qt), .val (.int a), .val (.int kq), .val (.int bq), .val (.int kv), .unset, .unset, .unset, .unset, .unset, .unset, .unset, .unset, .unset, .unset, .unset, .unset, .unset] [(.int kq), (.ref b9), (.ref b9)])) _
    refine XS.i2dS X9.here hx rfl (hb hby at_71) rfl rfl ?_
    show Steps p.tables e below (T9.setTop (mkF m 72 #[.val (.int p1), .val (.int p2), .val (.int p3), .val (.int p4), .val (.int p5), .val (.int p6), .val (.int dl), .val (.long tq), .second, .val (.int qt), .val (.int a), .val (.int kq), .val (.int bq), .val (.int kv), .unset, .unset, .unset, .unset, .unset, .unset, .unset, .unset, .unset, .unset, .unset, .unset, .unset] [(.double (FP.i2d kq)), (.ref b9), (.ref b9)])) _
    refine X9.ldc2DoubleC hx hown0 (mvT hZ0 (hw _ (List.mem_of_getElem? (i := 10) rfl))) (g := (mkF m 72 #[.val (.int p1), .val (.int p2), .val (.int p3), .val (.int p4), .val (.int p5), .val (.int p6), .val (.int dl), .val (.long tq), .second, .val (.int qt), .val (.int a), .val (.int kq), .val (.int bq), .val (.int kv), .unset, .unset, .unset, .unset, .unset, .unset, .unset, .unset, .unset, .unset, .unset, .unset, .unset] [(.double (FP.i2d kq)), (.ref b9), (.ref b9)])) rfl (hb hby at_72) _ ?_
    show Steps p.tables e below (T9.setTop (mkF m 75 #[.val (.int p1), .val (.int p2), .val (.int p3), .val (.int p4), .val (.int p5), .val (.int p6), .val (.int dl), .val (.long tq), .second, .val (.int qt), .val (.int a), .val (.int kq), .val (.int bq), .val (.int kv), .unset, .unset, .unset, .unset, .unset, .unset, .unset, .unset, .unset, .unset, .unset, .unset, .unset] [(.double (4616189618054758400 : UInt64)), (.double (FP.i2d kq)), (.ref b9), (.ref b9)])) _
    refine XS.ddivS X9.here hx rfl (hb hby at_75) rfl (own_nnD (own_x B.k0)) rfl ?_
    show Steps p.tables e below (T9.setTop (mkF m 76 #[.val (.int p1), .val (.int p2), .val (.int p3), .val (.int p4), .val (.int p5), .val (.int p6), .val (.int dl), .val (.long tq), .second, .val (.int qt), .val (.int a), .val (.int kq), .val (.int bq), .val (.int kv), .unset, .unset, .unset, .unset, .unset, .unset, .unset, .unset, .unset, .unset, .unset, .unset, .unset] [(.double (FP.ddiv (FP.i2d kq) (4616189618054758400 : UInt64))), (.ref b9), (.ref b9)])) _
    refine XS.iload X9.here hx rfl (hb hby at_76) rfl ?_
    show Steps p.tables e below (T9.setTop (mkF m 78 #[.val (.int p1), .val (.int p2), .val (.int p3), .val (.int p4), .val (.int p5), .val (.int p6), .val (.int dl), .val (.long tq), .second, .val (.int qt), .val (.int a), .val (.int kq), .val (.int bq), .val (.int kv), .unset, .unset, .unset, .unset, .unset, .unset, .unset, .unset, .unset, .unset, .unset, .unset, .unset] [(.int bq), (.double (FP.ddiv (FP.i2d kq) (4616189618054758400 : UInt64))), (.ref b9), (.ref b9)])) _
    refine XS.i2dS X9.here hx rfl (hb hby at_78) rfl rfl ?_
    show Steps p.tables e below (T9.setTop (mkF m 79 #[.val (.int p1), .val (.int p2), .val (.int p3), .val (.int p4), .val (.int p5), .val (.int p6), .val (.int dl), .val (.long tq), .second, .val (.int qt), .val (.int a), .val (.int kq), .val (.int bq), .val (.int kv), .unset, .unset, .unset, .unset, .unset, .unset, .unset, .unset, .unset, .unset, .unset, .unset, .unset] [(.double (FP.i2d bq)), (.double (FP.ddiv (FP.i2d kq) (4616189618054758400 : UInt64))), (.ref b9), (.ref b9)])) _
    refine X9.ldc2DoubleC hx hown0 (mvT hZ0 (hw _ (List.mem_of_getElem? (i := 10) rfl))) (g := (mkF m 79 #[.val (.int p1), .val (.int p2), .val (.int p3), .val (.int p4), .val (.int p5), .val (.int p6), .val (.int dl), .val (.long tq), .second, .val (.int qt), .val (.int a), .val (.int kq), .val (.int bq), .val (.int kv), .unset, .unset, .unset, .unset, .unset, .unset, .unset, .unset, .unset, .unset, .unset, .unset, .unset] [(.double (FP.i2d bq)), (.double (FP.ddiv (FP.i2d kq) (4616189618054758400 : UInt64))), (.ref b9), (.ref b9)])) rfl (hb hby at_79) _ ?_
    show Steps p.tables e below (T9.setTop (mkF m 82 #[.val (.int p1), .val (.int p2), .val (.int p3), .val (.int p4), .val (.int p5), .val (.int p6), .val (.int dl), .val (.long tq), .second, .val (.int qt), .val (.int a), .val (.int kq), .val (.int bq), .val (.int kv), .unset, .unset, .unset, .unset, .unset, .unset, .unset, .unset, .unset, .unset, .unset, .unset, .unset] [(.double (4616189618054758400 : UInt64)), (.double (FP.i2d bq)), (.double (FP.ddiv (FP.i2d kq) (4616189618054758400 : UInt64))), (.ref b9), (.ref b9)])) _
    refine XS.ddivS X9.here hx rfl (hb hby at_82) rfl (own_nnD (own_x B.b0)) rfl ?_
    show Steps p.tables e below (T9.setTop (mkF m 83 #[.val (.int p1), .val (.int p2), .val (.int p3), .val (.int p4), .val (.int p5), .val (.int p6), .val (.int dl), .val (.long tq), .second, .val (.int qt), .val (.int a), .val (.int kq), .val (.int bq), .val (.int kv), .unset, .unset, .unset, .unset, .unset, .unset, .unset, .unset, .unset, .unset, .unset, .unset, .unset] [(.double (FP.ddiv (FP.i2d bq) (4616189618054758400 : UInt64))), (.double (FP.ddiv (FP.i2d kq) (4616189618054758400 : UInt64))), (.ref b9), (.ref b9)])) _
    refine XS.iload X9.here hx rfl (hb hby at_83) rfl ?_
    show Steps p.tables e below (T9.setTop (mkF m 85 #[.val (.int p1), .val (.int p2), .val (.int p3), .val (.int p4), .val (.int p5), .val (.int p6), .val (.int dl), .val (.long tq), .second, .val (.int qt), .val (.int a), .val (.int kq), .val (.int bq), .val (.int kv), .unset, .unset, .unset, .unset, .unset, .unset, .unset, .unset, .unset, .unset, .unset, .unset, .unset] [(.int kv), (.double (FP.ddiv (FP.i2d bq) (4616189618054758400 : UInt64))), (.double (FP.ddiv (FP.i2d kq) (4616189618054758400 : UInt64))), (.ref b9), (.ref b9)])) _
    refine XS.i2dS X9.here hx rfl (hb hby at_85) rfl rfl ?_
    show Steps p.tables e below (T9.setTop (mkF m 86 #[.val (.int p1), .val (.int p2), .val (.int p3), .val (.int p4), .val (.int p5), .val (.int p6), .val (.int dl), .val (.long tq), .second, .val (.int qt), .val (.int a), .val (.int kq), .val (.int bq), .val (.int kv), .unset, .unset, .unset, .unset, .unset, .unset, .unset, .unset, .unset, .unset, .unset, .unset, .unset] [(.double (FP.i2d kv)), (.double (FP.ddiv (FP.i2d bq) (4616189618054758400 : UInt64))), (.double (FP.ddiv (FP.i2d kq) (4616189618054758400 : UInt64))), (.ref b9), (.ref b9)])) _
    refine X9.ldc2DoubleC hx hown0 (mvT hZ0 (hw _ (List.mem_of_getElem? (i := 10) rfl))) (g := (mkF m 86 #[.val (.int p1), .val (.int p2), .val (.int p3), .val (.int p4), .val (.int p5), .val (.int p6), .val (.int dl), .val (.long tq), .second, .val (.int qt), .val (.int a), .val (.int kq), .val (.int bq), .val (.int kv), .unset, .unset, .unset, .unset, .unset, .unset, .unset, .unset, .unset, .unset, .unset, .unset, .unset] [(.double (FP.i2d kv)), (.double (FP.ddiv (FP.i2d bq) (4616189618054758400 : UInt64))), (.double (FP.ddiv (FP.i2d kq) (4616189618054758400 : UInt64))), (.ref b9), (.ref b9)])) rfl (hb hby at_86) _ ?_
    show Steps p.tables e below (T9.setTop (mkF m 89 #[.val (.int p1), .val (.int p2), .val (.int p3), .val (.int p4), .val (.int p5), .val (.int p6), .val (.int dl), .val (.long tq), .second, .val (.int qt), .val (.int a), .val (.int kq), .val (.int bq), .val (.int kv), .unset, .unset, .unset, .unset, .unset, .unset, .unset, .unset, .unset, .unset, .unset, .unset, .unset] [(.double (4616189618054758400 : UInt64)), (.double (FP.i2d kv)), (.double (FP.ddiv (FP.i2d bq) (4616189618054758400 : UInt64))), (.double (FP.ddiv (FP.i2d kq) (4616189618054758400 : UInt64))), (.ref b9), (.ref b9)])) _
    refine XS.ddivS X9.here hx rfl (hb hby at_89) rfl (own_nnD (own_x B.c0)) rfl ?_
    show Steps p.tables e below (T9.setTop (mkF m 90 #[.val (.int p1), .val (.int p2), .val (.int p3), .val (.int p4), .val (.int p5), .val (.int p6), .val (.int dl), .val (.long tq), .second, .val (.int qt), .val (.int a), .val (.int kq), .val (.int bq), .val (.int kv), .unset, .unset, .unset, .unset, .unset, .unset, .unset, .unset, .unset, .unset, .unset, .unset, .unset] [(.double (FP.ddiv (FP.i2d kv) (4616189618054758400 : UInt64))), (.double (FP.ddiv (FP.i2d bq) (4616189618054758400 : UInt64))), (.double (FP.ddiv (FP.i2d kq) (4616189618054758400 : UInt64))), (.ref b9), (.ref b9)])) _
    refine st11.trans ?_
    show Steps p.tables e below (T11.setTop (mkF m 93 #[.val (.int p1), .val (.int p2), .val (.int p3), .val (.int p4), .val (.int p5), .val (.int p6), .val (.int dl), .val (.long tq), .second, .val (.int qt), .val (.int a), .val (.int kq), .val (.int bq), .val (.int kv), .unset, .unset, .unset, .unset, .unset, .unset, .unset, .unset, .unset, .unset, .unset, .unset, .unset] [(.ref b9)])) _
    refine XS.astore X11.here hx rfl (hb hby at_93) rfl rfl (l' := #[.val (.int p1), .val (.int p2), .val (.int p3), .val (.int p4), .val (.int p5), .val (.int p6), .val (.int dl), .val (.long tq), .second, .val (.int qt), .val (.int a), .val (.int kq), .val (.int bq), .val (.int kv), .val (.ref b9), .unset, .unset, .unset, .unset, .unset, .unset, .unset, .unset, .unset, .unset, .unset, .unset]) rfl ?_
    show Steps p.tables e below (T11.setTop (mkF m 95 #[.val (.int p1), .val (.int p2), .val (.int p3), .val (.int p4), .val (.int p5), .val (.int p6), .val (.int dl), .val (.long tq), .second, .val (.int qt), .val (.int a), .val (.int kq), .val (.int bq), .val (.int kv), .val (.ref b9), .unset, .unset, .unset, .unset, .unset, .unset, .unset, .unset, .unset, .unset, .unset, .unset] [])) _
    refine XS.aload X11.here hx rfl (hb hby at_95) rfl rfl ?_
    show Steps p.tables e below (T11.setTop (mkF m 97 #[.val (.int p1), .val (.int p2), .val (.int p3), .val (.int p4), .val (.int p5), .val (.int p6), .val (.int dl), .val (.long tq), .second, .val (.int qt), .val (.int a), .val (.int kq), .val (.int bq), .val (.int kv), .val (.ref b9), .unset, .unset, .unset, .unset, .unset, .unset, .unset, .unset, .unset, .unset, .unset, .unset] [(.ref b9)])) _
    refine XS.lload X11.here hx rfl (hb hby at_97) rfl ?_
    show Steps p.tables e below (T11.setTop (mkF m 99 #[.val (.int p1), .val (.int p2), .val (.int p3), .val (.int p4), .val (.int p5), .val (.int p6), .val (.int dl), .val (.long tq), .second, .val (.int qt), .val (.int a), .val (.int kq), .val (.int bq), .val (.int kv), .val (.ref b9), .unset, .unset, .unset, .unset, .unset, .unset, .unset, .unset, .unset, .unset, .unset, .unset] [(.long tq), (.ref b9)])) _
    refine XS.l2dS X11.here hx rfl (hb hby at_99) rfl rfl ?_
    show Steps p.tables e below (T11.setTop (mkF m 100 #[.val (.int p1), .val (.int p2), .val (.int p3), .val (.int p4), .val (.int p5), .val (.int p6), .val (.int dl), .val (.long tq), .second, .val (.int qt), .val (.int a), .val (.int kq), .val (.int bq), .val (.int kv), .val (.ref b9), .unset, .unset, .unset, .unset, .unset, .unset, .unset, .unset, .unset, .unset, .unset, .unset] [(.double (FP.l2d tq)), (.ref b9)])) _
    refine X11.ldc2DoubleC hx hown11 (mvT hZ11 (hw _ (List.mem_of_getElem? (i := 10) rfl))) (g := (mkF m 100 #[.val (.int p1), .val (.int p2), .val (.int p3), .val (.int p4), .val (.int p5), .val (.int p6), .val (.int dl), .val (.long tq), .second, .val (.int qt), .val (.int a), .val (.int kq), .val (.int bq), .val (.int kv), .val (.ref b9), .unset, .unset, .unset, .unset, .unset, .unset, .unset, .unset, .unset, .unset, .unset, .unset] [(.double (FP.l2d tq)), (.ref b9)])) rfl (hb hby at_100) _ ?_
    show Steps p.tables e below (T11.setTop (mkF m 103 #[.val (.int p1), .val (.int p2), .val (.int p3), .val (.int p4), .val (.int p5), .val (.int p6), .val (.int dl), .val (.long tq), .second, .val (.int qt), .val (.int a), .val (.int kq), .val (.int bq), .val (.int kv), .val (.ref b9), .unset, .unset, .unset, .unset, .unset, .unset, .unset, .unset, .unset, .unset, .unset, .unset] [(.double (4616189618054758400 : UInt64)), (.double (FP.l2d tq)), (.ref b9)])) _
    refine XS.ddivS X11.here hx rfl (hb hby at_103) rfl (own_nnD (own_y B.t0 B.t1)) rfl ?_
    show Steps p.tables e below (T11.setTop (mkF m 104 #[.val (.int p1), .val (.int p2), .val (.int p3), .val (.int p4), .val (.int p5), .val (.int p6), .val (.int dl), .val (.long tq), .second, .val (.int qt), .val (.int a), .val (.int kq), .val (.int bq), .val (.int kv), .val (.ref b9), .unset, .unset, .unset, .unset, .unset, .unset, .unset, .unset, .unset, .unset, .unset, .unset] [(.double (FP.ddiv (FP.l2d tq) (4616189618054758400 : UInt64))), (.ref b9)])) _
    refine XS.iload X11.here hx rfl (hb hby at_104) rfl ?_
    show Steps p.tables e below (T11.setTop (mkF m 106 #[.val (.int p1), .val (.int p2), .val (.int p3), .val (.int p4), .val (.int p5), .val (.int p6), .val (.int dl), .val (.long tq), .second, .val (.int qt), .val (.int a), .val (.int kq), .val (.int bq), .val (.int kv), .val (.ref b9), .unset, .unset, .unset, .unset, .unset, .unset, .unset, .unset, .unset, .unset, .unset, .unset] [(.int qt), (.double (FP.ddiv (FP.l2d tq) (4616189618054758400 : UInt64))), (.ref b9)])) _
    refine XS.iload X11.here hx rfl (hb hby at_106) rfl ?_
    show Steps p.tables e below (T11.setTop (mkF m 108 #[.val (.int p1), .val (.int p2), .val (.int p3), .val (.int p4), .val (.int p5), .val (.int p6), .val (.int dl), .val (.long tq), .second, .val (.int qt), .val (.int a), .val (.int kq), .val (.int bq), .val (.int kv), .val (.ref b9), .unset, .unset, .unset, .unset, .unset, .unset, .unset, .unset, .unset, .unset, .unset, .unset] [(.int dl), (.int qt), (.double (FP.ddiv (FP.l2d tq) (4616189618054758400 : UInt64))), (.ref b9)])) _
    refine XS.iconst X11.here hx rfl (hb hby at_108) ?_
    show Steps p.tables e below (T11.setTop (mkF m 109 #[.val (.int p1), .val (.int p2), .val (.int p3), .val (.int p4), .val (.int p5), .val (.int p6), .val (.int dl), .val (.long tq), .second, .val (.int qt), .val (.int a), .val (.int kq), .val (.int bq), .val (.int kv), .val (.ref b9), .unset, .unset, .unset, .unset, .unset, .unset, .unset, .unset, .unset, .unset, .unset, .unset] [(.int (1 : Int32)), (.int dl), (.int qt), (.double (FP.ddiv (FP.l2d tq) (4616189618054758400 : UInt64))), (.ref b9)])) _
    refine XS.iload X11.here hx rfl (hb hby at_109) rfl ?_
    show Steps p.tables e below (T11.setTop (mkF m 111 #[.val (.int p1), .val (.int p2), .val (.int p3), .val (.int p4), .val (.int p5), .val (.int p6), .val (.int dl), .val (.long tq), .second, .val (.int qt), .val (.int a), .val (.int kq), .val (.int bq), .val (.int kv), .val (.ref b9), .unset, .unset, .unset, .unset, .unset, .unset, .unset, .unset, .unset, .unset, .unset, .unset] [(.int a), (.int (1 : Int32)), (.int dl), (.int qt), (.double (FP.ddiv (FP.l2d tq) (4616189618054758400 : UInt64))), (.ref b9)])) _
    refine XS.ishl X11.here hx rfl (hb hby at_111) rfl ?_
    show Steps p.tables e below (T11.setTop (mkF m 112 #[.val (.int p1), .val (.int p2), .val (.int p3), .val (.int p4), .val (.int p5), .val (.int p6), .val (.int dl), .val (.long tq), .second, .val (.int qt), .val (.int a), .val (.int kq), .val (.int bq), .val (.int kv), .val (.ref b9), .unset, .unset, .unset, .unset, .unset, .unset, .unset, .unset, .unset, .unset, .unset, .unset] [(.int ((1 : Int32) <<< (a &&& 31))), (.int dl), (.int qt), (.double (FP.ddiv (FP.l2d tq) (4616189618054758400 : UInt64))), (.ref b9)])) _
    refine XS.i2dS X11.here hx rfl (hb hby at_112) rfl rfl ?_
    exact kt
  by_cases ht : tq = (0 : Int64)
  · obtain ⟨cq13, kq13, q13a, q13b, q13c⟩ := isOf hZ11 rfl t11_0
    obtain ⟨_, _, ⟨T13, L13, k13, n13⟩, -, X13, ⟨Lc13, hQ13, l13, y13, z13⟩, st13⟩ := X11.virtualBack hx (y := (⟨"com/example/morro/morro/rank/Bm25", "tf", "(DIID)D"⟩ : MethodName)) (z := (⟨"com/example/morro/morro/rank/Bm25", "tf", "(DIID)D"⟩ : MethodName)) hown11 (mvT hZ11 (hw _ (List.mem_of_getElem? (i := 43) rfl))) (mvT hZ11 (hw _ (List.mem_of_getElem? (i := 44) rfl))) (notFace_of_selects (args := #[]) (mvT hZ11 (hw _ (List.mem_of_getElem? (i := 46) rfl)))) (mvT hZ11 (hw _ (List.mem_of_getElem? (i := 46) rfl))) (mvT hZ11 (hw _ (List.mem_of_getElem? (i := 45) rfl))) (by decide) (backOf (W := 0) (rtf0 l Z a0 hw [] b9 (FP.ddiv (FP.l2d tq) (4616189618054758400 : UInt64)) qt dl (FP.i2d ((1 : Int32) <<< (a &&& 31))) (FP.ddiv (FP.i2d kq) (4616189618054758400 : UInt64)) (FP.ddiv (FP.i2d bq) (4616189618054758400 : UInt64)) (FP.ddiv (FP.i2d kv) (4616189618054758400 : UInt64)) T11.heap n0 (Nat.le_trans Z0 K11.1) t11_0 t11_1 t11_2 t11_3 (own_z0 ht)) hZ11 (hw _ (List.mem_of_getElem? (i := 47) rfl)) (hw _ (List.mem_of_getElem? (i := 9) rfl)) (by decide) (by decide)) q13a q13c (g := (mkF m 113 #[.val (.int p1), .val (.int p2), .val (.int p3), .val (.int p4), .val (.int p5), .val (.int p6), .val (.int dl), .val (.long tq), .second, .val (.int qt), .val (.int a), .val (.int kq), .val (.int bq), .val (.int kv), .val (.ref b9), .unset, .unset, .unset, .unset, .unset, .unset, .unset, .unset, .unset, .unset, .unset, .unset] [(.double (FP.i2d ((1 : Int32) <<< (a &&& 31)))), (.int dl), (.int qt), (.double (FP.ddiv (FP.l2d tq) (4616189618054758400 : UInt64))), (.ref b9)])) rfl (by rw [hml]; rfl) (Steps.refl _) (argsL := [(.double (FP.ddiv (FP.l2d tq) (4616189618054758400 : UInt64))), (.int qt), (.int dl), (.double (FP.i2d ((1 : Int32) <<< (a &&& 31))))]) (rest := []) (lenOf pd__28DIID_29D rfl) rfl (by show 2 * 0 + _ ≤ _; exact Nat.le_of_eq rfl) (hb hby at_113) (fun _ _ => ⟨rfl, rfl, (by decide : 5 + 0 ≤ _), (by decide : 27 + 0 ≤ _)⟩)
    dsimp only [Pt.U, Pt.locs, Pt.cells, Pt.slots] at y13 z13 st13 hQ13
    change Stand p l e _ _ m _ below meth c T13 L13 k13 n13 at X13
    change L13 = _ ++ Lc13 at l13
    subst y13 z13
    obtain ⟨rfl, N13q, e13⟩ := hQ13
    have N13 : Fr n0 L13 := l13 ▸ Fr.app N11 N13q
    obtain ⟨fs, hr, hrun, hended, hRW⟩ := X13.leaveW hS11 (Nat.le_trans (Nat.le_refl _) (Nat.le_of_eq (congrArg Array.size e13.symm))) (v := some (.int (1 : Int32))) (fun h => by rw [Bd.returns] at h; cases h)
    refine ⟨_, _, pre12 _ ?_, hrun, hended, _, _, rfl, ?_, hRW.1, hRW.2.1, hRW.2.2.1, hRW.2.2.2.mono (by decide) (by decide)⟩
    · show Steps p.tables e below (T11.setTop (mkF m 113 #[.val (.int p1), .val (.int p2), .val (.int p3), .val (.int p4), .val (.int p5), .val (.int p6), .val (.int dl), .val (.long tq), .second, .val (.int qt), .val (.int a), .val (.int kq), .val (.int bq), .val (.int kv), .val (.ref b9), .unset, .unset, .unset, .unset, .unset, .unset, .unset, .unset, .unset, .unset, .unset, .unset] [(.double (FP.i2d ((1 : Int32) <<< (a &&& 31)))), (.int dl), (.int qt), (.double (FP.ddiv (FP.l2d tq) (4616189618054758400 : UInt64))), (.ref b9)])) _
      refine st13.trans ?_
      show Steps p.tables e below (T13.setTop (mkF m 116 #[.val (.int p1), .val (.int p2), .val (.int p3), .val (.int p4), .val (.int p5), .val (.int p6), .val (.int dl), .val (.long tq), .second, .val (.int qt), .val (.int a), .val (.int kq), .val (.int bq), .val (.int kv), .val (.ref b9), .unset, .unset, .unset, .unset, .unset, .unset, .unset, .unset, .unset, .unset, .unset, .unset] [(.double (0 : UInt64))])) _
      refine XS.dstore X13.here hx rfl (hb hby at_116) rfl (l' := #[.val (.int p1), .val (.int p2), .val (.int p3), .val (.int p4), .val (.int p5), .val (.int p6), .val (.int dl), .val (.long tq), .second, .val (.int qt), .val (.int a), .val (.int kq), .val (.int bq), .val (.int kv), .val (.ref b9), .val (.double (0 : UInt64)), .second, .unset, .unset, .unset, .unset, .unset, .unset, .unset, .unset, .unset, .unset]) rfl ?_
      show Steps p.tables e below (T13.setTop (mkF m 118 #[.val (.int p1), .val (.int p2), .val (.int p3), .val (.int p4), .val (.int p5), .val (.int p6), .val (.int dl), .val (.long tq), .second, .val (.int qt), .val (.int a), .val (.int kq), .val (.int bq), .val (.int kv), .val (.ref b9), .val (.double (0 : UInt64)), .second, .unset, .unset, .unset, .unset, .unset, .unset, .unset, .unset, .unset, .unset] [])) _
      refine XS.lload X13.here hx rfl (hb hby at_118) rfl ?_
      show Steps p.tables e below (T13.setTop (mkF m 120 #[.val (.int p1), .val (.int p2), .val (.int p3), .val (.int p4), .val (.int p5), .val (.int p6), .val (.int dl), .val (.long tq), .second, .val (.int qt), .val (.int a), .val (.int kq), .val (.int bq), .val (.int kv), .val (.ref b9), .val (.double (0 : UInt64)), .second, .unset, .unset, .unset, .unset, .unset, .unset, .unset, .unset, .unset, .unset] [(.long tq)])) _
      refine XS.lconst X13.here hx rfl (hb hby at_120) ?_
      show Steps p.tables e below (T13.setTop (mkF m 121 #[.val (.int p1), .val (.int p2), .val (.int p3), .val (.int p4), .val (.int p5), .val (.int p6), .val (.int dl), .val (.long tq), .second, .val (.int qt), .val (.int a), .val (.int kq), .val (.int bq), .val (.int kv), .val (.ref b9), .val (.double (0 : UInt64)), .second, .unset, .unset, .unset, .unset, .unset, .unset, .unset, .unset, .unset, .unset] [(.long (0 : Int64)), (.long tq)])) _
      refine XS.lcmp X13.here hx rfl (hb hby at_121) rfl ?_
      show Steps p.tables e below (T13.setTop (mkF m 122 #[.val (.int p1), .val (.int p2), .val (.int p3), .val (.int p4), .val (.int p5), .val (.int p6), .val (.int dl), .val (.long tq), .second, .val (.int qt), .val (.int a), .val (.int kq), .val (.int bq), .val (.int kv), .val (.ref b9), .val (.double (0 : UInt64)), .second, .unset, .unset, .unset, .unset, .unset, .unset, .unset, .unset, .unset, .unset] [(.int (lcmpW tq (0 : Int64)))])) _
      refine XS.ifNo X13.here hx rfl (hb hby at_122) rfl (own_lneF ht) ?_
      show Steps p.tables e below (T13.setTop (mkF m 125 #[.val (.int p1), .val (.int p2), .val (.int p3), .val (.int p4), .val (.int p5), .val (.int p6), .val (.int dl), .val (.long tq), .second, .val (.int qt), .val (.int a), .val (.int kq), .val (.int bq), .val (.int kv), .val (.ref b9), .val (.double (0 : UInt64)), .second, .unset, .unset, .unset, .unset, .unset, .unset, .unset, .unset, .unset, .unset] [])) _
      refine XS.dconst0 X13.here hx rfl (hb hby at_125) (v := (0 : UInt64)) rfl ?_
      show Steps p.tables e below (T13.setTop (mkF m 126 #[.val (.int p1), .val (.int p2), .val (.int p3), .val (.int p4), .val (.int p5), .val (.int p6), .val (.int dl), .val (.long tq), .second, .val (.int qt), .val (.int a), .val (.int kq), .val (.int bq), .val (.int kv), .val (.ref b9), .val (.double (0 : UInt64)), .second, .unset, .unset, .unset, .unset, .unset, .unset, .unset, .unset, .unset, .unset] [(.double (0 : UInt64))])) _
      refine XS.dstore X13.here hx rfl (hb hby at_126) rfl (l' := #[.val (.int p1), .val (.int p2), .val (.int p3), .val (.int p4), .val (.int p5), .val (.int p6), .val (.int dl), .val (.long tq), .second, .val (.int qt), .val (.int a), .val (.int kq), .val (.int bq), .val (.int kv), .val (.ref b9), .val (.double (0 : UInt64)), .second, .val (.double (0 : UInt64)), .second, .unset, .unset, .unset, .unset, .unset, .unset, .unset, .unset]) rfl ?_
      show Steps p.tables e below (T13.setTop (mkF m 128 #[.val (.int p1), .val (.int p2), .val (.int p3), .val (.int p4), .val (.int p5), .val (.int p6), .val (.int dl), .val (.long tq), .second, .val (.int qt), .val (.int a), .val (.int kq), .val (.int bq), .val (.int kv), .val (.ref b9), .val (.double (0 : UInt64)), .second, .val (.double (0 : UInt64)), .second, .unset, .unset, .unset, .unset, .unset, .unset, .unset, .unset] [])) _
      refine XS.goto X13.here hx rfl (pc0 := 128) (pc' := 217) rfl (hb hby at_128) (by decide) (by decide) ?_
      show Steps p.tables e below (T13.setTop (mkF m 217 #[.val (.int p1), .val (.int p2), .val (.int p3), .val (.int p4), .val (.int p5), .val (.int p6), .val (.int dl), .val (.long tq), .second, .val (.int qt), .val (.int a), .val (.int kq), .val (.int bq), .val (.int kv), .val (.ref b9), .val (.double (0 : UInt64)), .second, .val (.double (0 : UInt64)), .second, .unset, .unset, .unset, .unset, .unset, .unset, .unset, .unset] [])) _
      refine XS.dload X13.here hx rfl (hb hby at_217) rfl ?_
      show Steps p.tables e below (T13.setTop (mkF m 219 #[.val (.int p1), .val (.int p2), .val (.int p3), .val (.int p4), .val (.int p5), .val (.int p6), .val (.int dl), .val (.long tq), .second, .val (.int qt), .val (.int a), .val (.int kq), .val (.int bq), .val (.int kv), .val (.ref b9), .val (.double (0 : UInt64)), .second, .val (.double (0 : UInt64)), .second, .unset, .unset, .unset, .unset, .unset, .unset, .unset, .unset] [(.double (0 : UInt64))])) _
      refine XS.dload X13.here hx rfl (hb hby at_219) rfl ?_
      show Steps p.tables e below (T13.setTop (mkF m 221 #[.val (.int p1), .val (.int p2), .val (.int p3), .val (.int p4), .val (.int p5), .val (.int p6), .val (.int dl), .val (.long tq), .second, .val (.int qt), .val (.int a), .val (.int kq), .val (.int bq), .val (.int kv), .val (.ref b9), .val (.double (0 : UInt64)), .second, .val (.double (0 : UInt64)), .second, .unset, .unset, .unset, .unset, .unset, .unset, .unset, .unset] [(.double (0 : UInt64)), (.double (0 : UInt64))])) _
      refine XS.dcmpS X13.here hx rfl (v := (0 : Int32)) (hb hby at_221) rfl (by decide +kernel) ?_
      show Steps p.tables e below (T13.setTop (mkF m 222 #[.val (.int p1), .val (.int p2), .val (.int p3), .val (.int p4), .val (.int p5), .val (.int p6), .val (.int dl), .val (.long tq), .second, .val (.int qt), .val (.int a), .val (.int kq), .val (.int bq), .val (.int kv), .val (.ref b9), .val (.double (0 : UInt64)), .second, .val (.double (0 : UInt64)), .second, .unset, .unset, .unset, .unset, .unset, .unset, .unset, .unset] [(.int (0 : Int32))])) _
      refine XS.ifNo X13.here hx rfl (hb hby at_222) rfl ((if0 _ _).trans (teq (by decide : (0 : Int32) = (0 : Int32))).2) ?_
      show Steps p.tables e below (T13.setTop (mkF m 225 #[.val (.int p1), .val (.int p2), .val (.int p3), .val (.int p4), .val (.int p5), .val (.int p6), .val (.int dl), .val (.long tq), .second, .val (.int qt), .val (.int a), .val (.int kq), .val (.int bq), .val (.int kv), .val (.ref b9), .val (.double (0 : UInt64)), .second, .val (.double (0 : UInt64)), .second, .unset, .unset, .unset, .unset, .unset, .unset, .unset, .unset] [])) _
      refine XS.iconst X13.here hx rfl (hb hby at_225) ?_
      show Steps p.tables e below (T13.setTop (mkF m 226 #[.val (.int p1), .val (.int p2), .val (.int p3), .val (.int p4), .val (.int p5), .val (.int p6), .val (.int dl), .val (.long tq), .second, .val (.int qt), .val (.int a), .val (.int kq), .val (.int bq), .val (.int kv), .val (.ref b9), .val (.double (0 : UInt64)), .second, .val (.double (0 : UInt64)), .second, .unset, .unset, .unset, .unset, .unset, .unset, .unset, .unset] [(.int (1 : Int32))])) _
      refine XS.goto X13.here hx rfl (pc0 := 226) (pc' := 230) rfl (hb hby at_226) (by decide) (by decide) ?_
      show Steps p.tables e below (T13.setTop (mkF m 230 #[.val (.int p1), .val (.int p2), .val (.int p3), .val (.int p4), .val (.int p5), .val (.int p6), .val (.int dl), .val (.long tq), .second, .val (.int qt), .val (.int a), .val (.int kq), .val (.int bq), .val (.int kv), .val (.ref b9), .val (.double (0 : UInt64)), .second, .val (.double (0 : UInt64)), .second, .unset, .unset, .unset, .unset, .unset, .unset, .unset, .unset] [(.int (1 : Int32))])) _
      exact retN X13 hx (t := .boolean) Bd.returns (by simp) (hb hby at_230) hr
    · show Q_rm0 Z p1 p2 p3 p4 p5 p6 h0 n0 _ T13.heap _ T13.vm
      rw [e13]
      exact ⟨rfl, N13⟩
  · obtain ⟨cq14, kq14, q14a, q14b, q14c⟩ := isOf hZ11 rfl t11_0
    obtain ⟨_, _, ⟨T14, L14, k14, n14⟩, -, X14, ⟨Lc14, hQ14, l14, y14, z14⟩, st14⟩ := X11.virtualBack hx (y := (⟨"com/example/morro/morro/rank/Bm25", "tf", "(DIID)D"⟩ : MethodName)) (z := (⟨"com/example/morro/morro/rank/Bm25", "tf", "(DIID)D"⟩ : MethodName)) hown11 (mvT hZ11 (hw _ (List.mem_of_getElem? (i := 43) rfl))) (mvT hZ11 (hw _ (List.mem_of_getElem? (i := 44) rfl))) (notFace_of_selects (args := #[]) (mvT hZ11 (hw _ (List.mem_of_getElem? (i := 46) rfl)))) (mvT hZ11 (hw _ (List.mem_of_getElem? (i := 46) rfl))) (mvT hZ11 (hw _ (List.mem_of_getElem? (i := 45) rfl))) (by decide) (backOf (W := 0) (rtf1 l Z a0 hw [] b9 (FP.ddiv (FP.l2d tq) (4616189618054758400 : UInt64)) qt dl (FP.i2d ((1 : Int32) <<< (a &&& 31))) (FP.ddiv (FP.i2d kq) (4616189618054758400 : UInt64)) (FP.ddiv (FP.i2d bq) (4616189618054758400 : UInt64)) (FP.ddiv (FP.i2d kv) (4616189618054758400 : UInt64)) kq.toInt.toNat bq.toInt.toNat kv.toInt.toNat tq.toInt.toNat qt.toInt.toNat dl.toInt.toNat a.toInt.toNat T11.heap n0 (Nat.le_trans Z0 K11.1) t11_0 t11_1 t11_2 t11_3 (own_z1 B.t0 B.t1 ht) (own_mkI B ht)) hZ11 (hw _ (List.mem_of_getElem? (i := 47) rfl)) (hw _ (List.mem_of_getElem? (i := 9) rfl)) (by decide) (by decide)) q14a q14c (g := (mkF m 113 #[.val (.int p1), .val (.int p2), .val (.int p3), .val (.int p4), .val (.int p5), .val (.int p6), .val (.int dl), .val (.long tq), .second, .val (.int qt), .val (.int a), .val (.int kq), .val (.int bq), .val (.int kv), .val (.ref b9), .unset, .unset, .unset, .unset, .unset, .unset, .unset, .unset, .unset, .unset, .unset, .unset] [(.double (FP.i2d ((1 : Int32) <<< (a &&& 31)))), (.int dl), (.int qt), (.double (FP.ddiv (FP.l2d tq) (4616189618054758400 : UInt64))), (.ref b9)])) rfl (by rw [hml]; rfl) (Steps.refl _) (argsL := [(.double (FP.ddiv (FP.l2d tq) (4616189618054758400 : UInt64))), (.int qt), (.int dl), (.double (FP.i2d ((1 : Int32) <<< (a &&& 31))))]) (rest := []) (lenOf pd__28DIID_29D rfl) rfl (by show 2 * 0 + _ ≤ _; exact Nat.le_of_eq rfl) (hb hby at_113) (fun _ _ => ⟨rfl, rfl, (by decide : 5 + 0 ≤ _), (by decide : 27 + 0 ≤ _)⟩)
    dsimp only [Pt.U, Pt.locs, Pt.cells, Pt.slots] at y14 z14 st14 hQ14
    change Stand p l e _ _ m _ below meth c T14 L14 k14 n14 at X14
    change L14 = _ ++ Lc14 at l14
    subst y14 z14
    obtain ⟨rfl, N14q, e14⟩ := hQ14
    have N14 : Fr n0 L14 := l14 ▸ Fr.app N11 N14q
    have pre15 : ∀ t, Steps p.tables e below (T14.setTop (mkF m 174 #[.val (.int p1), .val (.int p2), .val (.int p3), .val (.int p4), .val (.int p5), .val (.int p6), .val (.int dl), .val (.long tq), .second, .val (.int qt), .val (.int a), .val (.int kq), .val (.int bq), .val (.int kv), .val (.ref b9), .val (.double (own_got (FP.ddiv (FP.i2d kq) (4616189618054758400 : UInt64)) (FP.ddiv (FP.i2d bq) (4616189618054758400 : UInt64)) (FP.ddiv (FP.i2d kv) (4616189618054758400 : UInt64)) (FP.ddiv (FP.l2d tq) (4616189618054758400 : UInt64)) (FP.i2d ((1 : Int32) <<< (a &&& 31))) qt dl)), .second, .unset, .unset, .val (.long ((((4 : Int64) - (bq.toInt64)) * ((1 : Int64) <<< (a &&& 0x3f).toInt64)) + ((bq.toInt64) * (dl.toInt64)))), .second, .val (.long (((kq.toInt64) * ((((4 : Int64) - (bq.toInt64)) * ((1 : Int64) <<< (a &&& 0x3f).toInt64)) + ((bq.toInt64) * (dl.toInt64)))) + (tq * ((1 : Int64) <<< ((a + (2 : Int32)) &&& 0x3f).toInt64)))), .second, .unset, .unset, .unset, .unset] [(.long (kv.toInt64))])) t → Steps p.tables e below (s₁.setTop (entryFrame m #[(.int p1), (.int p2), (.int p3), (.int p4), (.int p5), (.int p6)] maxLocals)) t := fun t kt => by
      refine pre12 t ?_
      show Steps p.tables e below (T11.setTop (mkF m 113 #[.val (.int p1), .val (.int p2), .val (.int p3), .val (.int p4), .val (.int p5), .val (.int p6), .val (.int dl), .val (.long tq), .second, .val (.int qt), .val (.int a), .val (.int kq), .val (.int bq), .val (.int kv), .val (.ref b9), .unset, .unset, .unset, .unset, .unset, .unset, .unset, .unset, .unset, .unset, .unset, .unset] [(.double (FP.i2d ((1 : Int32) <<< (a &&& 31)))), (.int dl), (.int qt), (.double (FP.ddiv (FP.l2d tq) (4616189618054758400 : UInt64))), (.ref b9)])) _
      refine st14.trans ?_
      show Steps p.tables e below (T14.setTop (mkF m 116 #[.val (.int p1), .val (.int p2), .val (.int p3), .val (.int p4), .val (.int p5), .val (.int p6), .val (.int dl), .val (.long tq), .second, .val (.int qt), .val (.int a), .val (.int kq), .val (.int bq), .val (.int kv), .val (.ref b9), .unset, .unset, .unset, .unset, .unset, .unset, .unset, .unset, .unset, .unset, .unset, .unset] [(.double (own_got (FP.ddiv (FP.i2d kq) (4616189618054758400 : UInt64)) (FP.ddiv (FP.i2d bq) (4616189618054758400 : UInt64)) (FP.ddiv (FP.i2d kv) (4616189618054758400 : UInt64)) (FP.ddiv (FP.l2d tq) (4616189618054758400 : UInt64)) (FP.i2d ((1 : Int32) <<< (a &&& 31))) qt dl))])) _
      refine XS.dstore X14.here hx rfl (hb hby at_116) rfl (l' := #[.val (.int p1), .val (.int p2), .val (.int p3), .val (.int p4), .val (.int p5), .val (.int p6), .val (.int dl), .val (.long tq), .second, .val (.int qt), .val (.int a), .val (.int kq), .val (.int bq), .val (.int kv), .val (.ref b9), .val (.double (own_got (FP.ddiv (FP.i2d kq) (4616189618054758400 : UInt64)) (FP.ddiv (FP.i2d bq) (4616189618054758400 : UInt64)) (FP.ddiv (FP.i2d kv) (4616189618054758400 : UInt64)) (FP.ddiv (FP.l2d tq) (4616189618054758400 : UInt64)) (FP.i2d ((1 : Int32) <<< (a &&& 31))) qt dl)), .second, .unset, .unset, .unset, .unset, .unset, .unset, .unset, .unset, .unset, .unset]) rfl ?_
      show Steps p.tables e below (T14.setTop (mkF m 118 #[.val (.int p1), .val (.int p2), .val (.int p3), .val (.int p4), .val (.int p5), .val (.int p6), .val (.int dl), .val (.long tq), .second, .val (.int qt), .val (.int a), .val (.int kq), .val (.int bq), .val (.int kv), .val (.ref b9), .val (.double (own_got (FP.ddiv (FP.i2d kq) (4616189618054758400 : UInt64)) (FP.ddiv (FP.i2d bq) (4616189618054758400 : UInt64)) (FP.ddiv (FP.i2d kv) (4616189618054758400 : UInt64)) (FP.ddiv (FP.l2d tq) (4616189618054758400 : UInt64)) (FP.i2d ((1 : Int32) <<< (a &&& 31))) qt dl)), .second, .unset, .unset, .unset, .unset, .unset, .unset, .unset, .unset, .unset, .unset] [])) _
      refine XS.lload X14.here hx rfl (hb hby at_118) rfl ?_
      show Steps p.tables e below (T14.setTop (mkF m 120 #[.val (.int p1), .val (.int p2), .val (.int p3), .val (.int p4), .val (.int p5), .val (.int p6), .val (.int dl), .val (.long tq), .second, .val (.int qt), .val (.int a), .val (.int kq), .val (.int bq), .val (.int kv), .val (.ref b9), .val (.double (own_got (FP.ddiv (FP.i2d kq) (4616189618054758400 : UInt64)) (FP.ddiv (FP.i2d bq) (4616189618054758400 : UInt64)) (FP.ddiv (FP.i2d kv) (4616189618054758400 : UInt64)) (FP.ddiv (FP.l2d tq) (4616189618054758400 : UInt64)) (FP.i2d ((1 : Int32) <<< (a &&& 31))) qt dl)), .second, .unset, .unset, .unset, .unset, .unset, .unset, .unset, .unset, .unset, .unset] [(.long tq)])) _
      refine XS.lconst X14.here hx rfl (hb hby at_120) ?_
      show Steps p.tables e below (T14.setTop (mkF m 121 #[.val (.int p1), .val (.int p2), .val (.int p3), .val (.int p4), .val (.int p5), .val (.int p6), .val (.int dl), .val (.long tq), .second, .val (.int qt), .val (.int a), .val (.int kq), .val (.int bq), .val (.int kv), .val (.ref b9), .val (.double (own_got (FP.ddiv (FP.i2d kq) (4616189618054758400 : UInt64)) (FP.ddiv (FP.i2d bq) (4616189618054758400 : UInt64)) (FP.ddiv (FP.i2d kv) (4616189618054758400 : UInt64)) (FP.ddiv (FP.l2d tq) (4616189618054758400 : UInt64)) (FP.i2d ((1 : Int32) <<< (a &&& 31))) qt dl)), .second, .unset, .unset, .unset, .unset, .unset, .unset, .unset, .unset, .unset, .unset] [(.long (0 : Int64)), (.long tq)])) _
      refine XS.lcmp X14.here hx rfl (hb hby at_121) rfl ?_
      show Steps p.tables e below (T14.setTop (mkF m 122 #[.val (.int p1), .val (.int p2), .val (.int p3), .val (.int p4), .val (.int p5), .val (.int p6), .val (.int dl), .val (.long tq), .second, .val (.int qt), .val (.int a), .val (.int kq), .val (.int bq), .val (.int kv), .val (.ref b9), .val (.double (own_got (FP.ddiv (FP.i2d kq) (4616189618054758400 : UInt64)) (FP.ddiv (FP.i2d bq) (4616189618054758400 : UInt64)) (FP.ddiv (FP.i2d kv) (4616189618054758400 : UInt64)) (FP.ddiv (FP.l2d tq) (4616189618054758400 : UInt64)) (FP.i2d ((1 : Int32) <<< (a &&& 31))) qt dl)), .second, .unset, .unset, .unset, .unset, .unset, .unset, .unset, .unset, .unset, .unset] [(.int (lcmpW tq (0 : Int64)))])) _
      refine XS.ifYes X14.here hx rfl (pc0 := 122) (pc' := 131) rfl (hb hby at_122) rfl (own_lneT ht) (by decide) (by decide) ?_
      show Steps p.tables e below (T14.setTop (mkF m 131 #[.val (.int p1), .val (.int p2), .val (.int p3), .val (.int p4), .val (.int p5), .val (.int p6), .val (.int dl), .val (.long tq), .second, .val (.int qt), .val (.int a), .val (.int kq), .val (.int bq), .val (.int kv), .val (.ref b9), .val (.double (own_got (FP.ddiv (FP.i2d kq) (4616189618054758400 : UInt64)) (FP.ddiv (FP.i2d bq) (4616189618054758400 : UInt64)) (FP.ddiv (FP.i2d kv) (4616189618054758400 : UInt64)) (FP.ddiv (FP.l2d tq) (4616189618054758400 : UInt64)) (FP.i2d ((1 : Int32) <<< (a &&& 31))) qt dl)), .second, .unset, .unset, .unset, .unset, .unset, .unset, .unset, .unset, .unset, .unset] [])) _
      refine X14.ldc2Long hx hown11 (mvT hZ11 (hw _ (List.mem_of_getElem? (i := 1) rfl))) (g := (mkF m 131 #[.val (.int p1), .val (.int p2), .val (.int p3), .val (.int p4), .val (.int p5), .val (.int p6), .val (.int dl), .val (.long tq), .second, .val (.int qt), .val (.int a), .val (.int kq), .val (.int bq), .val (.int kv), .val (.ref b9), .val (.double (own_got (FP.ddiv (FP.i2d kq) (4616189618054758400 : UInt64)) (FP.ddiv (FP.i2d bq) (4616189618054758400 : UInt64)) (FP.ddiv (FP.i2d kv) (4616189618054758400 : UInt64)) (FP.ddiv (FP.l2d tq) (4616189618054758400 : UInt64)) (FP.i2d ((1 : Int32) <<< (a &&& 31))) qt dl)), .second, .unset, .unset, .unset, .unset, .unset, .unset, .unset, .unset, .unset, .unset] [])) rfl (hb hby at_131) _ ?_
      show Steps p.tables e below (T14.setTop (mkF m 134 #[.val (.int p1), .val (.int p2), .val (.int p3), .val (.int p4), .val (.int p5), .val (.int p6), .val (.int dl), .val (.long tq), .second, .val (.int qt), .val (.int a), .val (.int kq), .val (.int bq), .val (.int kv), .val (.ref b9), .val (.double (own_got (FP.ddiv (FP.i2d kq) (4616189618054758400 : UInt64)) (FP.ddiv (FP.i2d bq) (4616189618054758400 : UInt64)) (FP.ddiv (FP.i2d kv) (4616189618054758400 : UInt64)) (FP.ddiv (FP.l2d tq) (4616189618054758400 : UInt64)) (FP.i2d ((1 : Int32) <<< (a &&& 31))) qt dl)), .second, .unset, .unset, .unset, .unset, .unset, .unset, .unset, .unset, .unset, .unset] [(.long (4 : Int64))])) _
      refine XS.iload X14.here hx rfl (hb hby at_134) rfl ?_
      show Steps p.tables e below (T14.setTop (mkF m 136 #[.val (.int p1), .val (.int p2), .val (.int p3), .val (.int p4), .val (.int p5), .val (.int p6), .val (.int dl), .val (.long tq), .second, .val (.int qt), .val (.int a), .val (.int kq), .val (.int bq), .val (.int kv), .val (.ref b9), .val (.double (own_got (FP.ddiv (FP.i2d kq) (4616189618054758400 : UInt64)) (FP.ddiv (FP.i2d bq) (4616189618054758400 : UInt64)) (FP.ddiv (FP.i2d kv) (4616189618054758400 : UInt64)) (FP.ddiv (FP.l2d tq) (4616189618054758400 : UInt64)) (FP.i2d ((1 : Int32) <<< (a &&& 31))) qt dl)), .second, .unset, .unset, .unset, .unset, .unset, .unset, .unset, .unset, .unset, .unset] [(.int bq), (.long (4 : Int64))])) _
      refine XS.i2l X14.here hx rfl (hb hby at_136) rfl ?_
      show Steps p.tables e below (T14.setTop (mkF m 137 #[.val (.int p1), .val (.int p2), .val (.int p3), .val (.int p4), .val (.int p5), .val (.int p6), .val (.int dl), .val (.long tq), .second, .val (.int qt), .val (.int a), .val (.int kq), .val (.int bq), .val (.int kv), .val (.ref b9), .val (.double (own_got (FP.ddiv (FP.i2d kq) (4616189618054758400 : UInt64)) (FP.ddiv (FP.i2d bq) (4616189618054758400 : UInt64)) (FP.ddiv (FP.i2d kv) (4616189618054758400 : UInt64)) (FP.ddiv (FP.l2d tq) (4616189618054758400 : UInt64)) (FP.i2d ((1 : Int32) <<< (a &&& 31))) qt dl)), .second, .unset, .unset, .unset, .unset, .unset, .unset, .unset, .unset, .unset, .unset] [(.long (bq.toInt64)), (.long (4 : Int64))])) _
      refine XS.lsub X14.here hx rfl (hb hby at_137) rfl ?_
      show Steps p.tables e below (T14.setTop (mkF m 138 #[.val (.int p1), .val (.int p2), .val (.int p3), .val (.int p4), .val (.int p5), .val (.int p6), .val (.int dl), .val (.long tq), .second, .val (.int qt), .val (.int a), .val (.int kq), .val (.int bq), .val (.int kv), .val (.ref b9), .val (.double (own_got (FP.ddiv (FP.i2d kq) (4616189618054758400 : UInt64)) (FP.ddiv (FP.i2d bq) (4616189618054758400 : UInt64)) (FP.ddiv (FP.i2d kv) (4616189618054758400 : UInt64)) (FP.ddiv (FP.l2d tq) (4616189618054758400 : UInt64)) (FP.i2d ((1 : Int32) <<< (a &&& 31))) qt dl)), .second, .unset, .unset, .unset, .unset, .unset, .unset, .unset, .unset, .unset, .unset] [(.long ((4 : Int64) - (bq.toInt64)))])) _
      refine XS.lconst X14.here hx rfl (hb hby at_138) ?_
      show Steps p.tables e below (T14.setTop (mkF m 139 #[.val (.int p1), .val (.int p2), .val (.int p3), .val (.int p4), .val (.int p5), .val (.int p6), .val (.int dl), .val (.long tq), .second, .val (.int qt), .val (.int a), .val (.int kq), .val (.int bq), .val (.int kv), .val (.ref b9), .val (.double (own_got (FP.ddiv (FP.i2d kq) (4616189618054758400 : UInt64)) (FP.ddiv (FP.i2d bq) (4616189618054758400 : UInt64)) (FP.ddiv (FP.i2d kv) (4616189618054758400 : UInt64)) (FP.ddiv (FP.l2d tq) (4616189618054758400 : UInt64)) (FP.i2d ((1 : Int32) <<< (a &&& 31))) qt dl)), .second, .unset, .unset, .unset, .unset, .unset, .unset, .unset, .unset, .unset, .unset] [(.long (1 : Int64)), (.long ((4 : Int64) - (bq.toInt64)))])) _
      refine XS.iload X14.here hx rfl (hb hby at_139) rfl ?_
      show Steps p.tables e below (T14.setTop (mkF m 141 #[.val (.int p1), .val (.int p2), .val (.int p3), .val (.int p4), .val (.int p5), .val (.int p6), .val (.int dl), .val (.long tq), .second, .val (.int qt), .val (.int a), .val (.int kq), .val (.int bq), .val (.int kv), .val (.ref b9), .val (.double (own_got (FP.ddiv (FP.i2d kq) (4616189618054758400 : UInt64)) (FP.ddiv (FP.i2d bq) (4616189618054758400 : UInt64)) (FP.ddiv (FP.i2d kv) (4616189618054758400 : UInt64)) (FP.ddiv (FP.l2d tq) (4616189618054758400 : UInt64)) (FP.i2d ((1 : Int32) <<< (a &&& 31))) qt dl)), .second, .unset, .unset, .unset, .unset, .unset, .unset, .unset, .unset, .unset, .unset] [(.int a), (.long (1 : Int64)), (.long ((4 : Int64) - (bq.toInt64)))])) _
      refine XS.lshl X14.here hx rfl (hb hby at_141) rfl ?_
      show Steps p.tables e below (T14.setTop (mkF m 142 #[.val (.int p1), .val (.int p2), .val (.int p3), .val (.int p4), .val (.int p5), .val (.int p6), .val (.int dl), .val (.long tq), .second, .val (.int qt), .val (.int a), .val (.int kq), .val (.int bq), .val (.int kv), .val (.ref b9), .val (.double (own_got (FP.ddiv (FP.i2d kq) (4616189618054758400 : UInt64)) (FP.ddiv (FP.i2d bq) (4616189618054758400 : UInt64)) (FP.ddiv (FP.i2d kv) (4616189618054758400 : UInt64)) (FP.ddiv (FP.l2d tq) (4616189618054758400 : UInt64)) (FP.i2d ((1 : Int32) <<< (a &&& 31))) qt dl)), .second, .unset, .unset, .unset, .unset, .unset, .unset, .unset, .unset, .unset, .unset] [(.long ((1 : Int64) <<< (a &&& 0x3f).toInt64)), (.long ((4 : Int64) - (bq.toInt64)))])) _
      refine XS.lmul X14.here hx rfl (hb hby at_142) rfl ?_
      show Steps p.tables e below (T14.setTop (mkF m 143 #[.val (.int p1), .val (.int p2), .val (.int p3), .val (.int p4), .val (.int p5), .val (.int p6), .val (.int dl), .val (.long tq), .second, .val (.int qt), .val (.int a), .val (.int kq), .val (.int bq), .val (.int kv), .val (.ref b9), .val (.double (own_got (FP.ddiv (FP.i2d kq) (4616189618054758400 : UInt64)) (FP.ddiv (FP.i2d bq) (4616189618054758400 : UInt64)) (FP.ddiv (FP.i2d kv) (4616189618054758400 : UInt64)) (FP.ddiv (FP.l2d tq) (4616189618054758400 : UInt64)) (FP.i2d ((1 : Int32) <<< (a &&& 31))) qt dl)), .second, .unset, .unset, .unset, .unset, .unset, .unset, .unset, .unset, .unset, .unset] [(.long (((4 : Int64) - (bq.toInt64)) * ((1 : Int64) <<< (a &&& 0x3f).toInt64)))])) _
      refine XS.iload X14.here hx rfl (hb hby at_143) rfl ?_
      show Steps p.tables e below (T14.setTop (mkF m 145 #[.val (.int p1), .val (.int p2), .val (.int p3), .val (.int p4), .val (.int p5), .val (.int p6), .val (.int dl), .val (.long tq), .second, .val (.int qt), .val (.int a), .val (.int kq), .val (.int bq), .val (.int kv), .val (.ref b9), .val (.double (own_got (FP.ddiv (FP.i2d kq) (4616189618054758400 : UInt64)) (FP.ddiv (FP.i2d bq) (4616189618054758400 : UInt64)) (FP.ddiv (FP.i2d kv) (4616189618054758400 : UInt64)) (FP.ddiv (FP.l2d tq) (4616189618054758400 : UInt64)) (FP.i2d ((1 : Int32) <<< (a &&& 31))) qt dl)), .second, .unset, .unset, .unset, .unset, .unset, .unset, .unset, .unset, .unset, .unset] [(.int bq), (.long (((4 : Int64) - (bq.toInt64)) * ((1 : Int64) <<< (a &&& 0x3f).toInt64)))])) _
      refine XS.i2l X14.here hx rfl (hb hby at_145) rfl ?_
      show Steps p.tables e below (T14.setTop (mkF m 146 #[.val (.int p1), .val (.int p2), .val (.int p3), .val (.int p4), .val (.int p5), .val (.int p6), .val (.int dl), .val (.long tq), .second, .val (.int qt), .val (.int a), .val (.int kq), .val (.int bq), .val (.int kv), .val (.ref b9), .val (.double (own_got (FP.ddiv (FP.i2d kq) (4616189618054758400 : UInt64)) (FP.ddiv (FP.i2d bq) (4616189618054758400 : UInt64)) (FP.ddiv (FP.i2d kv) (4616189618054758400 : UInt64)) (FP.ddiv (FP.l2d tq) (4616189618054758400 : UInt64)) (FP.i2d ((1 : Int32) <<< (a &&& 31))) qt dl)), .second, .unset, .unset, .unset, .unset, .unset, .unset, .unset, .unset, .unset, .unset] [(.long (bq.toInt64)), (.long (((4 : Int64) - (bq.toInt64)) * ((1 : Int64) <<< (a &&& 0x3f).toInt64)))])) _
      refine XS.iload X14.here hx rfl (hb hby at_146) rfl ?_
      show Steps p.tables e below (T14.setTop (mkF m 148 #[.val (.int p1), .val (.int p2), .val (.int p3), .val (.int p4), .val (.int p5), .val (.int p6), .val (.int dl), .val (.long tq), .second, .val (.int qt), .val (.int a), .val (.int kq), .val (.int bq), .val (.int kv), .val (.ref b9), .val (.double (own_got (FP.ddiv (FP.i2d kq) (4616189618054758400 : UInt64)) (FP.ddiv (FP.i2d bq) (4616189618054758400 : UInt64)) (FP.ddiv (FP.i2d kv) (4616189618054758400 : UInt64)) (FP.ddiv (FP.l2d tq) (4616189618054758400 : UInt64)) (FP.i2d ((1 : Int32) <<< (a &&& 31))) qt dl)), .second, .unset, .unset, .unset, .unset, .unset, .unset, .unset, .unset, .unset, .unset] [(.int dl), (.long (bq.toInt64)), (.long (((4 : Int64) - (bq.toInt64)) * ((1 : Int64) <<< (a &&& 0x3f).toInt64)))])) _
      refine XS.i2l X14.here hx rfl (hb hby at_148) rfl ?_
      show Steps p.tables e below (T14.setTop (mkF m 149 #[.val (.int p1), .val (.int p2), .val (.int p3), .val (.int p4), .val (.int p5), .val (.int p6), .val (.int dl), .val (.long tq), .second, .val (.int qt), .val (.int a), .val (.int kq), .val (.int bq), .val (.int kv), .val (.ref b9), .val (.double (own_got (FP.ddiv (FP.i2d kq) (4616189618054758400 : UInt64)) (FP.ddiv (FP.i2d bq) (4616189618054758400 : UInt64)) (FP.ddiv (FP.i2d kv) (4616189618054758400 : UInt64)) (FP.ddiv (FP.l2d tq) (4616189618054758400 : UInt64)) (FP.i2d ((1 : Int32) <<< (a &&& 31))) qt dl)), .second, .unset, .unset, .unset, .unset, .unset, .unset, .unset, .unset, .unset, .unset] [(.long (dl.toInt64)), (.long (bq.toInt64)), (.long (((4 : Int64) - (bq.toInt64)) * ((1 : Int64) <<< (a &&& 0x3f).toInt64)))])) _
      refine XS.lmul X14.here hx rfl (hb hby at_149) rfl ?_
      show Steps p.tables e below (T14.setTop (mkF m 150 #[.val (.int p1), .val (.int p2), .val (.int p3), .val (.int p4), .val (.int p5), .val (.int p6), .val (.int dl), .val (.long tq), .second, .val (.int qt), .val (.int a), .val (.int kq), .val (.int bq), .val (.int kv), .val (.ref b9), .val (.double (own_got (FP.ddiv (FP.i2d kq) (4616189618054758400 : UInt64)) (FP.ddiv (FP.i2d bq) (4616189618054758400 : UInt64)) (FP.ddiv (FP.i2d kv) (4616189618054758400 : UInt64)) (FP.ddiv (FP.l2d tq) (4616189618054758400 : UInt64)) (FP.i2d ((1 : Int32) <<< (a &&& 31))) qt dl)), .second, .unset, .unset, .unset, .unset, .unset, .unset, .unset, .unset, .unset, .unset] [(.long ((bq.toInt64) * (dl.toInt64))), (.long (((4 : Int64) - (bq.toInt64)) * ((1 : Int64) <<< (a &&& 0x3f).toInt64)))])) _
      refine XS.ladd X14.here hx rfl (hb hby at_150) rfl ?_
      show Steps p.tables e below (T14.setTop (mkF m 151 #[.val (.int p1), .val (.int p2), .val (.int p3), .val (.int p4), .val (.int p5), .val (.int p6), .val (.int dl), .val (.long tq), .second, .val (.int qt), .val (.int a), .val (.int kq), .val (.int bq), .val (.int kv), .val (.ref b9), .val (.double (own_got (FP.ddiv (FP.i2d kq) (4616189618054758400 : UInt64)) (FP.ddiv (FP.i2d bq) (4616189618054758400 : UInt64)) (FP.ddiv (FP.i2d kv) (4616189618054758400 : UInt64)) (FP.ddiv (FP.l2d tq) (4616189618054758400 : UInt64)) (FP.i2d ((1 : Int32) <<< (a &&& 31))) qt dl)), .second, .unset, .unset, .unset, .unset, .unset, .unset, .unset, .unset, .unset, .unset] [(.long ((((4 : Int64) - (bq.toInt64)) * ((1 : Int64) <<< (a &&& 0x3f).toInt64)) + ((bq.toInt64) * (dl.toInt64))))])) _
      refine XS.lstore X14.here hx rfl (hb hby at_151) rfl (l' := #[.val (.int p1), .val (.int p2), .val (.int p3), .val (.int p4), .val (.int p5), .val (.int p6), .val (.int dl), .val (.long tq), .second, .val (.int qt), .val (.int a), .val (.int kq), .val (.int bq), .val (.int kv), .val (.ref b9), .val (.double (own_got (FP.ddiv (FP.i2d kq) (4616189618054758400 : UInt64)) (FP.ddiv (FP.i2d bq) (4616189618054758400 : UInt64)) (FP.ddiv (FP.i2d kv) (4616189618054758400 : UInt64)) (FP.ddiv (FP.l2d tq) (4616189618054758400 : UInt64)) (FP.i2d ((1 : Int32) <<< (a &&& 31))) qt dl)), .second, .unset, .unset, .val (.long ((((4 : Int64) - (bq.toInt64)) * ((1 : Int64) <<< (a &&& 0x3f).toInt64)) + ((bq.toInt64) * (dl.toInt64)))), .second, .unset, .unset, .unset, .unset, .unset, .unset]) rfl ?_
      show Steps p.tables e below (T14.setTop (mkF m 153 #[.val (.int p1), .val (.int p2), .val (.int p3), .val (.int p4), .val (.int p5), .val (.int p6), .val (.int dl), .val (.long tq), .second, .val (.int qt), .val (.int a), .val (.int kq), .val (.int bq), .val (.int kv), .val (.ref b9), .val (.double (own_got (FP.ddiv (FP.i2d kq) (4616189618054758400 : UInt64)) (FP.ddiv (FP.i2d bq) (4616189618054758400 : UInt64)) (FP.ddiv (FP.i2d kv) (4616189618054758400 : UInt64)) (FP.ddiv (FP.l2d tq) (4616189618054758400 : UInt64)) (FP.i2d ((1 : Int32) <<< (a &&& 31))) qt dl)), .second, .unset, .unset, .val (.long ((((4 : Int64) - (bq.toInt64)) * ((1 : Int64) <<< (a &&& 0x3f).toInt64)) + ((bq.toInt64) * (dl.toInt64)))), .second, .unset, .unset, .unset, .unset, .unset, .unset] [])) _
      refine XS.iload X14.here hx rfl (hb hby at_153) rfl ?_
      show Steps p.tables e below (T14.setTop (mkF m 155 #[.val (.int p1), .val (.int p2), .val (.int p3), .val (.int p4), .val (.int p5), .val (.int p6), .val (.int dl), .val (.long tq), .second, .val (.int qt), .val (.int a), .val (.int kq), .val (.int bq), .val (.int kv), .val (.ref b9), .val (.double (own_got (FP.ddiv (FP.i2d kq) (4616189618054758400 : UInt64)) (FP.ddiv (FP.i2d bq) (4616189618054758400 : UInt64)) (FP.ddiv (FP.i2d kv) (4616189618054758400 : UInt64)) (FP.ddiv (FP.l2d tq) (4616189618054758400 : UInt64)) (FP.i2d ((1 : Int32) <<< (a &&& 31))) qt dl)), .second, .unset, .unset, .val (.long ((((4 : Int64) - (bq.toInt64)) * ((1 : Int64) <<< (a &&& 0x3f).toInt64)) + ((bq.toInt64) * (dl.toInt64)))), .second, .unset, .unset, .unset, .unset, .unset, .unset] [(.int kq)])) _
      refine XS.i2l X14.here hx rfl (hb hby at_155) rfl ?_
      show Steps p.tables e below (T14.setTop (mkF m 156 #[.val (.int p1), .val (.int p2), .val (.int p3), .val (.int p4), .val (.int p5), .val (.int p6), .val (.int dl), .val (.long tq), .second, .val (.int qt), .val (.int a), .val (.int kq), .val (.int bq), .val (.int kv), .val (.ref b9), .val (.double (own_got (FP.ddiv (FP.i2d kq) (4616189618054758400 : UInt64)) (FP.ddiv (FP.i2d bq) (4616189618054758400 : UInt64)) (FP.ddiv (FP.i2d kv) (4616189618054758400 : UInt64)) (FP.ddiv (FP.l2d tq) (4616189618054758400 : UInt64)) (FP.i2d ((1 : Int32) <<< (a &&& 31))) qt dl)), .second, .unset, .unset, .val (.long ((((4 : Int64) - (bq.toInt64)) * ((1 : Int64) <<< (a &&& 0x3f).toInt64)) + ((bq.toInt64) * (dl.toInt64)))), .second, .unset, .unset, .unset, .unset, .unset, .unset] [(.long (kq.toInt64))])) _
      refine XS.lload X14.here hx rfl (hb hby at_156) rfl ?_
      show Steps p.tables e below (T14.setTop (mkF m 158 #[.val (.int p1), .val (.int p2), .val (.int p3), .val (.int p4), .val (.int p5), .val (.int p6), .val (.int dl), .val (.long tq), .second, .val (.int qt), .val (.int a), .val (.int kq), .val (.int bq), .val (.int kv), .val (.ref b9), .val (.double (own_got (FP.ddiv (FP.i2d kq) (4616189618054758400 : UInt64)) (FP.ddiv (FP.i2d bq) (4616189618054758400 : UInt64)) (FP.ddiv (FP.i2d kv) (4616189618054758400 : UInt64)) (FP.ddiv (FP.l2d tq) (4616189618054758400 : UInt64)) (FP.i2d ((1 : Int32) <<< (a &&& 31))) qt dl)), .second, .unset, .unset, .val (.long ((((4 : Int64) - (bq.toInt64)) * ((1 : Int64) <<< (a &&& 0x3f).toInt64)) + ((bq.toInt64) * (dl.toInt64)))), .second, .unset, .unset, .unset, .unset, .unset, .unset] [(.long ((((4 : Int64) - (bq.toInt64)) * ((1 : Int64) <<< (a &&& 0x3f).toInt64)) + ((bq.toInt64) * (dl.toInt64)))), (.long (kq.toInt64))])) _
      refine XS.lmul X14.here hx rfl (hb hby at_158) rfl ?_
      show Steps p.tables e below (T14.setTop (mkF m 159 #[.val (.int p1), .val (.int p2), .val (.int p3), .val (.int p4), .val (.int p5), .val (.int p6), .val (.int dl), .val (.long tq), .second, .val (.int qt), .val (.int a), .val (.int kq), .val (.int bq), .val (.int kv), .val (.ref b9), .val (.double (own_got (FP.ddiv (FP.i2d kq) (4616189618054758400 : UInt64)) (FP.ddiv (FP.i2d bq) (4616189618054758400 : UInt64)) (FP.ddiv (FP.i2d kv) (4616189618054758400 : UInt64)) (FP.ddiv (FP.l2d tq) (4616189618054758400 : UInt64)) (FP.i2d ((1 : Int32) <<< (a &&& 31))) qt dl)), .second, .unset, .unset, .val (.long ((((4 : Int64) - (bq.toInt64)) * ((1 : Int64) <<< (a &&& 0x3f).toInt64)) + ((bq.toInt64) * (dl.toInt64)))), .second, .unset, .unset, .unset, .unset, .unset, .unset] [(.long ((kq.toInt64) * ((((4 : Int64) - (bq.toInt64)) * ((1 : Int64) <<< (a &&& 0x3f).toInt64)) + ((bq.toInt64) * (dl.toInt64)))))])) _
      refine XS.lload X14.here hx rfl (hb hby at_159) rfl ?_
      show Steps p.tables e below (T14.setTop (mkF m 161 #[.val (.int p1), .val (.int p2), .val (.int p3), .val (.int p4), .val (.int p5), .val (.int p6), .val (.int dl), .val (.long tq), .second, .val (.int qt), .val (.int a), .val (.int kq), .val (.int bq), .val (.int kv), .val (.ref b9), .val (.double (own_got (FP.ddiv (FP.i2d kq) (4616189618054758400 : UInt64)) (FP.ddiv (FP.i2d bq) (4616189618054758400 : UInt64)) (FP.ddiv (FP.i2d kv) (4616189618054758400 : UInt64)) (FP.ddiv (FP.l2d tq) (4616189618054758400 : UInt64)) (FP.i2d ((1 : Int32) <<< (a &&& 31))) qt dl)), .second, .unset, .unset, .val (.long ((((4 : Int64) - (bq.toInt64)) * ((1 : Int64) <<< (a &&& 0x3f).toInt64)) + ((bq.toInt64) * (dl.toInt64)))), .second, .unset, .unset, .unset, .unset, .unset, .unset] [(.long tq), (.long ((kq.toInt64) * ((((4 : Int64) - (bq.toInt64)) * ((1 : Int64) <<< (a &&& 0x3f).toInt64)) + ((bq.toInt64) * (dl.toInt64)))))])) _
      refine XS.lconst X14.here hx rfl (hb hby at_161) ?_
      show Steps p.tables e below (T14.setTop (mkF m 162 #[.val (.int p1), .val (.int p2), .val (.int p3), .val (.int p4), .val (.int p5), .val (.int p6), .val (.int dl), .val (.long tq), .second, .val (.int qt), .val (.int a), .val (.int kq), .val (.int bq), .val (.int kv), .val (.ref b9), .val (.double (own_got (FP.ddiv (FP.i2d kq) (4616189618054758400 : UInt64)) (FP.ddiv (FP.i2d bq) (4616189618054758400 : UInt64)) (FP.ddiv (FP.i2d kv) (4616189618054758400 : UInt64)) (FP.ddiv (FP.l2d tq) (4616189618054758400 : UInt64)) (FP.i2d ((1 : Int32) <<< (a &&& 31))) qt dl)), .second, .unset, .unset, .val (.long ((((4 : Int64) - (bq.toInt64)) * ((1 : Int64) <<< (a &&& 0x3f).toInt64)) + ((bq.toInt64) * (dl.toInt64)))), .second, .unset, .unset, .unset, .unset, .unset, .unset] [(.long (1 : Int64)), (.long tq), (.long ((kq.toInt64) * ((((4 : Int64) - (bq.toInt64)) * ((1 : Int64) <<< (a &&& 0x3f).toInt64)) + ((bq.toInt64) * (dl.toInt64)))))])) _
      refine XS.iload X14.here hx rfl (hb hby at_162) rfl ?_
      show Steps p.tables e below (T14.setTop (mkF m 164 #[.val (.int p1), .val (.int p2), .val (.int p3), .val (.int p4), .val (.int p5), .val (.int p6), .val (.int dl), .val (.long tq), .second, .val (.int qt), .val (.int a), .val (.int kq), .val (.int bq), .val (.int kv), .val (.ref b9), .val (.double (own_got (FP.ddiv (FP.i2d kq) (4616189618054758400 : UInt64)) (FP.ddiv (FP.i2d bq) (4616189618054758400 : UInt64)) (FP.ddiv (FP.i2d kv) (4616189618054758400 : UInt64)) (FP.ddiv (FP.l2d tq) (4616189618054758400 : UInt64)) (FP.i2d ((1 : Int32) <<< (a &&& 31))) qt dl)), .second, .unset, .unset, .val (.long ((((4 : Int64) - (bq.toInt64)) * ((1 : Int64) <<< (a &&& 0x3f).toInt64)) + ((bq.toInt64) * (dl.toInt64)))), .second, .unset, .unset, .unset, .unset, .unset, .unset] [(.int a), (.long (1 : Int64)), (.long tq), (.long ((kq.toInt64) * ((((4 : Int64) - (bq.toInt64)) * ((1 : Int64) <<< (a &&& 0x3f).toInt64)) + ((bq.toInt64) * (dl.toInt64)))))])) _
      refine XS.iconst X14.here hx rfl (hb hby at_164) ?_
      show Steps p.tables e below (T14.setTop (mkF m 165 #[.val (.int p1), .val (.int p2), .val (.int p3), .val (.int p4), .val (.int p5), .val (.int p6), .val (.int dl), .val (.long tq), .second, .val (.int qt), .val (.int a), .val (.int kq), .val (.int bq), .val (.int kv), .val (.ref b9), .val (.double (own_got (FP.ddiv (FP.i2d kq) (4616189618054758400 : UInt64)) (FP.ddiv (FP.i2d bq) (4616189618054758400 : UInt64)) (FP.ddiv (FP.i2d kv) (4616189618054758400 : UInt64)) (FP.ddiv (FP.l2d tq) (4616189618054758400 : UInt64)) (FP.i2d ((1 : Int32) <<< (a &&& 31))) qt dl)), .second, .unset, .unset, .val (.long ((((4 : Int64) - (bq.toInt64)) * ((1 : Int64) <<< (a &&& 0x3f).toInt64)) + ((bq.toInt64) * (dl.toInt64)))), .second, .unset, .unset, .unset, .unset, .unset, .unset] [(.int (2 : Int32)), (.int a), (.long (1 : Int64)), (.long tq), (.long ((kq.toInt64) * ((((4 : Int64) - (bq.toInt64)) * ((1 : Int64) <<< (a &&& 0x3f).toInt64)) + ((bq.toInt64) * (dl.toInt64)))))])) _
      refine XS.iadd X14.here hx rfl (hb hby at_165) rfl ?_
      show Steps p.tables e below (T14.setTop (mkF m 166 #[.val (.int p1), .val (.int p2), .val (.int p3), .val (.int p4), .val (.int p5), .val (.int p6), .val (.int dl), .val (.long tq), .second, .val (.int qt), .val (.int a), .val (.int kq), .val (.int bq), .val (.int kv), .val (.ref b9), .val (.double (own_got (FP.ddiv (FP.i2d kq) (4616189618054758400 : UInt64)) (FP.ddiv (FP.i2d bq) (4616189618054758400 : UInt64)) (FP.ddiv (FP.i2d kv) (4616189618054758400 : UInt64)) (FP.ddiv (FP.l2d tq) (4616189618054758400 : UInt64)) (FP.i2d ((1 : Int32) <<< (a &&& 31))) qt dl)), .second, .unset, .unset, .val (.long ((((4 : Int64) - (bq.toInt64)) * ((1 : Int64) <<< (a &&& 0x3f).toInt64)) + ((bq.toInt64) * (dl.toInt64)))), .second, .unset, .unset, .unset, .unset, .unset, .unset] [(.int (a + (2 : Int32))), (.long (1 : Int64)), (.long tq), (.long ((kq.toInt64) * ((((4 : Int64) - (bq.toInt64)) * ((1 : Int64) <<< (a &&& 0x3f).toInt64)) + ((bq.toInt64) * (dl.toInt64)))))])) _
      refine XS.lshl X14.here hx rfl (hb hby at_166) rfl ?_
      show Steps p.tables e below (T14.setTop (mkF m 167 #[.val (.int p1), .val (.int p2), .val (.int p3), .val (.int p4), .val (.int p5), .val (.int p6), .val (.int dl), .val (.long tq), .second, .val (.int qt), .val (.int a), .val (.int kq), .val (.int bq), .val (.int kv), .val (.ref b9), .val (.double (own_got (FP.ddiv (FP.i2d kq) (4616189618054758400 : UInt64)) (FP.ddiv (FP.i2d bq) (4616189618054758400 : UInt64)) (FP.ddiv (FP.i2d kv) (4616189618054758400 : UInt64)) (FP.ddiv (FP.l2d tq) (4616189618054758400 : UInt64)) (FP.i2d ((1 : Int32) <<< (a &&& 31))) qt dl)), .second, .unset, .unset, .val (.long ((((4 : Int64) - (bq.toInt64)) * ((1 : Int64) <<< (a &&& 0x3f).toInt64)) + ((bq.toInt64) * (dl.toInt64)))), .second, .unset, .unset, .unset, .unset, .unset, .unset] [(.long ((1 : Int64) <<< ((a + (2 : Int32)) &&& 0x3f).toInt64)), (.long tq), (.long ((kq.toInt64) * ((((4 : Int64) - (bq.toInt64)) * ((1 : Int64) <<< (a &&& 0x3f).toInt64)) + ((bq.toInt64) * (dl.toInt64)))))])) _
      refine XS.lmul X14.here hx rfl (hb hby at_167) rfl ?_
      show Steps p.tables e below (T14.setTop (mkF m 168 #[.val (.int p1), .val (.int p2), .val (.int p3), .val (.int p4), .val (.int p5), .val (.int p6), .val (.int dl), .val (.long tq), .second, .val (.int qt), .val (.int a), .val (.int kq), .val (.int bq), .val (.int kv), .val (.ref b9), .val (.double (own_got (FP.ddiv (FP.i2d kq) (4616189618054758400 : UInt64)) (FP.ddiv (FP.i2d bq) (4616189618054758400 : UInt64)) (FP.ddiv (FP.i2d kv) (4616189618054758400 : UInt64)) (FP.ddiv (FP.l2d tq) (4616189618054758400 : UInt64)) (FP.i2d ((1 : Int32) <<< (a &&& 31))) qt dl)), .second, .unset, .unset, .val (.long ((((4 : Int64) - (bq.toInt64)) * ((1 : Int64) <<< (a &&& 0x3f).toInt64)) + ((bq.toInt64) * (dl.toInt64)))), .second, .unset, .unset, .unset, .unset, .unset, .unset] [(.long (tq * ((1 : Int64) <<< ((a + (2 : Int32)) &&& 0x3f).toInt64))), (.long ((kq.toInt64) * ((((4 : Int64) - (bq.toInt64)) * ((1 : Int64) <<< (a &&& 0x3f).toInt64)) + ((bq.toInt64) * (dl.toInt64)))))])) _
      refine XS.ladd X14.here hx rfl (hb hby at_168) rfl ?_
      show Steps p.tables e below (T14.setTop (mkF m 169 #[.val (.int p1), .val (.int p2), .val (.int p3), .val (.int p4), .val (.int p5), .val (.int p6), .val (.int dl), .val (.long tq), .second, .val (.int qt), .val (.int a), .val (.int kq), .val (.int bq), .val (.int kv), .val (.ref b9), .val (.double (own_got (FP.ddiv (FP.i2d kq) (4616189618054758400 : UInt64)) (FP.ddiv (FP.i2d bq) (4616189618054758400 : UInt64)) (FP.ddiv (FP.i2d kv) (4616189618054758400 : UInt64)) (FP.ddiv (FP.l2d tq) (4616189618054758400 : UInt64)) (FP.i2d ((1 : Int32) <<< (a &&& 31))) qt dl)), .second, .unset, .unset, .val (.long ((((4 : Int64) - (bq.toInt64)) * ((1 : Int64) <<< (a &&& 0x3f).toInt64)) + ((bq.toInt64) * (dl.toInt64)))), .second, .unset, .unset, .unset, .unset, .unset, .unset] [(.long (((kq.toInt64) * ((((4 : Int64) - (bq.toInt64)) * ((1 : Int64) <<< (a &&& 0x3f).toInt64)) + ((bq.toInt64) * (dl.toInt64)))) + (tq * ((1 : Int64) <<< ((a + (2 : Int32)) &&& 0x3f).toInt64))))])) _
      refine XS.lstore X14.here hx rfl (hb hby at_169) rfl (l' := #[.val (.int p1), .val (.int p2), .val (.int p3), .val (.int p4), .val (.int p5), .val (.int p6), .val (.int dl), .val (.long tq), .second, .val (.int qt), .val (.int a), .val (.int kq), .val (.int bq), .val (.int kv), .val (.ref b9), .val (.double (own_got (FP.ddiv (FP.i2d kq) (4616189618054758400 : UInt64)) (FP.ddiv (FP.i2d bq) (4616189618054758400 : UInt64)) (FP.ddiv (FP.i2d kv) (4616189618054758400 : UInt64)) (FP.ddiv (FP.l2d tq) (4616189618054758400 : UInt64)) (FP.i2d ((1 : Int32) <<< (a &&& 31))) qt dl)), .second, .unset, .unset, .val (.long ((((4 : Int64) - (bq.toInt64)) * ((1 : Int64) <<< (a &&& 0x3f).toInt64)) + ((bq.toInt64) * (dl.toInt64)))), .second, .val (.long (((kq.toInt64) * ((((4 : Int64) - (bq.toInt64)) * ((1 : Int64) <<< (a &&& 0x3f).toInt64)) + ((bq.toInt64) * (dl.toInt64)))) + (tq * ((1 : Int64) <<< ((a + (2 : Int32)) &&& 0x3f).toInt64)))), .second, .unset, .unset, .unset, .unset]) rfl ?_
      show Steps p.tables e below (T14.setTop (mkF m 171 #[.val (.int p1), .val (.int p2), .val (.int p3), .val (.int p4), .val (.int p5), .val (.int p6), .val (.int dl), .val (.long tq), .second, .val (.int qt), .val (.int a), .val (.int kq), .val (.int bq), .val (.int kv), .val (.ref b9), .val (.double (own_got (FP.ddiv (FP.i2d kq) (4616189618054758400 : UInt64)) (FP.ddiv (FP.i2d bq) (4616189618054758400 : UInt64)) (FP.ddiv (FP.i2d kv) (4616189618054758400 : UInt64)) (FP.ddiv (FP.l2d tq) (4616189618054758400 : UInt64)) (FP.i2d ((1 : Int32) <<< (a &&& 31))) qt dl)), .second, .unset, .unset, .val (.long ((((4 : Int64) - (bq.toInt64)) * ((1 : Int64) <<< (a &&& 0x3f).toInt64)) + ((bq.toInt64) * (dl.toInt64)))), .second, .val (.long (((kq.toInt64) * ((((4 : Int64) - (bq.toInt64)) * ((1 : Int64) <<< (a &&& 0x3f).toInt64)) + ((bq.toInt64) * (dl.toInt64)))) + (tq * ((1 : Int64) <<< ((a + (2 : Int32)) &&& 0x3f).toInt64)))), .second, .unset, .unset, .unset, .unset] [])) _
      refine XS.iload X14.here hx rfl (hb hby at_171) rfl ?_
      show Steps p.tables e below (T14.setTop (mkF m 173 #[.val (.int p1), .val (.int p2), .val (.int p3), .val (.int p4), .val (.int p5), .val (.int p6), .val (.int dl), .val (.long tq), .second, .val (.int qt), .val (.int a), .val (.int kq), .val (.int bq), .val (.int kv), .val (.ref b9), .val (.double (own_got (FP.ddiv (FP.i2d kq) (4616189618054758400 : UInt64)) (FP.ddiv (FP.i2d bq) (4616189618054758400 : UInt64)) (FP.ddiv (FP.i2d kv) (4616189618054758400 : UInt64)) (FP.ddiv (FP.l2d tq) (4616189618054758400 : UInt64)) (FP.i2d ((1 : Int32) <<< (a &&& 31))) qt dl)), .second, .unset, .unset, .val (.long ((((4 : Int64) - (bq.toInt64)) * ((1 : Int64) <<< (a &&& 0x3f).toInt64)) + ((bq.toInt64) * (dl.toInt64)))), .second, .val (.long (((kq.toInt64) * ((((4 : Int64) - (bq.toInt64)) * ((1 : Int64) <<< (a &&& 0x3f).toInt64)) + ((bq.toInt64) * (dl.toInt64)))) + (tq * ((1 : Int64) <<< ((a + (2 : Int32)) &&& 0x3f).toInt64)))), .second, .unset, .unset, .unset, .unset] [(.int kv)])) _
      refine XS.i2l X14.here hx rfl (hb hby at_173) rfl ?_
      exact kt
    obtain ⟨fs, hr, hrun, hended, hRW⟩ := X14.leaveW hS11 (Nat.le_trans (Nat.le_refl _) (Nat.le_of_eq (congrArg Array.size e14.symm))) (v := some (.int (1 : Int32))) (fun h => by rw [Bd.returns] at h; cases h)
    refine ⟨_, _, pre15 _ ?_, hrun, hended, _, _, rfl, ?_, hRW.1, hRW.2.1, hRW.2.2.1, hRW.2.2.2.mono (by decide) (by decide)⟩
    · show Steps p.tables e below (T14.setTop (mkF m 174 #[.val (.int p1), .val (.int p2), .val (.int p3), .val (.int p4), .val (.int p5), .val (.int p6), .val (.int dl), .val (.long tq), .second, .val (.int qt), .val (.int a), .val (.int kq), .val (.int bq), .val (.int kv), .val (.ref b9), .val (.double (own_got (FP.ddiv (FP.i2d kq) (4616189618054758400 : UInt64)) (FP.ddiv (FP.i2d bq) (4616189618054758400 : UInt64)) (FP.ddiv (FP.i2d kv) (4616189618054758400 : UInt64)) (FP.ddiv (FP.l2d tq) (4616189618054758400 : UInt64)) (FP.i2d ((1 : Int32) <<< (a &&& 31))) qt dl)), .second, .unset, .unset, .val (.long ((((4 : Int64) - (bq.toInt64)) * ((1 : Int64) <<< (a &&& 0x3f).toInt64)) + ((bq.toInt64) * (dl.toInt64)))), .second, .val (.long (((kq.toInt64) * ((((4 : Int64) - (bq.toInt64)) * ((1 : Int64) <<< (a &&& 0x3f).toInt64)) + ((bq.toInt64) * (dl.toInt64)))) + (tq * ((1 : Int64) <<< ((a + (2 : Int32)) &&& 0x3f).toInt64)))), .second, .unset, .unset, .unset, .unset] [(.long (kv.toInt64))])) _
      refine X14.ldc2Long hx hown11 (mvT hZ11 (hw _ (List.mem_of_getElem? (i := 1) rfl))) (g := (mkF m 174 #[.val (.int p1), .val (.int p2), .val (.int p3), .val (.int p4), .val (.int p5), .val (.int p6), .val (.int dl), .val (.long tq), .second, .val (.int qt), .val (.int a), .val (.int kq), .val (.int bq), .val (.int kv), .val (.ref b9), .val (.double (own_got (FP.ddiv (FP.i2d kq) (4616189618054758400 : UInt64)) (FP.ddiv (FP.i2d bq) (4616189618054758400 : UInt64)) (FP.ddiv (FP.i2d kv) (4616189618054758400 : UInt64)) (FP.ddiv (FP.l2d tq) (4616189618054758400 : UInt64)) (FP.i2d ((1 : Int32) <<< (a &&& 31))) qt dl)), .second, .unset, .unset, .val (.long ((((4 : Int64) - (bq.toInt64)) * ((1 : Int64) <<< (a &&& 0x3f).toInt64)) + ((bq.toInt64) * (dl.toInt64)))), .second, .val (.long (((kq.toInt64) * ((((4 : Int64) - (bq.toInt64)) * ((1 : Int64) <<< (a &&& 0x3f).toInt64)) + ((bq.toInt64) * (dl.toInt64)))) + (tq * ((1 : Int64) <<< ((a + (2 : Int32)) &&& 0x3f).toInt64)))), .second, .unset, .unset, .unset, .unset] [(.long (kv.toInt64))])) rfl (hb hby at_174) _ ?_
      show Steps p.tables e below (T14.setTop (mkF m 177 #[.val (.int p1), .val (.int p2), .val (.int p3), .val (.int p4), .val (.int p5), .val (.int p6), .val (.int dl), .val (.long tq), .second, .val (.int qt), .val (.int a), .val (.int kq), .val (.int bq), .val (.int kv), .val (.ref b9), .val (.double (own_got (FP.ddiv (FP.i2d kq) (4616189618054758400 : UInt64)) (FP.ddiv (FP.i2d bq) (4616189618054758400 : UInt64)) (FP.ddiv (FP.i2d kv) (4616189618054758400 : UInt64)) (FP.ddiv (FP.l2d tq) (4616189618054758400 : UInt64)) (FP.i2d ((1 : Int32) <<< (a &&& 31))) qt dl)), .second, .unset, .unset, .val (.long ((((4 : Int64) - (bq.toInt64)) * ((1 : Int64) <<< (a &&& 0x3f).toInt64)) + ((bq.toInt64) * (dl.toInt64)))), .second, .val (.long (((kq.toInt64) * ((((4 : Int64) - (bq.toInt64)) * ((1 : Int64) <<< (a &&& 0x3f).toInt64)) + ((bq.toInt64) * (dl.toInt64)))) + (tq * ((1 : Int64) <<< ((a + (2 : Int32)) &&& 0x3f).toInt64)))), .second, .unset, .unset, .unset, .unset] [(.long (4 : Int64)), (.long (kv.toInt64))])) _
      refine XS.ladd X14.here hx rfl (hb hby at_177) rfl ?_
      show Steps p.tables e below (T14.setTop (mkF m 178 #[.val (.int p1), .val (.int p2), .val (.int p3), .val (.int p4), .val (.int p5), .val (.int p6), .val (.int dl), .val (.long tq), .second, .val (.int qt), .val (.int a), .val (.int kq), .val (.int bq), .val (.int kv), .val (.ref b9), .val (.double (own_got (FP.ddiv (FP.i2d kq) (4616189618054758400 : UInt64)) (FP.ddiv (FP.i2d bq) (4616189618054758400 : UInt64)) (FP.ddiv (FP.i2d kv) (4616189618054758400 : UInt64)) (FP.ddiv (FP.l2d tq) (4616189618054758400 : UInt64)) (FP.i2d ((1 : Int32) <<< (a &&& 31))) qt dl)), .second, .unset, .unset, .val (.long ((((4 : Int64) - (bq.toInt64)) * ((1 : Int64) <<< (a &&& 0x3f).toInt64)) + ((bq.toInt64) * (dl.toInt64)))), .second, .val (.long (((kq.toInt64) * ((((4 : Int64) - (bq.toInt64)) * ((1 : Int64) <<< (a &&& 0x3f).toInt64)) + ((bq.toInt64) * (dl.toInt64)))) + (tq * ((1 : Int64) <<< ((a + (2 : Int32)) &&& 0x3f).toInt64)))), .second, .unset, .unset, .unset, .unset] [(.long ((kv.toInt64) + (4 : Int64)))])) _
      refine XS.lload X14.here hx rfl (hb hby at_178) rfl ?_
      show Steps p.tables e below (T14.setTop (mkF m 180 #[.val (.int p1), .val (.int p2), .val (.int p3), .val (.int p4), .val (.int p5), .val (.int p6), .val (.int dl), .val (.long tq), .second, .val (.int qt), .val (.int a), .val (.int kq), .val (.int bq), .val (.int kv), .val (.ref b9), .val (.double (own_got (FP.ddiv (FP.i2d kq) (4616189618054758400 : UInt64)) (FP.ddiv (FP.i2d bq) (4616189618054758400 : UInt64)) (FP.ddiv (FP.i2d kv) (4616189618054758400 : UInt64)) (FP.ddiv (FP.l2d tq) (4616189618054758400 : UInt64)) (FP.i2d ((1 : Int32) <<< (a &&& 31))) qt dl)), .second, .unset, .unset, .val (.long ((((4 : Int64) - (bq.toInt64)) * ((1 : Int64) <<< (a &&& 0x3f).toInt64)) + ((bq.toInt64) * (dl.toInt64)))), .second, .val (.long (((kq.toInt64) * ((((4 : Int64) - (bq.toInt64)) * ((1 : Int64) <<< (a &&& 0x3f).toInt64)) + ((bq.toInt64) * (dl.toInt64)))) + (tq * ((1 : Int64) <<< ((a + (2 : Int32)) &&& 0x3f).toInt64)))), .second, .unset, .unset, .unset, .unset] [(.long tq), (.long ((kv.toInt64) + (4 : Int64)))])) _
      refine XS.lmul X14.here hx rfl (hb hby at_180) rfl ?_
      show Steps p.tables e below (T14.setTop (mkF m 181 #[.val (.int p1), .val (.int p2), .val (.int p3), .val (.int p4), .val (.int p5), .val (.int p6), .val (.int dl), .val (.long tq), .second, .val (.int qt), .val (.int a), .val (.int kq), .val (.int bq), .val (.int kv), .val (.ref b9), .val (.double (own_got (FP.ddiv (FP.i2d kq) (4616189618054758400 : UInt64)) (FP.ddiv (FP.i2d bq) (4616189618054758400 : UInt64)) (FP.ddiv (FP.i2d kv) (4616189618054758400 : UInt64)) (FP.ddiv (FP.l2d tq) (4616189618054758400 : UInt64)) (FP.i2d ((1 : Int32) <<< (a &&& 31))) qt dl)), .second, .unset, .unset, .val (.long ((((4 : Int64) - (bq.toInt64)) * ((1 : Int64) <<< (a &&& 0x3f).toInt64)) + ((bq.toInt64) * (dl.toInt64)))), .second, .val (.long (((kq.toInt64) * ((((4 : Int64) - (bq.toInt64)) * ((1 : Int64) <<< (a &&& 0x3f).toInt64)) + ((bq.toInt64) * (dl.toInt64)))) + (tq * ((1 : Int64) <<< ((a + (2 : Int32)) &&& 0x3f).toInt64)))), .second, .unset, .unset, .unset, .unset] [(.long (((kv.toInt64) + (4 : Int64)) * tq))])) _
      refine XS.iload X14.here hx rfl (hb hby at_181) rfl ?_
      show Steps p.tables e below (T14.setTop (mkF m 183 #[.val (.int p1), .val (.int p2), .val (.int p3), .val (.int p4), .val (.int p5), .val (.int p6), .val (.int dl), .val (.long tq), .second, .val (.int qt), .val (.int a), .val (.int kq), .val (.int bq), .val (.int kv), .val (.ref b9), .val (.double (own_got (FP.ddiv (FP.i2d kq) (4616189618054758400 : UInt64)) (FP.ddiv (FP.i2d bq) (4616189618054758400 : UInt64)) (FP.ddiv (FP.i2d kv) (4616189618054758400 : UInt64)) (FP.ddiv (FP.l2d tq) (4616189618054758400 : UInt64)) (FP.i2d ((1 : Int32) <<< (a &&& 31))) qt dl)), .second, .unset, .unset, .val (.long ((((4 : Int64) - (bq.toInt64)) * ((1 : Int64) <<< (a &&& 0x3f).toInt64)) + ((bq.toInt64) * (dl.toInt64)))), .second, .val (.long (((kq.toInt64) * ((((4 : Int64) - (bq.toInt64)) * ((1 : Int64) <<< (a &&& 0x3f).toInt64)) + ((bq.toInt64) * (dl.toInt64)))) + (tq * ((1 : Int64) <<< ((a + (2 : Int32)) &&& 0x3f).toInt64)))), .second, .unset, .unset, .unset, .unset] [(.int qt), (.long (((kv.toInt64) + (4 : Int64)) * tq))])) _
      refine XS.i2l X14.here hx rfl (hb hby at_183) rfl ?_
      show Steps p.tables e below (T14.setTop (mkF m 184 #[.val (.int p1), .val (.int p2), .val (.int p3), .val (.int p4), .val (.int p5), .val (.int p6), .val (.int dl), .val (.long tq), .second, .val (.int qt), .val (.int a), .val (.int kq), .val (.int bq), .val (.int kv), .val (.ref b9), .val (.double (own_got (FP.ddiv (FP.i2d kq) (4616189618054758400 : UInt64)) (FP.ddiv (FP.i2d bq) (4616189618054758400 : UInt64)) (FP.ddiv (FP.i2d kv) (4616189618054758400 : UInt64)) (FP.ddiv (FP.l2d tq) (4616189618054758400 : UInt64)) (FP.i2d ((1 : Int32) <<< (a &&& 31))) qt dl)), .second, .unset, .unset, .val (.long ((((4 : Int64) - (bq.toInt64)) * ((1 : Int64) <<< (a &&& 0x3f).toInt64)) + ((bq.toInt64) * (dl.toInt64)))), .second, .val (.long (((kq.toInt64) * ((((4 : Int64) - (bq.toInt64)) * ((1 : Int64) <<< (a &&& 0x3f).toInt64)) + ((bq.toInt64) * (dl.toInt64)))) + (tq * ((1 : Int64) <<< ((a + (2 : Int32)) &&& 0x3f).toInt64)))), .second, .unset, .unset, .unset, .unset] [(.long (qt.toInt64)), (.long (((kv.toInt64) + (4 : Int64)) * tq))])) _
      refine XS.lmul X14.here hx rfl (hb hby at_184) rfl ?_
      show Steps p.tables e below (T14.setTop (mkF m 185 #[.val (.int p1), .val (.int p2), .val (.int p3), .val (.int p4), .val (.int p5), .val (.int p6), .val (.int dl), .val (.long tq), .second, .val (.int qt), .val (.int a), .val (.int kq), .val (.int bq), .val (.int kv), .val (.ref b9), .val (.double (own_got (FP.ddiv (FP.i2d kq) (4616189618054758400 : UInt64)) (FP.ddiv (FP.i2d bq) (4616189618054758400 : UInt64)) (FP.ddiv (FP.i2d kv) (4616189618054758400 : UInt64)) (FP.ddiv (FP.l2d tq) (4616189618054758400 : UInt64)) (FP.i2d ((1 : Int32) <<< (a &&& 31))) qt dl)), .second, .unset, .unset, .val (.long ((((4 : Int64) - (bq.toInt64)) * ((1 : Int64) <<< (a &&& 0x3f).toInt64)) + ((bq.toInt64) * (dl.toInt64)))), .second, .val (.long (((kq.toInt64) * ((((4 : Int64) - (bq.toInt64)) * ((1 : Int64) <<< (a &&& 0x3f).toInt64)) + ((bq.toInt64) * (dl.toInt64)))) + (tq * ((1 : Int64) <<< ((a + (2 : Int32)) &&& 0x3f).toInt64)))), .second, .unset, .unset, .unset, .unset] [(.long ((((kv.toInt64) + (4 : Int64)) * tq) * (qt.toInt64)))])) _
      refine XS.lstore X14.here hx rfl (hb hby at_185) rfl (l' := #[.val (.int p1), .val (.int p2), .val (.int p3), .val (.int p4), .val (.int p5), .val (.int p6), .val (.int dl), .val (.long tq), .second, .val (.int qt), .val (.int a), .val (.int kq), .val (.int bq), .val (.int kv), .val (.ref b9), .val (.double (own_got (FP.ddiv (FP.i2d kq) (4616189618054758400 : UInt64)) (FP.ddiv (FP.i2d bq) (4616189618054758400 : UInt64)) (FP.ddiv (FP.i2d kv) (4616189618054758400 : UInt64)) (FP.ddiv (FP.l2d tq) (4616189618054758400 : UInt64)) (FP.i2d ((1 : Int32) <<< (a &&& 31))) qt dl)), .second, .unset, .unset, .val (.long ((((4 : Int64) - (bq.toInt64)) * ((1 : Int64) <<< (a &&& 0x3f).toInt64)) + ((bq.toInt64) * (dl.toInt64)))), .second, .val (.long (((kq.toInt64) * ((((4 : Int64) - (bq.toInt64)) * ((1 : Int64) <<< (a &&& 0x3f).toInt64)) + ((bq.toInt64) * (dl.toInt64)))) + (tq * ((1 : Int64) <<< ((a + (2 : Int32)) &&& 0x3f).toInt64)))), .second, .val (.long ((((kv.toInt64) + (4 : Int64)) * tq) * (qt.toInt64))), .second, .unset, .unset]) rfl ?_
      show Steps p.tables e below (T14.setTop (mkF m 187 #[.val (.int p1), .val (.int p2), .val (.int p3), .val (.int p4), .val (.int p5), .val (.int p6), .val (.int dl), .val (.long tq), .second, .val (.int qt), .val (.int a), .val (.int kq), .val (.int bq), .val (.int kv), .val (.ref b9), .val (.double (own_got (FP.ddiv (FP.i2d kq) (4616189618054758400 : UInt64)) (FP.ddiv (FP.i2d bq) (4616189618054758400 : UInt64)) (FP.ddiv (FP.i2d kv) (4616189618054758400 : UInt64)) (FP.ddiv (FP.l2d tq) (4616189618054758400 : UInt64)) (FP.i2d ((1 : Int32) <<< (a &&& 31))) qt dl)), .second, .unset, .unset, .val (.long ((((4 : Int64) - (bq.toInt64)) * ((1 : Int64) <<< (a &&& 0x3f).toInt64)) + ((bq.toInt64) * (dl.toInt64)))), .second, .val (.long (((kq.toInt64) * ((((4 : Int64) - (bq.toInt64)) * ((1 : Int64) <<< (a &&& 0x3f).toInt64)) + ((bq.toInt64) * (dl.toInt64)))) + (tq * ((1 : Int64) <<< ((a + (2 : Int32)) &&& 0x3f).toInt64)))), .second, .val (.long ((((kv.toInt64) + (4 : Int64)) * tq) * (qt.toInt64))), .second, .unset, .unset] [])) _
      refine XS.iload X14.here hx rfl (hb hby at_187) rfl ?_
      show Steps p.tables e below (T14.setTop (mkF m 189 #[.val (.int p1), .val (.int p2), .val (.int p3), .val (.int p4), .val (.int p5), .val (.int p6), .val (.int dl), .val (.long tq), .second, .val (.int qt), .val (.int a), .val (.int kq), .val (.int bq), .val (.int kv), .val (.ref b9), .val (.double (own_got (FP.ddiv (FP.i2d kq) (4616189618054758400 : UInt64)) (FP.ddiv (FP.i2d bq) (4616189618054758400 : UInt64)) (FP.ddiv (FP.i2d kv) (4616189618054758400 : UInt64)) (FP.ddiv (FP.l2d tq) (4616189618054758400 : UInt64)) (FP.i2d ((1 : Int32) <<< (a &&& 31))) qt dl)), .second, .unset, .unset, .val (.long ((((4 : Int64) - (bq.toInt64)) * ((1 : Int64) <<< (a &&& 0x3f).toInt64)) + ((bq.toInt64) * (dl.toInt64)))), .second, .val (.long (((kq.toInt64) * ((((4 : Int64) - (bq.toInt64)) * ((1 : Int64) <<< (a &&& 0x3f).toInt64)) + ((bq.toInt64) * (dl.toInt64)))) + (tq * ((1 : Int64) <<< ((a + (2 : Int32)) &&& 0x3f).toInt64)))), .second, .val (.long ((((kv.toInt64) + (4 : Int64)) * tq) * (qt.toInt64))), .second, .unset, .unset] [(.int kv)])) _
      refine XS.i2l X14.here hx rfl (hb hby at_189) rfl ?_
      show Steps p.tables e below (T14.setTop (mkF m 190 #[.val (.int p1), .val (.int p2), .val (.int p3), .val (.int p4), .val (.int p5), .val (.int p6), .val (.int dl), .val (.long tq), .second, .val (.int qt), .val (.int a), .val (.int kq), .val (.int bq), .val (.int kv), .val (.ref b9), .val (.double (own_got (FP.ddiv (FP.i2d kq) (4616189618054758400 : UInt64)) (FP.ddiv (FP.i2d bq) (4616189618054758400 : UInt64)) (FP.ddiv (FP.i2d kv) (4616189618054758400 : UInt64)) (FP.ddiv (FP.l2d tq) (4616189618054758400 : UInt64)) (FP.i2d ((1 : Int32) <<< (a &&& 31))) qt dl)), .second, .unset, .unset, .val (.long ((((4 : Int64) - (bq.toInt64)) * ((1 : Int64) <<< (a &&& 0x3f).toInt64)) + ((bq.toInt64) * (dl.toInt64)))), .second, .val (.long (((kq.toInt64) * ((((4 : Int64) - (bq.toInt64)) * ((1 : Int64) <<< (a &&& 0x3f).toInt64)) + ((bq.toInt64) * (dl.toInt64)))) + (tq * ((1 : Int64) <<< ((a + (2 : Int32)) &&& 0x3f).toInt64)))), .second, .val (.long ((((kv.toInt64) + (4 : Int64)) * tq) * (qt.toInt64))), .second, .unset, .unset] [(.long (kv.toInt64))])) _
      refine X14.ldc2Long hx hown11 (mvT hZ11 (hw _ (List.mem_of_getElem? (i := 1) rfl))) (g := (mkF m 190 #[.val (.int p1), .val (.int p2), .val (.int p3), .val (.int p4), .val (.int p5), .val (.int p6), .val (.int dl), .val (.long tq), .second, .val (.int qt), .val (.int a), .val (.int kq), .val (.int bq), .val (.int kv), .val (.ref b9), .val (.double (own_got (FP.ddiv (FP.i2d kq) (4616189618054758400 : UInt64)) (FP.ddiv (FP.i2d bq) (4616189618054758400 : UInt64)) (FP.ddiv (FP.i2d kv) (4616189618054758400 : UInt64)) (FP.ddiv (FP.l2d tq) (4616189618054758400 : UInt64)) (FP.i2d ((1 : Int32) <<< (a &&& 31))) qt dl)), .second, .unset, .unset, .val (.long ((((4 : Int64) - (bq.toInt64)) * ((1 : Int64) <<< (a &&& 0x3f).toInt64)) + ((bq.toInt64) * (dl.toInt64)))), .second, .val (.long (((kq.toInt64) * ((((4 : Int64) - (bq.toInt64)) * ((1 : Int64) <<< (a &&& 0x3f).toInt64)) + ((bq.toInt64) * (dl.toInt64)))) + (tq * ((1 : Int64) <<< ((a + (2 : Int32)) &&& 0x3f).toInt64)))), .second, .val (.long ((((kv.toInt64) + (4 : Int64)) * tq) * (qt.toInt64))), .second, .unset, .unset] [(.long (kv.toInt64))])) rfl (hb hby at_190) _ ?_
      show Steps p.tables e below (T14.setTop (mkF m 193 #[.val (.int p1), .val (.int p2), .val (.int p3), .val (.int p4), .val (.int p5), .val (.int p6), .val (.int dl), .val (.long tq), .second, .val (.int qt), .val (.int a), .val (.int kq), .val (.int bq), .val (.int kv), .val (.ref b9), .val (.double (own_got (FP.ddiv (FP.i2d kq) (4616189618054758400 : UInt64)) (FP.ddiv (FP.i2d bq) (4616189618054758400 : UInt64)) (FP.ddiv (FP.i2d kv) (4616189618054758400 : UInt64)) (FP.ddiv (FP.l2d tq) (4616189618054758400 : UInt64)) (FP.i2d ((1 : Int32) <<< (a &&& 31))) qt dl)), .second, .unset, .unset, .val (.long ((((4 : Int64) - (bq.toInt64)) * ((1 : Int64) <<< (a &&& 0x3f).toInt64)) + ((bq.toInt64) * (dl.toInt64)))), .second, .val (.long (((kq.toInt64) * ((((4 : Int64) - (bq.toInt64)) * ((1 : Int64) <<< (a &&& 0x3f).toInt64)) + ((bq.toInt64) * (dl.toInt64)))) + (tq * ((1 : Int64) <<< ((a + (2 : Int32)) &&& 0x3f).toInt64)))), .second, .val (.long ((((kv.toInt64) + (4 : Int64)) * tq) * (qt.toInt64))), .second, .unset, .unset] [(.long (4 : Int64)), (.long (kv.toInt64))])) _
      refine XS.iload X14.here hx rfl (hb hby at_193) rfl ?_
      show Steps p.tables e below (T14.setTop (mkF m 195 #[.val (.int p1), .val (.int p2), .val (.int p3), .val (.int p4), .val (.int p5), .val (.int p6), .val (.int dl), .val (.long tq), .second, .val (.int qt), .val (.int a), .val (.int kq), .val (.int bq), .val (.int kv), .val (.ref b9), .val (.double (own_got (FP.ddiv (FP.i2d kq) (4616189618054758400 : UInt64)) (FP.ddiv (FP.i2d bq) (4616189618054758400 : UInt64)) (FP.ddiv (FP.i2d kv) (4616189618054758400 : UInt64)) (FP.ddiv (FP.l2d tq) (4616189618054758400 : UInt64)) (FP.i2d ((1 : Int32) <<< (a &&& 31))) qt dl)), .second, .unset, .unset, .val (.long ((((4 : Int64) - (bq.toInt64)) * ((1 : Int64) <<< (a &&& 0x3f).toInt64)) + ((bq.toInt64) * (dl.toInt64)))), .second, .val (.long (((kq.toInt64) * ((((4 : Int64) - (bq.toInt64)) * ((1 : Int64) <<< (a &&& 0x3f).toInt64)) + ((bq.toInt64) * (dl.toInt64)))) + (tq * ((1 : Int64) <<< ((a + (2 : Int32)) &&& 0x3f).toInt64)))), .second, .val (.long ((((kv.toInt64) + (4 : Int64)) * tq) * (qt.toInt64))), .second, .unset, .unset] [(.int qt), (.long (4 : Int64)), (.long (kv.toInt64))])) _
      refine XS.i2l X14.here hx rfl (hb hby at_195) rfl ?_
      show Steps p.tables e below (T14.setTop (mkF m 196 #[.val (.int p1), .val (.int p2), .val (.int p3), .val (.int p4), .val (.int p5), .val (.int p6), .val (.int dl), .val (.long tq), .second, .val (.int qt), .val (.int a), .val (.int kq), .val (.int bq), .val (.int kv), .val (.ref b9), .val (.double (own_got (FP.ddiv (FP.i2d kq) (4616189618054758400 : UInt64)) (FP.ddiv (FP.i2d bq) (4616189618054758400 : UInt64)) (FP.ddiv (FP.i2d kv) (4616189618054758400 : UInt64)) (FP.ddiv (FP.l2d tq) (4616189618054758400 : UInt64)) (FP.i2d ((1 : Int32) <<< (a &&& 31))) qt dl)), .second, .unset, .unset, .val (.long ((((4 : Int64) - (bq.toInt64)) * ((1 : Int64) <<< (a &&& 0x3f).toInt64)) + ((bq.toInt64) * (dl.toInt64)))), .second, .val (.long (((kq.toInt64) * ((((4 : Int64) - (bq.toInt64)) * ((1 : Int64) <<< (a &&& 0x3f).toInt64)) + ((bq.toInt64) * (dl.toInt64)))) + (tq * ((1 : Int64) <<< ((a + (2 : Int32)) &&& 0x3f).toInt64)))), .second, .val (.long ((((kv.toInt64) + (4 : Int64)) * tq) * (qt.toInt64))), .second, .unset, .unset] [(.long (qt.toInt64)), (.long (4 : Int64)), (.long (kv.toInt64))])) _
      refine XS.lmul X14.here hx rfl (hb hby at_196) rfl ?_
      show Steps p.tables e below (T14.setTop (mkF m 197 #[.val (.int p1), .val (.int p2), .val (.int p3), .val (.int p4), .val (.int p5), .val (.int p6), .val (.int dl), .val (.long tq), .second, .val (.int qt), .val (.int a), .val (.int kq), .val (.int bq), .val (.int kv), .val (.ref b9), .val (.double (own_got (FP.ddiv (FP.i2d kq) (4616189618054758400 : UInt64)) (FP.ddiv (FP.i2d bq) (4616189618054758400 : UInt64)) (FP.ddiv (FP.i2d kv) (4616189618054758400 : UInt64)) (FP.ddiv (FP.l2d tq) (4616189618054758400 : UInt64)) (FP.i2d ((1 : Int32) <<< (a &&& 31))) qt dl)), .second, .unset, .unset, .val (.long ((((4 : Int64) - (bq.toInt64)) * ((1 : Int64) <<< (a &&& 0x3f).toInt64)) + ((bq.toInt64) * (dl.toInt64)))), .second, .val (.long (((kq.toInt64) * ((((4 : Int64) - (bq.toInt64)) * ((1 : Int64) <<< (a &&& 0x3f).toInt64)) + ((bq.toInt64) * (dl.toInt64)))) + (tq * ((1 : Int64) <<< ((a + (2 : Int32)) &&& 0x3f).toInt64)))), .second, .val (.long ((((kv.toInt64) + (4 : Int64)) * tq) * (qt.toInt64))), .second, .unset, .unset] [(.long ((4 : Int64) * (qt.toInt64))), (.long (kv.toInt64))])) _
      refine XS.ladd X14.here hx rfl (hb hby at_197) rfl ?_
      show Steps p.tables e below (T14.setTop (mkF m 198 #[.val (.int p1), .val (.int p2), .val (.int p3), .val (.int p4), .val (.int p5), .val (.int p6), .val (.int dl), .val (.long tq), .second, .val (.int qt), .val (.int a), .val (.int kq), .val (.int bq), .val (.int kv), .val (.ref b9), .val (.double (own_got (FP.ddiv (FP.i2d kq) (4616189618054758400 : UInt64)) (FP.ddiv (FP.i2d bq) (4616189618054758400 : UInt64)) (FP.ddiv (FP.i2d kv) (4616189618054758400 : UInt64)) (FP.ddiv (FP.l2d tq) (4616189618054758400 : UInt64)) (FP.i2d ((1 : Int32) <<< (a &&& 31))) qt dl)), .second, .unset, .unset, .val (.long ((((4 : Int64) - (bq.toInt64)) * ((1 : Int64) <<< (a &&& 0x3f).toInt64)) + ((bq.toInt64) * (dl.toInt64)))), .second, .val (.long (((kq.toInt64) * ((((4 : Int64) - (bq.toInt64)) * ((1 : Int64) <<< (a &&& 0x3f).toInt64)) + ((bq.toInt64) * (dl.toInt64)))) + (tq * ((1 : Int64) <<< ((a + (2 : Int32)) &&& 0x3f).toInt64)))), .second, .val (.long ((((kv.toInt64) + (4 : Int64)) * tq) * (qt.toInt64))), .second, .unset, .unset] [(.long ((kv.toInt64) + ((4 : Int64) * (qt.toInt64))))])) _
      refine XS.lload X14.here hx rfl (hb hby at_198) rfl ?_
      show Steps p.tables e below (T14.setTop (mkF m 200 #[.val (.int p1), .val (.int p2), .val (.int p3), .val (.int p4), .val (.int p5), .val (.int p6), .val (.int dl), .val (.long tq), .second, .val (.int qt), .val (.int a), .val (.int kq), .val (.int bq), .val (.int kv), .val (.ref b9), .val (.double (own_got (FP.ddiv (FP.i2d kq) (4616189618054758400 : UInt64)) (FP.ddiv (FP.i2d bq) (4616189618054758400 : UInt64)) (FP.ddiv (FP.i2d kv) (4616189618054758400 : UInt64)) (FP.ddiv (FP.l2d tq) (4616189618054758400 : UInt64)) (FP.i2d ((1 : Int32) <<< (a &&& 31))) qt dl)), .second, .unset, .unset, .val (.long ((((4 : Int64) - (bq.toInt64)) * ((1 : Int64) <<< (a &&& 0x3f).toInt64)) + ((bq.toInt64) * (dl.toInt64)))), .second, .val (.long (((kq.toInt64) * ((((4 : Int64) - (bq.toInt64)) * ((1 : Int64) <<< (a &&& 0x3f).toInt64)) + ((bq.toInt64) * (dl.toInt64)))) + (tq * ((1 : Int64) <<< ((a + (2 : Int32)) &&& 0x3f).toInt64)))), .second, .val (.long ((((kv.toInt64) + (4 : Int64)) * tq) * (qt.toInt64))), .second, .unset, .unset] [(.long (((kq.toInt64) * ((((4 : Int64) - (bq.toInt64)) * ((1 : Int64) <<< (a &&& 0x3f).toInt64)) + ((bq.toInt64) * (dl.toInt64)))) + (tq * ((1 : Int64) <<< ((a + (2 : Int32)) &&& 0x3f).toInt64)))), (.long ((kv.toInt64) + ((4 : Int64) * (qt.toInt64))))])) _
      refine XS.lmul X14.here hx rfl (hb hby at_200) rfl ?_
      show Steps p.tables e below (T14.setTop (mkF m 201 #[.val (.int p1), .val (.int p2), .val (.int p3), .val (.int p4), .val (.int p5), .val (.int p6), .val (.int dl), .val (.long tq), .second, .val (.int qt), .val (.int a), .val (.int kq), .val (.int bq), .val (.int kv), .val (.ref b9), .val (.double (own_got (FP.ddiv (FP.i2d kq) (4616189618054758400 : UInt64)) (FP.ddiv (FP.i2d bq) (4616189618054758400 : UInt64)) (FP.ddiv (FP.i2d kv) (4616189618054758400 : UInt64)) (FP.ddiv (FP.l2d tq) (4616189618054758400 : UInt64)) (FP.i2d ((1 : Int32) <<< (a &&& 31))) qt dl)), .second, .unset, .unset, .val (.long ((((4 : Int64) - (bq.toInt64)) * ((1 : Int64) <<< (a &&& 0x3f).toInt64)) + ((bq.toInt64) * (dl.toInt64)))), .second, .val (.long (((kq.toInt64) * ((((4 : Int64) - (bq.toInt64)) * ((1 : Int64) <<< (a &&& 0x3f).toInt64)) + ((bq.toInt64) * (dl.toInt64)))) + (tq * ((1 : Int64) <<< ((a + (2 : Int32)) &&& 0x3f).toInt64)))), .second, .val (.long ((((kv.toInt64) + (4 : Int64)) * tq) * (qt.toInt64))), .second, .unset, .unset] [(.long (((kv.toInt64) + ((4 : Int64) * (qt.toInt64))) * (((kq.toInt64) * ((((4 : Int64) - (bq.toInt64)) * ((1 : Int64) <<< (a &&& 0x3f).toInt64)) + ((bq.toInt64) * (dl.toInt64)))) + (tq * ((1 : Int64) <<< ((a + (2 : Int32)) &&& 0x3f).toInt64)))))])) _
      refine XS.lstore X14.here hx rfl (hb hby at_201) rfl (l' := #[.val (.int p1), .val (.int p2), .val (.int p3), .val (.int p4), .val (.int p5), .val (.int p6), .val (.int dl), .val (.long tq), .second, .val (.int qt), .val (.int a), .val (.int kq), .val (.int bq), .val (.int kv), .val (.ref b9), .val (.double (own_got (FP.ddiv (FP.i2d kq) (4616189618054758400 : UInt64)) (FP.ddiv (FP.i2d bq) (4616189618054758400 : UInt64)) (FP.ddiv (FP.i2d kv) (4616189618054758400 : UInt64)) (FP.ddiv (FP.l2d tq) (4616189618054758400 : UInt64)) (FP.i2d ((1 : Int32) <<< (a &&& 31))) qt dl)), .second, .unset, .unset, .val (.long ((((4 : Int64) - (bq.toInt64)) * ((1 : Int64) <<< (a &&& 0x3f).toInt64)) + ((bq.toInt64) * (dl.toInt64)))), .second, .val (.long (((kq.toInt64) * ((((4 : Int64) - (bq.toInt64)) * ((1 : Int64) <<< (a &&& 0x3f).toInt64)) + ((bq.toInt64) * (dl.toInt64)))) + (tq * ((1 : Int64) <<< ((a + (2 : Int32)) &&& 0x3f).toInt64)))), .second, .val (.long ((((kv.toInt64) + (4 : Int64)) * tq) * (qt.toInt64))), .second, .val (.long (((kv.toInt64) + ((4 : Int64) * (qt.toInt64))) * (((kq.toInt64) * ((((4 : Int64) - (bq.toInt64)) * ((1 : Int64) <<< (a &&& 0x3f).toInt64)) + ((bq.toInt64) * (dl.toInt64)))) + (tq * ((1 : Int64) <<< ((a + (2 : Int32)) &&& 0x3f).toInt64))))), .second]) rfl ?_
      show Steps p.tables e below (T14.setTop (mkF m 203 #[.val (.int p1), .val (.int p2), .val (.int p3), .val (.int p4), .val (.int p5), .val (.int p6), .val (.int dl), .val (.long tq), .second, .val (.int qt), .val (.int a), .val (.int kq), .val (.int bq), .val (.int kv), .val (.ref b9), .val (.double (own_got (FP.ddiv (FP.i2d kq) (4616189618054758400 : UInt64)) (FP.ddiv (FP.i2d bq) (4616189618054758400 : UInt64)) (FP.ddiv (FP.i2d kv) (4616189618054758400 : UInt64)) (FP.ddiv (FP.l2d tq) (4616189618054758400 : UInt64)) (FP.i2d ((1 : Int32) <<< (a &&& 31))) qt dl)), .second, .unset, .unset, .val (.long ((((4 : Int64) - (bq.toInt64)) * ((1 : Int64) <<< (a &&& 0x3f).toInt64)) + ((bq.toInt64) * (dl.toInt64)))), .second, .val (.long (((kq.toInt64) * ((((4 : Int64) - (bq.toInt64)) * ((1 : Int64) <<< (a &&& 0x3f).toInt64)) + ((bq.toInt64) * (dl.toInt64)))) + (tq * ((1 : Int64) <<< ((a + (2 : Int32)) &&& 0x3f).toInt64)))), .second, .val (.long ((((kv.toInt64) + (4 : Int64)) * tq) * (qt.toInt64))), .second, .val (.long (((kv.toInt64) + ((4 : Int64) * (qt.toInt64))) * (((kq.toInt64) * ((((4 : Int64) - (bq.toInt64)) * ((1 : Int64) <<< (a &&& 0x3f).toInt64)) + ((bq.toInt64) * (dl.toInt64)))) + (tq * ((1 : Int64) <<< ((a + (2 : Int32)) &&& 0x3f).toInt64))))), .second] [])) _
      refine XS.lload X14.here hx rfl (hb hby at_203) rfl ?_
      show Steps p.tables e below (T14.setTop (mkF m 205 #[.val (.int p1), .val (.int p2), .val (.int p3), .val (.int p4), .val (.int p5), .val (.int p6), .val (.int dl), .val (.long tq), .second, .val (.int qt), .val (.int a), .val (.int kq), .val (.int bq), .val (.int kv), .val (.ref b9), .val (.double (own_got (FP.ddiv (FP.i2d kq) (4616189618054758400 : UInt64)) (FP.ddiv (FP.i2d bq) (4616189618054758400 : UInt64)) (FP.ddiv (FP.i2d kv) (4616189618054758400 : UInt64)) (FP.ddiv (FP.l2d tq) (4616189618054758400 : UInt64)) (FP.i2d ((1 : Int32) <<< (a &&& 31))) qt dl)), .second, .unset, .unset, .val (.long ((((4 : Int64) - (bq.toInt64)) * ((1 : Int64) <<< (a &&& 0x3f).toInt64)) + ((bq.toInt64) * (dl.toInt64)))), .second, .val (.long (((kq.toInt64) * ((((4 : Int64) - (bq.toInt64)) * ((1 : Int64) <<< (a &&& 0x3f).toInt64)) + ((bq.toInt64) * (dl.toInt64)))) + (tq * ((1 : Int64) <<< ((a + (2 : Int32)) &&& 0x3f).toInt64)))), .second, .val (.long ((((kv.toInt64) + (4 : Int64)) * tq) * (qt.toInt64))), .second, .val (.long (((kv.toInt64) + ((4 : Int64) * (qt.toInt64))) * (((kq.toInt64) * ((((4 : Int64) - (bq.toInt64)) * ((1 : Int64) <<< (a &&& 0x3f).toInt64)) + ((bq.toInt64) * (dl.toInt64)))) + (tq * ((1 : Int64) <<< ((a + (2 : Int32)) &&& 0x3f).toInt64))))), .second] [(.long ((((kv.toInt64) + (4 : Int64)) * tq) * (qt.toInt64)))])) _
      refine XS.iload X14.here hx rfl (hb hby at_205) rfl ?_
      show Steps p.tables e below (T14.setTop (mkF m 207 #[.val (.int p1), .val (.int p2), .val (.int p3), .val (.int p4), .val (.int p5), .val (.int p6), .val (.int dl), .val (.long tq), .second, .val (.int qt), .val (.int a), .val (.int kq), .val (.int bq), .val (.int kv), .val (.ref b9), .val (.double (own_got (FP.ddiv (FP.i2d kq) (4616189618054758400 : UInt64)) (FP.ddiv (FP.i2d bq) (4616189618054758400 : UInt64)) (FP.ddiv (FP.i2d kv) (4616189618054758400 : UInt64)) (FP.ddiv (FP.l2d tq) (4616189618054758400 : UInt64)) (FP.i2d ((1 : Int32) <<< (a &&& 31))) qt dl)), .second, .unset, .unset, .val (.long ((((4 : Int64) - (bq.toInt64)) * ((1 : Int64) <<< (a &&& 0x3f).toInt64)) + ((bq.toInt64) * (dl.toInt64)))), .second, .val (.long (((kq.toInt64) * ((((4 : Int64) - (bq.toInt64)) * ((1 : Int64) <<< (a &&& 0x3f).toInt64)) + ((bq.toInt64) * (dl.toInt64)))) + (tq * ((1 : Int64) <<< ((a + (2 : Int32)) &&& 0x3f).toInt64)))), .second, .val (.long ((((kv.toInt64) + (4 : Int64)) * tq) * (qt.toInt64))), .second, .val (.long (((kv.toInt64) + ((4 : Int64) * (qt.toInt64))) * (((kq.toInt64) * ((((4 : Int64) - (bq.toInt64)) * ((1 : Int64) <<< (a &&& 0x3f).toInt64)) + ((bq.toInt64) * (dl.toInt64)))) + (tq * ((1 : Int64) <<< ((a + (2 : Int32)) &&& 0x3f).toInt64))))), .second] [(.int a), (.long ((((kv.toInt64) + (4 : Int64)) * tq) * (qt.toInt64)))])) _
      refine XS.iconst X14.here hx rfl (hb hby at_207) ?_
      show Steps p.tables e below (T14.setTop (mkF m 208 #[.val (.int p1), .val (.int p2), .val (.int p3), .val (.int p4), .val (.int p5), .val (.int p6), .val (.int dl), .val (.long tq), .second, .val (.int qt), .val (.int a), .val (.int kq), .val (.int bq), .val (.int kv), .val (.ref b9), .val (.double (own_got (FP.ddiv (FP.i2d kq) (4616189618054758400 : UInt64)) (FP.ddiv (FP.i2d bq) (4616189618054758400 : UInt64)) (FP.ddiv (FP.i2d kv) (4616189618054758400 : UInt64)) (FP.ddiv (FP.l2d tq) (4616189618054758400 : UInt64)) (FP.i2d ((1 : Int32) <<< (a &&& 31))) qt dl)), .second, .unset, .unset, .val (.long ((((4 : Int64) - (bq.toInt64)) * ((1 : Int64) <<< (a &&& 0x3f).toInt64)) + ((bq.toInt64) * (dl.toInt64)))), .second, .val (.long (((kq.toInt64) * ((((4 : Int64) - (bq.toInt64)) * ((1 : Int64) <<< (a &&& 0x3f).toInt64)) + ((bq.toInt64) * (dl.toInt64)))) + (tq * ((1 : Int64) <<< ((a + (2 : Int32)) &&& 0x3f).toInt64)))), .second, .val (.long ((((kv.toInt64) + (4 : Int64)) * tq) * (qt.toInt64))), .second, .val (.long (((kv.toInt64) + ((4 : Int64) * (qt.toInt64))) * (((kq.toInt64) * ((((4 : Int64) - (bq.toInt64)) * ((1 : Int64) <<< (a &&& 0x3f).toInt64)) + ((bq.toInt64) * (dl.toInt64)))) + (tq * ((1 : Int64) <<< ((a + (2 : Int32)) &&& 0x3f).toInt64))))), .second] [(.int (2 : Int32)), (.int a), (.long ((((kv.toInt64) + (4 : Int64)) * tq) * (qt.toInt64)))])) _
      refine XS.iadd X14.here hx rfl (hb hby at_208) rfl ?_
      show Steps p.tables e below (T14.setTop (mkF m 209 #[.val (.int p1), .val (.int p2), .val (.int p3), .val (.int p4), .val (.int p5), .val (.int p6), .val (.int dl), .val (.long tq), .second, .val (.int qt), .val (.int a), .val (.int kq), .val (.int bq), .val (.int kv), .val (.ref b9), .val (.double (own_got (FP.ddiv (FP.i2d kq) (4616189618054758400 : UInt64)) (FP.ddiv (FP.i2d bq) (4616189618054758400 : UInt64)) (FP.ddiv (FP.i2d kv) (4616189618054758400 : UInt64)) (FP.ddiv (FP.l2d tq) (4616189618054758400 : UInt64)) (FP.i2d ((1 : Int32) <<< (a &&& 31))) qt dl)), .second, .unset, .unset, .val (.long ((((4 : Int64) - (bq.toInt64)) * ((1 : Int64) <<< (a &&& 0x3f).toInt64)) + ((bq.toInt64) * (dl.toInt64)))), .second, .val (.long (((kq.toInt64) * ((((4 : Int64) - (bq.toInt64)) * ((1 : Int64) <<< (a &&& 0x3f).toInt64)) + ((bq.toInt64) * (dl.toInt64)))) + (tq * ((1 : Int64) <<< ((a + (2 : Int32)) &&& 0x3f).toInt64)))), .second, .val (.long ((((kv.toInt64) + (4 : Int64)) * tq) * (qt.toInt64))), .second, .val (.long (((kv.toInt64) + ((4 : Int64) * (qt.toInt64))) * (((kq.toInt64) * ((((4 : Int64) - (bq.toInt64)) * ((1 : Int64) <<< (a &&& 0x3f).toInt64)) + ((bq.toInt64) * (dl.toInt64)))) + (tq * ((1 : Int64) <<< ((a + (2 : Int32)) &&& 0x3f).toInt64))))), .second] [(.int (a + (2 : Int32))), (.long ((((kv.toInt64) + (4 : Int64)) * tq) * (qt.toInt64)))])) _
      refine XS.lshl X14.here hx rfl (hb hby at_209) rfl ?_
      show Steps p.tables e below (T14.setTop (mkF m 210 #[.val (.int p1), .val (.int p2), .val (.int p3), .val (.int p4), .val (.int p5), .val (.int p6), .val (.int dl), .val (.long tq), .second, .val (.int qt), .val (.int a), .val (.int kq), .val (.int bq), .val (.int kv), .val (.ref b9), .val (.double (own_got (FP.ddiv (FP.i2d kq) (4616189618054758400 : UInt64)) (FP.ddiv (FP.i2d bq) (4616189618054758400 : UInt64)) (FP.ddiv (FP.i2d kv) (4616189618054758400 : UInt64)) (FP.ddiv (FP.l2d tq) (4616189618054758400 : UInt64)) (FP.i2d ((1 : Int32) <<< (a &&& 31))) qt dl)), .second, .unset, .unset, .val (.long ((((4 : Int64) - (bq.toInt64)) * ((1 : Int64) <<< (a &&& 0x3f).toInt64)) + ((bq.toInt64) * (dl.toInt64)))), .second, .val (.long (((kq.toInt64) * ((((4 : Int64) - (bq.toInt64)) * ((1 : Int64) <<< (a &&& 0x3f).toInt64)) + ((bq.toInt64) * (dl.toInt64)))) + (tq * ((1 : Int64) <<< ((a + (2 : Int32)) &&& 0x3f).toInt64)))), .second, .val (.long ((((kv.toInt64) + (4 : Int64)) * tq) * (qt.toInt64))), .second, .val (.long (((kv.toInt64) + ((4 : Int64) * (qt.toInt64))) * (((kq.toInt64) * ((((4 : Int64) - (bq.toInt64)) * ((1 : Int64) <<< (a &&& 0x3f).toInt64)) + ((bq.toInt64) * (dl.toInt64)))) + (tq * ((1 : Int64) <<< ((a + (2 : Int32)) &&& 0x3f).toInt64))))), .second] [(.long (((((kv.toInt64) + (4 : Int64)) * tq) * (qt.toInt64)) <<< ((a + (2 : Int32)) &&& 0x3f).toInt64))])) _
      refine XS.l2dS X14.here hx rfl (hb hby at_210) rfl rfl ?_
      show Steps p.tables e below (T14.setTop (mkF m 211 #[.val (.int p1), .val (.int p2), .val (.int p3), .val (.int p4), .val (.int p5), .val (.int p6), .val (.int dl), .val (.long tq), .second, .val (.int qt), .val (.int a), .val (.int kq), .val (.int bq), .val (.int kv), .val (.ref b9), .val (.double (own_got (FP.ddiv (FP.i2d kq) (4616189618054758400 : UInt64)) (FP.ddiv (FP.i2d bq) (4616189618054758400 : UInt64)) (FP.ddiv (FP.i2d kv) (4616189618054758400 : UInt64)) (FP.ddiv (FP.l2d tq) (4616189618054758400 : UInt64)) (FP.i2d ((1 : Int32) <<< (a &&& 31))) qt dl)), .second, .unset, .unset, .val (.long ((((4 : Int64) - (bq.toInt64)) * ((1 : Int64) <<< (a &&& 0x3f).toInt64)) + ((bq.toInt64) * (dl.toInt64)))), .second, .val (.long (((kq.toInt64) * ((((4 : Int64) - (bq.toInt64)) * ((1 : Int64) <<< (a &&& 0x3f).toInt64)) + ((bq.toInt64) * (dl.toInt64)))) + (tq * ((1 : Int64) <<< ((a + (2 : Int32)) &&& 0x3f).toInt64)))), .second, .val (.long ((((kv.toInt64) + (4 : Int64)) * tq) * (qt.toInt64))), .second, .val (.long (((kv.toInt64) + ((4 : Int64) * (qt.toInt64))) * (((kq.toInt64) * ((((4 : Int64) - (bq.toInt64)) * ((1 : Int64) <<< (a &&& 0x3f).toInt64)) + ((bq.toInt64) * (dl.toInt64)))) + (tq * ((1 : Int64) <<< ((a + (2 : Int32)) &&& 0x3f).toInt64))))), .second] [(.double (FP.l2d (((((kv.toInt64) + (4 : Int64)) * tq) * (qt.toInt64)) <<< ((a + (2 : Int32)) &&& 0x3f).toInt64)))])) _
      refine XS.lload X14.here hx rfl (hb hby at_211) rfl ?_
      show Steps p.tables e below (T14.setTop (mkF m 213 #[.val (.int p1), .val (.int p2), .val (.int p3), .val (.int p4), .val (.int p5), .val (.int p6), .val (.int dl), .val (.long tq), .second, .val (.int qt), .val (.int a), .val (.int kq), .val (.int bq), .val (.int kv), .val (.ref b9), .val (.double (own_got (FP.ddiv (FP.i2d kq) (4616189618054758400 : UInt64)) (FP.ddiv (FP.i2d bq) (4616189618054758400 : UInt64)) (FP.ddiv (FP.i2d kv) (4616189618054758400 : UInt64)) (FP.ddiv (FP.l2d tq) (4616189618054758400 : UInt64)) (FP.i2d ((1 : Int32) <<< (a &&& 31))) qt dl)), .second, .unset, .unset, .val (.long ((((4 : Int64) - (bq.toInt64)) * ((1 : Int64) <<< (a &&& 0x3f).toInt64)) + ((bq.toInt64) * (dl.toInt64)))), .second, .val (.long (((kq.toInt64) * ((((4 : Int64) - (bq.toInt64)) * ((1 : Int64) <<< (a &&& 0x3f).toInt64)) + ((bq.toInt64) * (dl.toInt64)))) + (tq * ((1 : Int64) <<< ((a + (2 : Int32)) &&& 0x3f).toInt64)))), .second, .val (.long ((((kv.toInt64) + (4 : Int64)) * tq) * (qt.toInt64))), .second, .val (.long (((kv.toInt64) + ((4 : Int64) * (qt.toInt64))) * (((kq.toInt64) * ((((4 : Int64) - (bq.toInt64)) * ((1 : Int64) <<< (a &&& 0x3f).toInt64)) + ((bq.toInt64) * (dl.toInt64)))) + (tq * ((1 : Int64) <<< ((a + (2 : Int32)) &&& 0x3f).toInt64))))), .second] [(.long (((kv.toInt64) + ((4 : Int64) * (qt.toInt64))) * (((kq.toInt64) * ((((4 : Int64) - (bq.toInt64)) * ((1 : Int64) <<< (a &&& 0x3f).toInt64)) + ((bq.toInt64) * (dl.toInt64)))) + (tq * ((1 : Int64) <<< ((a + (2 : Int32)) &&& 0x3f).toInt64))))), (.double (FP.l2d (((((kv.toInt64) + (4 : Int64)) * tq) * (qt.toInt64)) <<< ((a + (2 : Int32)) &&& 0x3f).toInt64)))])) _
      refine XS.l2dS X14.here hx rfl (hb hby at_213) rfl rfl ?_
      show Steps p.tables e below (T14.setTop (mkF m 214 #[.val (.int p1), .val (.int p2), .val (.int p3), .val (.int p4), .val (.int p5), .val (.int p6), .val (.int dl), .val (.long tq), .second, .val (.int qt), .val (.int a), .val (.int kq), .val (.int bq), .val (.int kv), .val (.ref b9), .val (.double (own_got (FP.ddiv (FP.i2d kq) (4616189618054758400 : UInt64)) (FP.ddiv (FP.i2d bq) (4616189618054758400 : UInt64)) (FP.ddiv (FP.i2d kv) (4616189618054758400 : UInt64)) (FP.ddiv (FP.l2d tq) (4616189618054758400 : UInt64)) (FP.i2d ((1 : Int32) <<< (a &&& 31))) qt dl)), .second, .unset, .unset, .val (.long ((((4 : Int64) - (bq.toInt64)) * ((1 : Int64) <<< (a &&& 0x3f).toInt64)) + ((bq.toInt64) * (dl.toInt64)))), .second, .val (.long (((kq.toInt64) * ((((4 : Int64) - (bq.toInt64)) * ((1 : Int64) <<< (a &&& 0x3f).toInt64)) + ((bq.toInt64) * (dl.toInt64)))) + (tq * ((1 : Int64) <<< ((a + (2 : Int32)) &&& 0x3f).toInt64)))), .second, .val (.long ((((kv.toInt64) + (4 : Int64)) * tq) * (qt.toInt64))), .second, .val (.long (((kv.toInt64) + ((4 : Int64) * (qt.toInt64))) * (((kq.toInt64) * ((((4 : Int64) - (bq.toInt64)) * ((1 : Int64) <<< (a &&& 0x3f).toInt64)) + ((bq.toInt64) * (dl.toInt64)))) + (tq * ((1 : Int64) <<< ((a + (2 : Int32)) &&& 0x3f).toInt64))))), .second] [(.double (FP.l2d (((kv.toInt64) + ((4 : Int64) * (qt.toInt64))) * (((kq.toInt64) * ((((4 : Int64) - (bq.toInt64)) * ((1 : Int64) <<< (a &&& 0x3f).toInt64)) + ((bq.toInt64) * (dl.toInt64)))) + (tq * ((1 : Int64) <<< ((a + (2 : Int32)) &&& 0x3f).toInt64)))))), (.double (FP.l2d (((((kv.toInt64) + (4 : Int64)) * tq) * (qt.toInt64)) <<< ((a + (2 : Int32)) &&& 0x3f).toInt64)))])) _
      refine XS.ddivS X14.here hx rfl (hb hby at_214) rfl (own_nq B ht) rfl ?_
      show Steps p.tables e below (T14.setTop (mkF m 215 #[.val (.int p1), .val (.int p2), .val (.int p3), .val (.int p4), .val (.int p5), .val (.int p6), .val (.int dl), .val (.long tq), .second, .val (.int qt), .val (.int a), .val (.int kq), .val (.int bq), .val (.int kv), .val (.ref b9), .val (.double (own_got (FP.ddiv (FP.i2d kq) (4616189618054758400 : UInt64)) (FP.ddiv (FP.i2d bq) (4616189618054758400 : UInt64)) (FP.ddiv (FP.i2d kv) (4616189618054758400 : UInt64)) (FP.ddiv (FP.l2d tq) (4616189618054758400 : UInt64)) (FP.i2d ((1 : Int32) <<< (a &&& 31))) qt dl)), .second, .unset, .unset, .val (.long ((((4 : Int64) - (bq.toInt64)) * ((1 : Int64) <<< (a &&& 0x3f).toInt64)) + ((bq.toInt64) * (dl.toInt64)))), .second, .val (.long (((kq.toInt64) * ((((4 : Int64) - (bq.toInt64)) * ((1 : Int64) <<< (a &&& 0x3f).toInt64)) + ((bq.toInt64) * (dl.toInt64)))) + (tq * ((1 : Int64) <<< ((a + (2 : Int32)) &&& 0x3f).toInt64)))), .second, .val (.long ((((kv.toInt64) + (4 : Int64)) * tq) * (qt.toInt64))), .second, .val (.long (((kv.toInt64) + ((4 : Int64) * (qt.toInt64))) * (((kq.toInt64) * ((((4 : Int64) - (bq.toInt64)) * ((1 : Int64) <<< (a &&& 0x3f).toInt64)) + ((bq.toInt64) * (dl.toInt64)))) + (tq * ((1 : Int64) <<< ((a + (2 : Int32)) &&& 0x3f).toInt64))))), .second] [(.double (FP.ddiv (FP.l2d (((((kv.toInt64) + (4 : Int64)) * tq) * (qt.toInt64)) <<< ((a + (2 : Int32)) &&& 0x3f).toInt64)) (FP.l2d (((kv.toInt64) + ((4 : Int64) * (qt.toInt64))) * (((kq.toInt64) * ((((4 : Int64) - (bq.toInt64)) * ((1 : Int64) <<< (a &&& 0x3f).toInt64)) + ((bq.toInt64) * (dl.toInt64)))) + (tq * ((1 : Int64) <<< ((a + (2 : Int32)) &&& 0x3f).toInt64)))))))])) _
      refine XS.dstore X14.here hx rfl (hb hby at_215) rfl (l' := #[.val (.int p1), .val (.int p2), .val (.int p3), .val (.int p4), .val (.int p5), .val (.int p6), .val (.int dl), .val (.long tq), .second, .val (.int qt), .val (.int a), .val (.int kq), .val (.int bq), .val (.int kv), .val (.ref b9), .val (.double (own_got (FP.ddiv (FP.i2d kq) (4616189618054758400 : UInt64)) (FP.ddiv (FP.i2d bq) (4616189618054758400 : UInt64)) (FP.ddiv (FP.i2d kv) (4616189618054758400 : UInt64)) (FP.ddiv (FP.l2d tq) (4616189618054758400 : UInt64)) (FP.i2d ((1 : Int32) <<< (a &&& 31))) qt dl)), .second, .val (.double (FP.ddiv (FP.l2d (((((kv.toInt64) + (4 : Int64)) * tq) * (qt.toInt64)) <<< ((a + (2 : Int32)) &&& 0x3f).toInt64)) (FP.l2d (((kv.toInt64) + ((4 : Int64) * (qt.toInt64))) * (((kq.toInt64) * ((((4 : Int64) - (bq.toInt64)) * ((1 : Int64) <<< (a &&& 0x3f).toInt64)) + ((bq.toInt64) * (dl.toInt64)))) + (tq * ((1 : Int64) <<< ((a + (2 : Int32)) &&& 0x3f).toInt64))))))), .second, .val (.long ((((4 : Int64) - (bq.toInt64)) * ((1 : Int64) <<< (a &&& 0x3f).toInt64)) + ((bq.toInt64) * (dl.toInt64)))), .second, .val (.long (((kq.toInt64) * ((((4 : Int64) - (bq.toInt64)) * ((1 : Int64) <<< (a &&& 0x3f).toInt64)) + ((bq.toInt64) * (dl.toInt64)))) + (tq * ((1 : Int64) <<< ((a + (2 : Int32)) &&& 0x3f).toInt64)))), .second, .val (.long ((((kv.toInt64) + (4 : Int64)) * tq) * (qt.toInt64))), .second, .val (.long (((kv.toInt64) + ((4 : Int64) * (qt.toInt64))) * (((kq.toInt64) * ((((4 : Int64) - (bq.toInt64)) * ((1 : Int64) <<< (a &&& 0x3f).toInt64)) + ((bq.toInt64) * (dl.toInt64)))) + (tq * ((1 : Int64) <<< ((a + (2 : Int32)) &&& 0x3f).toInt64))))), .second]) rfl ?_
      show Steps p.tables e below (T14.setTop (mkF m 217 #[.val (.int p1), .val (.int p2), .val (.int p3), .val (.int p4), .val (.int p5), .val (.int p6), .val (.int dl), .val (.long tq), .second, .val (.int qt), .val (.int a), .val (.int kq), .val (.int bq), .val (.int kv), .val (.ref b9), .val (.double (own_got (FP.ddiv (FP.i2d kq) (4616189618054758400 : UInt64)) (FP.ddiv (FP.i2d bq) (4616189618054758400 : UInt64)) (FP.ddiv (FP.i2d kv) (4616189618054758400 : UInt64)) (FP.ddiv (FP.l2d tq) (4616189618054758400 : UInt64)) (FP.i2d ((1 : Int32) <<< (a &&& 31))) qt dl)), .second, .val (.double (FP.ddiv (FP.l2d (((((kv.toInt64) + (4 : Int64)) * tq) * (qt.toInt64)) <<< ((a + (2 : Int32)) &&& 0x3f).toInt64)) (FP.l2d (((kv.toInt64) + ((4 : Int64) * (qt.toInt64))) * (((kq.toInt64) * ((((4 : Int64) - (bq.toInt64)) * ((1 : Int64) <<< (a &&& 0x3f).toInt64)) + ((bq.toInt64) * (dl.toInt64)))) + (tq * ((1 : Int64) <<< ((a + (2 : Int32)) &&& 0x3f).toInt64))))))), .second, .val (.long ((((4 : Int64) - (bq.toInt64)) * ((1 : Int64) <<< (a &&& 0x3f).toInt64)) + ((bq.toInt64) * (dl.toInt64)))), .second, .val (.long (((kq.toInt64) * ((((4 : Int64) - (bq.toInt64)) * ((1 : Int64) <<< (a &&& 0x3f).toInt64)) + ((bq.toInt64) * (dl.toInt64)))) + (tq * ((1 : Int64) <<< ((a + (2 : Int32)) &&& 0x3f).toInt64)))), .second, .val (.long ((((kv.toInt64) + (4 : Int64)) * tq) * (qt.toInt64))), .second, .val (.long (((kv.toInt64) + ((4 : Int64) * (qt.toInt64))) * (((kq.toInt64) * ((((4 : Int64) - (bq.toInt64)) * ((1 : Int64) <<< (a &&& 0x3f).toInt64)) + ((bq.toInt64) * (dl.toInt64)))) + (tq * ((1 : Int64) <<< ((a + (2 : Int32)) &&& 0x3f).toInt64))))), .second] [])) _
      refine XS.dload X14.here hx rfl (hb hby at_217) rfl ?_
      show Steps p.tables e below (T14.setTop (mkF m 219 #[.val (.int p1), .val (.int p2), .val (.int p3), .val (.int p4), .val (.int p5), .val (.int p6), .val (.int dl), .val (.long tq), .second, .val (.int qt), .val (.int a), .val (.int kq), .val (.int bq), .val (.int kv), .val (.ref b9), .val (.double (own_got (FP.ddiv (FP.i2d kq) (4616189618054758400 : UInt64)) (FP.ddiv (FP.i2d bq) (4616189618054758400 : UInt64)) (FP.ddiv (FP.i2d kv) (4616189618054758400 : UInt64)) (FP.ddiv (FP.l2d tq) (4616189618054758400 : UInt64)) (FP.i2d ((1 : Int32) <<< (a &&& 31))) qt dl)), .second, .val (.double (FP.ddiv (FP.l2d (((((kv.toInt64) + (4 : Int64)) * tq) * (qt.toInt64)) <<< ((a + (2 : Int32)) &&& 0x3f).toInt64)) (FP.l2d (((kv.toInt64) + ((4 : Int64) * (qt.toInt64))) * (((kq.toInt64) * ((((4 : Int64) - (bq.toInt64)) * ((1 : Int64) <<< (a &&& 0x3f).toInt64)) + ((bq.toInt64) * (dl.toInt64)))) + (tq * ((1 : Int64) <<< ((a + (2 : Int32)) &&& 0x3f).toInt64))))))), .second, .val (.long ((((4 : Int64) - (bq.toInt64)) * ((1 : Int64) <<< (a &&& 0x3f).toInt64)) + ((bq.toInt64) * (dl.toInt64)))), .second, .val (.long (((kq.toInt64) * ((((4 : Int64) - (bq.toInt64)) * ((1 : Int64) <<< (a &&& 0x3f).toInt64)) + ((bq.toInt64) * (dl.toInt64)))) + (tq * ((1 : Int64) <<< ((a + (2 : Int32)) &&& 0x3f).toInt64)))), .second, .val (.long ((((kv.toInt64) + (4 : Int64)) * tq) * (qt.toInt64))), .second, .val (.long (((kv.toInt64) + ((4 : Int64) * (qt.toInt64))) * (((kq.toInt64) * ((((4 : Int64) - (bq.toInt64)) * ((1 : Int64) <<< (a &&& 0x3f).toInt64)) + ((bq.toInt64) * (dl.toInt64)))) + (tq * ((1 : Int64) <<< ((a + (2 : Int32)) &&& 0x3f).toInt64))))), .second] [(.double (own_got (FP.ddiv (FP.i2d kq) (4616189618054758400 : UInt64)) (FP.ddiv (FP.i2d bq) (4616189618054758400 : UInt64)) (FP.ddiv (FP.i2d kv) (4616189618054758400 : UInt64)) (FP.ddiv (FP.l2d tq) (4616189618054758400 : UInt64)) (FP.i2d ((1 : Int32) <<< (a &&& 31))) qt dl))])) _
      refine XS.dload X14.here hx rfl (hb hby at_219) rfl ?_
      show Steps p.tables e below (T14.setTop (mkF m 221 #[.val (.int p1), .val (.int p2), .val (.int p3), .val (.int p4), .val (.int p5), .val (.int p6), .val (.int dl), .val (.long tq), .second, .val (.int qt), .val (.int a), .val (.int kq), .val (.int bq), .val (.int kv), .val (.ref b9), .val (.double (own_got (FP.ddiv (FP.i2d kq) (4616189618054758400 : UInt64)) (FP.ddiv (FP.i2d bq) (4616189618054758400 : UInt64)) (FP.ddiv (FP.i2d kv) (4616189618054758400 : UInt64)) (FP.ddiv (FP.l2d tq) (4616189618054758400 : UInt64)) (FP.i2d ((1 : Int32) <<< (a &&& 31))) qt dl)), .second, .val (.double (FP.ddiv (FP.l2d (((((kv.toInt64) + (4 : Int64)) * tq) * (qt.toInt64)) <<< ((a + (2 : Int32)) &&& 0x3f).toInt64)) (FP.l2d (((kv.toInt64) + ((4 : Int64) * (qt.toInt64))) * (((kq.toInt64) * ((((4 : Int64) - (bq.toInt64)) * ((1 : Int64) <<< (a &&& 0x3f).toInt64)) + ((bq.toInt64) * (dl.toInt64)))) + (tq * ((1 : Int64) <<< ((a + (2 : Int32)) &&& 0x3f).toInt64))))))), .second, .val (.long ((((4 : Int64) - (bq.toInt64)) * ((1 : Int64) <<< (a &&& 0x3f).toInt64)) + ((bq.toInt64) * (dl.toInt64)))), .second, .val (.long (((kq.toInt64) * ((((4 : Int64) - (bq.toInt64)) * ((1 : Int64) <<< (a &&& 0x3f).toInt64)) + ((bq.toInt64) * (dl.toInt64)))) + (tq * ((1 : Int64) <<< ((a + (2 : Int32)) &&& 0x3f).toInt64)))), .second, .val (.long ((((kv.toInt64) + (4 : Int64)) * tq) * (qt.toInt64))), .second, .val (.long (((kv.toInt64) + ((4 : Int64) * (qt.toInt64))) * (((kq.toInt64) * ((((4 : Int64) - (bq.toInt64)) * ((1 : Int64) <<< (a &&& 0x3f).toInt64)) + ((bq.toInt64) * (dl.toInt64)))) + (tq * ((1 : Int64) <<< ((a + (2 : Int32)) &&& 0x3f).toInt64))))), .second] [(.double (FP.ddiv (FP.l2d (((((kv.toInt64) + (4 : Int64)) * tq) * (qt.toInt64)) <<< ((a + (2 : Int32)) &&& 0x3f).toInt64)) (FP.l2d (((kv.toInt64) + ((4 : Int64) * (qt.toInt64))) * (((kq.toInt64) * ((((4 : Int64) - (bq.toInt64)) * ((1 : Int64) <<< (a &&& 0x3f).toInt64)) + ((bq.toInt64) * (dl.toInt64)))) + (tq * ((1 : Int64) <<< ((a + (2 : Int32)) &&& 0x3f).toInt64))))))), (.double (own_got (FP.ddiv (FP.i2d kq) (4616189618054758400 : UInt64)) (FP.ddiv (FP.i2d bq) (4616189618054758400 : UInt64)) (FP.ddiv (FP.i2d kv) (4616189618054758400 : UInt64)) (FP.ddiv (FP.l2d tq) (4616189618054758400 : UInt64)) (FP.i2d ((1 : Int32) <<< (a &&& 31))) qt dl))])) _
      refine XS.dcmpS X14.here hx rfl (v := (0 : Int32)) (hb hby at_221) rfl (own_cm B ht) ?_
      show Steps p.tables e below (T14.setTop (mkF m 222 #[.val (.int p1), .val (.int p2), .val (.int p3), .val (.int p4), .val (.int p5), .val (.int p6), .val (.int dl), .val (.long tq), .second, .val (.int qt), .val (.int a), .val (.int kq), .val (.int bq), .val (.int kv), .val (.ref b9), .val (.double (own_got (FP.ddiv (FP.i2d kq) (4616189618054758400 : UInt64)) (FP.ddiv (FP.i2d bq) (4616189618054758400 : UInt64)) (FP.ddiv (FP.i2d kv) (4616189618054758400 : UInt64)) (FP.ddiv (FP.l2d tq) (4616189618054758400 : UInt64)) (FP.i2d ((1 : Int32) <<< (a &&& 31))) qt dl)), .second, .val (.double (FP.ddiv (FP.l2d (((((kv.toInt64) + (4 : Int64)) * tq) * (qt.toInt64)) <<< ((a + (2 : Int32)) &&& 0x3f).toInt64)) (FP.l2d (((kv.toInt64) + ((4 : Int64) * (qt.toInt64))) * (((kq.toInt64) * ((((4 : Int64) - (bq.toInt64)) * ((1 : Int64) <<< (a &&& 0x3f).toInt64)) + ((bq.toInt64) * (dl.toInt64)))) + (tq * ((1 : Int64) <<< ((a + (2 : Int32)) &&& 0x3f).toInt64))))))), .second, .val (.long ((((4 : Int64) - (bq.toInt64)) * ((1 : Int64) <<< (a &&& 0x3f).toInt64)) + ((bq.toInt64) * (dl.toInt64)))), .second, .val (.long (((kq.toInt64) * ((((4 : Int64) - (bq.toInt64)) * ((1 : Int64) <<< (a &&& 0x3f).toInt64)) + ((bq.toInt64) * (dl.toInt64)))) + (tq * ((1 : Int64) <<< ((a + (2 : Int32)) &&& 0x3f).toInt64)))), .second, .val (.long ((((kv.toInt64) + (4 : Int64)) * tq) * (qt.toInt64))), .second, .val (.long (((kv.toInt64) + ((4 : Int64) * (qt.toInt64))) * (((kq.toInt64) * ((((4 : Int64) - (bq.toInt64)) * ((1 : Int64) <<< (a &&& 0x3f).toInt64)) + ((bq.toInt64) * (dl.toInt64)))) + (tq * ((1 : Int64) <<< ((a + (2 : Int32)) &&& 0x3f).toInt64))))), .second] [(.int (0 : Int32))])) _
      refine XS.ifNo X14.here hx rfl (hb hby at_222) rfl ((if0 _ _).trans (teq (by decide : (0 : Int32) = (0 : Int32))).2) ?_
      show Steps p.tables e below (T14.setTop (mkF m 225 #[.val (.int p1), .val (.int p2), .val (.int p3), .val (.int p4), .val (.int p5), .val (.int p6), .val (.int dl), .val (.long tq), .second, .val (.int qt), .val (.int a), .val (.int kq), .val (.int bq), .val (.int kv), .val (.ref b9), .val (.double (own_got (FP.ddiv (FP.i2d kq) (4616189618054758400 : UInt64)) (FP.ddiv (FP.i2d bq) (4616189618054758400 : UInt64)) (FP.ddiv (FP.i2d kv) (4616189618054758400 : UInt64)) (FP.ddiv (FP.l2d tq) (4616189618054758400 : UInt64)) (FP.i2d ((1 : Int32) <<< (a &&& 31))) qt dl)), .second, .val (.double (FP.ddiv (FP.l2d (((((kv.toInt64) + (4 : Int64)) * tq) * (qt.toInt64)) <<< ((a + (2 : Int32)) &&& 0x3f).toInt64)) (FP.l2d (((kv.toInt64) + ((4 : Int64) * (qt.toInt64))) * (((kq.toInt64) * ((((4 : Int64) - (bq.toInt64)) * ((1 : Int64) <<< (a &&& 0x3f).toInt64)) + ((bq.toInt64) * (dl.toInt64)))) + (tq * ((1 : Int64) <<< ((a + (2 : Int32)) &&& 0x3f).toInt64))))))), .second, .val (.long ((((4 : Int64) - (bq.toInt64)) * ((1 : Int64) <<< (a &&& 0x3f).toInt64)) + ((bq.toInt64) * (dl.toInt64)))), .second, .val (.long (((kq.toInt64) * ((((4 : Int64) - (bq.toInt64)) * ((1 : Int64) <<< (a &&& 0x3f).toInt64)) + ((bq.toInt64) * (dl.toInt64)))) + (tq * ((1 : Int64) <<< ((a + (2 : Int32)) &&& 0x3f).toInt64)))), .second, .val (.long ((((kv.toInt64) + (4 : Int64)) * tq) * (qt.toInt64))), .second, .val (.long (((kv.toInt64) + ((4 : Int64) * (qt.toInt64))) * (((kq.toInt64) * ((((4 : Int64) - (bq.toInt64)) * ((1 : Int64) <<< (a &&& 0x3f).toInt64)) + ((bq.toInt64) * (dl.toInt64)))) + (tq * ((1 : Int64) <<< ((a + (2 : Int32)) &&& 0x3f).toInt64))))), .second] [])) _
      refine XS.iconst X14.here hx rfl (hb hby at_225) ?_
      show Steps p.tables e below (T14.setTop (mkF m 226 #[.val (.int p1), .val (.int p2), .val (.int p3), .val (.int p4), .val (.int p5), .val (.int p6), .val (.int dl), .val (.long tq), .second, .val (.int qt), .val (.int a), .val (.int kq), .val (.int bq), .val (.int kv), .val (.ref b9), .val (.double (own_got (FP.ddiv (FP.i2d kq) (4616189618054758400 : UInt64)) (FP.ddiv (FP.i2d bq) (4616189618054758400 : UInt64)) (FP.ddiv (FP.i2d kv) (4616189618054758400 : UInt64)) (FP.ddiv (FP.l2d tq) (4616189618054758400 : UInt64)) (FP.i2d ((1 : Int32) <<< (a &&& 31))) qt dl)), .second, .val (.double (FP.ddiv (FP.l2d (((((kv.toInt64) + (4 : Int64)) * tq) * (qt.toInt64)) <<< ((a + (2 : Int32)) &&& 0x3f).toInt64)) (FP.l2d (((kv.toInt64) + ((4 : Int64) * (qt.toInt64))) * (((kq.toInt64) * ((((4 : Int64) - (bq.toInt64)) * ((1 : Int64) <<< (a &&& 0x3f).toInt64)) + ((bq.toInt64) * (dl.toInt64)))) + (tq * ((1 : Int64) <<< ((a + (2 : Int32)) &&& 0x3f).toInt64))))))), .second, .val (.long ((((4 : Int64) - (bq.toInt64)) * ((1 : Int64) <<< (a &&& 0x3f).toInt64)) + ((bq.toInt64) * (dl.toInt64)))), .second, .val (.long (((kq.toInt64) * ((((4 : Int64) - (bq.toInt64)) * ((1 : Int64) <<< (a &&& 0x3f).toInt64)) + ((bq.toInt64) * (dl.toInt64)))) + (tq * ((1 : Int64) <<< ((a + (2 : Int32)) &&& 0x3f).toInt64)))), .second, .val (.long ((((kv.toInt64) + (4 : Int64)) * tq) * (qt.toInt64))), .second, .val (.long (((kv.toInt64) + ((4 : Int64) * (qt.toInt64))) * (((kq.toInt64) * ((((4 : Int64) - (bq.toInt64)) * ((1 : Int64) <<< (a &&& 0x3f).toInt64)) + ((bq.toInt64) * (dl.toInt64)))) + (tq * ((1 : Int64) <<< ((a + (2 : Int32)) &&& 0x3f).toInt64))))), .second] [(.int (1 : Int32))])) _
      refine XS.goto X14.here hx rfl (pc0 := 226) (pc' := 230) rfl (hb hby at_226) (by decide) (by decide) ?_
      show Steps p.tables e below (T14.setTop (mkF m 230 #[.val (.int p1), .val (.int p2), .val (.int p3), .val (.int p4), .val (.int p5), .val (.int p6), .val (.int dl), .val (.long tq), .second, .val (.int qt), .val (.int a), .val (.int kq), .val (.int bq), .val (.int kv), .val (.ref b9), .val (.double (own_got (FP.ddiv (FP.i2d kq) (4616189618054758400 : UInt64)) (FP.ddiv (FP.i2d bq) (4616189618054758400 : UInt64)) (FP.ddiv (FP.i2d kv) (4616189618054758400 : UInt64)) (FP.ddiv (FP.l2d tq) (4616189618054758400 : UInt64)) (FP.i2d ((1 : Int32) <<< (a &&& 31))) qt dl)), .second, .val (.double (FP.ddiv (FP.l2d (((((kv.toInt64) + (4 : Int64)) * tq) * (qt.toInt64)) <<< ((a + (2 : Int32)) &&& 0x3f).toInt64)) (FP.l2d (((kv.toInt64) + ((4 : Int64) * (qt.toInt64))) * (((kq.toInt64) * ((((4 : Int64) - (bq.toInt64)) * ((1 : Int64) <<< (a &&& 0x3f).toInt64)) + ((bq.toInt64) * (dl.toInt64)))) + (tq * ((1 : Int64) <<< ((a + (2 : Int32)) &&& 0x3f).toInt64))))))), .second, .val (.long ((((4 : Int64) - (bq.toInt64)) * ((1 : Int64) <<< (a &&& 0x3f).toInt64)) + ((bq.toInt64) * (dl.toInt64)))), .second, .val (.long (((kq.toInt64) * ((((4 : Int64) - (bq.toInt64)) * ((1 : Int64) <<< (a &&& 0x3f).toInt64)) + ((bq.toInt64) * (dl.toInt64)))) + (tq * ((1 : Int64) <<< ((a + (2 : Int32)) &&& 0x3f).toInt64)))), .second, .val (.long ((((kv.toInt64) + (4 : Int64)) * tq) * (qt.toInt64))), .second, .val (.long (((kv.toInt64) + ((4 : Int64) * (qt.toInt64))) * (((kq.toInt64) * ((((4 : Int64) - (bq.toInt64)) * ((1 : Int64) <<< (a &&& 0x3f).toInt64)) + ((bq.toInt64) * (dl.toInt64)))) + (tq * ((1 : Int64) <<< ((a + (2 : Int32)) &&& 0x3f).toInt64))))), .second] [(.int (1 : Int32))])) _
      exact retN X14 hx (t := .boolean) Bd.returns (by simp) (hb hby at_230) hr
    · show Q_rm0 Z p1 p2 p3 p4 p5 p6 h0 n0 _ T14.heap _ T14.vm
      rw [e14]
      exact ⟨rfl, N14⟩
set_option maxRecDepth 65536 in
set_option maxHeartbeats 40000000 in
theorem comes_1 {Post : Tables → Env → Array Value → State → Outcome → State → Prop} (hpost : ∀ tb e args s v u, (limb_1_1.after args s (.returned v) u = true ∧ limb_1_2.after args s (.returned v) u = true ∧ True) → ReturnedEndW s (.returned v) u (Jvm.fieldLocs frame_1_writes args s ++ Jvm.arrayLocs frame_1_arrays args s ++ Jvm.staticLocs frame_1_statics s) 16 2176 → Post tb e args s (.returned v) u) :
    ArmFor flags0 classFile x code maxLocals ret World_1 tables_1 room_1 Calls_1 rest_1 Pre_1 Post := by
  intro l hfl _ _ p e ha hc hk s m args below hf hA hF happ hP
  obtain ⟨hcalls, hrest, hpre⟩ := hP
  obtain ⟨-, -, -, hnamed, -, -, -, hat⟩ := (Spec.applies_iff hf).mp happ
  obtain ⟨hg, hn⟩ := and_e (Cond.before_iff.mp (show (Jvm.Cond.and given_1 narrow_1).before args s = true from hpre))
  obtain ⟨gc, gr0⟩ := and_e hg
  obtain ⟨ga0, gr1⟩ := and_e gr0
  obtain ⟨ga1, gr2⟩ := and_e gr1
  obtain ⟨ga2, gr3⟩ := and_e gr2
  obtain ⟨ga3, gr4⟩ := and_e gr3
  obtain ⟨ga4, gr5⟩ := and_e gr4
  obtain ⟨w0, w1, w2, w3, w4, w5, rfl⟩ : ∃ w0 w1 w2 w3 w4 w5 : Value, args = #[w0, w1, w2, w3, w4, w5] := by
    have hs : args.size = 6 := by simpa [Cond.value, given_1] using gc
    obtain ⟨L⟩ := args
    match L, hs with
    | [w0, w1, w2, w3, w4, w5], _ => exact ⟨w0, w1, w2, w3, w4, w5, rfl⟩
  have hw := fun d (hd : d ∈ tables_1) => atoms_spec (ws := Jvm.Cond.code x code maxLocals ret :: tables_1) hat d (List.mem_cons_of_mem _ hd)
  have hfit : Fit s := fun {y c} hc i hi => by
    obtain ⟨ha, rfl⟩ := Array.getElem?_eq_some_iff.mp hc
    have q := List.all_eq_true.mp ((Array.all_eq_true_iff_forall_mem.mp hF) _ (Array.getElem_mem ha)) i (List.mem_range.mpr hi)
    simpa [Array.getElem?_eq_getElem hi] using q
  obtain ⟨i0, ei0⟩ := is_v ga0
  obtain rfl : w0 = (.int i0) := Option.some.inj ei0
  obtain ⟨i1, ei1⟩ := is_v ga1
  obtain rfl : w1 = (.int i1) := Option.some.inj ei1
  obtain ⟨i2, ei2⟩ := is_v ga2
  obtain rfl : w2 = (.int i2) := Option.some.inj ei2
  obtain ⟨i3, ei3⟩ := is_v ga3
  obtain rfl : w3 = (.int i3) := Option.some.inj ei3
  obtain ⟨i4, ei4⟩ := is_v ga4
  obtain rfl : w4 = (.int i4) := Option.some.inj ei4
  obtain ⟨i5, ei5⟩ := is_v gr5
  obtain rfl : w5 = (.int i5) := Option.some.inj ei5
  obtain ⟨n, o, h1, h2, h3, _, L, rfl, ⟨rfl, N⟩, hq⟩ := rm0 l s _ hw tables_1 i0 i1 i2 i3 i4 i5 s.heap s.heap.size (Nat.le_refl _)  p e ha hc hk s m _ below hf ((Spec.applies_iff_loose hf).mp happ).1 ⟨rfl, State.Warmed39.refl s, rfl, IB.start⟩ trivial
  refine ⟨n, _, h1, h2, h3, hpost _ _ _ _ _ _ ⟨Cond.after_iff.mpr rfl, Cond.after_iff.mpr (eq_i res_at (Term.int_eval (1)) rfl), trivial⟩ ⟨hq.1, hq.2.1, hq.2.2.1, (hq.2.2.2.sift fun y hy => Or.inr (N y hy)).mono (by decide) (by decide)⟩⟩
theorem main_1_1 : Claimed_1_1 := comes_1 fun _ _ _ _ _ _ h hF => ⟨h.1, hF⟩
theorem main_1_2 : Claimed_1_2 := comes_1 fun _ _ _ _ _ _ h hF => ⟨h.2.1, hF⟩
end Jvm.Pilot.@@N@@
namespace Jvm.Pilot.@@N@@
open Jvm Jvm.ClassFile Sem Op Lib Jvm.Free Jvm.Stand Jvm.Pilot.@@N@@.Jvm.D
/-! MADE BY PROGRAM (witnessworld.py) out of the Statement's table words and the real class files: 17 classes; the members and pool entries that the words name. The judged class is class 1, her method 1. -/
namespace start1
open Jvm.ClassFile
def u (s : String) : CpInfo := .utf8 (stringToUtf16 s)
/-- a pool by its gaps: so many unusable entries, then the entry; so many at the end -/
def gap : Nat → List CpInfo → List CpInfo
  | 0, r => r
  | n + 1, r => .unusable :: gap n r
def poolList (es : List (Nat × CpInfo)) (last : Nat) : List CpInfo := es.foldr (fun e r => gap e.1 (e.2 :: r)) (gap last [])
def pool (es : List (Nat × CpInfo)) (last : Nat) : Array CpInfo := ⟨poolList es last⟩
def fileOf (pool : Array CpInfo) (this : Nat) (attrs : Array Attribute := #[]) (ms : Array MethodInfo := #[]) (fl : Nat := 33) (sup : Nat := 0) (ifs : Array Nat := #[]) (fds : Array FieldInfo := #[]) : ClassFile where
  minorVersion := 0
  majorVersion := 65
  constantPool := pool
  accessFlags := fl
  thisClass := this
  superClass := sup
  interfaces := ifs
  fields := fds
  methods := ms
  attributes := attrs
def plain (name : String) (sup : Option ClassId) : Class where
  name := name
  kind := .ordinary
  loader := none
  accessFlags := 33
  super := sup
  interfaces := #[]
  cf := none
  fields := #[]
  methods := #[]
  instanceTypes := #[]
  staticTypes := #[]
  resolved := #[]
  callSites := []
  init := .initialized
  statics := none
  mirror := none

def pool0 : Array CpInfo := pool [(5, u "<init>"), (0, u "()V"), (1, .class_ 10), (1, u "java/lang/Object")] 113

def k0c0 : Code := { maxStack := 0, maxLocals := 1, code := object_method_1_code, exceptionTable := #[], attributes := #[] }
def k0m0 : Method := { name := "<init>", desc := "()V", sig := { parameters := [], returnType := none }, accessFlags := 1, code := some k0c0 }
/-- java/lang/Object -/
def k0 : Class := { plain "java/lang/Object" none with
  accessFlags := 33
  interfaces := #[]
  cf := some (fileOf pool0 8 #[] #[{ accessFlags := 1, nameIndex := 5, descriptorIndex := 6, attributes := #[] }] 33 0 #[] #[])
  fields := #[]
  methods := #[k0m0]
  instanceTypes := #[]
  staticTypes := #[]
  resolved := Array.replicate 124 none
  statics := none }

def pool1 : Array CpInfo := pool [(2, .class_ 4), (1, u "java/lang/Object"), (0, u "<init>"), (0, u "()V"), (0, .integer 1048575), (0, .long 4), (1, .methodref 11 12), (0, .class_ 13), (0, .nameAndType 14 15), (0, u "java/lang/Math"), (0, u "min"), (0, u "(JJ)J"), (0, .integer 65535), (0, .class_ 18), (0, u "com/example/morro/morro/rank/Bm25"), (0, .double 4616189618054758400), (1, .methodref 17 22), (0, .nameAndType 5 23), (0, u "(DDD)V"), (0, .methodref 17 25), (0, .nameAndType 26 27), (0, u "tf"), (0, u "(DIID)D"), (0, .class_ 29), (0, u "com/example/morro/morro/rank/Bm25TfPinLaw"), (2, u "law"), (0, u "(IIIIII)Z")] 3

def k1m0 : Method := { name := "<init>", desc := "()V", sig := { parameters := [], returnType := none }, accessFlags := 1, code := none }
def k1c1 : Code := { maxStack := 10, maxLocals := 27, code := code, exceptionTable := #[], attributes := #[] }
def k1m1 : Method := { name := "law", desc := "(IIIIII)Z", sig := { parameters := [.int, .int, .int, .int, .int, .int], returnType := some .boolean }, accessFlags := 9, code := some k1c1 }
/-- com/example/morro/morro/rank/Bm25TfPinLaw -/
def k1 : Class := { plain "com/example/morro/morro/rank/Bm25TfPinLaw" (some 0) with
  accessFlags := 49
  interfaces := #[]
  cf := some (fileOf pool1 28 #[] #[{ accessFlags := 1, nameIndex := 5, descriptorIndex := 6, attributes := #[] }, { accessFlags := 9, nameIndex := 32, descriptorIndex := 33, attributes := #[] }] 49 2 #[] #[])
  fields := #[]
  methods := #[k1m0, k1m1]
  instanceTypes := #[]
  staticTypes := #[]
  resolved := Array.replicate 37 none
  statics := none }

def pool2 : Array CpInfo := pool [(1, .class_ 2), (0, u "java/lang/Math"), (1, .class_ 6), (1, u "java/lang/Object"), (0, u "<init>"), (0, u "()V"), (5, u "(D)D"), (83, .class_ 100), (1, u "java/lang/Math$RandomNumberGeneratorHolder"), (20, u "(JJ)J"), (2, u "abs"), (47, u "negativeZeroFloatBits"), (0, u "J"), (2, u "negativeZeroDoubleBits"), (24, u "min"), (43, u "$assertionsDisabled"), (0, u "Z"), (91, u "twoToTheDoubleScaleDown"), (0, u "D"), (4, u "twoToTheDoubleScaleUp"), (9, u "E"), (3, u "PI"), (2, u "TAU"), (2, u "DEGREES_TO_RADIANS"), (0, u "RADIANS_TO_DEGREES")] 94

def k2m0 : Method := { name := "<init>", desc := "()V", sig := { parameters := [], returnType := none }, accessFlags := 2, code := none }
def k2c1 : Code := { maxStack := 4, maxLocals := 2, code := jdk_29_method_64_code, exceptionTable := #[], attributes := #[] }
def k2m1 : Method := { name := "abs", desc := "(D)D", sig := { parameters := [.double], returnType := some .double }, accessFlags := 9, code := some k2c1 }
def k2c2 : Code := { maxStack := 4, maxLocals := 4, code := jdk_29_method_70_code, exceptionTable := #[], attributes := #[] }
def k2m2 : Method := { name := "min", desc := "(JJ)J", sig := { parameters := [.long, .long], returnType := some .long }, accessFlags := 9, code := some k2c2 }
/-- java/lang/Math -/
def k2 : Class := { plain "java/lang/Math" (some 0) with
  accessFlags := 49
  interfaces := #[]
  cf := some (fileOf pool2 1 #[.nestMembers #[98]] #[{ accessFlags := 2, nameIndex := 7, descriptorIndex := 8, attributes := #[] }, { accessFlags := 9, nameIndex := 124, descriptorIndex := 14, attributes := #[] }, { accessFlags := 9, nameIndex := 201, descriptorIndex := 121, attributes := #[] }] 49 4 #[] #[{ accessFlags := 25, nameIndex := 354, descriptorIndex := 339, attributes := #[] }, { accessFlags := 25, nameIndex := 358, descriptorIndex := 339, attributes := #[] }, { accessFlags := 25, nameIndex := 361, descriptorIndex := 339, attributes := #[] }, { accessFlags := 26, nameIndex := 364, descriptorIndex := 339, attributes := #[] }, { accessFlags := 26, nameIndex := 365, descriptorIndex := 339, attributes := #[] }, { accessFlags := 26, nameIndex := 172, descriptorIndex := 173, attributes := #[] }, { accessFlags := 26, nameIndex := 176, descriptorIndex := 173, attributes := #[] }, { accessFlags := 8, nameIndex := 344, descriptorIndex := 339, attributes := #[] }, { accessFlags := 8, nameIndex := 338, descriptorIndex := 339, attributes := #[] }, { accessFlags := 4120, nameIndex := 245, descriptorIndex := 246, attributes := #[] }])
  fields := #[{ name := "E", type := .double, accessFlags := 25, slot := 0, constantValue := 0 }, { name := "PI", type := .double, accessFlags := 25, slot := 1, constantValue := 0 }, { name := "TAU", type := .double, accessFlags := 25, slot := 2, constantValue := 0 }, { name := "DEGREES_TO_RADIANS", type := .double, accessFlags := 26, slot := 3, constantValue := 0 }, { name := "RADIANS_TO_DEGREES", type := .double, accessFlags := 26, slot := 4, constantValue := 0 }, { name := "negativeZeroFloatBits", type := .long, accessFlags := 26, slot := 5, constantValue := 0 }, { name := "negativeZeroDoubleBits", type := .long, accessFlags := 26, slot := 6, constantValue := 0 }, { name := "twoToTheDoubleScaleUp", type := .double, accessFlags := 8, slot := 7, constantValue := 0 }, { name := "twoToTheDoubleScaleDown", type := .double, accessFlags := 8, slot := 8, constantValue := 0 }, { name := "$assertionsDisabled", type := .boolean, accessFlags := 4120, slot := 9, constantValue := 0 }]
  methods := #[k2m0, k2m1, k2m2]
  instanceTypes := #[]
  staticTypes := #[.double, .double, .double, .double, .double, .long, .long, .double, .double, .boolean]
  resolved := Array.replicate 460 none
  statics := none }

def pool3 : Array CpInfo := pool [(1, .class_ 2), (0, u "com/example/morro/morro/rank/Bm25"), (8, u "<init>"), (0, u "(DDD)V"), (0, .methodref 14 15), (0, .class_ 16), (0, .nameAndType 11 17), (0, u "java/lang/Object"), (0, u "()V"), (9, .string 28), (0, u "k1"), (0, .methodref 1 30), (0, .nameAndType 31 32), (0, u "requireFiniteNonNegative"), (0, u "(Ljava/lang/String;D)D"), (0, .fieldref 1 34), (0, .nameAndType 28 35), (0, u "D"), (0, .fieldref 1 37), (0, .nameAndType 38 35), (0, u "b"), (0, .string 40), (0, u "k3"), (0, .fieldref 1 42), (0, .nameAndType 40 35), (10, u "LN_2"), (0, .methodref 55 56), (0, .class_ 57), (0, .nameAndType 58 59), (0, u "java/lang/Double"), (0, u "isFinite"), (0, u "(D)Z"), (5, u "DEFAULT_K1"), (1, u "DEFAULT_B"), (0, u "DEFAULT_K3"), (3, u "tf"), (0, u "(DIID)D")] 22

def k3m0 : Method := { name := "<init>", desc := "()V", sig := { parameters := [], returnType := none }, accessFlags := 1, code := none }
def k3c1 : Code := { maxStack := 4, maxLocals := 7, code := prog_38_method_2_code, exceptionTable := #[], attributes := #[] }
def k3m1 : Method := { name := "<init>", desc := "(DDD)V", sig := { parameters := [.double, .double, .double], returnType := none }, accessFlags := 1, code := some k3c1 }
def k3c2 : Code := { maxStack := 6, maxLocals := 11, code := prog_38_method_3_code, exceptionTable := #[], attributes := #[] }
def k3m2 : Method := { name := "tf", desc := "(DIID)D", sig := { parameters := [.double, .int, .int, .double], returnType := some .double }, accessFlags := 1, code := some k3c2 }
def k3c3 : Code := { maxStack := 5, maxLocals := 3, code := prog_38_method_5_code, exceptionTable := #[], attributes := #[] }
def k3m3 : Method := { name := "requireFiniteNonNegative", desc := "(Ljava/lang/String;D)D", sig := { parameters := [(.object "java/lang/String"), .double], returnType := some .double }, accessFlags := 10, code := some k3c3 }
/-- com/example/morro/morro/rank/Bm25 -/
def k3 : Class := { plain "com/example/morro/morro/rank/Bm25" (some 0) with
  accessFlags := 49
  interfaces := #[]
  cf := some (fileOf pool3 1 #[] #[{ accessFlags := 1, nameIndex := 11, descriptorIndex := 17, attributes := #[] }, { accessFlags := 1, nameIndex := 11, descriptorIndex := 12, attributes := #[] }, { accessFlags := 1, nameIndex := 72, descriptorIndex := 73, attributes := #[] }, { accessFlags := 10, nameIndex := 31, descriptorIndex := 32, attributes := #[] }] 49 14 #[] #[{ accessFlags := 25, nameIndex := 65, descriptorIndex := 35, attributes := #[] }, { accessFlags := 25, nameIndex := 67, descriptorIndex := 35, attributes := #[] }, { accessFlags := 25, nameIndex := 68, descriptorIndex := 35, attributes := #[] }, { accessFlags := 26, nameIndex := 53, descriptorIndex := 35, attributes := #[] }, { accessFlags := 18, nameIndex := 28, descriptorIndex := 35, attributes := #[] }, { accessFlags := 18, nameIndex := 38, descriptorIndex := 35, attributes := #[] }, { accessFlags := 18, nameIndex := 40, descriptorIndex := 35, attributes := #[] }])
  fields := #[{ name := "DEFAULT_K1", type := .double, accessFlags := 25, slot := 0, constantValue := 0 }, { name := "DEFAULT_B", type := .double, accessFlags := 25, slot := 1, constantValue := 0 }, { name := "DEFAULT_K3", type := .double, accessFlags := 25, slot := 2, constantValue := 0 }, { name := "LN_2", type := .double, accessFlags := 26, slot := 3, constantValue := 0 }, { name := "k1", type := .double, accessFlags := 18, slot := 0, constantValue := 0 }, { name := "b", type := .double, accessFlags := 18, slot := 1, constantValue := 0 }, { name := "k3", type := .double, accessFlags := 18, slot := 2, constantValue := 0 }]
  methods := #[k3m0, k3m1, k3m2, k3m3]
  instanceTypes := #[.double, .double, .double]
  staticTypes := #[.double, .double, .double, .double]
  resolved := Array.replicate 96 none
  statics := none }

def pool4 : Array CpInfo := pool [(1, .class_ 2), (0, u "java/io/Serializable"), (0, .class_ 4), (0, u "java/lang/Object")] 2

/-- java/io/Serializable -/
def k4 : Class := { plain "java/io/Serializable" (some 0) with
  accessFlags := 1537
  interfaces := #[]
  cf := some (fileOf pool4 1 #[] #[] 1537 3 #[] #[])
  fields := #[]
  methods := #[]
  instanceTypes := #[]
  staticTypes := #[]
  resolved := Array.replicate 7 none
  statics := none }

def pool5 : Array CpInfo := pool [(1, .class_ 2), (0, u "java/lang/Comparable"), (0, .class_ 4), (0, u "java/lang/Object")] 7

/-- java/lang/Comparable -/
def k5 : Class := { plain "java/lang/Comparable" (some 0) with
  accessFlags := 1537
  interfaces := #[]
  cf := some (fileOf pool5 1 #[] #[] 1537 3 #[] #[])
  fields := #[]
  methods := #[]
  instanceTypes := #[]
  staticTypes := #[]
  resolved := Array.replicate 12 none
  statics := none }

def pool6 : Array CpInfo := pool [(2, .class_ 4), (1, u "java/lang/CharSequence"), (42, .class_ 48), (0, u "java/lang/CharSequence$1CodePointIterator"), (10, .class_ 60), (0, u "java/lang/CharSequence$1CharIterator"), (5, .class_ 67), (0, u "java/lang/Object")] 63

/-- java/lang/CharSequence -/
def k6 : Class := { plain "java/lang/CharSequence" (some 0) with
  accessFlags := 1537
  interfaces := #[]
  cf := some (fileOf pool6 2 #[.nestMembers #[47, 59]] #[] 1537 66 #[] #[])
  fields := #[]
  methods := #[]
  instanceTypes := #[]
  staticTypes := #[]
  resolved := Array.replicate 131 none
  statics := none }

def pool7 : Array CpInfo := pool [(1, .class_ 2), (0, u "java/lang/constant/Constable"), (0, .class_ 4), (0, u "java/lang/Object")] 6

/-- java/lang/constant/Constable -/
def k7 : Class := { plain "java/lang/constant/Constable" (some 0) with
  accessFlags := 1537
  interfaces := #[]
  cf := some (fileOf pool7 1 #[] #[] 1537 3 #[] #[])
  fields := #[]
  methods := #[]
  instanceTypes := #[]
  staticTypes := #[]
  resolved := Array.replicate 11 none
  statics := none }

def pool8 : Array CpInfo := pool [(1, .class_ 2), (0, u "java/lang/constant/ConstantDesc"), (0, .class_ 4), (0, u "java/lang/Object")] 32

/-- java/lang/constant/ConstantDesc -/
def k8 : Class := { plain "java/lang/constant/ConstantDesc" (some 0) with
  accessFlags := 1537
  interfaces := #[]
  cf := some (fileOf pool8 1 #[] #[] 1537 3 #[] #[])
  fields := #[]
  methods := #[]
  instanceTypes := #[]
  staticTypes := #[]
  resolved := Array.replicate 37 none
  statics := none }

def pool9 : Array CpInfo := pool [(2, .class_ 4), (1, u "java/lang/Object"), (0, u "<init>"), (0, u "()V"), (3, .class_ 12), (1, u "java/lang/String"), (0, u "value"), (0, u "[B"), (2, u "coder"), (0, u "B"), (2, u "hash"), (0, u "I"), (2, u "hashIsZero"), (0, u "Z"), (13, u "COMPACT_STRINGS"), (534, .class_ 576), (0, u "java/lang/CharSequence"), (22, u "CASE_INSENSITIVE_ORDER"), (0, u "Ljava/util/Comparator;"), (500, u "serialPersistentFields"), (0, u "[Ljava/io/ObjectStreamField;"), (0, .class_ 1104), (0, u "java/lang/String$CaseInsensitiveComparator"), (1, .class_ 1107), (0, u "java/io/Serializable"), (0, .class_ 1109), (0, u "java/lang/Comparable"), (0, .class_ 1111), (0, u "java/lang/constant/Constable"), (0, .class_ 1113), (0, u "java/lang/constant/ConstantDesc"), (2, u "serialVersionUID"), (0, u "J"), (3, u "REPL"), (0, u "C"), (2, u "LATIN1"), (1, u "UTF16")] 323

def k9m0 : Method := { name := "<init>", desc := "()V", sig := { parameters := [], returnType := none }, accessFlags := 1, code := none }
/-- java/lang/String -/
def k9 : Class := { plain "java/lang/String" (some 0) with
  accessFlags := 49
  interfaces := #[4, 5, 6, 7, 8]
  cf := some (fileOf pool9 10 #[.nestMembers #[1103]] #[{ accessFlags := 1, nameIndex := 5, descriptorIndex := 6, attributes := #[] }] 49 2 #[1106, 1108, 575, 1110, 1112] #[{ accessFlags := 18, nameIndex := 13, descriptorIndex := 14, attributes := #[] }, { accessFlags := 18, nameIndex := 17, descriptorIndex := 18, attributes := #[] }, { accessFlags := 2, nameIndex := 21, descriptorIndex := 22, attributes := #[] }, { accessFlags := 2, nameIndex := 25, descriptorIndex := 26, attributes := #[] }, { accessFlags := 26, nameIndex := 1116, descriptorIndex := 1117, attributes := #[] }, { accessFlags := 24, nameIndex := 40, descriptorIndex := 26, attributes := #[] }, { accessFlags := 26, nameIndex := 1101, descriptorIndex := 1102, attributes := #[] }, { accessFlags := 26, nameIndex := 1121, descriptorIndex := 1122, attributes := #[] }, { accessFlags := 25, nameIndex := 599, descriptorIndex := 600, attributes := #[] }, { accessFlags := 24, nameIndex := 1125, descriptorIndex := 18, attributes := #[] }, { accessFlags := 24, nameIndex := 1127, descriptorIndex := 18, attributes := #[] }])
  fields := #[{ name := "value", type := (.array .byte), accessFlags := 18, slot := 0, constantValue := 0 }, { name := "coder", type := .byte, accessFlags := 18, slot := 1, constantValue := 0 }, { name := "hash", type := .int, accessFlags := 2, slot := 2, constantValue := 0 }, { name := "hashIsZero", type := .boolean, accessFlags := 2, slot := 3, constantValue := 0 }, { name := "serialVersionUID", type := .long, accessFlags := 26, slot := 0, constantValue := 0 }, { name := "COMPACT_STRINGS", type := .boolean, accessFlags := 24, slot := 1, constantValue := 0 }, { name := "serialPersistentFields", type := (.array (.object "java/io/ObjectStreamField")), accessFlags := 26, slot := 2, constantValue := 0 }, { name := "REPL", type := .char, accessFlags := 26, slot := 3, constantValue := 0 }, { name := "CASE_INSENSITIVE_ORDER", type := (.object "java/util/Comparator"), accessFlags := 25, slot := 4, constantValue := 0 }, { name := "LATIN1", type := .byte, accessFlags := 24, slot := 5, constantValue := 0 }, { name := "UTF16", type := .byte, accessFlags := 24, slot := 6, constantValue := 0 }]
  methods := #[k9m0]
  instanceTypes := #[(.array .byte), .byte, .int, .boolean]
  staticTypes := #[.long, .boolean, (.array (.object "java/io/ObjectStreamField")), .char, (.object "java/util/Comparator"), .byte, .byte]
  resolved := Array.replicate 1451 none
  statics := none }

def pool10 : Array CpInfo := pool [(2, .class_ 4), (1, u "java/lang/Object"), (0, u "<init>"), (0, u "()V"), (1, .class_ 10), (1, u "java/lang/Number"), (2, .class_ 14), (0, u "java/io/Serializable"), (0, u "serialVersionUID"), (0, u "J")] 20

def k10m0 : Method := { name := "<init>", desc := "()V", sig := { parameters := [], returnType := none }, accessFlags := 1, code := none }
/-- java/lang/Number -/
def k10 : Class := { plain "java/lang/Number" (some 0) with
  accessFlags := 1057
  interfaces := #[4]
  cf := some (fileOf pool10 8 #[] #[{ accessFlags := 1, nameIndex := 5, descriptorIndex := 6, attributes := #[] }] 1057 2 #[13] #[{ accessFlags := 26, nameIndex := 15, descriptorIndex := 16, attributes := #[] }])
  fields := #[{ name := "serialVersionUID", type := .long, accessFlags := 26, slot := 0, constantValue := 0 }]
  methods := #[k10m0]
  instanceTypes := #[]
  staticTypes := #[.long]
  resolved := Array.replicate 37 none
  statics := none }

def pool11 : Array CpInfo := pool [(1, .class_ 2), (0, u "java/lang/Double"), (10, u "isFinite"), (0, u "(D)Z"), (8, .class_ 25), (1, u "java/lang/Math"), (12, .methodref 23 39), (0, .nameAndType 40 41), (0, u "abs"), (0, u "(D)D"), (69, .double 9218868437227405311), (2, .class_ 116), (1, u "java/lang/Number"), (3, u "value"), (0, u "D"), (51, u "TYPE"), (0, u "Ljava/lang/Class;"), (0, .class_ 176), (0, u "java/lang/Comparable"), (0, .class_ 178), (0, u "java/lang/constant/Constable"), (0, .class_ 180), (0, u "java/lang/constant/ConstantDesc"), (0, u "POSITIVE_INFINITY"), (3, u "NEGATIVE_INFINITY"), (2, u "NaN"), (2, u "MAX_VALUE"), (0, u "MIN_NORMAL"), (0, u "MIN_VALUE"), (2, u "SIZE"), (0, u "I"), (1, u "PRECISION"), (1, u "MAX_EXPONENT"), (1, u "MIN_EXPONENT"), (1, u "BYTES"), (3, u "serialVersionUID"), (0, u "J")] 79

def k11c0 : Code := { maxStack := 4, maxLocals := 2, code := jdk_117_method_8_code, exceptionTable := #[], attributes := #[] }
def k11m0 : Method := { name := "isFinite", desc := "(D)Z", sig := { parameters := [.double], returnType := some .boolean }, accessFlags := 9, code := some k11c0 }
/-- java/lang/Double -/
def k11 : Class := { plain "java/lang/Double" (some 10) with
  accessFlags := 49
  interfaces := #[5, 7, 8]
  cf := some (fileOf pool11 1 #[] #[{ accessFlags := 9, nameIndex := 13, descriptorIndex := 14, attributes := #[] }] 49 114 #[175, 177, 179] #[{ accessFlags := 25, nameIndex := 181, descriptorIndex := 121, attributes := #[] }, { accessFlags := 25, nameIndex := 185, descriptorIndex := 121, attributes := #[] }, { accessFlags := 25, nameIndex := 188, descriptorIndex := 121, attributes := #[] }, { accessFlags := 25, nameIndex := 191, descriptorIndex := 121, attributes := #[] }, { accessFlags := 25, nameIndex := 192, descriptorIndex := 121, attributes := #[] }, { accessFlags := 25, nameIndex := 193, descriptorIndex := 121, attributes := #[] }, { accessFlags := 25, nameIndex := 196, descriptorIndex := 197, attributes := #[] }, { accessFlags := 25, nameIndex := 199, descriptorIndex := 197, attributes := #[] }, { accessFlags := 25, nameIndex := 201, descriptorIndex := 197, attributes := #[] }, { accessFlags := 25, nameIndex := 203, descriptorIndex := 197, attributes := #[] }, { accessFlags := 25, nameIndex := 205, descriptorIndex := 197, attributes := #[] }, { accessFlags := 25, nameIndex := 173, descriptorIndex := 174, attributes := #[] }, { accessFlags := 18, nameIndex := 120, descriptorIndex := 121, attributes := #[] }, { accessFlags := 26, nameIndex := 209, descriptorIndex := 210, attributes := #[] }])
  fields := #[{ name := "POSITIVE_INFINITY", type := .double, accessFlags := 25, slot := 0, constantValue := 0 }, { name := "NEGATIVE_INFINITY", type := .double, accessFlags := 25, slot := 1, constantValue := 0 }, { name := "NaN", type := .double, accessFlags := 25, slot := 2, constantValue := 0 }, { name := "MAX_VALUE", type := .double, accessFlags := 25, slot := 3, constantValue := 0 }, { name := "MIN_NORMAL", type := .double, accessFlags := 25, slot := 4, constantValue := 0 }, { name := "MIN_VALUE", type := .double, accessFlags := 25, slot := 5, constantValue := 0 }, { name := "SIZE", type := .int, accessFlags := 25, slot := 6, constantValue := 0 }, { name := "PRECISION", type := .int, accessFlags := 25, slot := 7, constantValue := 0 }, { name := "MAX_EXPONENT", type := .int, accessFlags := 25, slot := 8, constantValue := 0 }, { name := "MIN_EXPONENT", type := .int, accessFlags := 25, slot := 9, constantValue := 0 }, { name := "BYTES", type := .int, accessFlags := 25, slot := 10, constantValue := 0 }, { name := "TYPE", type := (.object "java/lang/Class"), accessFlags := 25, slot := 11, constantValue := 0 }, { name := "value", type := .double, accessFlags := 18, slot := 0, constantValue := 0 }, { name := "serialVersionUID", type := .long, accessFlags := 26, slot := 12, constantValue := 0 }]
  methods := #[k11m0]
  instanceTypes := #[.double]
  staticTypes := #[.double, .double, .double, .double, .double, .double, .int, .int, .int, .int, .int, (.object "java/lang/Class"), .long]
  resolved := Array.replicate 290 none
  statics := none }

def pool12 : Array CpInfo := pool [(1, u "java/lang/Cloneable"), (0, .class_ 1), (0, u "java/lang/Object"), (0, .class_ 3)] 3

/-- java/lang/Cloneable -/
def k12 : Class := { plain "java/lang/Cloneable" (some 0) with
  accessFlags := 1537
  interfaces := #[]
  cf := some (fileOf pool12 2 #[] #[] 1537 4 #[] #[])
  fields := #[]
  methods := #[]
  instanceTypes := #[]
  staticTypes := #[]
  resolved := Array.replicate 8 none
  statics := none }

/-- the primitive byte -/
def k13 : Class := { plain "byte" none with kind := .primitive 'B', accessFlags := 0x411 }
/-- [B -/
def k14 : Class := { plain "[B" (some 0) with kind := .array 13 .byte, interfaces := #[12, 4], accessFlags := 1041 }

/-- the primitive int -/
def k15 : Class := { plain "int" none with kind := .primitive 'I', accessFlags := 0x411 }
/-- [I -/
def k16 : Class := { plain "[I" (some 0) with kind := .array 15 .int, interfaces := #[12, 4], accessFlags := 1041 }

def heap : Heap := #[]
def classes : Array Class := #[k0, k1, k2, k3, k4, k5, k6, k7, k8, k9, k10, k11, k12, k13, k14, k15, k16]
def interned : List (Array UInt16 × Addr) := []
def slotsUsed : Nat := 0
def theMethod : MethodId := ⟨1, 1⟩
def args0 : Array Value := #[.int 0, .int 0, .int 0, .int 0, .int 0, .int 0]
def aboutOver (below : List Frame) : State where
  vm := { classes := classes, interned := interned.toArray }
  heap := heap
  slotsUsed := slotsUsed
  threads := #[{ frames := .invoking theMethod args0 :: below }]
def below0 : List Frame := [.native { method := ⟨0, 0⟩, args := #[] }]
def about1 : State := aboutOver below0
def p0 : Program := .bare "" "" ""
def e0 : Env := launch0.env 0 0 0
theorem w_frames : about1.frames = Frame.invoking theMethod args0 :: below0 := rfl
set_option maxRecDepth 65536 in
theorem w_args : argsFit about1.vm theMethod args0 = true := by decide +kernel
set_option maxRecDepth 65536 in
theorem w_heap : heapFits about1 = true := by decide +kernel
set_option maxRecDepth 65536 in
theorem w_runnable : about1.curStatus? = some .runnable := by decide +kernel
set_option maxRecDepth 65536 in
theorem w_alone : about1.alone = true := by decide +kernel
set_option maxRecDepth 65536 in
theorem w_named : about1.methodNamed? x = some theMethod := by decide +kernel
set_option maxRecDepth 65536 in
theorem w_hears : about1.hears theMethod below0 = true := by decide +kernel
set_option maxRecDepth 65536 in
theorem w_ripe : about1.ripe theMethod args0 below0 = true := by decide +kernel
theorem w_running : about1.status = .running := rfl
set_option maxRecDepth 65536 in
theorem w_room : about1.hasRoom e0.platform room_1 = true :=
  launch0.hasRoom_least _ room_1 (by decide +kernel) (by decide +kernel) (by decide +kernel) (by decide +kernel) (by decide +kernel) (by decide +kernel)
theorem allAtoms_all (ts : List Jvm.Cond) (a : Array Jvm.Value) (st : Jvm.State) : (allAtoms ts).before a st = ts.all (fun c => c.before a st) := by
  induction ts with
  | nil => rfl
  | cons c t ih =>
    show (Jvm.Cond.and c (allAtoms t)).before a st = _
    rw [Jvm.Cond.before_and, ih, List.all_cons]
def words1 : List Jvm.Cond := Jvm.Cond.code x code maxLocals ret :: tables_1
/-- a 'code' word, met by the world's own term for the bytes: nothing is compared byte by byte -/
theorem code_word {y : MethodName} {bytes : ByteArray} {mx : Nat} {rt : Option FieldType} {a : Array Value} {s : State} {m : MethodId} {meth : Method} {c : Code} (h1 : s.methodNamed? y = some m) (h2 : s.vm.method? m = some meth) (h3 : meth.code = some c) (h4 : c.code = bytes)
    (h5 : (c.maxLocals == mx && c.exceptionTable.isEmpty && decide (c.maxStack ≤ mostOperands) && decide (meth.sig.returnType = rt) && !meth.locks && decide (parseMethodDescriptor y.desc = some meth.sig)) = true) : (Jvm.Cond.code y bytes mx rt).before a s = true := by
  simp only [Bool.and_eq_true, beq_iff_eq, Bool.not_eq_true', decide_eq_true_eq] at h5
  obtain ⟨⟨⟨⟨⟨g1, g2⟩, g3⟩, g4⟩, g5⟩, g6⟩ := h5
  simp [Cond.before, Cond.holds, Cond.value, h1, h2, h3, h4, g1, g2, g3, g4, g5, g6]
def isCode : Jvm.Cond → Bool
  | .code _ _ _ _ => true
  | _ => false
theorem all_split {L : List Jvm.Cond} {P : Jvm.Cond → Bool} (h1 : L.all (fun c => isCode c || P c) = true) (h2 : ∀ c ∈ L.filter isCode, P c = true) : L.all P = true := by
  refine List.all_eq_true.mpr fun c hc => ?_
  have h := List.all_eq_true.mp h1 c hc
  rcases Bool.eq_false_or_eq_true (isCode c) with hi | hi
  · exact h2 c (List.mem_filter.mpr ⟨hc, hi⟩)
  · simpa [hi] using h
set_option maxRecDepth 65536 in
theorem w_c0 : (Jvm.Cond.code x code maxLocals ret).before args0 about1 = true := code_word (m := ⟨1, 1⟩) (meth := k1m1) (c := k1c1) (by decide +kernel) rfl rfl rfl (by decide +kernel)
set_option maxRecDepth 65536 in
theorem w_c1 : (Jvm.Cond.code ({ cls := "java/lang/Math", name := "min", desc := "(JJ)J" } : Jvm.MethodName) jdk_29_method_70_code (4 : Nat) (Option.some Jvm.ClassFile.FieldType.long)).before args0 about1 = true := code_word (m := ⟨2, 2⟩) (meth := k2m2) (c := k2c2) (by decide +kernel) rfl rfl rfl (by decide +kernel)
set_option maxRecDepth 65536 in
theorem w_c2 : (Jvm.Cond.code ({ cls := "com/example/morro/morro/rank/Bm25", name := "<init>", desc := "(DDD)V" } : Jvm.MethodName) prog_38_method_2_code (7 : Nat) (Option.none : Option Jvm.ClassFile.FieldType)).before args0 about1 = true := code_word (m := ⟨3, 1⟩) (meth := k3m1) (c := k3c1) (by decide +kernel) rfl rfl rfl (by decide +kernel)
set_option maxRecDepth 65536 in
theorem w_c3 : (Jvm.Cond.code ({ cls := "java/lang/Object", name := "<init>", desc := "()V" } : Jvm.MethodName) object_method_1_code (1 : Nat) (Option.none : Option Jvm.ClassFile.FieldType)).before args0 about1 = true := code_word (m := ⟨0, 0⟩) (meth := k0m0) (c := k0c0) (by decide +kernel) rfl rfl rfl (by decide +kernel)
set_option maxRecDepth 65536 in
theorem w_c4 : (Jvm.Cond.code ({ cls := "com/example/morro/morro/rank/Bm25", name := "requireFiniteNonNegative", desc := "(Ljava/lang/String;D)D" } : Jvm.MethodName) prog_38_method_5_code (3 : Nat) (Option.some Jvm.ClassFile.FieldType.double)).before args0 about1 = true := code_word (m := ⟨3, 3⟩) (meth := k3m3) (c := k3c3) (by decide +kernel) rfl rfl rfl (by decide +kernel)
set_option maxRecDepth 65536 in
theorem w_c5 : (Jvm.Cond.code ({ cls := "java/lang/Double", name := "isFinite", desc := "(D)Z" } : Jvm.MethodName) jdk_117_method_8_code (2 : Nat) (Option.some Jvm.ClassFile.FieldType.boolean)).before args0 about1 = true := code_word (m := ⟨11, 0⟩) (meth := k11m0) (c := k11c0) (by decide +kernel) rfl rfl rfl (by decide +kernel)
set_option maxRecDepth 65536 in
theorem w_c6 : (Jvm.Cond.code ({ cls := "java/lang/Math", name := "abs", desc := "(D)D" } : Jvm.MethodName) jdk_29_method_64_code (2 : Nat) (Option.some Jvm.ClassFile.FieldType.double)).before args0 about1 = true := code_word (m := ⟨2, 1⟩) (meth := k2m1) (c := k2c1) (by decide +kernel) rfl rfl rfl (by decide +kernel)
set_option maxRecDepth 65536 in
theorem w_c7 : (Jvm.Cond.code ({ cls := "com/example/morro/morro/rank/Bm25", name := "tf", desc := "(DIID)D" } : Jvm.MethodName) prog_38_method_3_code (11 : Nat) (Option.some Jvm.ClassFile.FieldType.double)).before args0 about1 = true := code_word (m := ⟨3, 2⟩) (meth := k3m2) (c := k3c2) (by decide +kernel) rfl rfl rfl (by decide +kernel)
def codes1 : List Jvm.Cond := [Jvm.Cond.code x code maxLocals ret, Jvm.Cond.code ({ cls := "java/lang/Math", name := "min", desc := "(JJ)J" } : Jvm.MethodName) jdk_29_method_70_code (4 : Nat) (Option.some Jvm.ClassFile.FieldType.long), Jvm.Cond.code ({ cls := "com/example/morro/morro/rank/Bm25", name := "<init>", desc := "(DDD)V" } : Jvm.MethodName) prog_38_method_2_code (7 : Nat) (Option.none : Option Jvm.ClassFile.FieldType), Jvm.Cond.code ({ cls := "java/lang/Object", name := "<init>", desc := "()V" } : Jvm.MethodName) object_method_1_code (1 : Nat) (Option.none : Option Jvm.ClassFile.FieldType), Jvm.Cond.code ({ cls := "com/example/morro/morro/rank/Bm25", name := "requireFiniteNonNegative", desc := "(Ljava/lang/String;D)D" } : Jvm.MethodName) prog_38_method_5_code (3 : Nat) (Option.some Jvm.ClassFile.FieldType.double), Jvm.Cond.code ({ cls := "java/lang/Double", name := "isFinite", desc := "(D)Z" } : Jvm.MethodName) jdk_117_method_8_code (2 : Nat) (Option.some Jvm.ClassFile.FieldType.boolean), Jvm.Cond.code ({ cls := "java/lang/Math", name := "abs", desc := "(D)D" } : Jvm.MethodName) jdk_29_method_64_code (2 : Nat) (Option.some Jvm.ClassFile.FieldType.double), Jvm.Cond.code ({ cls := "com/example/morro/morro/rank/Bm25", name := "tf", desc := "(DIID)D" } : Jvm.MethodName) prog_38_method_3_code (11 : Nat) (Option.some Jvm.ClassFile.FieldType.double)]
set_option maxRecDepth 65536 in
theorem codes_eq : words1.filter isCode = codes1 := rfl
theorem w_codes : ∀ c ∈ words1.filter isCode, c.before args0 about1 = true := by
  rw [codes_eq]
  intro c hc
  simp only [codes1, List.mem_cons, List.not_mem_nil, or_false] at hc
  rcases hc with rfl | rfl | rfl | rfl | rfl | rfl | rfl | rfl
  · exact w_c0
  · exact w_c1
  · exact w_c2
  · exact w_c3
  · exact w_c4
  · exact w_c5
  · exact w_c6
  · exact w_c7
set_option maxRecDepth 65536 in
theorem w_t1 : (words1.take 24).all (fun c => isCode c || c.before args0 about1) = true := by decide +kernel
set_option maxRecDepth 65536 in
theorem w_t2 : ((words1.drop 24).take 24).all (fun c => isCode c || c.before args0 about1) = true := by decide +kernel
set_option maxRecDepth 65536 in
theorem w_t3 : ((words1.drop 24).drop 24).all (fun c => isCode c || c.before args0 about1) = true := by decide +kernel
theorem w_tables : (allAtoms (Jvm.Cond.code x code maxLocals ret :: tables_1)).before args0 about1 = true := by
  rw [allAtoms_all]
  show words1.all (fun c => c.before args0 about1) = true
  refine all_split ?_ w_codes
  rw [← List.take_append_drop 24 words1, List.all_append, w_t1, ← List.take_append_drop 24 (words1.drop 24), List.all_append, w_t2, w_t3]
  rfl
set_option maxRecDepth 65536 in
theorem w_case : (Jvm.Cond.and given_1 narrow_1).before args0 about1 = true := by decide +kernel
theorem w_applies : (headSpec (Jvm.Cond.code x code maxLocals ret :: tables_1) room_1).applies x e0.platform about1 = true :=
  (Spec.applies_iff w_frames).mpr ⟨w_running, w_runnable, w_alone, w_named, w_hears, w_ripe, w_room, w_tables⟩
theorem atStart : AtStart classFile x code maxLocals ret World_1 tables_1 room_1 Calls_1 rest_1 Pre_1 launch0 p0 e0 about1 theMethod args0 below0 :=
  ⟨lists_1, trivial, launch0.admits_env _ _ _, launch0.least_env, fairChoices_fair.cas, fairChoices_fair.clock, w_frames, w_args, w_heap, w_applies, trivial, trivial, w_case⟩
end start1
theorem witness_1 : WitnessClaimed_1 := ⟨start1.p0, start1.e0, start1.about1, start1.theMethod, start1.args0, start1.below0, start1.atStart⟩
end Jvm.Pilot.@@N@@
