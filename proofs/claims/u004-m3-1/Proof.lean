import JvmDerived
import JvmDerived.Pilot.@@N@@Statement
import JvmDerived.Pilot.@@N@@Code
set_option linter.unusedVariables false
set_option linter.unusedSimpArgs false
@@BLOCK:NumsL.lean.txt@@
namespace Jvm.RoadKit
open Sem ClassFile Op Lib Jvm.Stand Jvm.Free Jvm.LawKit
section New
variable {p : Program} {l : Launch} {e : Env} {R : Room} {s : State} {m : MethodId} {args : Array Value} {below : List Frame} {meth : Method} {c : Code} {T : State} {locs : List Loc} {cells slots : Nat}
theorem retI (X : Stand p l e R s m args below meth c T locs cells slots) (hx : p.tables.exec = Jvm.exec) {pc : Nat} {Ls : Array Slot} {z : Int32} {rest : List Value} (hret : meth.sig.returnType = some .int) (hd : decode c.code pc = .ok (.ireturn, 1)) {fs : List Frame}
    (hl : ∀ (f : JFrame) (acts : List Action), f.method = m → f.locked = none → f.entered = [] → (doReturn e (T.setTop f) acts (some (.int z))).1 = T.setFrames fs) : Steps p.tables e below (T.setTop (mkF m pc Ls (.int z :: rest))) (T.setFrames fs) := by
  have hm' : T.vm.method? m = some meth := X.method'
  have hn : narrow .int (.int z) = .int z := rfl
  show Steps p.tables e below (T.setTop { method := m, pc := pc, locals := Ls, stack := _ :: rest, locked := none }) _
  jvm_step X.here [X.here.top, hx, hd, hm', hret, hn]
  first | (intro acts; rw [hl _ acts rfl rfl rfl]) | rw [hl _ _ rfl rfl rfl]
  exact Steps.refl _
end New
end Jvm.RoadKit
namespace Jvm.Pilot.@@N@@
open Jvm Jvm.ClassFile Sem Op Lib Jvm.Free Jvm.Stand Jvm.LawKit Jvm.RoadKit Bundle Jvm.Pilot.@@N@@.Jvm.D

theorem own_lltT {x y : Int64} (h : x < y) : ifCond.holds .lt (lcmpW x y) = true := (if0 _ _).trans ((tlt (by rw [lcW]; exact (lc_lt x y).mpr h)).1)
theorem own_lltF {x y : Int64} (h : ¬ (x < y)) : ifCond.holds .lt (lcmpW x y) = false := (if0 _ _).trans ((flt (by rw [lcW]; exact fun q => h ((lc_lt x y).mp q))).1)
theorem own_lgeT {x y : Int64} (h : ¬ (x < y)) : ifCond.holds .ge (lcmpW x y) = true := (if0 _ _).trans ((flt (by rw [lcW]; exact fun q => h ((lc_lt x y).mp q))).2.1)
theorem own_lgeF {x y : Int64} (h : x < y) : ifCond.holds .ge (lcmpW x y) = false := (if0 _ _).trans ((tlt (by rw [lcW]; exact (lc_lt x y).mpr h)).2.1)
theorem own_lgtT {x y : Int64} (h : y < x) : ifCond.holds .gt (lcmpW x y) = true := (if0 _ _).trans ((tlt (by rw [lcW]; exact (lc_gt x y).mpr h)).2.2.1)
theorem own_lgtF {x y : Int64} (h : ¬ (y < x)) : ifCond.holds .gt (lcmpW x y) = false := (if0 _ _).trans ((flt (by rw [lcW]; exact fun q => h ((lc_gt x y).mp q))).2.2.1)
theorem own_lleT {x y : Int64} (h : ¬ (y < x)) : ifCond.holds .le (lcmpW x y) = true := (if0 _ _).trans ((flt (by rw [lcW]; exact fun q => h ((lc_gt x y).mp q))).2.2.2)
theorem own_lleF {x y : Int64} (h : y < x) : ifCond.holds .le (lcmpW x y) = false := (if0 _ _).trans ((tlt (by rw [lcW]; exact (lc_gt x y).mpr h)).2.2.2)
theorem own_leqT {x y : Int64} (h : x = y) : ifCond.holds .eq (lcmpW x y) = true := (if0 _ _).trans ((teq (by rw [lcW]; exact (lc_eq x y).mpr h)).1)
theorem own_leqF {x y : Int64} (h : ¬ (x = y)) : ifCond.holds .eq (lcmpW x y) = false := (if0 _ _).trans ((feq (by rw [lcW]; exact fun q => h ((lc_eq x y).mp q))).1)
theorem own_lneT {x y : Int64} (h : ¬ (x = y)) : ifCond.holds .ne (lcmpW x y) = true := (if0 _ _).trans ((feq (by rw [lcW]; exact fun q => h ((lc_eq x y).mp q))).2)
theorem own_lneF {x y : Int64} (h : x = y) : ifCond.holds .ne (lcmpW x y) = false := (if0 _ _).trans ((teq (by rw [lcW]; exact (lc_eq x y).mpr h)).2)
theorem d5_0 : decode jdk_92_method_1_code 0 = .ok (.iload_n 0, 1) := by decide +kernel
theorem d5_1 : decode jdk_92_method_1_code 1 = .ok (.bipush 6, 2) := by decide +kernel
theorem d5_3 : decode jdk_92_method_1_code 3 = .ok (.ishr, 1) := by decide +kernel
theorem d5_4 : decode jdk_92_method_1_code 4 = .ok (.ireturn, 1) := by decide +kernel
theorem pn_java_util_BitSet : plainName "java/util/BitSet" = true := by first | (simp [plainName, overriddenIn]; done) | decide +kernel
theorem ef_rm5 (m : MethodId) (p1 : Int32) : entryFrame m #[(.int p1)] 1 = mkF m 0 #[.val (.int p1)] [] := by first | (simp [entryFrame, mkF, argsToLocals, Value.category]; done) | rfl
def Q_rm5 (Z : State) (p1 : Int32) (h0 : Heap) (n0 : Nat) (v : Option Value) (h : Heap) (L : List Loc) : Prop := v = some (.int (p1 >>> ((6 : Int32) &&& 31))) ∧ Fr n0 L ∧ h = h0
set_option maxRecDepth 65536 in
set_option maxHeartbeats 40000000 in
theorem rm5 (l : Launch) (Z : State) (a0 : Array Value) (hw : ∀ d ∈ tables_1, d.before a0 Z = true) (ws : List Jvm.Cond) (p1 : Int32) (h0 : Heap) (n0 : Nat) (Z0 : n0 ≤ h0.size) :
    MetFree l (⟨"java/util/BitSet", "wordIndex", "(I)I"⟩ : MethodName) (head1 (Jvm.Cond.code (⟨"java/util/BitSet", "wordIndex", "(I)I"⟩ : MethodName) jdk_92_method_1_code 1 (some .int) :: ws) ({ frames := 0, cells := 0, slots := 0, locals := 0 } : Room)) (fun a U => a = #[(.int p1)] ∧ Z.Warmed39 U.vm ∧ U.heap = h0) (fun _ _ _ _ _ => True) (fun _ U o U' => ∃ v L, o = .returned v ∧ Q_rm5 Z p1 h0 n0 v U'.heap L ∧ FrameEnd U o U' L ({ frames := 0, cells := 0, slots := 0, locals := 0 } : Room).cells ({ frames := 0, cells := 0, slots := 0, locals := 0 } : Room).slots) := by
  refine MetFree.of_bodySF (plainFor_of_name pn_java_util_BitSet) hisR ?_
  intro p e s m args below meth c s₁ Bd hml0 hP hK
  obtain ⟨rfl, hZ, hh⟩ := hP
  have hx := Bd.exec
  have hby := Bd.bytes
  have hml : c.maxLocals = 1 := hml0
  have hown : s.vm.findClass "java/util/BitSet" = some m.cls := findClass_of_methodNamed Bd.named
  have hnm := (name_of_methodNamed Bd.named Bd.method).1
  have X0 : Stand p l e ({ frames := 0, cells := 0, slots := 0, locals := 0 } : Room) s m #[(.int p1)] below meth c s₁ [] 0 0 := Stand.of_body Bd
  have e0 : s₁.heap = h0 := by rw [← hh, Bd.state]; rfl
  have N0 := Fr.nil n0
  have pre0 : ∀ t, Steps p.tables e below (s₁.setTop (mkF m 0 #[.val (.int p1)] [])) t → Steps p.tables e below (s₁.setTop (entryFrame m #[(.int p1)] 1)) t := fun t k => castTop (ef_rm5 m p1) k
  obtain ⟨fs, hr, hrun, hended, hW, hsame⟩ := X0.leave (v := some (.int (p1 >>> ((6 : Int32) &&& 31)))) (fun h => by rw [Bd.returns] at h; cases h)
  refine ⟨_, _, pre0 _ ?_, hrun, hended, _, _, rfl, ?_, ⟨_, rfl⟩, hW, hsame.mono (by decide) (by decide)⟩
  · show Steps p.tables e below (s₁.setTop (mkF m 0 #[.val (.int p1)] [])) _
    refine XS.iloadN X0.here hx rfl (hb hby d5_0) rfl ?_
    show Steps p.tables e below (s₁.setTop (mkF m 1 #[.val (.int p1)] [(.int p1)])) _
    refine XS.bipush X0.here hx rfl (hb hby d5_1) ?_
    show Steps p.tables e below (s₁.setTop (mkF m 3 #[.val (.int p1)] [(.int (6 : Int32)), (.int p1)])) _
    refine XS.ishr X0.here hx rfl (hb hby d5_3) rfl ?_
    show Steps p.tables e below (s₁.setTop (mkF m 4 #[.val (.int p1)] [(.int (p1 >>> ((6 : Int32) &&& 31)))])) _
    exact retI X0 hx Bd.returns (hb hby d5_4) hr
  · show Q_rm5 Z p1 h0 n0 _ s₁.heap _
    rw [e0]
    exact ⟨rfl, N0, rfl⟩
theorem d4_0 : decode jdk_92_method_6_code 0 = .ok (.aload_n 0, 1) := by decide +kernel
theorem d4_1 : decode jdk_92_method_6_code 1 = .ok (.iload_n 1, 1) := by decide +kernel
theorem d4_2 : decode jdk_92_method_6_code 2 = .ok (.iconst 1, 1) := by decide +kernel
theorem d4_3 : decode jdk_92_method_6_code 3 = .ok (.isub, 1) := by decide +kernel
theorem pd__28I_29I : parseMethodDescriptor "(I)I" = some ⟨[.int], some .int⟩ := by decide +kernel
theorem d4_4 : decode jdk_92_method_6_code 4 = .ok (.invokestatic 52, 3) := by decide +kernel
theorem d4_7 : decode jdk_92_method_6_code 7 = .ok (.iconst 1, 1) := by decide +kernel
theorem d4_8 : decode jdk_92_method_6_code 8 = .ok (.iadd, 1) := by decide +kernel
theorem d4_9 : decode jdk_92_method_6_code 9 = .ok (.newarray .long, 2) := by decide +kernel
theorem d4_11 : decode jdk_92_method_6_code 11 = .ok (.putfield 11, 3) := by decide +kernel
theorem d4_14 : decode jdk_92_method_6_code 14 = .ok (.return_, 1) := by decide +kernel
theorem ef_rm4 (m : MethodId) (a1 : Addr) : entryFrame m #[(.ref a1), (.int (64 : Int32))] 2 = mkF m 0 #[.val (.ref a1), .val (.int (64 : Int32))] [] := by first | (simp [entryFrame, mkF, argsToLocals, Value.category]; done) | rfl
def Q_rm4 (Z : State) (a1 : Addr) (u1 : Value) (u2 : Value) (h0 : Heap) (n0 : Nat) (v : Option Value) (h : Heap) (L : List Loc) : Prop := v = none ∧ Fr n0 L ∧ Keep h0 h [a1] ∧ Exa Z h a1 "java/util/BitSet" ∧ Fld Z h a1 "java/util/BitSet" "sizeIsSticky" "Z" u2
set_option maxRecDepth 65536 in
set_option maxHeartbeats 40000000 in
theorem rm4 (l : Launch) (Z : State) (a0 : Array Value) (hw : ∀ d ∈ tables_1, d.before a0 Z = true) (ws : List Jvm.Cond) (a1 : Addr) (u1 : Value) (u2 : Value) (h0 : Heap) (n0 : Nat) (Z0 : n0 ≤ h0.size) (E_a1 : Exa Z h0 a1 "java/util/BitSet") (F_words_a1 : Fld Z h0 a1 "java/util/BitSet" "words" "[J" u1) (F_sizeIsSticky_a1 : Fld Z h0 a1 "java/util/BitSet" "sizeIsSticky" "Z" u2) (g_a1 : n0 ≤ a1) :
    MetFree l (⟨"java/util/BitSet", "initWords", "(I)V"⟩ : MethodName) (head1 (Jvm.Cond.code (⟨"java/util/BitSet", "initWords", "(I)V"⟩ : MethodName) jdk_92_method_6_code 2 none :: ws) ({ frames := 1, cells := 1, slots := 1, locals := 13 } : Room)) (fun a U => a = #[(.ref a1), (.int (64 : Int32))] ∧ Z.Warmed39 U.vm ∧ U.heap = h0) (fun _ _ _ _ _ => True) (fun _ U o U' => ∃ v L, o = .returned v ∧ Q_rm4 Z a1 u1 u2 h0 n0 v U'.heap L ∧ FrameEnd U o U' L ({ frames := 1, cells := 1, slots := 1, locals := 13 } : Room).cells ({ frames := 1, cells := 1, slots := 1, locals := 13 } : Room).slots) := by
  refine MetFree.of_bodySF (plainFor_of_name pn_java_util_BitSet) hisR ?_
  intro p e s m args below meth c s₁ Bd hml0 hP hK
  obtain ⟨rfl, hZ, hh⟩ := hP
  have hx := Bd.exec
  have hby := Bd.bytes
  have hml : c.maxLocals = 2 := hml0
  have hown : s.vm.findClass "java/util/BitSet" = some m.cls := findClass_of_methodNamed Bd.named
  have hnm := (name_of_methodNamed Bd.named Bd.method).1
  have X0 : Stand p l e ({ frames := 1, cells := 1, slots := 1, locals := 13 } : Room) s m #[(.ref a1), (.int (64 : Int32))] below meth c s₁ [] 0 0 := Stand.of_body Bd
  have e0 : s₁.heap = h0 := by rw [← hh, Bd.state]; rfl
  have N0 := Fr.nil n0
  have pre0 : ∀ t, Steps p.tables e below (s₁.setTop (mkF m 0 #[.val (.ref a1), .val (.int (64 : Int32))] [])) t → Steps p.tables e below (s₁.setTop (entryFrame m #[(.ref a1), (.int (64 : Int32))] 2)) t := fun t k => castTop (ef_rm4 m a1) k
  obtain ⟨_, _, ⟨T1, L1, k1, n1⟩, -, X1, ⟨Lc1, hQ1, l1, y1, z1⟩, st1⟩ := Jvm.LawKit.callS X0 hx (y := (⟨"java/util/BitSet", "wordIndex", "(I)I"⟩ : MethodName)) hown (mvT hZ (hw _ (List.mem_of_getElem? (i := 26) rfl))) (mvT hZ (hw _ (List.mem_of_getElem? (i := 27) rfl))) (mvT hZ (hw _ (List.mem_of_getElem? (i := 12) rfl))) (mvT hZ (hw _ (List.mem_of_getElem? (i := 28) rfl))) (by decide) (backOf (W := 1) (rm5 l Z a0 hw [] ((64 : Int32) - (1 : Int32)) h0 n0 Z0 ) hZ (hw _ (List.mem_of_getElem? (i := 28) rfl)) (hw _ (List.mem_of_getElem? (i := 12) rfl)) (by decide) (by decide)) (g := (mkF m 4 #[.val (.ref a1), .val (.int (64 : Int32))] [(.int ((64 : Int32) - (1 : Int32))), (.ref a1)])) rfl (by rw [hml]; rfl) (argsL := [(.int ((64 : Int32) - (1 : Int32)))]) (rest := [(.ref a1)]) (lenOf pd__28I_29I rfl) rfl (by show 2 * 0 + _ ≤ _; exact Nat.le_of_eq rfl) (hb hby d4_4) (fun _ _ => ⟨rfl, e0, (by decide : 0 + 0 ≤ _), (by decide : 0 + 0 ≤ _)⟩)
  dsimp only [Pt.U, Pt.locs, Pt.cells, Pt.slots] at X1 l1 y1 z1 st1 hQ1
  subst l1 y1 z1
  obtain ⟨rfl, N1q, e1⟩ := hQ1
  have N1 := Fr.app N0 N1q
  obtain ⟨T2, h2, k2, X2, e2, E2, A2, st2⟩ := newP X1 hx hZ (hw _ (List.mem_of_getElem? (i := 29) rfl)) e1 (g := (mkF m 9 #[.val (.ref a1), .val (.int (64 : Int32))] [(.int ((((64 : Int32) - (1 : Int32)) >>> ((6 : Int32) &&& 31)) + (1 : Int32))), (.ref a1)])) rfl (hb hby d4_9) rfl (by decide) (cap := 1) (by decide) (by decide) (by decide) (by decide)
  obtain ⟨b2, g2⟩ : ∃ z, z = h0.size := ⟨_, rfl⟩
  rw [← g2] at A2 st2
  have ne_a1_b2 : a1 ≠ b2 := Nat.ne_of_lt (Nat.lt_of_lt_of_le E_a1.lt (Nat.le_of_eq g2.symm))
  have g_b2 : n0 ≤ b2 := Nat.le_trans Z0 (Nat.le_of_eq g2.symm)
  have sz_b2 : h0.size ≤ b2 := Nat.le_trans (Keep.refl h0 [a1]).1 (Nat.le_of_eq g2.symm)
  have K3 : Keep h0 h2 [a1] := (Keep.refl h0 [a1]).ext E2
  have V_b2 : Arv Z h2 b2 k2 .long ((((64 : Int32) - (1 : Int32)) >>> ((6 : Int32) &&& 31)) + (1 : Int32)) [] (.long (0 : Int64)) := Arv.new A2 (by decide)
  have f4 : Fld Z h2 a1 "java/util/BitSet" "words" "[J" u1 := (F_words_a1.ext E2)
  have f5 : Exa Z h2 a1 "java/util/BitSet" := (E_a1.ext E2)
  obtain ⟨T6, h6, X6, e6, W6, st6⟩ := putF X2 hx hZ hown (host := "") (Or.inl (hw _ (List.mem_of_getElem? (i := 30) rfl))) Via.refl e2 f4 f5 (Or.inl (hw _ (List.mem_of_getElem? (i := 31) rfl))) (hw _ (List.mem_of_getElem? (i := 11) rfl)) (ty := (.array .long)) (by decide) rfl rfl (g := (mkF m 11 #[.val (.ref a1), .val (.int (64 : Int32))] [(.ref b2), (.ref a1)])) rfl rfl (hb hby d4_11)
  have K7 : Keep h0 h6 [a1] := K3.wr W6 (Or.inl (List.mem_of_getElem? (i := 0) rfl))
  have N8 := Fr.snoc X6 N1 g_a1
  have Fw6 := f4.same W6
  have f9 : Exa Z h6 a1 "java/util/BitSet" := (f5.wr W6)
  have f10 : Fld Z h6 a1 "java/util/BitSet" "sizeIsSticky" "Z" u2 := ((F_sizeIsSticky_a1.ext E2).other W6 (Or.inr (slot_ne (Or.inl (hw _ (List.mem_of_getElem? (i := 20) rfl))) (Or.inl (hw _ (List.mem_of_getElem? (i := 31) rfl))) (by decide) (t := .boolean) (t' := (.array .long)) (by decide) (by decide))))
  obtain ⟨fs, hr, hrun, hended, hW, hsame⟩ := X6.leave (v := none) (fun _ => rfl)
  refine ⟨_, _, pre0 _ ?_, hrun, hended, _, _, rfl, ?_, ⟨_, rfl⟩, hW, hsame.mono (by decide) (by decide)⟩
  · show Steps p.tables e below (s₁.setTop (mkF m 0 #[.val (.ref a1), .val (.int (64 : Int32))] [])) _
    refine XS.aloadN X0.here hx rfl (hb hby d4_0) rfl rfl ?_
    show Steps p.tables e below (s₁.setTop (mkF m 1 #[.val (.ref a1), .val (.int (64 : Int32))] [(.ref a1)])) _
    refine XS.iloadN X0.here hx rfl (hb hby d4_1) rfl ?_
    show Steps p.tables e below (s₁.setTop (mkF m 2 #[.val (.ref a1), .val (.int (64 : Int32))] [(.int (64 : Int32)), (.ref a1)])) _
    refine XS.iconst X0.here hx rfl (hb hby d4_2) ?_
    show Steps p.tables e below (s₁.setTop (mkF m 3 #[.val (.ref a1), .val (.int (64 : Int32))] [(.int (1 : Int32)), (.int (64 : Int32)), (.ref a1)])) _
    refine XS.isub X0.here hx rfl (hb hby d4_3) rfl ?_
    show Steps p.tables e below (s₁.setTop (mkF m 4 #[.val (.ref a1), .val (.int (64 : Int32))] [(.int ((64 : Int32) - (1 : Int32))), (.ref a1)])) _
    refine st1 _ ?_
    show Steps p.tables e below (T1.setTop (mkF m 7 #[.val (.ref a1), .val (.int (64 : Int32))] [(.int (((64 : Int32) - (1 : Int32)) >>> ((6 : Int32) &&& 31))), (.ref a1)])) _
    refine XS.iconst X1.here hx rfl (hb hby d4_7) ?_
    show Steps p.tables e below (T1.setTop (mkF m 8 #[.val (.ref a1), .val (.int (64 : Int32))] [(.int (1 : Int32)), (.int (((64 : Int32) - (1 : Int32)) >>> ((6 : Int32) &&& 31))), (.ref a1)])) _
    refine XS.iadd X1.here hx rfl (hb hby d4_8) rfl ?_
    show Steps p.tables e below (T1.setTop (mkF m 9 #[.val (.ref a1), .val (.int (64 : Int32))] [(.int ((((64 : Int32) - (1 : Int32)) >>> ((6 : Int32) &&& 31)) + (1 : Int32))), (.ref a1)])) _
    refine st2 _ ?_
    show Steps p.tables e below (T2.setTop (mkF m 11 #[.val (.ref a1), .val (.int (64 : Int32))] [(.ref b2), (.ref a1)])) _
    refine st6 _ ?_
    show Steps p.tables e below (T6.setTop (mkF m 14 #[.val (.ref a1), .val (.int (64 : Int32))] [])) _
    exact X6.returnOut hx Bd.returns (hb hby d4_14) hr
  · show Q_rm4 Z a1 u1 u2 h0 n0 _ T6.heap _
    rw [e6]
    exact ⟨rfl, N8, K7, f9, f10⟩
theorem d3_0 : decode jdk_92_method_4_code 0 = .ok (.aload_n 0, 1) := by decide +kernel
theorem d3_1 : decode jdk_92_method_4_code 1 = .ok (.invokespecial 21, 3) := by decide +kernel
theorem d3_4 : decode jdk_92_method_4_code 4 = .ok (.aload_n 0, 1) := by decide +kernel
theorem d3_5 : decode jdk_92_method_4_code 5 = .ok (.iconst 0, 1) := by decide +kernel
theorem d3_6 : decode jdk_92_method_4_code 6 = .ok (.putfield 7, 3) := by decide +kernel
theorem d3_9 : decode jdk_92_method_4_code 9 = .ok (.aload_n 0, 1) := by decide +kernel
theorem d3_10 : decode jdk_92_method_4_code 10 = .ok (.iconst 0, 1) := by decide +kernel
theorem d3_11 : decode jdk_92_method_4_code 11 = .ok (.putfield 24, 3) := by decide +kernel
theorem d3_14 : decode jdk_92_method_4_code 14 = .ok (.aload_n 0, 1) := by decide +kernel
theorem d3_15 : decode jdk_92_method_4_code 15 = .ok (.bipush 64, 2) := by decide +kernel
theorem pd__28I_29V : parseMethodDescriptor "(I)V" = some ⟨[.int], none⟩ := by decide +kernel
theorem d3_17 : decode jdk_92_method_4_code 17 = .ok (.invokevirtual 27, 3) := by decide +kernel
theorem d3_20 : decode jdk_92_method_4_code 20 = .ok (.aload_n 0, 1) := by decide +kernel
theorem d3_21 : decode jdk_92_method_4_code 21 = .ok (.iconst 0, 1) := by decide +kernel
theorem d3_22 : decode jdk_92_method_4_code 22 = .ok (.putfield 24, 3) := by decide +kernel
theorem d3_25 : decode jdk_92_method_4_code 25 = .ok (.return_, 1) := by decide +kernel
theorem ef_rm3 (m : MethodId) (a1 : Addr) : entryFrame m #[(.ref a1)] 1 = mkF m 0 #[.val (.ref a1)] [] := by first | (simp [entryFrame, mkF, argsToLocals, Value.category]; done) | rfl
def Q_rm3 (Z : State) (a1 : Addr) (u1 : Value) (u2 : Value) (u3 : Value) (h0 : Heap) (n0 : Nat) (v : Option Value) (h : Heap) (L : List Loc) : Prop := v = none ∧ Fr n0 L ∧ Keep h0 h [a1] ∧ Exa Z h a1 "java/util/BitSet"
set_option maxRecDepth 65536 in
set_option maxHeartbeats 40000000 in
theorem rm3 (l : Launch) (Z : State) (a0 : Array Value) (hw : ∀ d ∈ tables_1, d.before a0 Z = true) (ws : List Jvm.Cond) (a1 : Addr) (u1 : Value) (u2 : Value) (u3 : Value) (h0 : Heap) (n0 : Nat) (Z0 : n0 ≤ h0.size) (E_a1 : Exa Z h0 a1 "java/util/BitSet") (F_wordsInUse_a1 : Fld Z h0 a1 "java/util/BitSet" "wordsInUse" "I" u1) (F_sizeIsSticky_a1 : Fld Z h0 a1 "java/util/BitSet" "sizeIsSticky" "Z" u2) (F_words_a1 : Fld Z h0 a1 "java/util/BitSet" "words" "[J" u3) (g_a1 : n0 ≤ a1) :
    MetFree l (⟨"java/util/BitSet", "<init>", "()V"⟩ : MethodName) (head1 (Jvm.Cond.code (⟨"java/util/BitSet", "<init>", "()V"⟩ : MethodName) jdk_92_method_4_code 1 none :: ws) ({ frames := 2, cells := 1, slots := 1, locals := 26 } : Room)) (fun a U => a = #[(.ref a1)] ∧ Z.Warmed39 U.vm ∧ U.heap = h0) (fun _ _ _ _ _ => True) (fun _ U o U' => ∃ v L, o = .returned v ∧ Q_rm3 Z a1 u1 u2 u3 h0 n0 v U'.heap L ∧ FrameEnd U o U' L ({ frames := 2, cells := 1, slots := 1, locals := 26 } : Room).cells ({ frames := 2, cells := 1, slots := 1, locals := 26 } : Room).slots) := by
  refine MetFree.of_bodySF (plainFor_of_name pn_java_util_BitSet) hisR ?_
  intro p e s m args below meth c s₁ Bd hml0 hP hK
  obtain ⟨rfl, hZ, hh⟩ := hP
  have hx := Bd.exec
  have hby := Bd.bytes
  have hml : c.maxLocals = 1 := hml0
  have hown : s.vm.findClass "java/util/BitSet" = some m.cls := findClass_of_methodNamed Bd.named
  have hnm := (name_of_methodNamed Bd.named Bd.method).1
  have X0 : Stand p l e ({ frames := 2, cells := 1, slots := 1, locals := 26 } : Room) s m #[(.ref a1)] below meth c s₁ [] 0 0 := Stand.of_body Bd
  have e0 : s₁.heap = h0 := by rw [← hh, Bd.state]; rfl
  have N0 := Fr.nil n0
  have pre0 : ∀ t, Steps p.tables e below (s₁.setTop (mkF m 0 #[.val (.ref a1)] [])) t → Steps p.tables e below (s₁.setTop (entryFrame m #[(.ref a1)] 1)) t := fun t k => castTop (ef_rm3 m a1) k
  obtain ⟨T1, X1, e1, st1⟩ := initO X0 hx hZ hown (hw _ (List.mem_of_getElem? (i := 16) rfl)) (hw _ (List.mem_of_getElem? (i := 8) rfl)) (hw _ (List.mem_of_getElem? (i := 9) rfl)) e0 (g := (mkF m 1 #[.val (.ref a1)] [(.ref a1)])) rfl (by rw [hml]; rfl) rfl (hb hby d3_1) (by decide) (W := 0) (by show 2 * 0 + _ ≤ _; exact Nat.le_of_eq rfl) (by decide)
  obtain ⟨T2, h2, X2, e2, W2, st2⟩ := putF X1 hx hZ hown (host := "") (Or.inl (hw _ (List.mem_of_getElem? (i := 17) rfl))) Via.refl e1 F_wordsInUse_a1 E_a1 (Or.inl (hw _ (List.mem_of_getElem? (i := 18) rfl))) (hw _ (List.mem_of_getElem? (i := 11) rfl)) (ty := .int) (by decide) rfl rfl (g := (mkF m 6 #[.val (.ref a1)] [(.int (0 : Int32)), (.ref a1)])) rfl rfl (hb hby d3_6)
  have K3 : Keep h0 h2 [a1] := (Keep.refl h0 [a1]).wr W2 (Or.inl (List.mem_of_getElem? (i := 0) rfl))
  have N4 := Fr.snoc X2 N0 g_a1
  have Fw2 := F_wordsInUse_a1.same W2
  have f5 : Fld Z h2 a1 "java/util/BitSet" "sizeIsSticky" "Z" u2 := (F_sizeIsSticky_a1.other W2 (Or.inr (slot_ne (Or.inl (hw _ (List.mem_of_getElem? (i := 20) rfl))) (Or.inl (hw _ (List.mem_of_getElem? (i := 18) rfl))) (by decide) (t := .boolean) (t' := .int) (by decide) (by decide))))
  have f6 : Exa Z h2 a1 "java/util/BitSet" := (E_a1.wr W2)
  obtain ⟨T7, h7, X7, e7, W7, st7⟩ := putFN X2 hx hZ hown (hw _ (List.mem_of_getElem? (i := 19) rfl)) Via.refl e2 f5 f6 (Or.inl (hw _ (List.mem_of_getElem? (i := 20) rfl))) (hw _ (List.mem_of_getElem? (i := 11) rfl)) (ty := .boolean) (v' := (.int (0 : Int32))) (by decide) rfl (by decide) (g := (mkF m 11 #[.val (.ref a1)] [(.int (0 : Int32)), (.ref a1)])) rfl rfl (hb hby d3_11)
  have K8 : Keep h0 h7 [a1] := K3.wr W7 (Or.inl (List.mem_of_getElem? (i := 0) rfl))
  have N9 := Fr.snoc X7 N4 g_a1
  have Fw7 := f5.same W7
  have f10 : Exa Z h7 a1 "java/util/BitSet" := (f6.wr W7)
  have f11 : Fld Z h7 a1 "java/util/BitSet" "words" "[J" u3 := ((F_words_a1.other W2 (Or.inr (slot_ne (Or.inl (hw _ (List.mem_of_getElem? (i := 31) rfl))) (Or.inl (hw _ (List.mem_of_getElem? (i := 18) rfl))) (by decide) (t := (.array .long)) (t' := .int) (by decide) (by decide)))).other W7 (Or.inr (slot_ne (Or.inl (hw _ (List.mem_of_getElem? (i := 31) rfl))) (Or.inl (hw _ (List.mem_of_getElem? (i := 20) rfl))) (by decide) (t := (.array .long)) (t' := .boolean) (by decide) (by decide))))
  obtain ⟨cq12, q12, q12'⟩ := f10.cell
  obtain ⟨_, _, ⟨T12, L12, k12, n12⟩, -, X12, ⟨Lc12, hQ12, l12, y12, z12⟩, st12⟩ := X7.privateBack hx (y := (⟨"java/util/BitSet", "initWords", "(I)V"⟩ : MethodName)) hown (mvT hZ (hw _ (List.mem_of_getElem? (i := 21) rfl))) (mvT hZ (hw _ (List.mem_of_getElem? (i := 22) rfl))) (mvT hZ (hw _ (List.mem_of_getElem? (i := 24) rfl))) (Cond.privateMethod_at (mvP hZ (hw _ (List.mem_of_getElem? (i := 23) rfl)) (args := #[]))) (mvT hZ (hw _ (List.mem_of_getElem? (i := 25) rfl))) (by decide) (backOf (W := 0) (rm4 l Z a0 hw [] a1 u3 (.int (0 : Int32)) h7 n0 (Nat.le_trans Z0 K8.1) f10 f11 Fw7 g_a1) hZ (hw _ (List.mem_of_getElem? (i := 25) rfl)) (hw _ (List.mem_of_getElem? (i := 12) rfl)) (by decide) (by decide)) (g := (mkF m 17 #[.val (.ref a1)] [(.int (64 : Int32)), (.ref a1)])) rfl (by rw [hml]; rfl) (Steps.refl _) (a := a1) (by rw [e7]; exact q12) q12' (argsL := [(.int (64 : Int32))]) (rest := []) (lenOf pd__28I_29V rfl) rfl (by show 2 * 0 + _ ≤ _; exact Nat.le_of_eq rfl) (hb hby d3_17) (fun _ _ => ⟨rfl, e7, (by decide : 0 + 1 ≤ _), (by decide : 0 + 1 ≤ _)⟩)
  dsimp only [Pt.U, Pt.locs, Pt.cells, Pt.slots] at X12 l12 y12 z12 st12 hQ12
  subst l12 y12 z12
  obtain ⟨rfl, N12q, K12q, t12_0, t12_1⟩ := hQ12
  have N12 := Fr.app N9 N12q
  have K12 : Keep h0 T12.heap [a1] := K8.trans K12q (allS (P := fun x => x ∈ [a1] ∨ h0.size ≤ x) (Or.inl (List.mem_of_getElem? (i := 0) rfl)) all0)
  obtain ⟨T13, h13, X13, e13, W13, st13⟩ := putFN X12 hx hZ hown (hw _ (List.mem_of_getElem? (i := 19) rfl)) Via.refl rfl t12_1 t12_0 (Or.inl (hw _ (List.mem_of_getElem? (i := 20) rfl))) (hw _ (List.mem_of_getElem? (i := 11) rfl)) (ty := .boolean) (v' := (.int (0 : Int32))) (by decide) rfl (by decide) (g := (mkF m 22 #[.val (.ref a1)] [(.int (0 : Int32)), (.ref a1)])) rfl rfl (hb hby d3_22)
  have K14 : Keep h0 h13 [a1] := K12.wr W13 (Or.inl (List.mem_of_getElem? (i := 0) rfl))
  have N15 := Fr.snoc X13 N12 g_a1
  have Fw13 := t12_1.same W13
  have f16 : Exa Z h13 a1 "java/util/BitSet" := (t12_0.wr W13)
  obtain ⟨fs, hr, hrun, hended, hW, hsame⟩ := X13.leave (v := none) (fun _ => rfl)
  refine ⟨_, _, pre0 _ ?_, hrun, hended, _, _, rfl, ?_, ⟨_, rfl⟩, hW, hsame.mono (by decide) (by decide)⟩
  · show Steps p.tables e below (s₁.setTop (mkF m 0 #[.val (.ref a1)] [])) _
    refine XS.aloadN X0.here hx rfl (hb hby d3_0) rfl rfl ?_
    show Steps p.tables e below (s₁.setTop (mkF m 1 #[.val (.ref a1)] [(.ref a1)])) _
    refine st1 _ ?_
    show Steps p.tables e below (T1.setTop (mkF m 4 #[.val (.ref a1)] [])) _
    refine XS.aloadN X1.here hx rfl (hb hby d3_4) rfl rfl ?_
    show Steps p.tables e below (T1.setTop (mkF m 5 #[.val (.ref a1)] [(.ref a1)])) _
    refine XS.iconst X1.here hx rfl (hb hby d3_5) ?_
    show Steps p.tables e below (T1.setTop (mkF m 6 #[.val (.ref a1)] [(.int (0 : Int32)), (.ref a1)])) _
    refine st2 _ ?_
    show Steps p.tables e below (T2.setTop (mkF m 9 #[.val (.ref a1)] [])) _
    refine XS.aloadN X2.here hx rfl (hb hby d3_9) rfl rfl ?_
    show Steps p.tables e below (T2.setTop (mkF m 10 #[.val (.ref a1)] [(.ref a1)])) _
    refine XS.iconst X2.here hx rfl (hb hby d3_10) ?_
    show Steps p.tables e below (T2.setTop (mkF m 11 #[.val (.ref a1)] [(.int (0 : Int32)), (.ref a1)])) _
    refine st7 _ ?_
    show Steps p.tables e below (T7.setTop (mkF m 14 #[.val (.ref a1)] [])) _
    refine XS.aloadN X7.here hx rfl (hb hby d3_14) rfl rfl ?_
    show Steps p.tables e below (T7.setTop (mkF m 15 #[.val (.ref a1)] [(.ref a1)])) _
    refine XS.bipush X7.here hx rfl (hb hby d3_15) ?_
    show Steps p.tables e below (T7.setTop (mkF m 17 #[.val (.ref a1)] [(.int (64 : Int32)), (.ref a1)])) _
    refine st12.trans ?_
    show Steps p.tables e below (T12.setTop (mkF m 20 #[.val (.ref a1)] [])) _
    refine XS.aloadN X12.here hx rfl (hb hby d3_20) rfl rfl ?_
    show Steps p.tables e below (T12.setTop (mkF m 21 #[.val (.ref a1)] [(.ref a1)])) _
    refine XS.iconst X12.here hx rfl (hb hby d3_21) ?_
    show Steps p.tables e below (T12.setTop (mkF m 22 #[.val (.ref a1)] [(.int (0 : Int32)), (.ref a1)])) _
    refine st13 _ ?_
    show Steps p.tables e below (T13.setTop (mkF m 25 #[.val (.ref a1)] [])) _
    exact X13.returnOut hx Bd.returns (hb hby d3_25) hr
  · show Q_rm3 Z a1 u1 u2 u3 h0 n0 _ T13.heap _
    rw [e13]
    exact ⟨rfl, N15, K14, f16⟩
theorem d1_0 : decode prog_75_method_1_code 0 = .ok (.aload_n 0, 1) := by decide +kernel
theorem d1_1 : decode prog_75_method_1_code 1 = .ok (.invokespecial 1, 3) := by decide +kernel
theorem d1_4 : decode prog_75_method_1_code 4 = .ok (.aload_n 0, 1) := by decide +kernel
theorem d1_5 : decode prog_75_method_1_code 5 = .ok (.new 7, 3) := by decide +kernel
theorem d1_8 : decode prog_75_method_1_code 8 = .ok (.dup, 1) := by decide +kernel
theorem pd__28_29V : parseMethodDescriptor "()V" = some ⟨[], none⟩ := by decide +kernel
theorem d1_9 : decode prog_75_method_1_code 9 = .ok (.invokespecial 9, 3) := by decide +kernel
theorem d1_12 : decode prog_75_method_1_code 12 = .ok (.putfield 10, 3) := by decide +kernel
theorem d1_15 : decode prog_75_method_1_code 15 = .ok (.aload_n 0, 1) := by decide +kernel
theorem d1_16 : decode prog_75_method_1_code 16 = .ok (.iload_n 1, 1) := by decide +kernel
theorem d1_17 : decode prog_75_method_1_code 17 = .ok (.putfield 16, 3) := by decide +kernel
theorem d1_20 : decode prog_75_method_1_code 20 = .ok (.aload_n 0, 1) := by decide +kernel
theorem d1_21 : decode prog_75_method_1_code 21 = .ok (.iload_n 2, 1) := by decide +kernel
theorem d1_22 : decode prog_75_method_1_code 22 = .ok (.putfield 20, 3) := by decide +kernel
theorem d1_25 : decode prog_75_method_1_code 25 = .ok (.aload_n 0, 1) := by decide +kernel
theorem d1_26 : decode prog_75_method_1_code 26 = .ok (.iload_n 1, 1) := by decide +kernel
theorem d1_27 : decode prog_75_method_1_code 27 = .ok (.iconst 1, 1) := by decide +kernel
theorem d1_28 : decode prog_75_method_1_code 28 = .ok (.iadd, 1) := by decide +kernel
theorem d1_29 : decode prog_75_method_1_code 29 = .ok (.newarray .int, 2) := by decide +kernel
theorem d1_31 : decode prog_75_method_1_code 31 = .ok (.putfield 23, 3) := by decide +kernel
theorem d1_34 : decode prog_75_method_1_code 34 = .ok (.return_, 1) := by decide +kernel
theorem pn_com_example_muxal_muxal_sim_HeavyWorkload : plainName "com/example/muxal/muxal/sim/HeavyWorkload" = true := by first | (simp [plainName, overriddenIn]; done) | decide +kernel
theorem ef_rm1 (m : MethodId) (a1 : Addr) (p2 : Int32) (p3 : Int32) : entryFrame m #[(.ref a1), (.int p2), (.int p3)] 3 = mkF m 0 #[.val (.ref a1), .val (.int p2), .val (.int p3)] [] := by first | (simp [entryFrame, mkF, argsToLocals, Value.category]; done) | rfl
def Q_rm1 (Z : State) (a1 : Addr) (p2 : Int32) (p3 : Int32) (u1 : Value) (u2 : Value) (u3 : Value) (u4 : Value) (h0 : Heap) (n0 : Nat) (v : Option Value) (h : Heap) (L : List Loc) : Prop := v = none ∧ Fr n0 L ∧ Keep h0 h [a1] ∧ Exa Z h a1 "com/example/muxal/muxal/sim/HeavyWorkload" ∧ Fld Z h a1 "com/example/muxal/muxal/sim/HeavyWorkload" "nodes" "I" (.int p2) ∧ Fld Z h a1 "com/example/muxal/muxal/sim/HeavyWorkload" "rounds" "I" (.int p3)
set_option maxRecDepth 65536 in
set_option maxHeartbeats 40000000 in
theorem rm1 (l : Launch) (Z : State) (a0 : Array Value) (hw : ∀ d ∈ tables_1, d.before a0 Z = true) (ws : List Jvm.Cond) (a1 : Addr) (p2 : Int32) (p3 : Int32) (u1 : Value) (u2 : Value) (u3 : Value) (u4 : Value) (h0 : Heap) (n0 : Nat) (Z0 : n0 ≤ h0.size) (E_a1 : Exa Z h0 a1 "com/example/muxal/muxal/sim/HeavyWorkload") (F_again_a1 : Fld Z h0 a1 "com/example/muxal/muxal/sim/HeavyWorkload" "again" "Ljava/util/BitSet;" u1) (F_nodes_a1 : Fld Z h0 a1 "com/example/muxal/muxal/sim/HeavyWorkload" "nodes" "I" u2) (F_rounds_a1 : Fld Z h0 a1 "com/example/muxal/muxal/sim/HeavyWorkload" "rounds" "I" u3) (F_entries_a1 : Fld Z h0 a1 "com/example/muxal/muxal/sim/HeavyWorkload" "entries" "[I" u4) (g_a1 : n0 ≤ a1) (hneg : ¬ ((p2 + (1 : Int32)) < 0)) (hcap : (p2 + (1 : Int32)).toNatClampNeg ≤ 1001) :
    MetFree l (⟨"com/example/muxal/muxal/sim/HeavyWorkload", "<init>", "(II)V"⟩ : MethodName) (head1 (Jvm.Cond.code (⟨"com/example/muxal/muxal/sim/HeavyWorkload", "<init>", "(II)V"⟩ : MethodName) prog_75_method_1_code 3 none :: ws) ({ frames := 3, cells := 3, slots := 1005, locals := 40 } : Room)) (fun a U => a = #[(.ref a1), (.int p2), (.int p3)] ∧ Z.Warmed39 U.vm ∧ U.heap = h0) (fun _ _ _ _ _ => True) (fun _ U o U' => ∃ v L, o = .returned v ∧ Q_rm1 Z a1 p2 p3 u1 u2 u3 u4 h0 n0 v U'.heap L ∧ FrameEnd U o U' L ({ frames := 3, cells := 3, slots := 1005, locals := 40 } : Room).cells ({ frames := 3, cells := 3, slots := 1005, locals := 40 } : Room).slots) := by
  refine MetFree.of_bodySF (plainFor_of_name pn_com_example_muxal_muxal_sim_HeavyWorkload) hisR ?_
  intro p e s m args below meth c s₁ Bd hml0 hP hK
  obtain ⟨rfl, hZ, hh⟩ := hP
  have hx := Bd.exec
  have hby := Bd.bytes
  have hml : c.maxLocals = 3 := hml0
  have hown : s.vm.findClass "com/example/muxal/muxal/sim/HeavyWorkload" = some m.cls := findClass_of_methodNamed Bd.named
  have hnm := (name_of_methodNamed Bd.named Bd.method).1
  have X0 : Stand p l e ({ frames := 3, cells := 3, slots := 1005, locals := 40 } : Room) s m #[(.ref a1), (.int p2), (.int p3)] below meth c s₁ [] 0 0 := Stand.of_body Bd
  have e0 : s₁.heap = h0 := by rw [← hh, Bd.state]; rfl
  have N0 := Fr.nil n0
  have pre0 : ∀ t, Steps p.tables e below (s₁.setTop (mkF m 0 #[.val (.ref a1), .val (.int p2), .val (.int p3)] [])) t → Steps p.tables e below (s₁.setTop (entryFrame m #[(.ref a1), (.int p2), (.int p3)] 3)) t := fun t k => castTop (ef_rm1 m a1 p2 p3) k
  obtain ⟨T1, X1, e1, st1⟩ := initO X0 hx hZ hown (hw _ (List.mem_of_getElem? (i := 7) rfl)) (hw _ (List.mem_of_getElem? (i := 8) rfl)) (hw _ (List.mem_of_getElem? (i := 9) rfl)) e0 (g := (mkF m 1 #[.val (.ref a1), .val (.int p2), .val (.int p3)] [(.ref a1)])) rfl (by rw [hml]; rfl) rfl (hb hby d1_1) (by decide) (W := 0) (by show 2 * 0 + _ ≤ _; exact Nat.le_of_eq rfl) (by decide)
  obtain ⟨T2, h2, X2, e2, E2, A2, D2, -, st2⟩ := newO X1 hx hZ hown (hw _ (List.mem_of_getElem? (i := 10) rfl)) (hw _ (List.mem_of_getElem? (i := 11) rfl)) (hw _ (List.mem_of_getElem? (i := 12) rfl)) e1 (g := (mkF m 5 #[.val (.ref a1), .val (.int p2), .val (.int p3)] [(.ref a1)])) rfl (hb hby d1_5) (by decide) (by decide)
  obtain ⟨b2, g2⟩ : ∃ z, z = h0.size := ⟨_, rfl⟩
  rw [← g2] at A2 D2 st2
  have ne_a1_b2 : a1 ≠ b2 := Nat.ne_of_lt (Nat.lt_of_lt_of_le E_a1.lt (Nat.le_of_eq g2.symm))
  have g_b2 : n0 ≤ b2 := Nat.le_trans Z0 (Nat.le_of_eq g2.symm)
  have sz_b2 : h0.size ≤ b2 := Nat.le_trans (Keep.refl h0 [a1]).1 (Nat.le_of_eq g2.symm)
  have K3 : Keep h0 h2 [a1] := (Keep.refl h0 [a1]).ext E2
  have F_wordsInUse_b2 : Fld Z h2 b2 "java/util/BitSet" "wordsInUse" "I" (.int (0 : Int32)) := D2 (Or.inl (hw _ (List.mem_of_getElem? (i := 18) rfl))) (ty := .int) (by decide)
  have F_sizeIsSticky_b2 : Fld Z h2 b2 "java/util/BitSet" "sizeIsSticky" "Z" (.int (0 : Int32)) := D2 (Or.inl (hw _ (List.mem_of_getElem? (i := 20) rfl))) (ty := .boolean) (by decide)
  have F_words_b2 : Fld Z h2 b2 "java/util/BitSet" "words" "[J" .null := D2 (Or.inl (hw _ (List.mem_of_getElem? (i := 31) rfl))) (ty := (.array .long)) (by decide)
  have f5 : Exa Z h2 a1 "com/example/muxal/muxal/sim/HeavyWorkload" := (E_a1.ext E2)
  obtain ⟨_, _, ⟨T4, L4, k4, n4⟩, -, X4, ⟨Lc4, hQ4, l4, y4, z4⟩, st4⟩ := X2.specialBack hx (y := (⟨"java/util/BitSet", "<init>", "()V"⟩ : MethodName)) rfl hown (mvT hZ (hw _ (List.mem_of_getElem? (i := 13) rfl))) (mvT hZ (hw _ (List.mem_of_getElem? (i := 14) rfl))) (mvT hZ (hw _ (List.mem_of_getElem? (i := 15) rfl))) (by decide) (backOf (W := 2) (rm3 l Z a0 hw [] b2 (.int (0 : Int32)) (.int (0 : Int32)) .null h2 n0 (Nat.le_trans Z0 K3.1) A2 F_wordsInUse_b2 F_sizeIsSticky_b2 F_words_b2 g_b2) hZ (hw _ (List.mem_of_getElem? (i := 15) rfl)) (hw _ (List.mem_of_getElem? (i := 12) rfl)) (by decide) (by decide)) (g := (mkF m 9 #[.val (.ref a1), .val (.int p2), .val (.int p3)] [(.ref b2), (.ref b2), (.ref a1)])) rfl (by rw [hml]; rfl) (Steps.refl _) (a := b2) (argsL := []) (rest := [(.ref b2), (.ref a1)]) (lenOf pd__28_29V rfl) rfl (by show 2 * 0 + _ ≤ _; exact Nat.le_of_eq rfl) (hb hby d1_9) (fun _ _ => ⟨rfl, e2, (by decide : 1 + 1 ≤ _), (by decide : 3 + 1 ≤ _)⟩)
  dsimp only [Pt.U, Pt.locs, Pt.cells, Pt.slots] at X4 l4 y4 z4 st4 hQ4
  subst l4 y4 z4
  obtain ⟨rfl, N4q, K4q, t4_0⟩ := hQ4
  have N4 := Fr.app N0 N4q
  have K4 : Keep h0 T4.heap [a1] := K3.trans K4q (allS (P := fun x => x ∈ [a1] ∨ h0.size ≤ x) (Or.inr sz_b2) all0)
  have f6 : Fld Z T4.heap a1 "com/example/muxal/muxal/sim/HeavyWorkload" "again" "Ljava/util/BitSet;" u1 := ((F_again_a1.ext E2).keep K4q (ninS ne_a1_b2 nin0))
  have f7 : Exa Z T4.heap a1 "com/example/muxal/muxal/sim/HeavyWorkload" := (f5.keep K4q)
  obtain ⟨T8, h8, X8, e8, W8, st8⟩ := putF X4 hx hZ hown (host := "") (Or.inl (hw _ (List.mem_of_getElem? (i := 32) rfl))) Via.refl rfl f6 f7 (Or.inr ⟨(hw _ (List.mem_of_getElem? (i := 33) rfl)), rfl, hnm⟩) (hw _ (List.mem_of_getElem? (i := 2) rfl)) (ty := (.object "java/util/BitSet")) (by decide) rfl rfl (g := (mkF m 12 #[.val (.ref a1), .val (.int p2), .val (.int p3)] [(.ref b2), (.ref a1)])) rfl rfl (hb hby d1_12)
  have K9 : Keep h0 h8 [a1] := K4.wr W8 (Or.inl (List.mem_of_getElem? (i := 0) rfl))
  have N10 := Fr.snoc X8 N4 g_a1
  have Fw8 := f6.same W8
  have f11 : Fld Z h8 a1 "com/example/muxal/muxal/sim/HeavyWorkload" "nodes" "I" u2 := (((F_nodes_a1.ext E2).keep K4q (ninS ne_a1_b2 nin0)).other W8 (Or.inr (slot_ne (Or.inr (hw _ (List.mem_of_getElem? (i := 35) rfl))) (Or.inr (hw _ (List.mem_of_getElem? (i := 33) rfl))) (by decide) (t := .int) (t' := (.object "java/util/BitSet")) (by decide) (by decide))))
  have f12 : Exa Z h8 a1 "com/example/muxal/muxal/sim/HeavyWorkload" := (f7.wr W8)
  obtain ⟨T13, h13, X13, e13, W13, st13⟩ := putF X8 hx hZ hown (host := "") (Or.inl (hw _ (List.mem_of_getElem? (i := 34) rfl))) Via.refl e8 f11 f12 (Or.inr ⟨(hw _ (List.mem_of_getElem? (i := 35) rfl)), rfl, hnm⟩) (hw _ (List.mem_of_getElem? (i := 2) rfl)) (ty := .int) (by decide) rfl rfl (g := (mkF m 17 #[.val (.ref a1), .val (.int p2), .val (.int p3)] [(.int p2), (.ref a1)])) rfl rfl (hb hby d1_17)
  have K14 : Keep h0 h13 [a1] := K9.wr W13 (Or.inl (List.mem_of_getElem? (i := 0) rfl))
  have N15 := Fr.snoc X13 N10 g_a1
  have Fw13 := f11.same W13
  have f16 : Fld Z h13 a1 "com/example/muxal/muxal/sim/HeavyWorkload" "rounds" "I" u3 := ((((F_rounds_a1.ext E2).keep K4q (ninS ne_a1_b2 nin0)).other W8 (Or.inr (slot_ne (Or.inr (hw _ (List.mem_of_getElem? (i := 37) rfl))) (Or.inr (hw _ (List.mem_of_getElem? (i := 33) rfl))) (by decide) (t := .int) (t' := (.object "java/util/BitSet")) (by decide) (by decide)))).other W13 (Or.inr (slot_ne (Or.inr (hw _ (List.mem_of_getElem? (i := 37) rfl))) (Or.inr (hw _ (List.mem_of_getElem? (i := 35) rfl))) (by decide) (t := .int) (t' := .int) (by decide) (by decide))))
  have f17 : Exa Z h13 a1 "com/example/muxal/muxal/sim/HeavyWorkload" := (f12.wr W13)
  obtain ⟨T18, h18, X18, e18, W18, st18⟩ := putF X13 hx hZ hown (host := "") (Or.inl (hw _ (List.mem_of_getElem? (i := 36) rfl))) Via.refl e13 f16 f17 (Or.inr ⟨(hw _ (List.mem_of_getElem? (i := 37) rfl)), rfl, hnm⟩) (hw _ (List.mem_of_getElem? (i := 2) rfl)) (ty := .int) (by decide) rfl rfl (g := (mkF m 22 #[.val (.ref a1), .val (.int p2), .val (.int p3)] [(.int p3), (.ref a1)])) rfl rfl (hb hby d1_22)
  have K19 : Keep h0 h18 [a1] := K14.wr W18 (Or.inl (List.mem_of_getElem? (i := 0) rfl))
  have N20 := Fr.snoc X18 N15 g_a1
  have Fw18 := f16.same W18
  have f21 : Exa Z h18 a1 "com/example/muxal/muxal/sim/HeavyWorkload" := (f17.wr W18)
  have f22 : Exa Z h18 b2 "java/util/BitSet" := (((t4_0.wr W8).wr W13).wr W18)
  obtain ⟨T23, h23, k23, X23, e23, E23, A23, st23⟩ := newP X18 hx hZ (hw _ (List.mem_of_getElem? (i := 38) rfl)) e18 (g := (mkF m 29 #[.val (.ref a1), .val (.int p2), .val (.int p3)] [(.int (p2 + (1 : Int32))), (.ref a1)])) rfl (hb hby d1_29) rfl hneg (cap := 1001) hcap (by decide) (by decide) (by decide)
  obtain ⟨b23, g23⟩ : ∃ z, z = h18.size := ⟨_, rfl⟩
  rw [← g23] at A23 st23
  have ne_a1_b23 : a1 ≠ b23 := Nat.ne_of_lt (Nat.lt_of_lt_of_le f21.lt (Nat.le_of_eq g23.symm))
  have ne_b2_b23 : b2 ≠ b23 := Nat.ne_of_lt (Nat.lt_of_lt_of_le f22.lt (Nat.le_of_eq g23.symm))
  have g_b23 : n0 ≤ b23 := Nat.le_trans (Nat.le_trans Z0 K19.1) (Nat.le_of_eq g23.symm)
  have sz_b23 : h0.size ≤ b23 := Nat.le_trans K19.1 (Nat.le_of_eq g23.symm)
  have K24 : Keep h0 h23 [a1] := K19.ext E23
  have V_b23 : Arv Z h23 b23 k23 .int (p2 + (1 : Int32)) [] (.int (0 : Int32)) := Arv.new A23 hneg
  have f25 : Fld Z h23 a1 "com/example/muxal/muxal/sim/HeavyWorkload" "entries" "[I" u4 := ((((((F_entries_a1.ext E2).keep K4q (ninS ne_a1_b2 nin0)).other W8 (Or.inr (slot_ne (Or.inr (hw _ (List.mem_of_getElem? (i := 40) rfl))) (Or.inr (hw _ (List.mem_of_getElem? (i := 33) rfl))) (by decide) (t := (.array .int)) (t' := (.object "java/util/BitSet")) (by decide) (by decide)))).other W13 (Or.inr (slot_ne (Or.inr (hw _ (List.mem_of_getElem? (i := 40) rfl))) (Or.inr (hw _ (List.mem_of_getElem? (i := 35) rfl))) (by decide) (t := (.array .int)) (t' := .int) (by decide) (by decide)))).other W18 (Or.inr (slot_ne (Or.inr (hw _ (List.mem_of_getElem? (i := 40) rfl))) (Or.inr (hw _ (List.mem_of_getElem? (i := 37) rfl))) (by decide) (t := (.array .int)) (t' := .int) (by decide) (by decide)))).ext E23)
  have f26 : Exa Z h23 a1 "com/example/muxal/muxal/sim/HeavyWorkload" := (f21.ext E23)
  obtain ⟨T27, h27, X27, e27, W27, st27⟩ := putF X23 hx hZ hown (host := "") (Or.inl (hw _ (List.mem_of_getElem? (i := 39) rfl))) Via.refl e23 f25 f26 (Or.inr ⟨(hw _ (List.mem_of_getElem? (i := 40) rfl)), rfl, hnm⟩) (hw _ (List.mem_of_getElem? (i := 2) rfl)) (ty := (.array .int)) (by decide) rfl rfl (g := (mkF m 31 #[.val (.ref a1), .val (.int p2), .val (.int p3)] [(.ref b23), (.ref a1)])) rfl rfl (hb hby d1_31)
  have K28 : Keep h0 h27 [a1] := K24.wr W27 (Or.inl (List.mem_of_getElem? (i := 0) rfl))
  have N29 := Fr.snoc X27 N20 g_a1
  have Fw27 := f25.same W27
  have f30 : Exa Z h27 a1 "com/example/muxal/muxal/sim/HeavyWorkload" := (f26.wr W27)
  have f31 : Fld Z h27 a1 "com/example/muxal/muxal/sim/HeavyWorkload" "nodes" "I" (.int p2) := (((Fw13.other W18 (Or.inr (slot_ne (Or.inr (hw _ (List.mem_of_getElem? (i := 35) rfl))) (Or.inr (hw _ (List.mem_of_getElem? (i := 37) rfl))) (by decide) (t := .int) (t' := .int) (by decide) (by decide)))).ext E23).other W27 (Or.inr (slot_ne (Or.inr (hw _ (List.mem_of_getElem? (i := 35) rfl))) (Or.inr (hw _ (List.mem_of_getElem? (i := 40) rfl))) (by decide) (t := .int) (t' := (.array .int)) (by decide) (by decide))))
  have f32 : Fld Z h27 a1 "com/example/muxal/muxal/sim/HeavyWorkload" "rounds" "I" (.int p3) := ((Fw18.ext E23).other W27 (Or.inr (slot_ne (Or.inr (hw _ (List.mem_of_getElem? (i := 37) rfl))) (Or.inr (hw _ (List.mem_of_getElem? (i := 40) rfl))) (by decide) (t := .int) (t' := (.array .int)) (by decide) (by decide))))
  obtain ⟨fs, hr, hrun, hended, hW, hsame⟩ := X27.leave (v := none) (fun _ => rfl)
  refine ⟨_, _, pre0 _ ?_, hrun, hended, _, _, rfl, ?_, ⟨_, rfl⟩, hW, hsame.mono (by decide) (by decide)⟩
  · show Steps p.tables e below (s₁.setTop (mkF m 0 #[.val (.ref a1), .val (.int p2), .val (.int p3)] [])) _
    refine XS.aloadN X0.here hx rfl (hb hby d1_0) rfl rfl ?_
    show Steps p.tables e below (s₁.setTop (mkF m 1 #[.val (.ref a1), .val (.int p2), .val (.int p3)] [(.ref a1)])) _
    refine st1 _ ?_
    show Steps p.tables e below (T1.setTop (mkF m 4 #[.val (.ref a1), .val (.int p2), .val (.int p3)] [])) _
    refine XS.aloadN X1.here hx rfl (hb hby d1_4) rfl rfl ?_
    show Steps p.tables e below (T1.setTop (mkF m 5 #[.val (.ref a1), .val (.int p2), .val (.int p3)] [(.ref a1)])) _
    refine st2 _ ?_
    show Steps p.tables e below (T2.setTop (mkF m 8 #[.val (.ref a1), .val (.int p2), .val (.int p3)] [(.ref b2), (.ref a1)])) _
    refine XS.dup X2.here hx rfl (hb hby d1_8) rfl rfl ?_
    show Steps p.tables e below (T2.setTop (mkF m 9 #[.val (.ref a1), .val (.int p2), .val (.int p3)] [(.ref b2), (.ref b2), (.ref a1)])) _
    refine st4.trans ?_
    show Steps p.tables e below (T4.setTop (mkF m 12 #[.val (.ref a1), .val (.int p2), .val (.int p3)] [(.ref b2), (.ref a1)])) _
    refine st8 _ ?_
    show Steps p.tables e below (T8.setTop (mkF m 15 #[.val (.ref a1), .val (.int p2), .val (.int p3)] [])) _
    refine XS.aloadN X8.here hx rfl (hb hby d1_15) rfl rfl ?_
    show Steps p.tables e below (T8.setTop (mkF m 16 #[.val (.ref a1), .val (.int p2), .val (.int p3)] [(.ref a1)])) _
    refine XS.iloadN X8.here hx rfl (hb hby d1_16) rfl ?_
    show Steps p.tables e below (T8.setTop (mkF m 17 #[.val (.ref a1), .val (.int p2), .val (.int p3)] [(.int p2), (.ref a1)])) _
    refine st13 _ ?_
    show Steps p.tables e below (T13.setTop (mkF m 20 #[.val (.ref a1), .val (.int p2), .val (.int p3)] [])) _
    refine XS.aloadN X13.here hx rfl (hb hby d1_20) rfl rfl ?_
    show Steps p.tables e below (T13.setTop (mkF m 21 #[.val (.ref a1), .val (.int p2), .val (.int p3)] [(.ref a1)])) _
    refine XS.iloadN X13.here hx rfl (hb hby d1_21) rfl ?_
    show Steps p.tables e below (T13.setTop (mkF m 22 #[.val (.ref a1), .val (.int p2), .val (.int p3)] [(.int p3), (.ref a1)])) _
    refine st18 _ ?_
    show Steps p.tables e below (T18.setTop (mkF m 25 #[.val (.ref a1), .val (.int p2), .val (.int p3)] [])) _
    refine XS.aloadN X18.here hx rfl (hb hby d1_25) rfl rfl ?_
    show Steps p.tables e below (T18.setTop (mkF m 26 #[.val (.ref a1), .val (.int p2), .val (.int p3)] [(.ref a1)])) _
    refine XS.iloadN X18.here hx rfl (hb hby d1_26) rfl ?_
    show Steps p.tables e below (T18.setTop (mkF m 27 #[.val (.ref a1), .val (.int p2), .val (.int p3)] [(.int p2), (.ref a1)])) _
    refine XS.iconst X18.here hx rfl (hb hby d1_27) ?_
    show Steps p.tables e below (T18.setTop (mkF m 28 #[.val (.ref a1), .val (.int p2), .val (.int p3)] [(.int (1 : Int32)), (.int p2), (.ref a1)])) _
    refine XS.iadd X18.here hx rfl (hb hby d1_28) rfl ?_
    show Steps p.tables e below (T18.setTop (mkF m 29 #[.val (.ref a1), .val (.int p2), .val (.int p3)] [(.int (p2 + (1 : Int32))), (.ref a1)])) _
    refine st23 _ ?_
    show Steps p.tables e below (T23.setTop (mkF m 31 #[.val (.ref a1), .val (.int p2), .val (.int p3)] [(.ref b23), (.ref a1)])) _
    refine st27 _ ?_
    show Steps p.tables e below (T27.setTop (mkF m 34 #[.val (.ref a1), .val (.int p2), .val (.int p3)] [])) _
    exact X27.returnOut hx Bd.returns (hb hby d1_34) hr
  · show Q_rm1 Z a1 p2 p3 u1 u2 u3 u4 h0 n0 _ T27.heap _
    rw [e27]
    exact ⟨rfl, N29, K28, f30, f31, f32⟩
theorem d6_0 : decode prog_75_method_3_code 0 = .ok (.aload_n 0, 1) := by decide +kernel
theorem d6_1 : decode prog_75_method_3_code 1 = .ok (.getfield 16, 3) := by decide +kernel
theorem d6_4 : decode prog_75_method_3_code 4 = .ok (.i2l, 1) := by decide +kernel
theorem d6_5 : decode prog_75_method_3_code 5 = .ok (.aload_n 0, 1) := by decide +kernel
theorem d6_6 : decode prog_75_method_3_code 6 = .ok (.getfield 20, 3) := by decide +kernel
theorem d6_9 : decode prog_75_method_3_code 9 = .ok (.i2l, 1) := by decide +kernel
theorem d6_10 : decode prog_75_method_3_code 10 = .ok (.lmul, 1) := by decide +kernel
theorem d6_11 : decode prog_75_method_3_code 11 = .ok (.lreturn, 1) := by decide +kernel
theorem ef_rm6 (m : MethodId) (a1 : Addr) : entryFrame m #[(.ref a1)] 1 = mkF m 0 #[.val (.ref a1)] [] := by first | (simp [entryFrame, mkF, argsToLocals, Value.category]; done) | rfl
def Q_rm6 (Z : State) (a1 : Addr) (p5 : Int32) (p6 : Int32) (h0 : Heap) (n0 : Nat) (v : Option Value) (h : Heap) (L : List Loc) : Prop := v = some (.long ((p5.toInt64) * (p6.toInt64))) ∧ Fr n0 L ∧ h = h0
set_option maxRecDepth 65536 in
set_option maxHeartbeats 40000000 in
theorem rm6 (l : Launch) (Z : State) (a0 : Array Value) (hw : ∀ d ∈ tables_1, d.before a0 Z = true) (ws : List Jvm.Cond) (a1 : Addr) (p5 : Int32) (p6 : Int32) (h0 : Heap) (n0 : Nat) (Z0 : n0 ≤ h0.size) (F_nodes_a1 : Fld Z h0 a1 "com/example/muxal/muxal/sim/HeavyWorkload" "nodes" "I" (.int p5)) (F_rounds_a1 : Fld Z h0 a1 "com/example/muxal/muxal/sim/HeavyWorkload" "rounds" "I" (.int p6)) :
    MetFree l (⟨"com/example/muxal/muxal/sim/HeavyWorkload", "requests", "()J"⟩ : MethodName) (head1 (Jvm.Cond.code (⟨"com/example/muxal/muxal/sim/HeavyWorkload", "requests", "()J"⟩ : MethodName) prog_75_method_3_code 1 (some .long) :: ws) ({ frames := 0, cells := 0, slots := 0, locals := 0 } : Room)) (fun a U => a = #[(.ref a1)] ∧ Z.Warmed39 U.vm ∧ U.heap = h0) (fun _ _ _ _ _ => True) (fun _ U o U' => ∃ v L, o = .returned v ∧ Q_rm6 Z a1 p5 p6 h0 n0 v U'.heap L ∧ FrameEnd U o U' L ({ frames := 0, cells := 0, slots := 0, locals := 0 } : Room).cells ({ frames := 0, cells := 0, slots := 0, locals := 0 } : Room).slots) := by
  refine MetFree.of_bodySF (plainFor_of_name pn_com_example_muxal_muxal_sim_HeavyWorkload) hisR ?_
  intro p e s m args below meth c s₁ Bd hml0 hP hK
  obtain ⟨rfl, hZ, hh⟩ := hP
  have hx := Bd.exec
  have hby := Bd.bytes
  have hml : c.maxLocals = 1 := hml0
  have hown : s.vm.findClass "com/example/muxal/muxal/sim/HeavyWorkload" = some m.cls := findClass_of_methodNamed Bd.named
  have hnm := (name_of_methodNamed Bd.named Bd.method).1
  have X0 : Stand p l e ({ frames := 0, cells := 0, slots := 0, locals := 0 } : Room) s m #[(.ref a1)] below meth c s₁ [] 0 0 := Stand.of_body Bd
  have e0 : s₁.heap = h0 := by rw [← hh, Bd.state]; rfl
  have N0 := Fr.nil n0
  have pre0 : ∀ t, Steps p.tables e below (s₁.setTop (mkF m 0 #[.val (.ref a1)] [])) t → Steps p.tables e below (s₁.setTop (entryFrame m #[(.ref a1)] 1)) t := fun t k => castTop (ef_rm6 m a1) k
  obtain ⟨T1, X1, e1, st1⟩ := getF X0 hx hZ hown (host := "") (Or.inl (hw _ (List.mem_of_getElem? (i := 34) rfl))) Via.refl e0 F_nodes_a1 (g := (mkF m 1 #[.val (.ref a1)] [(.ref a1)])) rfl rfl (hb hby d6_1)
  obtain ⟨T2, X2, e2, st2⟩ := getF X1 hx hZ hown (host := "") (Or.inl (hw _ (List.mem_of_getElem? (i := 36) rfl))) Via.refl e1 F_rounds_a1 (g := (mkF m 6 #[.val (.ref a1)] [(.ref a1), (.long (p5.toInt64))])) rfl rfl (hb hby d6_6)
  obtain ⟨fs, hr, hrun, hended, hW, hsame⟩ := X2.leave (v := some (.long ((p5.toInt64) * (p6.toInt64)))) (fun h => by rw [Bd.returns] at h; cases h)
  refine ⟨_, _, pre0 _ ?_, hrun, hended, _, _, rfl, ?_, ⟨_, rfl⟩, hW, hsame.mono (by decide) (by decide)⟩
  · show Steps p.tables e below (s₁.setTop (mkF m 0 #[.val (.ref a1)] [])) _
    refine XS.aloadN X0.here hx rfl (hb hby d6_0) rfl rfl ?_
    show Steps p.tables e below (s₁.setTop (mkF m 1 #[.val (.ref a1)] [(.ref a1)])) _
    refine st1 _ ?_
    show Steps p.tables e below (T1.setTop (mkF m 4 #[.val (.ref a1)] [(.int p5)])) _
    refine XS.i2l X1.here hx rfl (hb hby d6_4) rfl ?_
    show Steps p.tables e below (T1.setTop (mkF m 5 #[.val (.ref a1)] [(.long (p5.toInt64))])) _
    refine XS.aloadN X1.here hx rfl (hb hby d6_5) rfl rfl ?_
    show Steps p.tables e below (T1.setTop (mkF m 6 #[.val (.ref a1)] [(.ref a1), (.long (p5.toInt64))])) _
    refine st2 _ ?_
    show Steps p.tables e below (T2.setTop (mkF m 9 #[.val (.ref a1)] [(.int p6), (.long (p5.toInt64))])) _
    refine XS.i2l X2.here hx rfl (hb hby d6_9) rfl ?_
    show Steps p.tables e below (T2.setTop (mkF m 10 #[.val (.ref a1)] [(.long (p6.toInt64)), (.long (p5.toInt64))])) _
    refine XS.lmul X2.here hx rfl (hb hby d6_10) rfl ?_
    show Steps p.tables e below (T2.setTop (mkF m 11 #[.val (.ref a1)] [(.long ((p5.toInt64) * (p6.toInt64)))])) _
    jvm_step X2.here [X2.here.top, hx, (hb hby d6_11), X2.method', Bd.returns, narrow]
    first | (intro acts; rw [hr _ acts rfl rfl rfl]) | rw [hr _ _ rfl rfl rfl]
    exact Steps.refl _
  · show Q_rm6 Z a1 p5 p6 h0 n0 _ T2.heap _
    rw [e2]
    exact ⟨rfl, N0, rfl⟩
theorem own_mx (p : Int32) : (p &&& (2147483647 : Int32)).toInt = p.toInt % 2 ^ 31 := Jvm.Kit.i32_mask p _ (k := 31) (by decide) (by decide)
theorem own_n (p : Int32) : ((2 : Int32) + ((p &&& (2147483647 : Int32)) % (999 : Int32))).toInt = 2 + (p.toInt % 2 ^ 31) % 999 := by
  have e := own_mx p
  have e1 : ((p &&& (2147483647 : Int32)) % (999 : Int32)).toInt = (p.toInt % 2 ^ 31) % 999 := by
    rw [Jvm.Kit.i32_rem_nonneg (by omega), e]; rfl
  have e2 : (2 : Int32).toInt = 2 := by decide
  rw [Jvm.Kit.i32_add (by omega) (by omega), e1, e2]
theorem own_r (p : Int32) : ((1 : Int32) + ((p &&& (2147483647 : Int32)) % (2147483647 : Int32))).toInt = 1 + (p.toInt % 2 ^ 31) % 2147483647 := by
  have e := own_mx p
  have e1 : ((p &&& (2147483647 : Int32)) % (2147483647 : Int32)).toInt = (p.toInt % 2 ^ 31) % 2147483647 := by
    rw [Jvm.Kit.i32_rem_nonneg (by omega), e]; rfl
  have e2 : (1 : Int32).toInt = 1 := by decide
  rw [Jvm.Kit.i32_add (by omega) (by omega), e1, e2]
theorem own_np (p : Int32) : 0 < ((2 : Int32) + ((p &&& (2147483647 : Int32)) % (999 : Int32))).toInt ∧ ((2 : Int32) + ((p &&& (2147483647 : Int32)) % (999 : Int32))).toInt ≤ 1000 := by
  have e := own_n p
  omega
theorem own_rp (p : Int32) : 0 < ((1 : Int32) + ((p &&& (2147483647 : Int32)) % (2147483647 : Int32))).toInt := by
  have e := own_r p
  omega
theorem own_add1 {n : Int32} (h : 0 < n.toInt ∧ n.toInt ≤ 1000) : (n + (1 : Int32)).toInt = n.toInt + 1 := by
  have e2 : (1 : Int32).toInt = 1 := by decide
  rw [Jvm.Kit.i32_add (by omega) (by omega), e2]
theorem own_neg {n : Int32} (h : 0 < n.toInt ∧ n.toInt ≤ 1000) : ¬ ((n + (1 : Int32)) < 0) := by
  have e := own_add1 h
  rw [Int32.lt_iff_toInt_lt, e, Int32.toInt_zero]; omega
theorem own_cap {n : Int32} (h : 0 < n.toInt ∧ n.toInt ≤ 1000) : (n + (1 : Int32)).toNatClampNeg ≤ 1001 := by
  have e := own_add1 h
  show (n + (1 : Int32)).toInt.toNat ≤ 1001
  omega
theorem own_nz {n : Int32} (h : 0 < n.toInt) : n.toInt64 ≠ 0 := fun q => by
  have e := congrArg Int64.toInt q
  rw [Jvm.Kit.i64_of_i32, Int64.toInt_zero] at e
  omega
theorem own_pos {n r : Int32} (h : 0 < n.toInt) (g : 0 < r.toInt) : (0 : Int64) < (n.toInt64 * r.toInt64) := by
  rw [Int64.lt_iff_toInt_lt, Jvm.Free.XT.wideMul, Int64.toInt_zero]
  exact Int.mul_pos h g
theorem own_div {n r : Int32} (h : 0 < n.toInt) : ((n.toInt64 * r.toInt64) / n.toInt64) = r.toInt64 := by
  rw [Int64.mul_comm]
  refine Jvm.Free.XT.mulDiv64 ?_ (own_nz h)
  have e := Jvm.Free.XT.wideMul r n
  have a := (r.toInt64 * n.toInt64).toInt_lt
  have b := (r.toInt64 * n.toInt64).le_toInt
  rw [e] at a b
  rw [Jvm.Kit.i64_of_i32, Jvm.Kit.i64_of_i32]
  exact ⟨by omega, by omega⟩
theorem own_rem {n r : Int32} (h : 0 < n.toInt) : ((n.toInt64 * r.toInt64) - ((n.toInt64 * r.toInt64) / n.toInt64) * n.toInt64) = (0 : Int64) := by
  rw [own_div h, Int64.mul_comm, Int64.sub_self]
theorem pd__28II_29V : parseMethodDescriptor "(II)V" = some ⟨[.int, .int], none⟩ := by decide +kernel
theorem pd__28_29J : parseMethodDescriptor "()J" = some ⟨[], some .long⟩ := by decide +kernel
theorem pn_com_example_muxal_muxal_sim_HeavyWorkloadRequestsPinLaw : plainName "com/example/muxal/muxal/sim/HeavyWorkloadRequestsPinLaw" = true := by first | (simp [plainName, overriddenIn]; done) | decide +kernel
theorem ef_rm0 (m : MethodId) (p1 : Int32) (p2 : Int32) : entryFrame m #[(.int p1), (.int p2)] maxLocals = mkF m 0 #[.val (.int p1), .val (.int p2), .unset, .unset, .unset, .unset, .unset, .unset, .unset] [] := by first | (simp [entryFrame, mkF, argsToLocals, Value.category, maxLocals]; done) | rfl
def Q_rm0 (Z : State) (p1 : Int32) (p2 : Int32) (h0 : Heap) (n0 : Nat) (v : Option Value) (h : Heap) (L : List Loc) : Prop := v = some (.int (1 : Int32)) ∧ Fr n0 L
set_option maxRecDepth 65536 in
set_option maxHeartbeats 40000000 in
theorem rm0 (l : Launch) (Z : State) (a0 : Array Value) (hw : ∀ d ∈ tables_1, d.before a0 Z = true) (ws : List Jvm.Cond) (p1 : Int32) (p2 : Int32) (h0 : Heap) (n0 : Nat) (Z0 : n0 ≤ h0.size) :
    MetFree l x (head1 (Jvm.Cond.code x code maxLocals ret :: ws) room_1) (fun a U => a = #[(.int p1), (.int p2)] ∧ Z.Warmed39 U.vm ∧ U.heap = h0) (fun _ _ _ _ _ => True) (fun _ U o U' => ∃ v L, o = .returned v ∧ Q_rm0 Z p1 p2 h0 n0 v U'.heap L ∧ FrameEnd U o U' L room_1.cells room_1.slots) := by
  refine MetFree.of_bodySF (plainFor_of_name pn_com_example_muxal_muxal_sim_HeavyWorkloadRequestsPinLaw) hisR ?_
  intro p e s m args below meth c s₁ Bd hml0 hP hK
  obtain ⟨rfl, hZ, hh⟩ := hP
  have hx := Bd.exec
  have hby := Bd.bytes
  have hml : c.maxLocals = 9 := hml0
  have hown : s.vm.findClass "com/example/muxal/muxal/sim/HeavyWorkloadRequestsPinLaw" = some m.cls := findClass_of_methodNamed Bd.named
  have hnm := (name_of_methodNamed Bd.named Bd.method).1
  have X0 : Stand p l e room_1 s m #[(.int p1), (.int p2)] below meth c s₁ [] 0 0 := Stand.of_body Bd
  have e0 : s₁.heap = h0 := by rw [← hh, Bd.state]; rfl
  have N0 := Fr.nil n0
  have pre0 : ∀ t, Steps p.tables e below (s₁.setTop (mkF m 0 #[.val (.int p1), .val (.int p2), .unset, .unset, .unset, .unset, .unset, .unset, .unset] [])) t → Steps p.tables e below (s₁.setTop (entryFrame m #[(.int p1), (.int p2)] maxLocals)) t := fun t k => castTop (ef_rm0 m p1 p2) k
  obtain ⟨T1, h1, X1, e1, E1, A1, D1, -, st1⟩ := newO X0 hx hZ hown (hw _ (List.mem_of_getElem? (i := 1) rfl)) (hw _ (List.mem_of_getElem? (i := 2) rfl)) (hw _ (List.mem_of_getElem? (i := 3) rfl)) e0 (g := (mkF m 21 #[.val (.int p1), .val (.int p2), .val (.int ((2 : Int32) + ((p1 &&& (2147483647 : Int32)) % (999 : Int32)))), .val (.int ((1 : Int32) + ((p2 &&& (2147483647 : Int32)) % (2147483647 : Int32)))), .unset, .unset, .unset, .unset, .unset] [])) rfl (hb hby at_21) (by decide) (by decide)
  obtain ⟨b1, g1⟩ : ∃ z, z = h0.size := ⟨_, rfl⟩
  rw [← g1] at A1 D1 st1
  have g_b1 : n0 ≤ b1 := Nat.le_trans Z0 (Nat.le_of_eq g1.symm)
  have sz_b1 : h0.size ≤ b1 := Nat.le_trans (Keep.refl h0 []).1 (Nat.le_of_eq g1.symm)
  have K2 : Keep h0 h1 [] := (Keep.refl h0 []).ext E1
  have F_again_b1 : Fld Z h1 b1 "com/example/muxal/muxal/sim/HeavyWorkload" "again" "Ljava/util/BitSet;" .null := D1 (Or.inr (hw _ (List.mem_of_getElem? (i := 33) rfl))) (ty := (.object "java/util/BitSet")) (by decide)
  have F_nodes_b1 : Fld Z h1 b1 "com/example/muxal/muxal/sim/HeavyWorkload" "nodes" "I" (.int (0 : Int32)) := D1 (Or.inr (hw _ (List.mem_of_getElem? (i := 35) rfl))) (ty := .int) (by decide)
  have F_rounds_b1 : Fld Z h1 b1 "com/example/muxal/muxal/sim/HeavyWorkload" "rounds" "I" (.int (0 : Int32)) := D1 (Or.inr (hw _ (List.mem_of_getElem? (i := 37) rfl))) (ty := .int) (by decide)
  have F_entries_b1 : Fld Z h1 b1 "com/example/muxal/muxal/sim/HeavyWorkload" "entries" "[I" .null := D1 (Or.inr (hw _ (List.mem_of_getElem? (i := 40) rfl))) (ty := (.array .int)) (by decide)
  obtain ⟨_, _, ⟨T3, L3, k3, n3⟩, -, X3, ⟨Lc3, hQ3, l3, y3, z3⟩, st3⟩ := X1.specialBack hx (y := (⟨"com/example/muxal/muxal/sim/HeavyWorkload", "<init>", "(II)V"⟩ : MethodName)) rfl hown (mvT hZ (hw _ (List.mem_of_getElem? (i := 4) rfl))) (mvT hZ (hw _ (List.mem_of_getElem? (i := 5) rfl))) (mvT hZ (hw _ (List.mem_of_getElem? (i := 6) rfl))) (by decide) (backOf (W := 1) (rm1 l Z a0 hw [] b1 ((2 : Int32) + ((p1 &&& (2147483647 : Int32)) % (999 : Int32))) ((1 : Int32) + ((p2 &&& (2147483647 : Int32)) % (2147483647 : Int32))) .null (.int (0 : Int32)) (.int (0 : Int32)) .null h1 n0 (Nat.le_trans Z0 K2.1) A1 F_again_b1 F_nodes_b1 F_rounds_b1 F_entries_b1 g_b1 (own_neg (own_np p1)) (own_cap (own_np p1))) hZ (hw _ (List.mem_of_getElem? (i := 6) rfl)) (hw _ (List.mem_of_getElem? (i := 3) rfl)) (by decide) (by decide)) (g := (mkF m 27 #[.val (.int p1), .val (.int p2), .val (.int ((2 : Int32) + ((p1 &&& (2147483647 : Int32)) % (999 : Int32)))), .val (.int ((1 : Int32) + ((p2 &&& (2147483647 : Int32)) % (2147483647 : Int32)))), .unset, .unset, .unset, .unset, .unset] [(.int ((1 : Int32) + ((p2 &&& (2147483647 : Int32)) % (2147483647 : Int32)))), (.int ((2 : Int32) + ((p1 &&& (2147483647 : Int32)) % (999 : Int32)))), (.ref b1), (.ref b1)])) rfl (by rw [hml]; rfl) (Steps.refl _) (a := b1) (argsL := [(.int ((2 : Int32) + ((p1 &&& (2147483647 : Int32)) % (999 : Int32)))), (.int ((1 : Int32) + ((p2 &&& (2147483647 : Int32)) % (2147483647 : Int32))))]) (rest := [(.ref b1)]) (lenOf pd__28II_29V rfl) rfl (by show 2 * 0 + _ ≤ _; exact Nat.le_of_eq rfl) (hb hby at_27) (fun _ _ => ⟨rfl, e1, (by decide : 1 + 3 ≤ _), (by decide : 5 + 1005 ≤ _)⟩)
  dsimp only [Pt.U, Pt.locs, Pt.cells, Pt.slots] at X3 l3 y3 z3 st3 hQ3
  subst l3 y3 z3
  obtain ⟨rfl, N3q, K3q, t3_0, t3_1, t3_2⟩ := hQ3
  have N3 := Fr.app N0 N3q
  have K3 : Keep h0 T3.heap [] := K2.trans K3q (allS (P := fun x => x ∈ [] ∨ h0.size ≤ x) (Or.inr sz_b1) all0)
  obtain ⟨cq4, kq4, q4a, q4b, q4c⟩ := isOf hZ rfl t3_0
  obtain ⟨_, _, ⟨T4, L4, k4, n4⟩, -, X4, ⟨Lc4, hQ4, l4, y4, z4⟩, st4⟩ := X3.virtualBack hx (y := (⟨"com/example/muxal/muxal/sim/HeavyWorkload", "requests", "()J"⟩ : MethodName)) (z := (⟨"com/example/muxal/muxal/sim/HeavyWorkload", "requests", "()J"⟩ : MethodName)) hown (mvT hZ (hw _ (List.mem_of_getElem? (i := 41) rfl))) (mvT hZ (hw _ (List.mem_of_getElem? (i := 42) rfl))) (notFace_of_selects (args := #[]) (mvT hZ (hw _ (List.mem_of_getElem? (i := 44) rfl)))) (mvT hZ (hw _ (List.mem_of_getElem? (i := 44) rfl))) (mvT hZ (hw _ (List.mem_of_getElem? (i := 43) rfl))) (by decide) (backOf (W := 0) (rm6 l Z a0 hw [] b1 ((2 : Int32) + ((p1 &&& (2147483647 : Int32)) % (999 : Int32))) ((1 : Int32) + ((p2 &&& (2147483647 : Int32)) % (2147483647 : Int32))) T3.heap n0 (Nat.le_trans Z0 K3.1) t3_1 t3_2) hZ (hw _ (List.mem_of_getElem? (i := 45) rfl)) (hw _ (List.mem_of_getElem? (i := 3) rfl)) (by decide) (by decide)) q4a q4c (g := (mkF m 34 #[.val (.int p1), .val (.int p2), .val (.int ((2 : Int32) + ((p1 &&& (2147483647 : Int32)) % (999 : Int32)))), .val (.int ((1 : Int32) + ((p2 &&& (2147483647 : Int32)) % (2147483647 : Int32)))), .val (.ref b1), .unset, .unset, .unset, .unset] [(.ref b1)])) rfl (by rw [hml]; rfl) (Steps.refl _) (argsL := []) (rest := []) (lenOf pd__28_29J rfl) rfl (by show 2 * 0 + _ ≤ _; exact Nat.le_of_eq rfl) (hb hby at_34) (fun _ _ => ⟨rfl, rfl, (by decide : 4 + 0 ≤ _), (by decide : 1010 + 0 ≤ _)⟩)
  dsimp only [Pt.U, Pt.locs, Pt.cells, Pt.slots] at X4 l4 y4 z4 st4 hQ4
  subst l4 y4 z4
  obtain ⟨rfl, N4q, e4⟩ := hQ4
  have N4 := Fr.app N3 N4q
  obtain ⟨fs, hr, hrun, hended, hW, hsame⟩ := X4.leave (v := some (.int (1 : Int32))) (fun h => by rw [Bd.returns] at h; cases h)
  refine ⟨_, _, pre0 _ ?_, hrun, hended, _, _, rfl, ?_, ⟨_, rfl⟩, hW, hsame.mono (by decide) (by decide)⟩
  · show Steps p.tables e below (s₁.setTop (mkF m 0 #[.val (.int p1), .val (.int p2), .unset, .unset, .unset, .unset, .unset, .unset, .unset] [])) _
    refine XS.iconst X0.here hx rfl (hb hby at_0) ?_
    show Steps p.tables e below (s₁.setTop (mkF m 1 #[.val (.int p1), .val (.int p2), .unset, .unset, .unset, .unset, .unset, .unset, .unset] [(.int (2 : Int32))])) _
    refine XS.iloadN X0.here hx rfl (hb hby at_1) rfl ?_
    show Steps p.tables e below (s₁.setTop (mkF m 2 #[.val (.int p1), .val (.int p2), .unset, .unset, .unset, .unset, .unset, .unset, .unset] [(.int p1), (.int (2 : Int32))])) _
    refine X0.ldcInt hx hown (mvT hZ (hw _ (List.mem_of_getElem? (i := 0) rfl))) (g := (mkF m 2 #[.val (.int p1), .val (.int p2), .unset, .unset, .unset, .unset, .unset, .unset, .unset] [(.int p1), (.int (2 : Int32))])) rfl (hb hby at_2) _ ?_
    show Steps p.tables e below (s₁.setTop (mkF m 4 #[.val (.int p1), .val (.int p2), .unset, .unset, .unset, .unset, .unset, .unset, .unset] [(.int (2147483647 : Int32)), (.int p1), (.int (2 : Int32))])) _
    refine XS.iand X0.here hx rfl (hb hby at_4) rfl ?_
    show Steps p.tables e below (s₁.setTop (mkF m 5 #[.val (.int p1), .val (.int p2), .unset, .unset, .unset, .unset, .unset, .unset, .unset] [(.int (p1 &&& (2147483647 : Int32))), (.int (2 : Int32))])) _
    refine XS.sipush X0.here hx rfl (hb hby at_5) ?_
    show Steps p.tables e below (s₁.setTop (mkF m 8 #[.val (.int p1), .val (.int p2), .unset, .unset, .unset, .unset, .unset, .unset, .unset] [(.int (999 : Int32)), (.int (p1 &&& (2147483647 : Int32))), (.int (2 : Int32))])) _
    refine iremM (g := (mkF m 8 #[.val (.int p1), .val (.int p2), .unset, .unset, .unset, .unset, .unset, .unset, .unset] [(.int (999 : Int32)), (.int (p1 &&& (2147483647 : Int32))), (.int (2 : Int32))])) X0 hx rfl (hb hby at_8) rfl (by decide) ?_
    show Steps p.tables e below (s₁.setTop (mkF m 9 #[.val (.int p1), .val (.int p2), .unset, .unset, .unset, .unset, .unset, .unset, .unset] [(.int ((p1 &&& (2147483647 : Int32)) % (999 : Int32))), (.int (2 : Int32))])) _
    refine XS.iadd X0.here hx rfl (hb hby at_9) rfl ?_
    show Steps p.tables e below (s₁.setTop (mkF m 10 #[.val (.int p1), .val (.int p2), .unset, .unset, .unset, .unset, .unset, .unset, .unset] [(.int ((2 : Int32) + ((p1 &&& (2147483647 : Int32)) % (999 : Int32))))])) _
    refine XS.istoreN X0.here hx rfl (hb hby at_10) rfl (l' := #[.val (.int p1), .val (.int p2), .val (.int ((2 : Int32) + ((p1 &&& (2147483647 : Int32)) % (999 : Int32)))), .unset, .unset, .unset, .unset, .unset, .unset]) rfl ?_
    show Steps p.tables e below (s₁.setTop (mkF m 11 #[.val (.int p1), .val (.int p2), .val (.int ((2 : Int32) + ((p1 &&& (2147483647 : Int32)) % (999 : Int32)))), .unset, .unset, .unset, .unset, .unset, .unset] [])) _
    refine XS.iconst X0.here hx rfl (hb hby at_11) ?_
    show Steps p.tables e below (s₁.setTop (mkF m 12 #[.val (.int p1), .val (.int p2), .val (.int ((2 : Int32) + ((p1 &&& (2147483647 : Int32)) % (999 : Int32)))), .unset, .unset, .unset, .unset, .unset, .unset] [(.int (1 : Int32))])) _
    refine XS.iloadN X0.here hx rfl (hb hby at_12) rfl ?_
    show Steps p.tables e below (s₁.setTop (mkF m 13 #[.val (.int p1), .val (.int p2), .val (.int ((2 : Int32) + ((p1 &&& (2147483647 : Int32)) % (999 : Int32)))), .unset, .unset, .unset, .unset, .unset, .unset] [(.int p2), (.int (1 : Int32))])) _
    refine X0.ldcInt hx hown (mvT hZ (hw _ (List.mem_of_getElem? (i := 0) rfl))) (g := (mkF m 13 #[.val (.int p1), .val (.int p2), .val (.int ((2 : Int32) + ((p1 &&& (2147483647 : Int32)) % (999 : Int32)))), .unset, .unset, .unset, .unset, .unset, .unset] [(.int p2), (.int (1 : Int32))])) rfl (hb hby at_13) _ ?_
    show Steps p.tables e below (s₁.setTop (mkF m 15 #[.val (.int p1), .val (.int p2), .val (.int ((2 : Int32) + ((p1 &&& (2147483647 : Int32)) % (999 : Int32)))), .unset, .unset, .unset, .unset, .unset, .unset] [(.int (2147483647 : Int32)), (.int p2), (.int (1 : Int32))])) _
    refine XS.iand X0.here hx rfl (hb hby at_15) rfl ?_
    show Steps p.tables e below (s₁.setTop (mkF m 16 #[.val (.int p1), .val (.int p2), .val (.int ((2 : Int32) + ((p1 &&& (2147483647 : Int32)) % (999 : Int32)))), .unset, .unset, .unset, .unset, .unset, .unset] [(.int (p2 &&& (2147483647 : Int32))), (.int (1 : Int32))])) _
    refine X0.ldcInt hx hown (mvT hZ (hw _ (List.mem_of_getElem? (i := 0) rfl))) (g := (mkF m 16 #[.val (.int p1), .val (.int p2), .val (.int ((2 : Int32) + ((p1 &&& (2147483647 : Int32)) % (999 : Int32)))), .unset, .unset, .unset, .unset, .unset, .unset] [(.int (p2 &&& (2147483647 : Int32))), (.int (1 : Int32))])) rfl (hb hby at_16) _ ?_
    show Steps p.tables e below (s₁.setTop (mkF m 18 #[.val (.int p1), .val (.int p2), .val (.int ((2 : Int32) + ((p1 &&& (2147483647 : Int32)) % (999 : Int32)))), .unset, .unset, .unset, .unset, .unset, .unset] [(.int (2147483647 : Int32)), (.int (p2 &&& (2147483647 : Int32))), (.int (1 : Int32))])) _
    refine iremM (g := (mkF m 18 #[.val (.int p1), .val (.int p2), .val (.int ((2 : Int32) + ((p1 &&& (2147483647 : Int32)) % (999 : Int32)))), .unset, .unset, .unset, .unset, .unset, .unset] [(.int (2147483647 : Int32)), (.int (p2 &&& (2147483647 : Int32))), (.int (1 : Int32))])) X0 hx rfl (hb hby at_18) rfl (by decide) ?_
    show Steps p.tables e below (s₁.setTop (mkF m 19 #[.val (.int p1), .val (.int p2), .val (.int ((2 : Int32) + ((p1 &&& (2147483647 : Int32)) % (999 : Int32)))), .unset, .unset, .unset, .unset, .unset, .unset] [(.int ((p2 &&& (2147483647 : Int32)) % (2147483647 : Int32))), (.int (1 : Int32))])) _
    refine XS.iadd X0.here hx rfl (hb hby at_19) rfl ?_
    show Steps p.tables e below (s₁.setTop (mkF m 20 #[.val (.int p1), .val (.int p2), .val (.int ((2 : Int32) + ((p1 &&& (2147483647 : Int32)) % (999 : Int32)))), .unset, .unset, .unset, .unset, .unset, .unset] [(.int ((1 : Int32) + ((p2 &&& (2147483647 : Int32)) % (2147483647 : Int32))))])) _
    refine XS.istoreN X0.here hx rfl (hb hby at_20) rfl (l' := #[.val (.int p1), .val (.int p2), .val (.int ((2 : Int32) + ((p1 &&& (2147483647 : Int32)) % (999 : Int32)))), .val (.int ((1 : Int32) + ((p2 &&& (2147483647 : Int32)) % (2147483647 : Int32)))), .unset, .unset, .unset, .unset, .unset]) rfl ?_
    show Steps p.tables e below (s₁.setTop (mkF m 21 #[.val (.int p1), .val (.int p2), .val (.int ((2 : Int32) + ((p1 &&& (2147483647 : Int32)) % (999 : Int32)))), .val (.int ((1 : Int32) + ((p2 &&& (2147483647 : Int32)) % (2147483647 : Int32)))), .unset, .unset, .unset, .unset, .unset] [])) _
    refine st1 _ ?_
    show Steps p.tables e below (T1.setTop (mkF m 24 #[.val (.int p1), .val (.int p2), .val (.int ((2 : Int32) + ((p1 &&& (2147483647 : Int32)) % (999 : Int32)))), .val (.int ((1 : Int32) + ((p2 &&& (2147483647 : Int32)) % (2147483647 : Int32)))), .unset, .unset, .unset, .unset, .unset] [(.ref b1)])) _
    refine XS.dup X1.here hx rfl (hb hby at_24) rfl rfl ?_
    show Steps p.tables e below (T1.setTop (mkF m 25 #[.val (.int p1), .val (.int p2), .val (.int ((2 : Int32) + ((p1 &&& (2147483647 : Int32)) % (999 : Int32)))), .val (.int ((1 : Int32) + ((p2 &&& (2147483647 : Int32)) % (2147483647 : Int32)))), .unset, .unset, .unset, .unset, .unset] [(.ref b1), (.ref b1)])) _
    refine XS.iloadN X1.here hx rfl (hb hby at_25) rfl ?_
    show Steps p.tables e below (T1.setTop (mkF m 26 #[.val (.int p1), .val (.int p2), .val (.int ((2 : Int32) + ((p1 &&& (2147483647 : Int32)) % (999 : Int32)))), .val (.int ((1 : Int32) + ((p2 &&& (2147483647 : Int32)) % (2147483647 : Int32)))), .unset, .unset, .unset, .unset, .unset] [(.int ((2 : Int32) + ((p1 &&& (2147483647 : Int32)) % (999 : Int32)))), (.ref b1), (.ref b1)])) _
    refine XS.iloadN X1.here hx rfl (hb hby at_26) rfl ?_
    show Steps p.tables e below (T1.setTop (mkF m 27 #[.val (.int p1), .val (.int p2), .val (.int ((2 : Int32) + ((p1 &&& (2147483647 : Int32)) % (999 : Int32)))), .val (.int ((1 : Int32) + ((p2 &&& (2147483647 : Int32)) % (2147483647 : Int32)))), .unset, .unset, .unset, .unset, .unset] [(.int ((1 : Int32) + ((p2 &&& (2147483647 : Int32)) % (2147483647 : Int32)))), (.int ((2 : Int32) + ((p1 &&& (2147483647 : Int32)) % (999 : Int32)))), (.ref b1), (.ref b1)])) _
    refine st3.trans ?_
    show Steps p.tables e below (T3.setTop (mkF m 30 #[.val (.int p1), .val (.int p2), .val (.int ((2 : Int32) + ((p1 &&& (2147483647 : Int32)) % (999 : Int32)))), .val (.int ((1 : Int32) + ((p2 &&& (2147483647 : Int32)) % (2147483647 : Int32)))), .unset, .unset, .unset, .unset, .unset] [(.ref b1)])) _
    refine XS.astore X3.here hx rfl (hb hby at_30) rfl rfl (l' := #[.val (.int p1), .val (.int p2), .val (.int ((2 : Int32) + ((p1 &&& (2147483647 : Int32)) % (999 : Int32)))), .val (.int ((1 : Int32) + ((p2 &&& (2147483647 : Int32)) % (2147483647 : Int32)))), .val (.ref b1), .unset, .unset, .unset, .unset]) rfl ?_
    show Steps p.tables e below (T3.setTop (mkF m 32 #[.val (.int p1), .val (.int p2), .val (.int ((2 : Int32) + ((p1 &&& (2147483647 : Int32)) % (999 : Int32)))), .val (.int ((1 : Int32) + ((p2 &&& (2147483647 : Int32)) % (2147483647 : Int32)))), .val (.ref b1), .unset, .unset, .unset, .unset] [])) _
    refine XS.aload X3.here hx rfl (hb hby at_32) rfl rfl ?_
    show Steps p.tables e below (T3.setTop (mkF m 34 #[.val (.int p1), .val (.int p2), .val (.int ((2 : Int32) + ((p1 &&& (2147483647 : Int32)) % (999 : Int32)))), .val (.int ((1 : Int32) + ((p2 &&& (2147483647 : Int32)) % (2147483647 : Int32)))), .val (.ref b1), .unset, .unset, .unset, .unset] [(.ref b1)])) _
    refine st4.trans ?_
    show Steps p.tables e below (T4.setTop (mkF m 37 #[.val (.int p1), .val (.int p2), .val (.int ((2 : Int32) + ((p1 &&& (2147483647 : Int32)) % (999 : Int32)))), .val (.int ((1 : Int32) + ((p2 &&& (2147483647 : Int32)) % (2147483647 : Int32)))), .val (.ref b1), .unset, .unset, .unset, .unset] [(.long ((((2 : Int32) + ((p1 &&& (2147483647 : Int32)) % (999 : Int32))).toInt64) * (((1 : Int32) + ((p2 &&& (2147483647 : Int32)) % (2147483647 : Int32))).toInt64)))])) _
    refine XS.lstore X4.here hx rfl (hb hby at_37) rfl (l' := #[.val (.int p1), .val (.int p2), .val (.int ((2 : Int32) + ((p1 &&& (2147483647 : Int32)) % (999 : Int32)))), .val (.int ((1 : Int32) + ((p2 &&& (2147483647 : Int32)) % (2147483647 : Int32)))), .val (.ref b1), .val (.long ((((2 : Int32) + ((p1 &&& (2147483647 : Int32)) % (999 : Int32))).toInt64) * (((1 : Int32) + ((p2 &&& (2147483647 : Int32)) % (2147483647 : Int32))).toInt64))), .second, .unset, .unset]) rfl ?_
    show Steps p.tables e below (T4.setTop (mkF m 39 #[.val (.int p1), .val (.int p2), .val (.int ((2 : Int32) + ((p1 &&& (2147483647 : Int32)) % (999 : Int32)))), .val (.int ((1 : Int32) + ((p2 &&& (2147483647 : Int32)) % (2147483647 : Int32)))), .val (.ref b1), .val (.long ((((2 : Int32) + ((p1 &&& (2147483647 : Int32)) % (999 : Int32))).toInt64) * (((1 : Int32) + ((p2 &&& (2147483647 : Int32)) % (2147483647 : Int32))).toInt64))), .second, .unset, .unset] [])) _
    refine XS.iloadN X4.here hx rfl (hb hby at_39) rfl ?_
    show Steps p.tables e below (T4.setTop (mkF m 40 #[.val (.int p1), .val (.int p2), .val (.int ((2 : Int32) + ((p1 &&& (2147483647 : Int32)) % (999 : Int32)))), .val (.int ((1 : Int32) + ((p2 &&& (2147483647 : Int32)) % (2147483647 : Int32)))), .val (.ref b1), .val (.long ((((2 : Int32) + ((p1 &&& (2147483647 : Int32)) % (999 : Int32))).toInt64) * (((1 : Int32) + ((p2 &&& (2147483647 : Int32)) % (2147483647 : Int32))).toInt64))), .second, .unset, .unset] [(.int ((2 : Int32) + ((p1 &&& (2147483647 : Int32)) % (999 : Int32))))])) _
    refine XS.i2l X4.here hx rfl (hb hby at_40) rfl ?_
    show Steps p.tables e below (T4.setTop (mkF m 41 #[.val (.int p1), .val (.int p2), .val (.int ((2 : Int32) + ((p1 &&& (2147483647 : Int32)) % (999 : Int32)))), .val (.int ((1 : Int32) + ((p2 &&& (2147483647 : Int32)) % (2147483647 : Int32)))), .val (.ref b1), .val (.long ((((2 : Int32) + ((p1 &&& (2147483647 : Int32)) % (999 : Int32))).toInt64) * (((1 : Int32) + ((p2 &&& (2147483647 : Int32)) % (2147483647 : Int32))).toInt64))), .second, .unset, .unset] [(.long (((2 : Int32) + ((p1 &&& (2147483647 : Int32)) % (999 : Int32))).toInt64))])) _
    refine XS.lstore X4.here hx rfl (hb hby at_41) rfl (l' := #[.val (.int p1), .val (.int p2), .val (.int ((2 : Int32) + ((p1 &&& (2147483647 : Int32)) % (999 : Int32)))), .val (.int ((1 : Int32) + ((p2 &&& (2147483647 : Int32)) % (2147483647 : Int32)))), .val (.ref b1), .val (.long ((((2 : Int32) + ((p1 &&& (2147483647 : Int32)) % (999 : Int32))).toInt64) * (((1 : Int32) + ((p2 &&& (2147483647 : Int32)) % (2147483647 : Int32))).toInt64))), .second, .val (.long (((2 : Int32) + ((p1 &&& (2147483647 : Int32)) % (999 : Int32))).toInt64)), .second]) rfl ?_
    show Steps p.tables e below (T4.setTop (mkF m 43 #[.val (.int p1), .val (.int p2), .val (.int ((2 : Int32) + ((p1 &&& (2147483647 : Int32)) % (999 : Int32)))), .val (.int ((1 : Int32) + ((p2 &&& (2147483647 : Int32)) % (2147483647 : Int32)))), .val (.ref b1), .val (.long ((((2 : Int32) + ((p1 &&& (2147483647 : Int32)) % (999 : Int32))).toInt64) * (((1 : Int32) + ((p2 &&& (2147483647 : Int32)) % (2147483647 : Int32))).toInt64))), .second, .val (.long (((2 : Int32) + ((p1 &&& (2147483647 : Int32)) % (999 : Int32))).toInt64)), .second] [])) _
    refine XS.lload X4.here hx rfl (hb hby at_43) rfl ?_
    show Steps p.tables e below (T4.setTop (mkF m 45 #[.val (.int p1), .val (.int p2), .val (.int ((2 : Int32) + ((p1 &&& (2147483647 : Int32)) % (999 : Int32)))), .val (.int ((1 : Int32) + ((p2 &&& (2147483647 : Int32)) % (2147483647 : Int32)))), .val (.ref b1), .val (.long ((((2 : Int32) + ((p1 &&& (2147483647 : Int32)) % (999 : Int32))).toInt64) * (((1 : Int32) + ((p2 &&& (2147483647 : Int32)) % (2147483647 : Int32))).toInt64))), .second, .val (.long (((2 : Int32) + ((p1 &&& (2147483647 : Int32)) % (999 : Int32))).toInt64)), .second] [(.long ((((2 : Int32) + ((p1 &&& (2147483647 : Int32)) % (999 : Int32))).toInt64) * (((1 : Int32) + ((p2 &&& (2147483647 : Int32)) % (2147483647 : Int32))).toInt64)))])) _
    refine XS.lconst X4.here hx rfl (hb hby at_45) ?_
    show Steps p.tables e below (T4.setTop (mkF m 46 #[.val (.int p1), .val (.int p2), .val (.int ((2 : Int32) + ((p1 &&& (2147483647 : Int32)) % (999 : Int32)))), .val (.int ((1 : Int32) + ((p2 &&& (2147483647 : Int32)) % (2147483647 : Int32)))), .val (.ref b1), .val (.long ((((2 : Int32) + ((p1 &&& (2147483647 : Int32)) % (999 : Int32))).toInt64) * (((1 : Int32) + ((p2 &&& (2147483647 : Int32)) % (2147483647 : Int32))).toInt64))), .second, .val (.long (((2 : Int32) + ((p1 &&& (2147483647 : Int32)) % (999 : Int32))).toInt64)), .second] [(.long (0 : Int64)), (.long ((((2 : Int32) + ((p1 &&& (2147483647 : Int32)) % (999 : Int32))).toInt64) * (((1 : Int32) + ((p2 &&& (2147483647 : Int32)) % (2147483647 : Int32))).toInt64)))])) _
    refine XS.lcmp X4.here hx rfl (hb hby at_46) rfl ?_
    show Steps p.tables e below (T4.setTop (mkF m 47 #[.val (.int p1), .val (.int p2), .val (.int ((2 : Int32) + ((p1 &&& (2147483647 : Int32)) % (999 : Int32)))), .val (.int ((1 : Int32) + ((p2 &&& (2147483647 : Int32)) % (2147483647 : Int32)))), .val (.ref b1), .val (.long ((((2 : Int32) + ((p1 &&& (2147483647 : Int32)) % (999 : Int32))).toInt64) * (((1 : Int32) + ((p2 &&& (2147483647 : Int32)) % (2147483647 : Int32))).toInt64))), .second, .val (.long (((2 : Int32) + ((p1 &&& (2147483647 : Int32)) % (999 : Int32))).toInt64)), .second] [(.int (lcmpW ((((2 : Int32) + ((p1 &&& (2147483647 : Int32)) % (999 : Int32))).toInt64) * (((1 : Int32) + ((p2 &&& (2147483647 : Int32)) % (2147483647 : Int32))).toInt64)) (0 : Int64)))])) _
    refine XS.ifNo X4.here hx rfl (hb hby at_47) rfl (own_lleF (own_pos (own_np p1).1 (own_rp p2) : (0 : Int64) < ((((2 : Int32) + ((p1 &&& (2147483647 : Int32)) % (999 : Int32))).toInt64) * (((1 : Int32) + ((p2 &&& (2147483647 : Int32)) % (2147483647 : Int32))).toInt64)))) ?_
    show Steps p.tables e below (T4.setTop (mkF m 50 #[.val (.int p1), .val (.int p2), .val (.int ((2 : Int32) + ((p1 &&& (2147483647 : Int32)) % (999 : Int32)))), .val (.int ((1 : Int32) + ((p2 &&& (2147483647 : Int32)) % (2147483647 : Int32)))), .val (.ref b1), .val (.long ((((2 : Int32) + ((p1 &&& (2147483647 : Int32)) % (999 : Int32))).toInt64) * (((1 : Int32) + ((p2 &&& (2147483647 : Int32)) % (2147483647 : Int32))).toInt64))), .second, .val (.long (((2 : Int32) + ((p1 &&& (2147483647 : Int32)) % (999 : Int32))).toInt64)), .second] [])) _
    refine XS.lload X4.here hx rfl (hb hby at_50) rfl ?_
    show Steps p.tables e below (T4.setTop (mkF m 52 #[.val (.int p1), .val (.int p2), .val (.int ((2 : Int32) + ((p1 &&& (2147483647 : Int32)) % (999 : Int32)))), .val (.int ((1 : Int32) + ((p2 &&& (2147483647 : Int32)) % (2147483647 : Int32)))), .val (.ref b1), .val (.long ((((2 : Int32) + ((p1 &&& (2147483647 : Int32)) % (999 : Int32))).toInt64) * (((1 : Int32) + ((p2 &&& (2147483647 : Int32)) % (2147483647 : Int32))).toInt64))), .second, .val (.long (((2 : Int32) + ((p1 &&& (2147483647 : Int32)) % (999 : Int32))).toInt64)), .second] [(.long ((((2 : Int32) + ((p1 &&& (2147483647 : Int32)) % (999 : Int32))).toInt64) * (((1 : Int32) + ((p2 &&& (2147483647 : Int32)) % (2147483647 : Int32))).toInt64)))])) _
    refine XS.lload X4.here hx rfl (hb hby at_52) rfl ?_
    show Steps p.tables e below (T4.setTop (mkF m 54 #[.val (.int p1), .val (.int p2), .val (.int ((2 : Int32) + ((p1 &&& (2147483647 : Int32)) % (999 : Int32)))), .val (.int ((1 : Int32) + ((p2 &&& (2147483647 : Int32)) % (2147483647 : Int32)))), .val (.ref b1), .val (.long ((((2 : Int32) + ((p1 &&& (2147483647 : Int32)) % (999 : Int32))).toInt64) * (((1 : Int32) + ((p2 &&& (2147483647 : Int32)) % (2147483647 : Int32))).toInt64))), .second, .val (.long (((2 : Int32) + ((p1 &&& (2147483647 : Int32)) % (999 : Int32))).toInt64)), .second] [(.long (((2 : Int32) + ((p1 &&& (2147483647 : Int32)) % (999 : Int32))).toInt64)), (.long ((((2 : Int32) + ((p1 &&& (2147483647 : Int32)) % (999 : Int32))).toInt64) * (((1 : Int32) + ((p2 &&& (2147483647 : Int32)) % (2147483647 : Int32))).toInt64)))])) _
    refine XS.lrem X4.here hx rfl (hb hby at_54) rfl (own_nz (own_np p1).1) ?_
    show Steps p.tables e below (T4.setTop (mkF m 55 #[.val (.int p1), .val (.int p2), .val (.int ((2 : Int32) + ((p1 &&& (2147483647 : Int32)) % (999 : Int32)))), .val (.int ((1 : Int32) + ((p2 &&& (2147483647 : Int32)) % (2147483647 : Int32)))), .val (.ref b1), .val (.long ((((2 : Int32) + ((p1 &&& (2147483647 : Int32)) % (999 : Int32))).toInt64) * (((1 : Int32) + ((p2 &&& (2147483647 : Int32)) % (2147483647 : Int32))).toInt64))), .second, .val (.long (((2 : Int32) + ((p1 &&& (2147483647 : Int32)) % (999 : Int32))).toInt64)), .second] [(.long (((((2 : Int32) + ((p1 &&& (2147483647 : Int32)) % (999 : Int32))).toInt64) * (((1 : Int32) + ((p2 &&& (2147483647 : Int32)) % (2147483647 : Int32))).toInt64)) - (((((2 : Int32) + ((p1 &&& (2147483647 : Int32)) % (999 : Int32))).toInt64) * (((1 : Int32) + ((p2 &&& (2147483647 : Int32)) % (2147483647 : Int32))).toInt64)) / (((2 : Int32) + ((p1 &&& (2147483647 : Int32)) % (999 : Int32))).toInt64)) * (((2 : Int32) + ((p1 &&& (2147483647 : Int32)) % (999 : Int32))).toInt64)))])) _
    refine XS.lconst X4.here hx rfl (hb hby at_55) ?_
    show Steps p.tables e below (T4.setTop (mkF m 56 #[.val (.int p1), .val (.int p2), .val (.int ((2 : Int32) + ((p1 &&& (2147483647 : Int32)) % (999 : Int32)))), .val (.int ((1 : Int32) + ((p2 &&& (2147483647 : Int32)) % (2147483647 : Int32)))), .val (.ref b1), .val (.long ((((2 : Int32) + ((p1 &&& (2147483647 : Int32)) % (999 : Int32))).toInt64) * (((1 : Int32) + ((p2 &&& (2147483647 : Int32)) % (2147483647 : Int32))).toInt64))), .second, .val (.long (((2 : Int32) + ((p1 &&& (2147483647 : Int32)) % (999 : Int32))).toInt64)), .second] [(.long (0 : Int64)), (.long (((((2 : Int32) + ((p1 &&& (2147483647 : Int32)) % (999 : Int32))).toInt64) * (((1 : Int32) + ((p2 &&& (2147483647 : Int32)) % (2147483647 : Int32))).toInt64)) - (((((2 : Int32) + ((p1 &&& (2147483647 : Int32)) % (999 : Int32))).toInt64) * (((1 : Int32) + ((p2 &&& (2147483647 : Int32)) % (2147483647 : Int32))).toInt64)) / (((2 : Int32) + ((p1 &&& (2147483647 : Int32)) % (999 : Int32))).toInt64)) * (((2 : Int32) + ((p1 &&& (2147483647 : Int32)) % (999 : Int32))).toInt64)))])) _
    refine XS.lcmp X4.here hx rfl (hb hby at_56) rfl ?_
    show Steps p.tables e below (T4.setTop (mkF m 57 #[.val (.int p1), .val (.int p2), .val (.int ((2 : Int32) + ((p1 &&& (2147483647 : Int32)) % (999 : Int32)))), .val (.int ((1 : Int32) + ((p2 &&& (2147483647 : Int32)) % (2147483647 : Int32)))), .val (.ref b1), .val (.long ((((2 : Int32) + ((p1 &&& (2147483647 : Int32)) % (999 : Int32))).toInt64) * (((1 : Int32) + ((p2 &&& (2147483647 : Int32)) % (2147483647 : Int32))).toInt64))), .second, .val (.long (((2 : Int32) + ((p1 &&& (2147483647 : Int32)) % (999 : Int32))).toInt64)), .second] [(.int (lcmpW (((((2 : Int32) + ((p1 &&& (2147483647 : Int32)) % (999 : Int32))).toInt64) * (((1 : Int32) + ((p2 &&& (2147483647 : Int32)) % (2147483647 : Int32))).toInt64)) - (((((2 : Int32) + ((p1 &&& (2147483647 : Int32)) % (999 : Int32))).toInt64) * (((1 : Int32) + ((p2 &&& (2147483647 : Int32)) % (2147483647 : Int32))).toInt64)) / (((2 : Int32) + ((p1 &&& (2147483647 : Int32)) % (999 : Int32))).toInt64)) * (((2 : Int32) + ((p1 &&& (2147483647 : Int32)) % (999 : Int32))).toInt64)) (0 : Int64)))])) _
    refine XS.ifNo X4.here hx rfl (hb hby at_57) rfl (own_lneF (own_rem (own_np p1).1 : (((((2 : Int32) + ((p1 &&& (2147483647 : Int32)) % (999 : Int32))).toInt64) * (((1 : Int32) + ((p2 &&& (2147483647 : Int32)) % (2147483647 : Int32))).toInt64)) - (((((2 : Int32) + ((p1 &&& (2147483647 : Int32)) % (999 : Int32))).toInt64) * (((1 : Int32) + ((p2 &&& (2147483647 : Int32)) % (2147483647 : Int32))).toInt64)) / (((2 : Int32) + ((p1 &&& (2147483647 : Int32)) % (999 : Int32))).toInt64)) * (((2 : Int32) + ((p1 &&& (2147483647 : Int32)) % (999 : Int32))).toInt64)) = (0 : Int64))) ?_
    show Steps p.tables e below (T4.setTop (mkF m 60 #[.val (.int p1), .val (.int p2), .val (.int ((2 : Int32) + ((p1 &&& (2147483647 : Int32)) % (999 : Int32)))), .val (.int ((1 : Int32) + ((p2 &&& (2147483647 : Int32)) % (2147483647 : Int32)))), .val (.ref b1), .val (.long ((((2 : Int32) + ((p1 &&& (2147483647 : Int32)) % (999 : Int32))).toInt64) * (((1 : Int32) + ((p2 &&& (2147483647 : Int32)) % (2147483647 : Int32))).toInt64))), .second, .val (.long (((2 : Int32) + ((p1 &&& (2147483647 : Int32)) % (999 : Int32))).toInt64)), .second] [])) _
    refine XS.lload X4.here hx rfl (hb hby at_60) rfl ?_
    show Steps p.tables e below (T4.setTop (mkF m 62 #[.val (.int p1), .val (.int p2), .val (.int ((2 : Int32) + ((p1 &&& (2147483647 : Int32)) % (999 : Int32)))), .val (.int ((1 : Int32) + ((p2 &&& (2147483647 : Int32)) % (2147483647 : Int32)))), .val (.ref b1), .val (.long ((((2 : Int32) + ((p1 &&& (2147483647 : Int32)) % (999 : Int32))).toInt64) * (((1 : Int32) + ((p2 &&& (2147483647 : Int32)) % (2147483647 : Int32))).toInt64))), .second, .val (.long (((2 : Int32) + ((p1 &&& (2147483647 : Int32)) % (999 : Int32))).toInt64)), .second] [(.long ((((2 : Int32) + ((p1 &&& (2147483647 : Int32)) % (999 : Int32))).toInt64) * (((1 : Int32) + ((p2 &&& (2147483647 : Int32)) % (2147483647 : Int32))).toInt64)))])) _
    refine XS.lload X4.here hx rfl (hb hby at_62) rfl ?_
    show Steps p.tables e below (T4.setTop (mkF m 64 #[.val (.int p1), .val (.int p2), .val (.int ((2 : Int32) + ((p1 &&& (2147483647 : Int32)) % (999 : Int32)))), .val (.int ((1 : Int32) + ((p2 &&& (2147483647 : Int32)) % (2147483647 : Int32)))), .val (.ref b1), .val (.long ((((2 : Int32) + ((p1 &&& (2147483647 : Int32)) % (999 : Int32))).toInt64) * (((1 : Int32) + ((p2 &&& (2147483647 : Int32)) % (2147483647 : Int32))).toInt64))), .second, .val (.long (((2 : Int32) + ((p1 &&& (2147483647 : Int32)) % (999 : Int32))).toInt64)), .second] [(.long (((2 : Int32) + ((p1 &&& (2147483647 : Int32)) % (999 : Int32))).toInt64)), (.long ((((2 : Int32) + ((p1 &&& (2147483647 : Int32)) % (999 : Int32))).toInt64) * (((1 : Int32) + ((p2 &&& (2147483647 : Int32)) % (2147483647 : Int32))).toInt64)))])) _
    refine XS.ldiv X4.here hx rfl (hb hby at_64) rfl (own_nz (own_np p1).1) ?_
    show Steps p.tables e below (T4.setTop (mkF m 65 #[.val (.int p1), .val (.int p2), .val (.int ((2 : Int32) + ((p1 &&& (2147483647 : Int32)) % (999 : Int32)))), .val (.int ((1 : Int32) + ((p2 &&& (2147483647 : Int32)) % (2147483647 : Int32)))), .val (.ref b1), .val (.long ((((2 : Int32) + ((p1 &&& (2147483647 : Int32)) % (999 : Int32))).toInt64) * (((1 : Int32) + ((p2 &&& (2147483647 : Int32)) % (2147483647 : Int32))).toInt64))), .second, .val (.long (((2 : Int32) + ((p1 &&& (2147483647 : Int32)) % (999 : Int32))).toInt64)), .second] [(.long (((((2 : Int32) + ((p1 &&& (2147483647 : Int32)) % (999 : Int32))).toInt64) * (((1 : Int32) + ((p2 &&& (2147483647 : Int32)) % (2147483647 : Int32))).toInt64)) / (((2 : Int32) + ((p1 &&& (2147483647 : Int32)) % (999 : Int32))).toInt64)))])) _
    refine XS.iloadN X4.here hx rfl (hb hby at_65) rfl ?_
    show Steps p.tables e below (T4.setTop (mkF m 66 #[.val (.int p1), .val (.int p2), .val (.int ((2 : Int32) + ((p1 &&& (2147483647 : Int32)) % (999 : Int32)))), .val (.int ((1 : Int32) + ((p2 &&& (2147483647 : Int32)) % (2147483647 : Int32)))), .val (.ref b1), .val (.long ((((2 : Int32) + ((p1 &&& (2147483647 : Int32)) % (999 : Int32))).toInt64) * (((1 : Int32) + ((p2 &&& (2147483647 : Int32)) % (2147483647 : Int32))).toInt64))), .second, .val (.long (((2 : Int32) + ((p1 &&& (2147483647 : Int32)) % (999 : Int32))).toInt64)), .second] [(.int ((1 : Int32) + ((p2 &&& (2147483647 : Int32)) % (2147483647 : Int32)))), (.long (((((2 : Int32) + ((p1 &&& (2147483647 : Int32)) % (999 : Int32))).toInt64) * (((1 : Int32) + ((p2 &&& (2147483647 : Int32)) % (2147483647 : Int32))).toInt64)) / (((2 : Int32) + ((p1 &&& (2147483647 : Int32)) % (999 : Int32))).toInt64)))])) _
    refine XS.i2l X4.here hx rfl (hb hby at_66) rfl ?_
    show Steps p.tables e below (T4.setTop (mkF m 67 #[.val (.int p1), .val (.int p2), .val (.int ((2 : Int32) + ((p1 &&& (2147483647 : Int32)) % (999 : Int32)))), .val (.int ((1 : Int32) + ((p2 &&& (2147483647 : Int32)) % (2147483647 : Int32)))), .val (.ref b1), .val (.long ((((2 : Int32) + ((p1 &&& (2147483647 : Int32)) % (999 : Int32))).toInt64) * (((1 : Int32) + ((p2 &&& (2147483647 : Int32)) % (2147483647 : Int32))).toInt64))), .second, .val (.long (((2 : Int32) + ((p1 &&& (2147483647 : Int32)) % (999 : Int32))).toInt64)), .second] [(.long (((1 : Int32) + ((p2 &&& (2147483647 : Int32)) % (2147483647 : Int32))).toInt64)), (.long (((((2 : Int32) + ((p1 &&& (2147483647 : Int32)) % (999 : Int32))).toInt64) * (((1 : Int32) + ((p2 &&& (2147483647 : Int32)) % (2147483647 : Int32))).toInt64)) / (((2 : Int32) + ((p1 &&& (2147483647 : Int32)) % (999 : Int32))).toInt64)))])) _
    refine XS.lcmp X4.here hx rfl (hb hby at_67) rfl ?_
    show Steps p.tables e below (T4.setTop (mkF m 68 #[.val (.int p1), .val (.int p2), .val (.int ((2 : Int32) + ((p1 &&& (2147483647 : Int32)) % (999 : Int32)))), .val (.int ((1 : Int32) + ((p2 &&& (2147483647 : Int32)) % (2147483647 : Int32)))), .val (.ref b1), .val (.long ((((2 : Int32) + ((p1 &&& (2147483647 : Int32)) % (999 : Int32))).toInt64) * (((1 : Int32) + ((p2 &&& (2147483647 : Int32)) % (2147483647 : Int32))).toInt64))), .second, .val (.long (((2 : Int32) + ((p1 &&& (2147483647 : Int32)) % (999 : Int32))).toInt64)), .second] [(.int (lcmpW (((((2 : Int32) + ((p1 &&& (2147483647 : Int32)) % (999 : Int32))).toInt64) * (((1 : Int32) + ((p2 &&& (2147483647 : Int32)) % (2147483647 : Int32))).toInt64)) / (((2 : Int32) + ((p1 &&& (2147483647 : Int32)) % (999 : Int32))).toInt64)) (((1 : Int32) + ((p2 &&& (2147483647 : Int32)) % (2147483647 : Int32))).toInt64)))])) _
    refine XS.ifNo X4.here hx rfl (hb hby at_68) rfl (own_lneF (own_div (own_np p1).1 : (((((2 : Int32) + ((p1 &&& (2147483647 : Int32)) % (999 : Int32))).toInt64) * (((1 : Int32) + ((p2 &&& (2147483647 : Int32)) % (2147483647 : Int32))).toInt64)) / (((2 : Int32) + ((p1 &&& (2147483647 : Int32)) % (999 : Int32))).toInt64)) = (((1 : Int32) + ((p2 &&& (2147483647 : Int32)) % (2147483647 : Int32))).toInt64))) ?_
    show Steps p.tables e below (T4.setTop (mkF m 71 #[.val (.int p1), .val (.int p2), .val (.int ((2 : Int32) + ((p1 &&& (2147483647 : Int32)) % (999 : Int32)))), .val (.int ((1 : Int32) + ((p2 &&& (2147483647 : Int32)) % (2147483647 : Int32)))), .val (.ref b1), .val (.long ((((2 : Int32) + ((p1 &&& (2147483647 : Int32)) % (999 : Int32))).toInt64) * (((1 : Int32) + ((p2 &&& (2147483647 : Int32)) % (2147483647 : Int32))).toInt64))), .second, .val (.long (((2 : Int32) + ((p1 &&& (2147483647 : Int32)) % (999 : Int32))).toInt64)), .second] [])) _
    refine XS.iconst X4.here hx rfl (hb hby at_71) ?_
    show Steps p.tables e below (T4.setTop (mkF m 72 #[.val (.int p1), .val (.int p2), .val (.int ((2 : Int32) + ((p1 &&& (2147483647 : Int32)) % (999 : Int32)))), .val (.int ((1 : Int32) + ((p2 &&& (2147483647 : Int32)) % (2147483647 : Int32)))), .val (.ref b1), .val (.long ((((2 : Int32) + ((p1 &&& (2147483647 : Int32)) % (999 : Int32))).toInt64) * (((1 : Int32) + ((p2 &&& (2147483647 : Int32)) % (2147483647 : Int32))).toInt64))), .second, .val (.long (((2 : Int32) + ((p1 &&& (2147483647 : Int32)) % (999 : Int32))).toInt64)), .second] [(.int (1 : Int32))])) _
    refine XS.goto X4.here hx rfl (pc0 := 72) (pc' := 76) rfl (hb hby at_72) (by decide) (by decide) ?_
    show Steps p.tables e below (T4.setTop (mkF m 76 #[.val (.int p1), .val (.int p2), .val (.int ((2 : Int32) + ((p1 &&& (2147483647 : Int32)) % (999 : Int32)))), .val (.int ((1 : Int32) + ((p2 &&& (2147483647 : Int32)) % (2147483647 : Int32)))), .val (.ref b1), .val (.long ((((2 : Int32) + ((p1 &&& (2147483647 : Int32)) % (999 : Int32))).toInt64) * (((1 : Int32) + ((p2 &&& (2147483647 : Int32)) % (2147483647 : Int32))).toInt64))), .second, .val (.long (((2 : Int32) + ((p1 &&& (2147483647 : Int32)) % (999 : Int32))).toInt64)), .second] [(.int (1 : Int32))])) _
    exact retN X4 hx (t := .boolean) Bd.returns (by simp) (hb hby at_76) hr
  · show Q_rm0 Z p1 p2 h0 n0 _ T4.heap _
    rw [e4]
    exact ⟨rfl, N4⟩
set_option maxRecDepth 65536 in
set_option maxHeartbeats 40000000 in
theorem comes_1 {Post : Tables → Env → Array Value → State → Outcome → State → Prop} (hpost : ∀ tb e args s v u, (limb_1_1.after args s (.returned v) u = true ∧ limb_1_2.after args s (.returned v) u = true ∧ True) → FrameEnd s (.returned v) u (Jvm.fieldLocs frame_1_writes args s ++ Jvm.arrayLocs frame_1_arrays args s ++ Jvm.staticLocs frame_1_statics s) 16 2048 → Post tb e args s (.returned v) u) :
    ArmFor flags0 classFile x code maxLocals ret World_1 tables_1 room_1 Calls_1 rest_1 Pre_1 Post := by
  intro l hfl _ _ p e ha hc hk s m args below hf hA hF happ hP
  obtain ⟨hcalls, hrest, hpre⟩ := hP
  obtain ⟨-, -, -, hnamed, -, -, -, hat⟩ := (Spec.applies_iff hf).mp happ
  obtain ⟨hg, hn⟩ := and_e (Cond.before_iff.mp (show (Jvm.Cond.and given_1 narrow_1).before args s = true from hpre))
  obtain ⟨gc, gr0⟩ := and_e hg
  obtain ⟨ga0, gr1⟩ := and_e gr0
  obtain ⟨w0, w1, rfl⟩ : ∃ w0 w1 : Value, args = #[w0, w1] := by
    have hs : args.size = 2 := by simpa [Cond.value, given_1] using gc
    obtain ⟨L⟩ := args
    match L, hs with
    | [w0, w1], _ => exact ⟨w0, w1, rfl⟩
  have hw := fun d (hd : d ∈ tables_1) => atoms_spec (ws := Jvm.Cond.code x code maxLocals ret :: tables_1) hat d (List.mem_cons_of_mem _ hd)
  have hfit : Fit s := fun {y c} hc i hi => by
    obtain ⟨ha, rfl⟩ := Array.getElem?_eq_some_iff.mp hc
    have q := List.all_eq_true.mp ((Array.all_eq_true_iff_forall_mem.mp hF) _ (Array.getElem_mem ha)) i (List.mem_range.mpr hi)
    simpa [Array.getElem?_eq_getElem hi] using q
  obtain ⟨i0, ei0⟩ := is_v ga0
  obtain rfl : w0 = (.int i0) := Option.some.inj ei0
  obtain ⟨i1, ei1⟩ := is_v gr1
  obtain rfl : w1 = (.int i1) := Option.some.inj ei1
  obtain ⟨n, o, h1, h2, h3, _, L, rfl, ⟨rfl, N⟩, hq⟩ := rm0 l s _ hw tables_1 i0 i1 s.heap s.heap.size (Nat.le_refl _)  p e ha hc hk s m _ below hf ((Spec.applies_iff_loose hf).mp happ).1 ⟨rfl, State.Warmed39.refl s, rfl⟩ trivial
  refine ⟨n, _, h1, h2, h3, hpost _ _ _ _ _ _ ⟨Cond.after_iff.mpr rfl, Cond.after_iff.mpr (eq_i res_at (Term.int_eval (1)) rfl), trivial⟩ ⟨hq.1, hq.2.1, (hq.2.2.sift fun y hy => Or.inr (N y hy)).mono (by decide) (by decide)⟩⟩
theorem main_1_1 : Claimed_1_1 := comes_1 fun _ _ _ _ _ _ h hF => ⟨h.1, hF⟩
theorem main_1_2 : Claimed_1_2 := comes_1 fun _ _ _ _ _ _ h hF => ⟨h.2.1, hF⟩
end Jvm.Pilot.@@N@@
namespace Jvm.Pilot.@@N@@
open Jvm Jvm.ClassFile Sem Op Lib Jvm.Free Jvm.Stand Jvm.Pilot.@@N@@.Jvm.D
/-! MADE BY PROGRAM (witnessworld.py) out of the Statement's table words and the real class files: 13 classes; the members and pool entries that the words name. The judged class is class 1, her method 1. -/
namespace start1
open Jvm.ClassFile
def u (s : String) : CpInfo := .utf8 (stringToUtf16 s)
/-- a pool by its gaps: so many unusable entries, then the entry; so many at the end -/
def gap : Nat → List CpInfo → List CpInfo
  | 0, r => r
  | n + 1, r => .unusable :: gap n r
def poolList (es : List (Nat × CpInfo)) (last : Nat) : List CpInfo := es.foldr (fun e r => gap e.1 (e.2 :: r)) (gap last [])
def pool (es : List (Nat × CpInfo)) (last : Nat) : Array CpInfo := ⟨poolList es last⟩
def fileOf (pool : Array CpInfo) (this : Nat) (attrs : Array Attribute := #[]) (ms : Array MethodInfo := #[]) (fl : Nat := 33) (sup : Nat := 0) (ifs : Array Nat := #[]) (fds : Array FieldInfo := #[]) : ClassFile where
  minorVersion := 0
  majorVersion := 65
  constantPool := pool
  accessFlags := fl
  thisClass := this
  superClass := sup
  interfaces := ifs
  fields := fds
  methods := ms
  attributes := attrs
def plain (name : String) (sup : Option ClassId) : Class where
  name := name
  kind := .ordinary
  loader := none
  accessFlags := 33
  super := sup
  interfaces := #[]
  cf := none
  fields := #[]
  methods := #[]
  instanceTypes := #[]
  staticTypes := #[]
  resolved := #[]
  callSites := []
  init := .initialized
  statics := none
  mirror := none

def pool0 : Array CpInfo := pool [(5, u "<init>"), (0, u "()V"), (1, .class_ 10), (1, u "java/lang/Object")] 113

def k0c0 : Code := { maxStack := 0, maxLocals := 1, code := object_method_1_code, exceptionTable := #[], attributes := #[] }
def k0m0 : Method := { name := "<init>", desc := "()V", sig := { parameters := [], returnType := none }, accessFlags := 1, code := some k0c0 }
/-- java/lang/Object -/
def k0 : Class := { plain "java/lang/Object" none with
  accessFlags := 33
  interfaces := #[]
  cf := some (fileOf pool0 8 #[] #[{ accessFlags := 1, nameIndex := 5, descriptorIndex := 6, attributes := #[] }] 33 0 #[] #[])
  fields := #[]
  methods := #[k0m0]
  instanceTypes := #[]
  staticTypes := #[]
  resolved := Array.replicate 124 none
  statics := none }

def pool1 : Array CpInfo := pool [(2, .class_ 4), (1, u "java/lang/Object"), (0, u "<init>"), (0, u "()V"), (0, .integer 2147483647), (2, .class_ 11), (0, u "com/example/muxal/muxal/sim/HeavyWorkload"), (0, .methodref 10 13), (0, .nameAndType 5 14), (0, u "(II)V"), (0, .methodref 10 16), (0, .nameAndType 17 18), (0, u "requests"), (0, u "()J"), (0, .class_ 20), (0, u "com/example/muxal/muxal/sim/HeavyWorkloadRequestsPinLaw"), (2, u "law"), (0, u "(II)Z")] 3

def k1m0 : Method := { name := "<init>", desc := "()V", sig := { parameters := [], returnType := none }, accessFlags := 2, code := none }
def k1c1 : Code := { maxStack := 4, maxLocals := 9, code := code, exceptionTable := #[], attributes := #[] }
def k1m1 : Method := { name := "law", desc := "(II)Z", sig := { parameters := [.int, .int], returnType := some .boolean }, accessFlags := 9, code := some k1c1 }
/-- com/example/muxal/muxal/sim/HeavyWorkloadRequestsPinLaw -/
def k1 : Class := { plain "com/example/muxal/muxal/sim/HeavyWorkloadRequestsPinLaw" (some 0) with
  accessFlags := 49
  interfaces := #[]
  cf := some (fileOf pool1 19 #[] #[{ accessFlags := 2, nameIndex := 5, descriptorIndex := 6, attributes := #[] }, { accessFlags := 9, nameIndex := 23, descriptorIndex := 24, attributes := #[] }] 49 2 #[] #[])
  fields := #[]
  methods := #[k1m0, k1m1]
  instanceTypes := #[]
  staticTypes := #[]
  resolved := Array.replicate 28 none
  statics := none }

def pool2 : Array CpInfo := pool [(2, .class_ 4), (1, u "com/example/muxal/muxal/sim/Workload"), (50, .class_ 56), (0, u "java/lang/Object")] 38

/-- com/example/muxal/muxal/sim/Workload -/
def k2 : Class := { plain "com/example/muxal/muxal/sim/Workload" (some 0) with
  accessFlags := 1537
  interfaces := #[]
  cf := some (fileOf pool2 2 #[] #[] 1537 55 #[] #[])
  fields := #[]
  methods := #[]
  instanceTypes := #[]
  staticTypes := #[]
  resolved := Array.replicate 95 none
  statics := none }

def pool3 : Array CpInfo := pool [(1, .methodref 2 3), (0, .class_ 4), (0, .nameAndType 5 6), (0, u "java/lang/Object"), (0, u "<init>"), (0, u "()V"), (0, .class_ 8), (0, u "java/util/BitSet"), (0, .methodref 7 3), (0, .fieldref 11 12), (0, .class_ 13), (0, .nameAndType 14 15), (0, u "com/example/muxal/muxal/sim/HeavyWorkload"), (0, u "again"), (0, u "Ljava/util/BitSet;"), (0, .fieldref 11 17), (0, .nameAndType 18 19), (0, u "nodes"), (0, u "I"), (0, .fieldref 11 21), (0, .nameAndType 22 19), (0, u "rounds"), (0, .fieldref 11 24), (0, .nameAndType 25 26), (0, u "entries"), (0, u "[I"), (6, u "started"), (0, u "Z"), (21, .class_ 57), (0, u "com/example/muxal/muxal/sim/Workload"), (0, u "(II)V"), (3, u "requests"), (0, u "()J")] 8

def k3c0 : Code := { maxStack := 3, maxLocals := 3, code := prog_75_method_1_code, exceptionTable := #[], attributes := #[] }
def k3m0 : Method := { name := "<init>", desc := "(II)V", sig := { parameters := [.int, .int], returnType := none }, accessFlags := 0, code := some k3c0 }
def k3c1 : Code := { maxStack := 4, maxLocals := 1, code := prog_75_method_3_code, exceptionTable := #[], attributes := #[] }
def k3m1 : Method := { name := "requests", desc := "()J", sig := { parameters := [], returnType := some .long }, accessFlags := 1, code := some k3c1 }
/-- com/example/muxal/muxal/sim/HeavyWorkload -/
def k3 : Class := { plain "com/example/muxal/muxal/sim/HeavyWorkload" (some 0) with
  accessFlags := 32
  interfaces := #[2]
  cf := some (fileOf pool3 11 #[] #[{ accessFlags := 0, nameIndex := 5, descriptorIndex := 58, attributes := #[] }, { accessFlags := 1, nameIndex := 62, descriptorIndex := 63, attributes := #[] }] 32 2 #[56] #[{ accessFlags := 18, nameIndex := 18, descriptorIndex := 19, attributes := #[] }, { accessFlags := 18, nameIndex := 22, descriptorIndex := 19, attributes := #[] }, { accessFlags := 2, nameIndex := 33, descriptorIndex := 34, attributes := #[] }, { accessFlags := 18, nameIndex := 25, descriptorIndex := 26, attributes := #[] }, { accessFlags := 18, nameIndex := 14, descriptorIndex := 15, attributes := #[] }])
  fields := #[{ name := "nodes", type := .int, accessFlags := 18, slot := 0, constantValue := 0 }, { name := "rounds", type := .int, accessFlags := 18, slot := 1, constantValue := 0 }, { name := "started", type := .boolean, accessFlags := 2, slot := 2, constantValue := 0 }, { name := "entries", type := (.array .int), accessFlags := 18, slot := 3, constantValue := 0 }, { name := "again", type := (.object "java/util/BitSet"), accessFlags := 18, slot := 4, constantValue := 0 }]
  methods := #[k3m0, k3m1]
  instanceTypes := #[.int, .int, .boolean, (.array .int), (.object "java/util/BitSet")]
  staticTypes := #[]
  resolved := Array.replicate 72 none
  statics := none }

def pool4 : Array CpInfo := pool [(1, .class_ 2), (0, u "java/lang/Cloneable"), (0, .class_ 4), (0, u "java/lang/Object")] 2

/-- java/lang/Cloneable -/
def k4 : Class := { plain "java/lang/Cloneable" (some 0) with
  accessFlags := 1537
  interfaces := #[]
  cf := some (fileOf pool4 1 #[] #[] 1537 3 #[] #[])
  fields := #[]
  methods := #[]
  instanceTypes := #[]
  staticTypes := #[]
  resolved := Array.replicate 7 none
  statics := none }

def pool5 : Array CpInfo := pool [(1, .class_ 2), (0, u "java/io/Serializable"), (0, .class_ 4), (0, u "java/lang/Object")] 2

/-- java/io/Serializable -/
def k5 : Class := { plain "java/io/Serializable" (some 0) with
  accessFlags := 1537
  interfaces := #[]
  cf := some (fileOf pool5 1 #[] #[] 1537 3 #[] #[])
  fields := #[]
  methods := #[]
  instanceTypes := #[]
  staticTypes := #[]
  resolved := Array.replicate 7 none
  statics := none }

def pool6 : Array CpInfo := pool [(1, .class_ 2), (0, u "java/util/BitSet"), (2, u "$assertionsDisabled"), (0, u "Z"), (0, .fieldref 1 8), (0, .nameAndType 9 10), (0, u "wordsInUse"), (0, u "I"), (0, .fieldref 1 12), (0, .nameAndType 13 14), (0, u "words"), (0, u "[J"), (3, .nameAndType 19 20), (0, u "<init>"), (0, u "()V"), (0, .methodref 22 18), (0, .class_ 23), (0, u "java/lang/Object"), (0, .fieldref 1 25), (0, .nameAndType 26 6), (0, u "sizeIsSticky"), (0, .methodref 1 28), (0, .nameAndType 29 30), (0, u "initWords"), (0, u "(I)V"), (21, .methodref 1 53), (0, .nameAndType 54 55), (0, u "wordIndex"), (0, u "(I)I"), (213, .class_ 270), (0, u "java/util/BitSet$1BitSetSpliterator"), (22, u "serialPersistentFields"), (0, u "[Ljava/io/ObjectStreamField;"), (0, .class_ 296), (0, u "java/lang/Cloneable"), (0, .class_ 298), (0, u "java/io/Serializable"), (0, u "ADDRESS_BITS_PER_WORD"), (2, u "BITS_PER_WORD"), (1, u "BIT_INDEX_MASK"), (1, u "WORD_MASK"), (0, u "J"), (0, u "serialVersionUID")] 108

def k6c0 : Code := { maxStack := 2, maxLocals := 1, code := jdk_92_method_1_code, exceptionTable := #[], attributes := #[] }
def k6m0 : Method := { name := "wordIndex", desc := "(I)I", sig := { parameters := [.int], returnType := some .int }, accessFlags := 10, code := some k6c0 }
def k6c1 : Code := { maxStack := 2, maxLocals := 1, code := jdk_92_method_4_code, exceptionTable := #[], attributes := #[] }
def k6m1 : Method := { name := "<init>", desc := "()V", sig := { parameters := [], returnType := none }, accessFlags := 1, code := some k6c1 }
def k6c2 : Code := { maxStack := 3, maxLocals := 2, code := jdk_92_method_6_code, exceptionTable := #[], attributes := #[] }
def k6m2 : Method := { name := "initWords", desc := "(I)V", sig := { parameters := [.int], returnType := none }, accessFlags := 2, code := some k6c2 }
/-- java/util/BitSet -/
def k6 : Class := { plain "java/util/BitSet" (some 0) with
  accessFlags := 33
  interfaces := #[4, 5]
  cf := some (fileOf pool6 1 #[.nestMembers #[269]] #[{ accessFlags := 10, nameIndex := 54, descriptorIndex := 55, attributes := #[] }, { accessFlags := 1, nameIndex := 19, descriptorIndex := 20, attributes := #[] }, { accessFlags := 2, nameIndex := 29, descriptorIndex := 30, attributes := #[] }] 33 22 #[295, 297] #[{ accessFlags := 26, nameIndex := 299, descriptorIndex := 10, attributes := #[] }, { accessFlags := 26, nameIndex := 302, descriptorIndex := 10, attributes := #[] }, { accessFlags := 26, nameIndex := 304, descriptorIndex := 10, attributes := #[] }, { accessFlags := 26, nameIndex := 306, descriptorIndex := 307, attributes := #[] }, { accessFlags := 26, nameIndex := 293, descriptorIndex := 294, attributes := #[] }, { accessFlags := 2, nameIndex := 13, descriptorIndex := 14, attributes := #[] }, { accessFlags := 130, nameIndex := 9, descriptorIndex := 10, attributes := #[] }, { accessFlags := 130, nameIndex := 26, descriptorIndex := 6, attributes := #[] }, { accessFlags := 26, nameIndex := 308, descriptorIndex := 307, attributes := #[] }, { accessFlags := 4120, nameIndex := 5, descriptorIndex := 6, attributes := #[] }])
  fields := #[{ name := "ADDRESS_BITS_PER_WORD", type := .int, accessFlags := 26, slot := 0, constantValue := 0 }, { name := "BITS_PER_WORD", type := .int, accessFlags := 26, slot := 1, constantValue := 0 }, { name := "BIT_INDEX_MASK", type := .int, accessFlags := 26, slot := 2, constantValue := 0 }, { name := "WORD_MASK", type := .long, accessFlags := 26, slot := 3, constantValue := 0 }, { name := "serialPersistentFields", type := (.array (.object "java/io/ObjectStreamField")), accessFlags := 26, slot := 4, constantValue := 0 }, { name := "words", type := (.array .long), accessFlags := 2, slot := 0, constantValue := 0 }, { name := "wordsInUse", type := .int, accessFlags := 130, slot := 1, constantValue := 0 }, { name := "sizeIsSticky", type := .boolean, accessFlags := 130, slot := 2, constantValue := 0 }, { name := "serialVersionUID", type := .long, accessFlags := 26, slot := 5, constantValue := 0 }, { name := "$assertionsDisabled", type := .boolean, accessFlags := 4120, slot := 6, constantValue := 0 }]
  methods := #[k6m0, k6m1, k6m2]
  instanceTypes := #[(.array .long), .int, .boolean]
  staticTypes := #[.int, .int, .int, .long, (.array (.object "java/io/ObjectStreamField")), .long, .boolean]
  resolved := Array.replicate 417 none
  statics := none }

/-- the primitive byte -/
def k7 : Class := { plain "byte" none with kind := .primitive 'B', accessFlags := 0x411 }
/-- [B -/
def k8 : Class := { plain "[B" (some 0) with kind := .array 7 .byte, interfaces := #[4, 5], accessFlags := 1041 }

/-- the primitive int -/
def k9 : Class := { plain "int" none with kind := .primitive 'I', accessFlags := 0x411 }
/-- [I -/
def k10 : Class := { plain "[I" (some 0) with kind := .array 9 .int, interfaces := #[4, 5], accessFlags := 1041 }

/-- the primitive long -/
def k11 : Class := { plain "long" none with kind := .primitive 'J', accessFlags := 0x411 }
/-- [J -/
def k12 : Class := { plain "[J" (some 0) with kind := .array 11 .long, interfaces := #[4, 5], accessFlags := 1041 }

def heap : Heap := #[]
def classes : Array Class := #[k0, k1, k2, k3, k4, k5, k6, k7, k8, k9, k10, k11, k12]
def interned : List (Array UInt16 × Addr) := []
def slotsUsed : Nat := 0
def theMethod : MethodId := ⟨1, 1⟩
def args0 : Array Value := #[.int 5, .int 9]
def aboutOver (below : List Frame) : State where
  vm := { classes := classes, interned := interned.toArray }
  heap := heap
  slotsUsed := slotsUsed
  threads := #[{ frames := .invoking theMethod args0 :: below }]
def below0 : List Frame := [.native { method := ⟨0, 0⟩, args := #[] }]
def about1 : State := aboutOver below0
def p0 : Program := .bare "" "" ""
def e0 : Env := launch0.env 0 0 0
theorem w_frames : about1.frames = Frame.invoking theMethod args0 :: below0 := rfl
set_option maxRecDepth 65536 in
theorem w_args : argsFit about1.vm theMethod args0 = true := by decide +kernel
set_option maxRecDepth 65536 in
theorem w_heap : heapFits about1 = true := by decide +kernel
set_option maxRecDepth 65536 in
theorem w_runnable : about1.curStatus? = some .runnable := by decide +kernel
set_option maxRecDepth 65536 in
theorem w_alone : about1.alone = true := by decide +kernel
set_option maxRecDepth 65536 in
theorem w_named : about1.methodNamed? x = some theMethod := by decide +kernel
set_option maxRecDepth 65536 in
theorem w_hears : about1.hears theMethod below0 = true := by decide +kernel
set_option maxRecDepth 65536 in
theorem w_ripe : about1.ripe theMethod args0 below0 = true := by decide +kernel
theorem w_running : about1.status = .running := rfl
set_option maxRecDepth 65536 in
theorem w_room : about1.hasRoom e0.platform room_1 = true :=
  launch0.hasRoom_least _ room_1 (by decide +kernel) (by decide +kernel) (by decide +kernel) (by decide +kernel) (by decide +kernel) (by decide +kernel)
theorem allAtoms_all (ts : List Jvm.Cond) (a : Array Jvm.Value) (st : Jvm.State) : (allAtoms ts).before a st = ts.all (fun c => c.before a st) := by
  induction ts with
  | nil => rfl
  | cons c t ih =>
    show (Jvm.Cond.and c (allAtoms t)).before a st = _
    rw [Jvm.Cond.before_and, ih, List.all_cons]
def words1 : List Jvm.Cond := Jvm.Cond.code x code maxLocals ret :: tables_1
/-- a 'code' word, met by the world's own term for the bytes: nothing is compared byte by byte -/
theorem code_word {y : MethodName} {bytes : ByteArray} {mx : Nat} {rt : Option FieldType} {a : Array Value} {s : State} {m : MethodId} {meth : Method} {c : Code} (h1 : s.methodNamed? y = some m) (h2 : s.vm.method? m = some meth) (h3 : meth.code = some c) (h4 : c.code = bytes)
    (h5 : (c.maxLocals == mx && c.exceptionTable.isEmpty && decide (c.maxStack ≤ mostOperands) && decide (meth.sig.returnType = rt) && !meth.locks && decide (parseMethodDescriptor y.desc = some meth.sig)) = true) : (Jvm.Cond.code y bytes mx rt).before a s = true := by
  simp only [Bool.and_eq_true, beq_iff_eq, Bool.not_eq_true', decide_eq_true_eq] at h5
  obtain ⟨⟨⟨⟨⟨g1, g2⟩, g3⟩, g4⟩, g5⟩, g6⟩ := h5
  simp [Cond.before, Cond.holds, Cond.value, h1, h2, h3, h4, g1, g2, g3, g4, g5, g6]
def isCode : Jvm.Cond → Bool
  | .code _ _ _ _ => true
  | _ => false
theorem all_split {L : List Jvm.Cond} {P : Jvm.Cond → Bool} (h1 : L.all (fun c => isCode c || P c) = true) (h2 : ∀ c ∈ L.filter isCode, P c = true) : L.all P = true := by
  refine List.all_eq_true.mpr fun c hc => ?_
  have h := List.all_eq_true.mp h1 c hc
  rcases Bool.eq_false_or_eq_true (isCode c) with hi | hi
  · exact h2 c (List.mem_filter.mpr ⟨hc, hi⟩)
  · simpa [hi] using h
set_option maxRecDepth 65536 in
theorem w_c0 : (Jvm.Cond.code x code maxLocals ret).before args0 about1 = true := code_word (m := ⟨1, 1⟩) (meth := k1m1) (c := k1c1) (by decide +kernel) rfl rfl rfl (by decide +kernel)
set_option maxRecDepth 65536 in
theorem w_c1 : (Jvm.Cond.code ({ cls := "com/example/muxal/muxal/sim/HeavyWorkload", name := "<init>", desc := "(II)V" } : Jvm.MethodName) prog_75_method_1_code (3 : Nat) (Option.none : Option Jvm.ClassFile.FieldType)).before args0 about1 = true := code_word (m := ⟨3, 0⟩) (meth := k3m0) (c := k3c0) (by decide +kernel) rfl rfl rfl (by decide +kernel)
set_option maxRecDepth 65536 in
theorem w_c2 : (Jvm.Cond.code ({ cls := "java/lang/Object", name := "<init>", desc := "()V" } : Jvm.MethodName) object_method_1_code (1 : Nat) (Option.none : Option Jvm.ClassFile.FieldType)).before args0 about1 = true := code_word (m := ⟨0, 0⟩) (meth := k0m0) (c := k0c0) (by decide +kernel) rfl rfl rfl (by decide +kernel)
set_option maxRecDepth 65536 in
theorem w_c3 : (Jvm.Cond.code ({ cls := "java/util/BitSet", name := "<init>", desc := "()V" } : Jvm.MethodName) jdk_92_method_4_code (1 : Nat) (Option.none : Option Jvm.ClassFile.FieldType)).before args0 about1 = true := code_word (m := ⟨6, 1⟩) (meth := k6m1) (c := k6c1) (by decide +kernel) rfl rfl rfl (by decide +kernel)
set_option maxRecDepth 65536 in
theorem w_c4 : (Jvm.Cond.code ({ cls := "java/util/BitSet", name := "initWords", desc := "(I)V" } : Jvm.MethodName) jdk_92_method_6_code (2 : Nat) (Option.none : Option Jvm.ClassFile.FieldType)).before args0 about1 = true := code_word (m := ⟨6, 2⟩) (meth := k6m2) (c := k6c2) (by decide +kernel) rfl rfl rfl (by decide +kernel)
set_option maxRecDepth 65536 in
theorem w_c5 : (Jvm.Cond.code ({ cls := "java/util/BitSet", name := "wordIndex", desc := "(I)I" } : Jvm.MethodName) jdk_92_method_1_code (1 : Nat) (Option.some Jvm.ClassFile.FieldType.int)).before args0 about1 = true := code_word (m := ⟨6, 0⟩) (meth := k6m0) (c := k6c0) (by decide +kernel) rfl rfl rfl (by decide +kernel)
set_option maxRecDepth 65536 in
theorem w_c6 : (Jvm.Cond.code ({ cls := "com/example/muxal/muxal/sim/HeavyWorkload", name := "requests", desc := "()J" } : Jvm.MethodName) prog_75_method_3_code (1 : Nat) (Option.some Jvm.ClassFile.FieldType.long)).before args0 about1 = true := code_word (m := ⟨3, 1⟩) (meth := k3m1) (c := k3c1) (by decide +kernel) rfl rfl rfl (by decide +kernel)
def codes1 : List Jvm.Cond := [Jvm.Cond.code x code maxLocals ret, Jvm.Cond.code ({ cls := "com/example/muxal/muxal/sim/HeavyWorkload", name := "<init>", desc := "(II)V" } : Jvm.MethodName) prog_75_method_1_code (3 : Nat) (Option.none : Option Jvm.ClassFile.FieldType), Jvm.Cond.code ({ cls := "java/lang/Object", name := "<init>", desc := "()V" } : Jvm.MethodName) object_method_1_code (1 : Nat) (Option.none : Option Jvm.ClassFile.FieldType), Jvm.Cond.code ({ cls := "java/util/BitSet", name := "<init>", desc := "()V" } : Jvm.MethodName) jdk_92_method_4_code (1 : Nat) (Option.none : Option Jvm.ClassFile.FieldType), Jvm.Cond.code ({ cls := "java/util/BitSet", name := "initWords", desc := "(I)V" } : Jvm.MethodName) jdk_92_method_6_code (2 : Nat) (Option.none : Option Jvm.ClassFile.FieldType), Jvm.Cond.code ({ cls := "java/util/BitSet", name := "wordIndex", desc := "(I)I" } : Jvm.MethodName) jdk_92_method_1_code (1 : Nat) (Option.some Jvm.ClassFile.FieldType.int), Jvm.Cond.code ({ cls := "com/example/muxal/muxal/sim/HeavyWorkload", name := "requests", desc := "()J" } : Jvm.MethodName) prog_75_method_3_code (1 : Nat) (Option.some Jvm.ClassFile.FieldType.long)]
set_option maxRecDepth 65536 in
theorem codes_eq : words1.filter isCode = codes1 := rfl
theorem w_codes : ∀ c ∈ words1.filter isCode, c.before args0 about1 = true := by
  rw [codes_eq]
  intro c hc
  simp only [codes1, List.mem_cons, List.not_mem_nil, or_false] at hc
  rcases hc with rfl | rfl | rfl | rfl | rfl | rfl | rfl
  · exact w_c0
  · exact w_c1
  · exact w_c2
  · exact w_c3
  · exact w_c4
  · exact w_c5
  · exact w_c6
set_option maxRecDepth 65536 in
theorem w_t1 : (words1.take 24).all (fun c => isCode c || c.before args0 about1) = true := by decide +kernel
set_option maxRecDepth 65536 in
theorem w_t2 : (words1.drop 24).all (fun c => isCode c || c.before args0 about1) = true := by decide +kernel
theorem w_tables : (allAtoms (Jvm.Cond.code x code maxLocals ret :: tables_1)).before args0 about1 = true := by
  rw [allAtoms_all]
  show words1.all (fun c => c.before args0 about1) = true
  refine all_split ?_ w_codes
  rw [← List.take_append_drop 24 words1, List.all_append, w_t1, w_t2]
  rfl
set_option maxRecDepth 65536 in
theorem w_case : (Jvm.Cond.and given_1 narrow_1).before args0 about1 = true := by decide +kernel
theorem w_applies : (headSpec (Jvm.Cond.code x code maxLocals ret :: tables_1) room_1).applies x e0.platform about1 = true :=
  (Spec.applies_iff w_frames).mpr ⟨w_running, w_runnable, w_alone, w_named, w_hears, w_ripe, w_room, w_tables⟩
theorem atStart : AtStart classFile x code maxLocals ret World_1 tables_1 room_1 Calls_1 rest_1 Pre_1 launch0 p0 e0 about1 theMethod args0 below0 :=
  ⟨lists_1, trivial, launch0.admits_env _ _ _, launch0.least_env, fairChoices_fair.cas, fairChoices_fair.clock, w_frames, w_args, w_heap, w_applies, trivial, trivial, w_case⟩
end start1
theorem witness_1 : WitnessClaimed_1 := ⟨start1.p0, start1.e0, start1.about1, start1.theMethod, start1.args0, start1.below0, start1.atStart⟩
end Jvm.Pilot.@@N@@
