import JvmDerived
import JvmDerived.Pilot.@@N@@Statement
import JvmDerived.Pilot.@@N@@Code
set_option linter.unusedVariables false
set_option linter.unusedSimpArgs false
@@BLOCK:NumsL.lean.txt@@
namespace Jvm.RoadKit
open Sem ClassFile Op Lib Jvm.Stand Jvm.Free Jvm.LawKit
section New
variable {p : Program} {l : Launch} {e : Env} {R : Room} {s : State} {m : MethodId} {args : Array Value} {below : List Frame} {meth : Method} {c : Code} {T : State} {locs : List Loc} {cells slots : Nat}
theorem retI (X : Stand p l e R s m args below meth c T locs cells slots) (hx : p.tables.exec = Jvm.exec) {pc : Nat} {Ls : Array Slot} {z : Int32} {rest : List Value} (hret : meth.sig.returnType = some .int) (hd : decode c.code pc = .ok (.ireturn, 1)) {fs : List Frame}
    (hl : ∀ (f : JFrame) (acts : List Action), f.method = m → f.locked = none → f.entered = [] → (doReturn e (T.setTop f) acts (some (.int z))).1 = T.setFrames fs) : Steps p.tables e below (T.setTop (mkF m pc Ls (.int z :: rest))) (T.setFrames fs) := by
  have hm' : T.vm.method? m = some meth := X.method'
  have hn : narrow .int (.int z) = .int z := rfl
  show Steps p.tables e below (T.setTop { method := m, pc := pc, locals := Ls, stack := _ :: rest, locked := none }) _
  jvm_step X.here [X.here.top, hx, hd, hm', hret, hn]
  first | (intro acts; rw [hl _ acts rfl rfl rfl]) | rw [hl _ _ rfl rfl rfl]
  exact Steps.refl _
end New
end Jvm.RoadKit
namespace Jvm.RoadKit
open Sem ClassFile Op Lib Jvm.Stand Jvm.Free Jvm.LawKit
section Warm
variable {p : Program} {l : Launch} {e : Env} {R : Room} {s : State} {m : MethodId} {args : Array Value} {below : List Frame} {meth : Method} {c : Code} {T : State} {locs : List Loc} {cells slots : Nat} {Z : State} {a0 : Array Value} {h : Heap}
/-- getfield where the entry is resolved already ('fieldRef') -/
theorem own_getFR (X : Stand p l e R s m args below meth c T locs cells slots) (hx : p.tables.exec = Jvm.exec) (hZ : Z.Warmed39 s.vm) {own R0 O n d : String} {index : Nat} (hown : s.vm.findClass own = some m.cls) (w : (Cond.fieldRef own index R0 n d).before a0 Z = true) (via : Via Z R0 O n d)
    (eT : T.heap = h) {a : Addr} {v : Value} (F : Fld Z h a O n d v) {g : JFrame} (hg : g.method = m) {rest : List Value} (hs : g.stack = .ref a :: rest) (hd : decode c.code g.pc = .ok (.getfield index, 3)) : ∃ T', Stand p l e R s m args below meth c T' locs cells slots ∧ T'.heap = h ∧ ∀ target, Steps p.tables e below (T'.setTop { g with pc := g.pc + 3, stack := v :: rest }) target → Steps p.tables e below (T.setTop g) target := by
  obtain ⟨cell, cf, k, i, f, h1, h2, h3, h4, -, -, h7⟩ := F
  have hw : Z.Warmed39 T.vm := wtrans hZ X.warmed
  have q : (Cond.fieldRef own index R0 n d).before a0 (Z.setVm T.vm) = true := Cond.fieldRef_warmed39 hw w
  have hown' : (Z.setVm T.vm).vm.findClass own = some m.cls := by
    show T.vm.findClass own = _
    rw [X.warmed.alike.findClass]; exact hown
  obtain ⟨c1, k1, i1, f1, hi, hr⟩ := Cond.fieldRef_spec hown' q
  obtain ⟨k', hi', -⟩ := State.fieldFound?_setVm (s := Z) hw.alike (via _ h2)
  cases hi.symm.trans hi'
  refine ⟨T, X, eT, fun target hrest => ?_⟩
  subst hg
  have hr' : T.vm.fieldReady g.method.cls index cf f := hr
  jvm_step X.here [hx, hd, getfield.wp_ready (e := e) (s := T) (f := g) X.here.top hr' h3 hs (by rw [eT]; exact h1) h4 h7]
  exact hrest
/-- a constructor where the entry is resolved already ('methodRef') -/
theorem own_specialRef (X : Stand p l e R s m args below meth c T locs cells slots) (hexec : p.tables.exec = Jvm.exec) (hZ : Z.Warmed39 s.vm) {own : String} {index : Nat} {y : MethodName} (hy1 : y.name = "<init>")
    (hown : s.vm.findClass own = some m.cls) (hlink : (Cond.methodRef own index y).before a0 Z = true) (hinstZ : (Cond.instanceMethod y).before a0 Z = true) (hinst : (Cond.instanceMethod y).before args s = true)
    {bytes : ByteArray} {maxL : Nat} (hcode : (Cond.code y bytes maxL none).before args s = true)
    (hy : y.cls ≠ "java/lang/invoke/MethodHandle" ∧ y.cls ≠ "java/lang/invoke/VarHandle")
    {W : Nat} {Pre : Pt → Array Value → Prop} {Post : Pt → Array Value → Option Value → Pt → Prop} (hK : Back l R p e below s args y 3 W Pre Post)
    {g : JFrame} (hg : g.method = m) (hsize : g.locals.size = c.maxLocals) {s₀ : State} (hcome : Steps p.tables e below s₀ (T.setTop g)) {a : Addr} {argsL rest : List Value}
    (hlen : ∀ sig, parseMethodDescriptor y.desc = some sig → argsL.length = sig.parameters.length) (hstack : g.stack = argsL.reverse ++ .ref a :: rest) (hW : 2 * g.monitorRoom + (rest.map fun v => v.category).sum ≤ W)
    (hdg : decode c.code g.pc = .ok (.invokespecial index, 3)) (hpre : ∀ vm₁, s.WarmedH vm₁ → Pre ⟨T.setVm vm₁, locs, cells, slots⟩ (.ref a :: argsL).toArray) :
    ∃ (v : Option Value) (vm₁ : Vm) (B : Pt), s.WarmedH vm₁ ∧ Stand p l e R s m args below meth c B.U B.locs B.cells B.slots ∧ Post ⟨T.setVm vm₁, locs, cells, slots⟩ (.ref a :: argsL).toArray v B ∧
      Steps p.tables e below s₀ (B.U.setTop { g with pc := g.pc + 3, stack := v.toList ++ rest }) := by
  obtain ⟨obj, methO, hnO, hmO, hstO, habO⟩ := Cond.instanceMethod_spec hinst
  obtain ⟨methO', cO, hmO', hcO, hbO, hlO, -, hlockO, -, hsigO⟩ := Cond.code_spec hnO hcode
  cases hmO.symm.trans hmO'
  obtain ⟨kO, hkO, hnameO⟩ := className_of_methodNamed hnO
  obtain ⟨hnameMO, hdescO⟩ := name_of_methodNamed hnO hmO
  obtain ⟨objZ, methZ, hnZ, hmZ, -, -⟩ := Cond.instanceMethod_spec hinstZ
  have hw : Z.Warmed39 T.vm := wtrans hZ X.warmed
  have q : (Cond.methodRef own index y).before a0 (Z.setVm T.vm) = true := Cond.methodRef_warmed39 hw hnZ hy hlink
  have hown' : (Z.setVm T.vm).vm.findClass own = some m.cls := by
    show T.vm.findClass own = _
    rw [X.warmed.alike.findClass]; exact hown
  obtain ⟨m1, c1, hf1, hr1, hc1, hn1⟩ := Cond.methodRef_named e hown' q
  have hal : s.vm.Alike T.vm := X.warmed.alike
  have hcO1 : T.vm.findClass y.cls = some obj.cls := by rw [hal.findClass]; exact findClass_of_methodNamed hnO
  have e1 : c1 = obj.cls := Option.some.inj (hc1.symm.trans hcO1)
  subst e1
  have e2 : m1 = obj := by
    have hN : (Z.setVm T.vm).methodNamed? y = some obj := X.named hnO
    exact Option.some.inj (hf1.symm.trans (State.methodFound?_of_named hN hy))
  subst e2
  obtain ⟨kO₂, hkO₂, heO₂⟩ := hal.2.2 _ _ hkO
  have hmO₂ : T.vm.method? m1 = some methO := by rw [hal.method?]; exact hmO
  have hfound : lookupSpecial T.vm m1.cls "<init>" methO.desc = .method m1 := by
    rw [hal.lookupSpecial, hdescO, ← hy1]; exact lookupSpecial_of_named hnO hmO hstO
  obtain ⟨v, B, X', hpost, hsteps⟩ := hK m meth c ⟨T.setVm T.vm, locs, cells, slots⟩ { g with stack := rest } (.invokespecial index) m1 (.ref a :: argsL).toArray (X.noted X.warmed) hg hsize hdg hW ((X.noted X.warmed).named hnO) (hpre T.vm X.warmed)
  refine ⟨v, T.vm, B, X.warmed, X', hpost, (hcome.trans ?_).trans hsteps⟩
  subst hg
  have hn1' : namesResolved T.vm g.method.cls index m1.cls := hn1
  have hr1' : T.vm.methodReady g.method.cls index m1 := hr1
  jvm_step X.here [hexec, hdg, invokespecial.wp_init (e := e) (s := T) (k := kO₂) (meth := methO) (m := m1) (a := a) (args := argsL) (rest := rest) (f := g) X.here.top hn1' hr1' hkO₂ hmO₂ (by rw [hnameMO]; exact hy1) hstO habO hfound (hlen _ hsigO) hstack]
  first | (intro acts; rw [doInvoke_state]; exact Steps.refl _) | (rw [doInvoke_state]; exact Steps.refl _)
end Warm
end Jvm.RoadKit
namespace Jvm.Pilot.@@N@@
open Jvm Jvm.ClassFile Sem Op Lib Jvm.Free Jvm.Stand Jvm.LawKit Jvm.RoadKit Bundle Jvm.Pilot.@@N@@.Jvm.D

theorem own_w {Z : State} {a0 : Array Value} (hw : ∀ d ∈ tables_1, d.before a0 Z = true) (i : Nat) {d : Jvm.Cond} (h : tables_1[i]? = some d) : d.before a0 Z = true := hw d (List.mem_of_getElem? h)
abbrev own_Hw (Z : State) (a0 : Array Value) : Prop := ∀ d ∈ tables_1, d.before a0 Z = true
abbrev own_sO (Z : State) (C n d : String) : Nat := Jvm.RoadKit.slotOf Z C n d
theorem own_sn {Z : State} {a0 : Array Value} (hw : own_Hw Z a0) (i j : Nat) {C O n d O' n' d' : String} (h : tables_1[i]? = some (Jvm.Cond.lays C O n d)) (h' : tables_1[j]? = some (Jvm.Cond.lays C O' n' d')) (hn : n ≠ n') (ht : (parseFieldDescriptor d).isSome = true) (ht' : (parseFieldDescriptor d').isSome = true) : own_sO Z O n d ≠ own_sO Z O' n' d' := by
  obtain ⟨t, e⟩ := Option.isSome_iff_exists.mp ht
  obtain ⟨t', e'⟩ := Option.isSome_iff_exists.mp ht'
  exact slot_ne (Or.inl (own_w hw i h)) (Or.inl (own_w hw j h')) hn e e'
abbrev oS {tb : Tables} {e : Env} {below : List Frame} {t : State} (T : State) (f : JFrame) : Prop := Steps tb e below (T.setTop f) t
abbrev nm0 : String := "com/example/morro/morro/index/TermPostings"
abbrev nm1 : String := "com/example/morro/morro/index/TermPostings$EncodedNumbers"
abbrev nm2 : String := "Lcom/example/morro/morro/index/TermPostings$EncodedNumbers;"
abbrev nm3 : String := "java/util/ArrayList"
abbrev nm4 : String := "com/example/morro/morro/index/TermPostingsMemoryPinLaw"
abbrev nm5 : String := "com/example/morro/morro/analysis/PennTag"
abbrev nm6 : String := "com/example/morro/morro/analysis/WordClass"
abbrev nm7 : String := "java/lang/Object"
abbrev nm8 : String := "java/lang/Enum"
abbrev nm9 : String := "[Ljava/lang/Object;"
abbrev nm10 : String := "Lcom/example/morro/morro/analysis/WordClass;"
abbrev nm11 : String := "collectionFrequency"
abbrev nm12 : String := "(I)Ljava/lang/Object;"
abbrev nm13 : String := "documentFrequency"
abbrev nm14 : String := "java/util/AbstractList"
abbrev nm15 : String := "()Lcom/example/morro/morro/analysis/WordClass;"
abbrev nm16 : String := "com/example/morro/morro/index/WordClassShares"
abbrev nm17 : String := "java/lang/Math"
abbrev nm18 : String := "elementData"
abbrev nm19 : String := "firstDocument"
abbrev mn0 : MethodName := ⟨"java/util/AbstractCollection", "<init>", "()V"⟩
abbrev mn1 : MethodName := ⟨nm14, "<init>", "()V"⟩
abbrev mn2 : MethodName := ⟨nm3, "<init>", "()V"⟩
abbrev mn3 : MethodName := ⟨nm17, "max", "(II)I"⟩
abbrev mn4 : MethodName := ⟨nm3, "grow", "(I)[Ljava/lang/Object;"⟩
abbrev mn5 : MethodName := ⟨nm3, "grow", "()[Ljava/lang/Object;"⟩
abbrev mn6 : MethodName := ⟨nm3, "add", "(Ljava/lang/Object;[Ljava/lang/Object;I)V"⟩
abbrev mn7 : MethodName := ⟨nm3, "add", "(Ljava/lang/Object;)Z"⟩
abbrev mn8 : MethodName := ⟨nm3, "size", "()I"⟩
abbrev mn9 : MethodName := ⟨"jdk/internal/util/Preconditions", "checkIndex", "(IILjava/util/function/BiFunction;)I"⟩
abbrev mn10 : MethodName := ⟨"java/util/Objects", "checkIndex", "(II)I"⟩
abbrev mn11 : MethodName := ⟨nm3, nm18, nm12⟩
abbrev mn12 : MethodName := ⟨nm3, "get", nm12⟩
abbrev mn13 : MethodName := ⟨nm8, "ordinal", "()I"⟩
abbrev mn14 : MethodName := ⟨nm5, "wordClass", nm15⟩
abbrev mn15 : MethodName := ⟨nm5, "ordinal", "()I"⟩
abbrev mn16 : MethodName := ⟨nm17, "min", "(II)I"⟩
abbrev mn17 : MethodName := ⟨nm16, "count", "(Ljava/util/List;I[J)I"⟩
abbrev mn18 : MethodName := ⟨"java/util/List", "size", "()I"⟩
abbrev mn19 : MethodName := ⟨"java/util/List", "get", nm12⟩
abbrev mn20 : MethodName := ⟨nm6, "ordinal", "()I"⟩
abbrev mn21 : MethodName := ⟨"com/example/morro/morro/index/IndexOutput", "encodeNumber", "(J[BI)I"⟩
abbrev mn22 : MethodName := ⟨"java/util/Arrays", "copyOf", "([BI)[B"⟩
abbrev mn23 : MethodName := ⟨nm1, "<init>", "()V"⟩
abbrev mn24 : MethodName := ⟨nm1, "add", "(J)V"⟩
abbrev mn25 : MethodName := ⟨"java/util/ImmutableCollections$ListN", "size", "()I"⟩
abbrev mn26 : MethodName := ⟨nm0, "<init>", "()V"⟩
abbrev mn27 : MethodName := ⟨nm0, "memory", "()J"⟩
abbrev mn28 : MethodName := ⟨nm0, "finishDocument", "()V"⟩
abbrev mn29 : MethodName := ⟨nm0, "add", "(IIILjava/util/List;)V"⟩
abbrev mn30 : MethodName := ⟨nm4, "len", "(J)I"⟩
abbrev mn31 : MethodName := ⟨nm4, "put", "([II)V"⟩
abbrev cd0 : ByteArray := jdk_65_method_121_code
abbrev cd1 : ByteArray := jdk_29_method_65_code
abbrev cd2 : ByteArray := jdk_38_method_24_code
abbrev cd3 : ByteArray := jdk_38_method_25_code
abbrev cd4 : ByteArray := jdk_41_method_11_code
abbrev cd5 : ByteArray := jdk_31_method_17_code
abbrev cd6 : ByteArray := jdk_38_method_18_code
abbrev cd7 : ByteArray := jdk_38_method_20_code
abbrev cd8 : ByteArray := jdk_29_method_69_code
abbrev cd9 : ByteArray := prog_38_method_3_code
abbrev cd10 : ByteArray := prog_24_method_5_code
abbrev cd11 : ByteArray := prog_36_method_1_code
abbrev cd12 : ByteArray := prog_36_method_2_code
abbrev cd13 : ByteArray := prog_35_method_1_code
abbrev cd14 : ByteArray := prog_35_method_4_code
abbrev cd15 : ByteArray := prog_35_method_3_code
abbrev cd16 : ByteArray := prog_35_method_2_code
abbrev cd17 : ByteArray := jdk_22_method_1_code
abbrev cd18 : ByteArray := jdk_39_method_1_code
abbrev cd19 : ByteArray := jdk_38_method_2_code
abbrev cd20 : ByteArray := jdk_38_method_6_code
abbrev cd21 : ByteArray := jdk_38_method_7_code
abbrev cd22 : ByteArray := jdk_38_method_8_code
abbrev cd23 : ByteArray := jdk_37_method_2_code
abbrev cd24 : ByteArray := prog_9_method_6_code
abbrev cd25 : ByteArray := jdk_45_method_3_code
abbrev cd26 : ByteArray := method_2_code
abbrev cd27 : ByteArray := method_3_code
theorem own_lltT {x y : Int64} (h : x < y) : ifCond.holds .lt (lcmpW x y) = true := (if0 _ _).trans ((tlt (by rw [lcW]; exact (lc_lt x y).mpr h)).1)
theorem own_lltF {x y : Int64} (h : ¬ (x < y)) : ifCond.holds .lt (lcmpW x y) = false := (if0 _ _).trans ((flt (by rw [lcW]; exact fun q => h ((lc_lt x y).mp q))).1)
theorem own_lgeT {x y : Int64} (h : ¬ (x < y)) : ifCond.holds .ge (lcmpW x y) = true := (if0 _ _).trans ((flt (by rw [lcW]; exact fun q => h ((lc_lt x y).mp q))).2.1)
theorem own_lgeF {x y : Int64} (h : x < y) : ifCond.holds .ge (lcmpW x y) = false := (if0 _ _).trans ((tlt (by rw [lcW]; exact (lc_lt x y).mpr h)).2.1)
theorem own_lgtT {x y : Int64} (h : y < x) : ifCond.holds .gt (lcmpW x y) = true := (if0 _ _).trans ((tlt (by rw [lcW]; exact (lc_gt x y).mpr h)).2.2.1)
theorem own_lgtF {x y : Int64} (h : ¬ (y < x)) : ifCond.holds .gt (lcmpW x y) = false := (if0 _ _).trans ((flt (by rw [lcW]; exact fun q => h ((lc_gt x y).mp q))).2.2.1)
theorem own_lleT {x y : Int64} (h : ¬ (y < x)) : ifCond.holds .le (lcmpW x y) = true := (if0 _ _).trans ((flt (by rw [lcW]; exact fun q => h ((lc_gt x y).mp q))).2.2.2)
theorem own_lleF {x y : Int64} (h : y < x) : ifCond.holds .le (lcmpW x y) = false := (if0 _ _).trans ((tlt (by rw [lcW]; exact (lc_gt x y).mpr h)).2.2.2)
theorem own_leqT {x y : Int64} (h : x = y) : ifCond.holds .eq (lcmpW x y) = true := (if0 _ _).trans ((teq (by rw [lcW]; exact (lc_eq x y).mpr h)).1)
theorem own_leqF {x y : Int64} (h : ¬ (x = y)) : ifCond.holds .eq (lcmpW x y) = false := (if0 _ _).trans ((feq (by rw [lcW]; exact fun q => h ((lc_eq x y).mp q))).1)
theorem own_lneT {x y : Int64} (h : ¬ (x = y)) : ifCond.holds .ne (lcmpW x y) = true := (if0 _ _).trans ((feq (by rw [lcW]; exact fun q => h ((lc_eq x y).mp q))).2)
theorem own_lneF {x y : Int64} (h : x = y) : ifCond.holds .ne (lcmpW x y) = false := (if0 _ _).trans ((teq (by rw [lcW]; exact (lc_eq x y).mpr h)).2)
theorem own_fldI {s : State} {args : Array Value} {t : Term} {C n d : String} {k : Int32} {a : Addr} (ev : t.eval args s none [] s = some (.ref a)) (h : (Jvm.Cond.eq (Term.field t C n d) (Term.int k)).value args s none s [] = some true) : Fld s s.heap a C n d (.int k) := by
 obtain ⟨x, y, hx, hy, K1, K2⟩ := cmp_v (Or.inl h)
 cases (Term.int_eval k).symm.trans hy
 obtain ⟨z, rfl⟩ := K2
 have q := gotT (Cond.eq_ints hx hy) h
 subst q
 rw [fld_at ev] at hx
 exact Fld.start hx
theorem own_ns0 {h : Heap} : ∀ st ∈ ([] : List Addr), ∀ c : Cell, h[st]? = some c → c.vm.isStatics = false := fun _ q => nomatch q
theorem own_nsE {Z : State} {h : Heap} {y : Addr} {C : String} {L : List Addr} (E : Exa Z h y C) (r : ∀ st ∈ L, ∀ c : Cell, h[st]? = some c → c.vm.isStatics = false) : ∀ st ∈ y :: L, ∀ c : Cell, h[st]? = some c → c.vm.isStatics = false := fun st hm c hc => (List.mem_cons.mp hm).elim (fun u => by
 subst u
 obtain ⟨cell, k, h1, -, -, h4, -⟩ := E
 cases h1.symm.trans hc
 exact h4) (fun u => r st u c hc)
theorem own_nsV {Z : State} {h : Heap} {y : Addr} {k : ClassId} {ty : FieldType} {z : Int32} {vs : List Value} {dv : Value} {L : List Addr} (E : Arv Z h y k ty z vs dv) (r : ∀ st ∈ L, ∀ c : Cell, h[st]? = some c → c.vm.isStatics = false) : ∀ st ∈ y :: L, ∀ c : Cell, h[st]? = some c → c.vm.isStatics = false := fun st hm c hc => (List.mem_cons.mp hm).elim (fun u => by
 subst u
 obtain ⟨cell, A, -⟩ := E
 cases A.1.symm.trans hc
 exact A.plain) (fun u => r st u c hc)
theorem own_staKeep {Z : State} {h h' : Heap} {ws : List Addr} {C n d : String} {v : Value} (F : Sta Z h C n d v) (K : Keep h h' ws) (q : ∀ st ∈ ws, ∀ c : Cell, h[st]? = some c → c.vm.isStatics = false) : Sta Z h' C n d v := by
 obtain ⟨cf, i, k, f, st, cell, h1, h2, h3, h4, h5, h6, h7⟩ := F
 exact ⟨cf, i, k, f, st, cell, h1, h2, h3, h4, K.2.1 st cell h5 (fun hm => by rw [q st hm cell h5] at h6; cases h6), h6, h7⟩
theorem own_neVV {Z : State} {h : Heap} {a b : Addr} {k k' : ClassId} {ty ty' : FieldType} {z z' : Int32} {vs vs' : List Value} {d d' : Value} (A : Arv Z h a k ty z vs d) (B : Arv Z h b k' ty' z' vs' d') (hn : ty ≠ ty') : a ≠ b := fun q => by
 subst q
 obtain ⟨c1, A1, -⟩ := A
 obtain ⟨c2, B1, -⟩ := B
 cases A1.1.symm.trans B1.1
 obtain ⟨-, k1, h1, comp, h2⟩ := A1.2.1
 obtain ⟨-, k2, g1, comp', g2⟩ := B1.2.1
 cases h1.symm.trans g1
 rw [h2] at g2
 cases g2
 exact hn rfl
theorem d3_0 : decode cd17 0 = .ok (.aload_n 0, 1) := by decide +kernel
theorem d3_1 : decode cd17 1 = .ok (.invokespecial 1, 3) := by decide +kernel
theorem d3_4 : decode cd17 4 = .ok (.return_, 1) := by decide +kernel
theorem pn_java_util_AbstractCollection : plainName "java/util/AbstractCollection" = true := by first | (simp [plainName, overriddenIn]; done) | decide +kernel
theorem ef_rm3 (m : MethodId) (a1 : Addr) : entryFrame m #[(.ref a1)] 1 = mkF m 0 #[.val (.ref a1)] [] := by first | (simp [entryFrame, mkF, argsToLocals, Value.category]; done) | rfl
def Q_rm3 (Z : State) (a1 : Addr) (h0 : Heap) (n0 : Nat) (v : Option Value) (h : Heap) (L : List Loc) : Prop := v = none ∧ Fr n0 L ∧ h = h0
set_option maxRecDepth 65536 in
set_option maxHeartbeats 40000000 in
theorem rm3 (l : Launch) (Z : State) (a0 : Array Value) (hw : own_Hw Z a0) (ws : List Jvm.Cond) (a1 : Addr) (h0 : Heap) (n0 : Nat) (Z0 : n0 ≤ h0.size) :
  MetFree l mn0 (head1 (Jvm.Cond.code mn0 cd17 1 none :: ws) ({ frames := 1, cells := 0, slots := 0, locals := 12 } : Room)) (fun a U => a = #[(.ref a1)] ∧ Z.Warmed39 U.vm ∧ U.heap = h0) (fun _ _ _ _ _ => True) (fun _ U o U' => ∃ v L, o = .returned v ∧ Q_rm3 Z a1 h0 n0 v U'.heap L ∧ FrameEnd U o U' L ({ frames := 1, cells := 0, slots := 0, locals := 12 } : Room).cells ({ frames := 1, cells := 0, slots := 0, locals := 12 } : Room).slots) := by
 refine MetFree.of_bodySF (plainFor_of_name pn_java_util_AbstractCollection) hisR ?_
 intro p e s m args below meth c s₁ Bd hml0 hP hK
 obtain ⟨rfl, hZ, hh⟩ := hP
 have hx := Bd.exec
 have hby := Bd.bytes
 have hml : c.maxLocals = 1 := hml0
 have hown : s.vm.findClass "java/util/AbstractCollection" = some m.cls := findClass_of_methodNamed Bd.named
 have hnm := (name_of_methodNamed Bd.named Bd.method).1
 have X0 : Stand p l e ({ frames := 1, cells := 0, slots := 0, locals := 12 } : Room) s m #[(.ref a1)] below meth c s₁ [] 0 0 := Stand.of_body Bd
 have e0 : s₁.heap = h0 := by rw [← hh, Bd.state]; rfl
 have N0 := Fr.nil n0
 have pre0 : ∀ t, Steps p.tables e below (s₁.setTop (mkF m 0 #[.val (.ref a1)] [])) t → Steps p.tables e below (s₁.setTop (entryFrame m #[(.ref a1)] 1)) t := fun t k => castTop (ef_rm3 m a1) k
 obtain ⟨T1, X1, e1, st1⟩ := initO X0 hx hZ hown (own_w hw 20 rfl) (own_w hw 21 rfl) (own_w hw 22 rfl) e0 (g := (mkF m 1 #[.val (.ref a1)] [(.ref a1)])) rfl (by rw [hml]; rfl) rfl (hb hby d3_1) (by decide) (W := 0) (by show 2 * 0 + _ ≤ _; exact Nat.le_of_eq rfl) (by decide)
 obtain ⟨fs, hr, hrun, hended, hW, hsame⟩ := X1.leave (v := none) (fun _ => rfl)
 refine ⟨_, _, pre0 _ ?_, hrun, hended, _, _, rfl, ?_, ⟨_, rfl⟩, hW, hsame.mono (by decide) (by decide)⟩
 ·show oS s₁ (mkF m 0 #[.val (.ref a1)] [])
  refine XS.aloadN X0.here hx rfl (hb hby d3_0) rfl rfl ?_
  show oS s₁ (mkF m 1 #[.val (.ref a1)] [(.ref a1)])
  refine st1 _ ?_
  show oS T1 (mkF m 4 #[.val (.ref a1)] [])
  exact X1.returnOut hx Bd.returns (hb hby d3_4) hr
 ·show Q_rm3 Z a1 h0 n0 _ T1.heap _
  rw [e1]
  exact ⟨rfl, N0, rfl⟩
theorem d2_0 : decode cd18 0 = .ok (.aload_n 0, 1) := by decide +kernel
theorem pd__28_29V : parseMethodDescriptor "()V" = some ⟨[], none⟩ := by decide +kernel
theorem d2_1 : decode cd18 1 = .ok (.invokespecial 1, 3) := by decide +kernel
theorem d2_4 : decode cd18 4 = .ok (.aload_n 0, 1) := by decide +kernel
theorem d2_5 : decode cd18 5 = .ok (.iconst 0, 1) := by decide +kernel
theorem d2_6 : decode cd18 6 = .ok (.putfield 7, 3) := by decide +kernel
theorem d2_9 : decode cd18 9 = .ok (.return_, 1) := by decide +kernel
theorem sn0 {Z a0} (hw : own_Hw Z a0) : own_sO Z nm3 nm18 nm9 ≠ own_sO Z nm14 "modCount" "I" := own_sn hw 27 24 rfl rfl (by decide) (by decide) (by decide)
theorem sn1 {Z a0} (hw : own_Hw Z a0) : own_sO Z nm3 "size" "I" ≠ own_sO Z nm14 "modCount" "I" := own_sn hw 39 24 rfl rfl (by decide) (by decide) (by decide)
theorem pn_java_util_AbstractList : plainName nm14 = true := by first | (simp [plainName, overriddenIn]; done) | decide +kernel
theorem ef_rm2 (m : MethodId) (a1 : Addr) : entryFrame m #[(.ref a1)] 1 = mkF m 0 #[.val (.ref a1)] [] := by first | (simp [entryFrame, mkF, argsToLocals, Value.category]; done) | rfl
def Q_rm2 (Z : State) (a1 : Addr) (u1 : Value) (u2 : Value) (u3 : Value) (h0 : Heap) (n0 : Nat) (v : Option Value) (h : Heap) (L : List Loc) : Prop := v = none ∧ Fr n0 L ∧ Keep h0 h [a1] ∧ Exa Z h a1 nm3 ∧ Fld Z h a1 nm14 "modCount" "I" (.int 0) ∧ Fld Z h a1 nm3 nm18 nm9 u2 ∧ Fld Z h a1 nm3 "size" "I" u3
set_option maxRecDepth 65536 in
set_option maxHeartbeats 40000000 in
theorem rm2 (l : Launch) (Z : State) (a0 : Array Value) (hw : own_Hw Z a0) (ws : List Jvm.Cond) (a1 : Addr) (u1 : Value) (u2 : Value) (u3 : Value) (h0 : Heap) (n0 : Nat) (Z0 : n0 ≤ h0.size) (E_a1 : Exa Z h0 a1 nm3) (F_modCount_a1 : Fld Z h0 a1 nm14 "modCount" "I" u1) (F_elementData_a1 : Fld Z h0 a1 nm3 nm18 nm9 u2) (F_size_a1 : Fld Z h0 a1 nm3 "size" "I" u3) (g_a1 : n0 ≤ a1) :
  MetFree l mn1 (head1 (Jvm.Cond.code mn1 cd18 1 none :: ws) ({ frames := 2, cells := 0, slots := 0, locals := 24 } : Room)) (fun a U => a = #[(.ref a1)] ∧ Z.Warmed39 U.vm ∧ U.heap = h0) (fun _ _ _ _ _ => True) (fun _ U o U' => ∃ v L, o = .returned v ∧ Q_rm2 Z a1 u1 u2 u3 h0 n0 v U'.heap L ∧ FrameEnd U o U' L ({ frames := 2, cells := 0, slots := 0, locals := 24 } : Room).cells ({ frames := 2, cells := 0, slots := 0, locals := 24 } : Room).slots) := by
 refine MetFree.of_bodySF (plainFor_of_name pn_java_util_AbstractList) hisR ?_
 intro p e s m args below meth c s₁ Bd hml0 hP hK
 obtain ⟨rfl, hZ, hh⟩ := hP
 have hx := Bd.exec
 have hby := Bd.bytes
 have hml : c.maxLocals = 1 := hml0
 have hown : s.vm.findClass nm14 = some m.cls := findClass_of_methodNamed Bd.named
 have hnm := (name_of_methodNamed Bd.named Bd.method).1
 have X0 : Stand p l e ({ frames := 2, cells := 0, slots := 0, locals := 24 } : Room) s m #[(.ref a1)] below meth c s₁ [] 0 0 := Stand.of_body Bd
 have e0 : s₁.heap = h0 := by rw [← hh, Bd.state]; rfl
 have N0 := Fr.nil n0
 have pre0 : ∀ t, Steps p.tables e below (s₁.setTop (mkF m 0 #[.val (.ref a1)] [])) t → Steps p.tables e below (s₁.setTop (entryFrame m #[(.ref a1)] 1)) t := fun t k => castTop (ef_rm2 m a1) k
 obtain ⟨_, _, ⟨T1, L1, k1, n1⟩, -, X1, ⟨Lc1, hQ1, l1, y1, z1⟩, st1⟩ := X0.specialBack hx (y := mn0) rfl hown (mvT hZ (own_w hw 14 rfl)) (mvT hZ (own_w hw 15 rfl)) (mvT hZ (own_w hw 19 rfl)) (by decide) (backOf (W := 0) (rm3 l Z a0 hw [] a1 h0 n0 Z0 ) hZ (own_w hw 19 rfl) (own_w hw 18 rfl) (by decide) (by decide)) (g := (mkF m 1 #[.val (.ref a1)] [(.ref a1)])) rfl (by rw [hml]; rfl) (Steps.refl _) (a := a1) (argsL := []) (rest := []) (lenOf pd__28_29V rfl) rfl (by show 2 * 0 + _ ≤ _; exact Nat.le_of_eq rfl) (hb hby d2_1) (fun _ _ => ⟨rfl, e0, (by decide : 0 + 0 ≤ _), (by decide : 0 + 0 ≤ _)⟩)
 dsimp only [Pt.U, Pt.locs, Pt.cells, Pt.slots] at y1 z1 st1 hQ1
 change Stand p l e _ s m _ below meth c T1 L1 k1 n1 at X1
 change L1 = _ ++ Lc1 at l1
 subst y1 z1
 obtain ⟨rfl, N1q, e1⟩ := hQ1
 have N1 : Fr n0 L1 := l1 ▸ Fr.app N0 N1q
 obtain ⟨T2, h2, X2, e2, W2, st2⟩ := putF X1 hx hZ hown (host := "") (Or.inl (own_w hw 23 rfl)) Via.refl e1 F_modCount_a1 E_a1 (Or.inl (own_w hw 24 rfl)) (own_w hw 3 rfl) (ty := .int) (by decide) rfl rfl (g := (mkF m 6 #[.val (.ref a1)] [(.int 0), (.ref a1)])) rfl rfl (hb hby d2_6)
 have K3 : Keep h0 h2 [a1] := (Keep.refl h0 [a1]).wr W2 (Or.inl (List.mem_of_getElem? (i := 0) rfl))
 have N4 := Fr.snoc X2 N1 g_a1
 have Fw2 := F_modCount_a1.same W2
 have f5 := (E_a1.wr W2)
 have f6 := (F_elementData_a1.other W2 (Or.inr (sn0 hw)))
 have f7 := (F_size_a1.other W2 (Or.inr (sn1 hw)))
 obtain ⟨fs, hr, hrun, hended, hW, hsame⟩ := X2.leave (v := none) (fun _ => rfl)
 refine ⟨_, _, pre0 _ ?_, hrun, hended, _, _, rfl, ?_, ⟨_, rfl⟩, hW, hsame.mono (by decide) (by decide)⟩
 ·show oS s₁ (mkF m 0 #[.val (.ref a1)] [])
  refine XS.aloadN X0.here hx rfl (hb hby d2_0) rfl rfl ?_
  show oS s₁ (mkF m 1 #[.val (.ref a1)] [(.ref a1)])
  refine st1.trans ?_
  show oS T1 (mkF m 4 #[.val (.ref a1)] [])
  refine XS.aloadN X1.here hx rfl (hb hby d2_4) rfl rfl ?_
  show oS T1 (mkF m 5 #[.val (.ref a1)] [(.ref a1)])
  refine XS.iconst X1.here hx rfl (hb hby d2_5) ?_
  show oS T1 (mkF m 6 #[.val (.ref a1)] [(.int 0), (.ref a1)])
  refine st2 _ ?_
  show oS T2 (mkF m 9 #[.val (.ref a1)] [])
  exact X2.returnOut hx Bd.returns (hb hby d2_9) hr
 ·show Q_rm2 Z a1 u1 u2 u3 h0 n0 _ T2.heap _
  rw [e2]
  exact ⟨rfl, N4, K3, f5, Fw2, f6, f7⟩
theorem d1_0 : decode cd19 0 = .ok (.aload_n 0, 1) := by decide +kernel
theorem d1_1 : decode cd19 1 = .ok (.invokespecial 1, 3) := by decide +kernel
theorem d1_4 : decode cd19 4 = .ok (.aload_n 0, 1) := by decide +kernel
theorem d1_5 : decode cd19 5 = .ok (.getstatic 39, 3) := by decide +kernel
theorem d1_8 : decode cd19 8 = .ok (.putfield 9, 3) := by decide +kernel
theorem d1_11 : decode cd19 11 = .ok (.return_, 1) := by decide +kernel
theorem sn2 {Z a0} (hw : own_Hw Z a0) : own_sO Z nm14 "modCount" "I" ≠ own_sO Z nm3 nm18 nm9 := own_sn hw 24 27 rfl rfl (by decide) (by decide) (by decide)
theorem sn3 {Z a0} (hw : own_Hw Z a0) : own_sO Z nm3 "size" "I" ≠ own_sO Z nm3 nm18 nm9 := own_sn hw 39 27 rfl rfl (by decide) (by decide) (by decide)
theorem pn_java_util_ArrayList : plainName nm3 = true := by first | (simp [plainName, overriddenIn]; done) | decide +kernel
theorem ef_rm1 (m : MethodId) (a1 : Addr) : entryFrame m #[(.ref a1)] 1 = mkF m 0 #[.val (.ref a1)] [] := by first | (simp [entryFrame, mkF, argsToLocals, Value.category]; done) | rfl
def Q_rm1 (Z : State) (a1 : Addr) (u1 : Value) (u2 : Value) (u3 : Value) (wD : Addr) (h0 : Heap) (n0 : Nat) (v : Option Value) (h : Heap) (L : List Loc) : Prop := v = none ∧ Fr n0 L ∧ Keep h0 h [a1] ∧ Exa Z h a1 nm3 ∧ Fld Z h a1 nm14 "modCount" "I" (.int 0) ∧ Fld Z h a1 nm3 nm18 nm9 (.ref wD) ∧ Fld Z h a1 nm3 "size" "I" u3
set_option maxRecDepth 65536 in
set_option maxHeartbeats 40000000 in
theorem rm1 (l : Launch) (Z : State) (a0 : Array Value) (hw : own_Hw Z a0) (ws : List Jvm.Cond) (a1 : Addr) (u1 : Value) (u2 : Value) (u3 : Value) (wD : Addr) (h0 : Heap) (n0 : Nat) (Z0 : n0 ≤ h0.size) (S_DEFAULTCAPACITY_EMPTY_ELEMENTDATA : Sta Z h0 nm3 "DEFAULTCAPACITY_EMPTY_ELEMENTDATA" nm9 (.ref wD)) (E_a1 : Exa Z h0 a1 nm3) (F_modCount_a1 : Fld Z h0 a1 nm14 "modCount" "I" u1) (F_elementData_a1 : Fld Z h0 a1 nm3 nm18 nm9 u2) (F_size_a1 : Fld Z h0 a1 nm3 "size" "I" u3) (g_a1 : n0 ≤ a1) :
  MetFree l mn2 (head1 (Jvm.Cond.code mn2 cd19 1 none :: ws) ({ frames := 3, cells := 0, slots := 0, locals := 36 } : Room)) (fun a U => a = #[(.ref a1)] ∧ Z.Warmed39 U.vm ∧ U.heap = h0) (fun _ _ _ _ _ => True) (fun _ U o U' => ∃ v L, o = .returned v ∧ Q_rm1 Z a1 u1 u2 u3 wD h0 n0 v U'.heap L ∧ FrameEnd U o U' L ({ frames := 3, cells := 0, slots := 0, locals := 36 } : Room).cells ({ frames := 3, cells := 0, slots := 0, locals := 36 } : Room).slots) := by
 refine MetFree.of_bodySF (plainFor_of_name pn_java_util_ArrayList) hisR ?_
 intro p e s m args below meth c s₁ Bd hml0 hP hK
 obtain ⟨rfl, hZ, hh⟩ := hP
 have hx := Bd.exec
 have hby := Bd.bytes
 have hml : c.maxLocals = 1 := hml0
 have hown : s.vm.findClass nm3 = some m.cls := findClass_of_methodNamed Bd.named
 have hnm := (name_of_methodNamed Bd.named Bd.method).1
 have X0 : Stand p l e ({ frames := 3, cells := 0, slots := 0, locals := 36 } : Room) s m #[(.ref a1)] below meth c s₁ [] 0 0 := Stand.of_body Bd
 have e0 : s₁.heap = h0 := by rw [← hh, Bd.state]; rfl
 have N0 := Fr.nil n0
 have pre0 : ∀ t, Steps p.tables e below (s₁.setTop (mkF m 0 #[.val (.ref a1)] [])) t → Steps p.tables e below (s₁.setTop (entryFrame m #[(.ref a1)] 1)) t := fun t k => castTop (ef_rm1 m a1) k
 obtain ⟨_, _, ⟨T1, L1, k1, n1⟩, -, X1, ⟨Lc1, hQ1, l1, y1, z1⟩, st1⟩ := X0.specialBack hx (y := mn1) rfl hown (mvT hZ (own_w hw 8 rfl)) (mvT hZ (own_w hw 9 rfl)) (mvT hZ (own_w hw 13 rfl)) (by decide) (backOf (W := 0) (rm2 l Z a0 hw [] a1 u1 u2 u3 h0 n0 Z0 E_a1 F_modCount_a1 F_elementData_a1 F_size_a1 g_a1) hZ (own_w hw 13 rfl) (own_w hw 12 rfl) (by decide) (by decide)) (g := (mkF m 1 #[.val (.ref a1)] [(.ref a1)])) rfl (by rw [hml]; rfl) (Steps.refl _) (a := a1) (argsL := []) (rest := []) (lenOf pd__28_29V rfl) rfl (by show 2 * 0 + _ ≤ _; exact Nat.le_of_eq rfl) (hb hby d1_1) (fun _ _ => ⟨rfl, e0, (by decide : 0 + 0 ≤ _), (by decide : 0 + 0 ≤ _)⟩)
 dsimp only [Pt.U, Pt.locs, Pt.cells, Pt.slots] at y1 z1 st1 hQ1
 change Stand p l e _ s m _ below meth c T1 L1 k1 n1 at X1
 change L1 = _ ++ Lc1 at l1
 subst y1 z1
 obtain ⟨rfl, N1q, K1q, t1_0, t1_1, t1_2, t1_3⟩ := hQ1
 have N1 : Fr n0 L1 := l1 ▸ Fr.app N0 N1q
 have K1 : Keep h0 T1.heap [a1] := (Keep.refl h0 [a1]).trans K1q (allS (P := fun xz => xz ∈ [a1] ∨ h0.size ≤ xz) (Or.inl (List.mem_of_getElem? (i := 0) rfl)) all0)
 have f2 := (own_staKeep S_DEFAULTCAPACITY_EMPTY_ELEMENTDATA K1q (own_nsE E_a1 own_ns0))
 obtain ⟨T3, X3, e3, st3⟩ := getS2 X1 hx hZ hown (host := "") (Or.inl (own_w hw 25 rfl)) Via.refl rfl f2 (g := (mkF m 5 #[.val (.ref a1)] [(.ref a1)])) rfl (hb hby d1_5)
 obtain ⟨T4, h4, X4, e4, W4, st4⟩ := putF X3 hx hZ hown (host := "") (Or.inl (own_w hw 26 rfl)) Via.refl e3 t1_2 t1_0 (Or.inl (own_w hw 27 rfl)) (own_w hw 3 rfl) (ty := (.array (.object nm7))) (by decide) rfl rfl (g := (mkF m 8 #[.val (.ref a1)] [(.ref wD), (.ref a1)])) rfl rfl (hb hby d1_8)
 have K5 : Keep h0 h4 [a1] := K1.wr W4 (Or.inl (List.mem_of_getElem? (i := 0) rfl))
 have N6 := Fr.snoc X4 N1 g_a1
 have Fw4 := t1_2.same W4
 have f7 := (t1_0.wr W4)
 have f8 := (t1_1.other W4 (Or.inr (sn2 hw)))
 have f9 := (t1_3.other W4 (Or.inr (sn3 hw)))
 obtain ⟨fs, hr, hrun, hended, hW, hsame⟩ := X4.leave (v := none) (fun _ => rfl)
 refine ⟨_, _, pre0 _ ?_, hrun, hended, _, _, rfl, ?_, ⟨_, rfl⟩, hW, hsame.mono (by decide) (by decide)⟩
 ·show oS s₁ (mkF m 0 #[.val (.ref a1)] [])
  refine XS.aloadN X0.here hx rfl (hb hby d1_0) rfl rfl ?_
  show oS s₁ (mkF m 1 #[.val (.ref a1)] [(.ref a1)])
  refine st1.trans ?_
  show oS T1 (mkF m 4 #[.val (.ref a1)] [])
  refine XS.aloadN X1.here hx rfl (hb hby d1_4) rfl rfl ?_
  show oS T1 (mkF m 5 #[.val (.ref a1)] [(.ref a1)])
  refine st3 _ ?_
  show oS T3 (mkF m 8 #[.val (.ref a1)] [(.ref wD), (.ref a1)])
  refine st4 _ ?_
  show oS T4 (mkF m 11 #[.val (.ref a1)] [])
  exact X4.returnOut hx Bd.returns (hb hby d1_11) hr
 ·show Q_rm1 Z a1 u1 u2 u3 wD h0 n0 _ T4.heap _
  rw [e4]
  exact ⟨rfl, N6, K5, f7, f8, Fw4, f9⟩
theorem d9_0 : decode cd1 0 = .ok (.iload_n 0, 1) := by decide +kernel
theorem d9_1 : decode cd1 1 = .ok (.iload_n 1, 1) := by decide +kernel
theorem d9_2 : decode cd1 2 = .ok (.if_icmp .lt 7, 3) := by decide +kernel
theorem d9_5 : decode cd1 5 = .ok (.iload_n 0, 1) := by decide +kernel
theorem d9_6 : decode cd1 6 = .ok (.goto 4, 3) := by decide +kernel
theorem d9_10 : decode cd1 10 = .ok (.ireturn, 1) := by decide +kernel
theorem ef_rmMax10 (m : MethodId)  : entryFrame m #[(.int 10), (.int 1)] 2 = mkF m 0 #[.val (.int 10), .val (.int 1)] [] := by first | (simp [entryFrame, mkF, argsToLocals, Value.category]; done) | rfl
def Q_rmMax10 (Z : State)  (h0 : Heap) (n0 : Nat) (v : Option Value) (h : Heap) (L : List Loc) : Prop := v = some (.int 10) ∧ Fr n0 L ∧ h = h0
set_option maxRecDepth 65536 in
set_option maxHeartbeats 40000000 in
theorem rmMax10 (l : Launch) (Z : State) (a0 : Array Value) (hw : own_Hw Z a0) (ws : List Jvm.Cond)  (h0 : Heap) (n0 : Nat) (Z0 : n0 ≤ h0.size) :
  MetFree l mn3 (head1 (Jvm.Cond.code mn3 cd1 2 (some .int) :: ws) ({ frames := 0, cells := 0, slots := 0, locals := 0 } : Room)) (fun a U => a = #[(.int 10), (.int 1)] ∧ Z.Warmed39 U.vm ∧ U.heap = h0) (fun _ _ _ _ _ => True) (fun _ U o U' => ∃ v L, o = .returned v ∧ Q_rmMax10 Z  h0 n0 v U'.heap L ∧ FrameEnd U o U' L ({ frames := 0, cells := 0, slots := 0, locals := 0 } : Room).cells ({ frames := 0, cells := 0, slots := 0, locals := 0 } : Room).slots) := by
 refine MetFree.of_bodySF (Jvm.Free.JP.mathPlain rfl (by decide +kernel)) hisR ?_
 intro p e s m args below meth c s₁ Bd hml0 hP hK
 obtain ⟨rfl, hZ, hh⟩ := hP
 have hx := Bd.exec
 have hby := Bd.bytes
 have hml : c.maxLocals = 2 := hml0
 have hown : s.vm.findClass nm17 = some m.cls := findClass_of_methodNamed Bd.named
 have hnm := (name_of_methodNamed Bd.named Bd.method).1
 have X0 : Stand p l e ({ frames := 0, cells := 0, slots := 0, locals := 0 } : Room) s m #[(.int 10), (.int 1)] below meth c s₁ [] 0 0 := Stand.of_body Bd
 have e0 : s₁.heap = h0 := by rw [← hh, Bd.state]; rfl
 have N0 := Fr.nil n0
 have pre0 : ∀ t, Steps p.tables e below (s₁.setTop (mkF m 0 #[.val (.int 10), .val (.int 1)] [])) t → Steps p.tables e below (s₁.setTop (entryFrame m #[(.int 10), (.int 1)] 2)) t := fun t k => castTop (ef_rmMax10 m ) k
 obtain ⟨fs, hr, hrun, hended, hW, hsame⟩ := X0.leave (v := some (.int 10)) (fun h => by rw [Bd.returns] at h; cases h)
 refine ⟨_, _, pre0 _ ?_, hrun, hended, _, _, rfl, ?_, ⟨_, rfl⟩, hW, hsame.mono (by decide) (by decide)⟩
 ·show oS s₁ (mkF m 0 #[.val (.int 10), .val (.int 1)] [])
  refine XS.iloadN X0.here hx rfl (hb hby d9_0) rfl ?_
  show oS s₁ (mkF m 1 #[.val (.int 10), .val (.int 1)] [(.int 10)])
  refine XS.iloadN X0.here hx rfl (hb hby d9_1) rfl ?_
  show oS s₁ (mkF m 2 #[.val (.int 10), .val (.int 1)] [(.int 1), (.int 10)])
  refine XS.icmpNo X0.here hx rfl (hb hby d9_2) rfl (flt (by decide : ¬ ((10 : Int32) < (1 : Int32)))).1 ?_
  show oS s₁ (mkF m 5 #[.val (.int 10), .val (.int 1)] [])
  refine XS.iloadN X0.here hx rfl (hb hby d9_5) rfl ?_
  show oS s₁ (mkF m 6 #[.val (.int 10), .val (.int 1)] [(.int 10)])
  refine XS.goto X0.here hx rfl (pc0 := 6) (pc' := 10) rfl (hb hby d9_6) (by decide) (by decide) ?_
  show oS s₁ (mkF m 10 #[.val (.int 10), .val (.int 1)] [(.int 10)])
  exact retI X0 hx Bd.returns (hb hby d9_10) hr
 ·show Q_rmMax10 Z  h0 n0 _ s₁.heap _
  rw [e0]
  exact ⟨rfl, N0, rfl⟩
theorem d8_0 : decode cd20 0 = .ok (.aload_n 0, 1) := by decide +kernel
theorem d8_1 : decode cd20 1 = .ok (.getfield 9, 3) := by decide +kernel
theorem d8_4 : decode cd20 4 = .ok (.arraylength, 1) := by decide +kernel
theorem d8_5 : decode cd20 5 = .ok (.istore_n 2, 1) := by decide +kernel
theorem d8_6 : decode cd20 6 = .ok (.iload_n 2, 1) := by decide +kernel
theorem d8_7 : decode cd20 7 = .ok (.ifCond .gt 13, 3) := by decide +kernel
theorem d8_10 : decode cd20 10 = .ok (.aload_n 0, 1) := by decide +kernel
theorem d8_11 : decode cd20 11 = .ok (.getfield 9, 3) := by decide +kernel
theorem d8_14 : decode cd20 14 = .ok (.getstatic 39, 3) := by decide +kernel
theorem d8_17 : decode cd20 17 = .ok (.if_acmp .eq 28, 3) := by decide +kernel
theorem d8_45 : decode cd20 45 = .ok (.aload_n 0, 1) := by decide +kernel
theorem d8_46 : decode cd20 46 = .ok (.bipush 10, 2) := by decide +kernel
theorem d8_48 : decode cd20 48 = .ok (.iload_n 1, 1) := by decide +kernel
theorem pd__28II_29I : parseMethodDescriptor "(II)I" = some ⟨[.int, .int], some .int⟩ := by decide +kernel
theorem d8_49 : decode cd20 49 = .ok (.invokestatic 79, 3) := by decide +kernel
theorem d8_52 : decode cd20 52 = .ok (.anewarray 7, 3) := by decide +kernel
theorem d8_55 : decode cd20 55 = .ok (.dup_x1, 1) := by decide +kernel
theorem d8_56 : decode cd20 56 = .ok (.putfield 9, 3) := by decide +kernel
theorem d8_59 : decode cd20 59 = .ok (.areturn, 1) := by decide +kernel
theorem ef_rmGrowI (m : MethodId) (a1 : Addr) : entryFrame m #[(.ref a1), (.int 1)] 4 = mkF m 0 #[.val (.ref a1), .val (.int 1), .unset, .unset] [] := by first | (simp [entryFrame, mkF, argsToLocals, Value.category]; done) | rfl
def Q_rmGrowI (Z : State) (a1 : Addr) (wD : Addr) (kD : ClassId) (h0 : Heap) (n0 : Nat) (v : Option Value) (h : Heap) (L : List Loc) : Prop := ∃ r : Addr, ∃ kr : ClassId, v = some (.ref r) ∧ Fr n0 L ∧ Keep h0 h [a1] ∧ h0.size ≤ r ∧ n0 ≤ r ∧ Exa Z h a1 nm3 ∧ Fld Z h a1 nm3 nm18 nm9 (.ref r) ∧ Fld Z h a1 nm3 "size" "I" (.int 0) ∧ Fld Z h a1 nm14 "modCount" "I" (.int 1) ∧ Arv Z h r kr (.object nm7) (10 : Int32) [.null, .null, .null, .null, .null, .null, .null, .null, .null, .null] .null ∧ Ovr Z kr nm7
set_option maxRecDepth 65536 in
set_option maxHeartbeats 40000000 in
theorem rmGrowI (l : Launch) (Z : State) (a0 : Array Value) (hw : own_Hw Z a0) (ws : List Jvm.Cond) (a1 : Addr) (wD : Addr) (kD : ClassId) (h0 : Heap) (n0 : Nat) (Z0 : n0 ≤ h0.size) (S_DEFAULTCAPACITY_EMPTY_ELEMENTDATA : Sta Z h0 nm3 "DEFAULTCAPACITY_EMPTY_ELEMENTDATA" nm9 (.ref wD)) (E_a1 : Exa Z h0 a1 nm3) (F_elementData_a1 : Fld Z h0 a1 nm3 nm18 nm9 (.ref wD)) (F_size_a1 : Fld Z h0 a1 nm3 "size" "I" (.int 0)) (F_modCount_a1 : Fld Z h0 a1 nm14 "modCount" "I" (.int 1)) (V_wD : Arv Z h0 wD kD (.object nm7) (0 : Int32) [] .null) (g_a1 : n0 ≤ a1) :
  MetFree l mn4 (head1 (Jvm.Cond.code mn4 cd20 4 (some (.array (.object nm7))) :: ws) ({ frames := 1, cells := 1, slots := 10, locals := 14 } : Room)) (fun a U => a = #[(.ref a1), (.int 1)] ∧ Z.Warmed39 U.vm ∧ U.heap = h0) (fun _ _ _ _ _ => True) (fun _ U o U' => ∃ v L, o = .returned v ∧ Q_rmGrowI Z a1 wD kD h0 n0 v U'.heap L ∧ FrameEnd U o U' L ({ frames := 1, cells := 1, slots := 10, locals := 14 } : Room).cells ({ frames := 1, cells := 1, slots := 10, locals := 14 } : Room).slots) := by
 refine MetFree.of_bodySF (plainFor_of_name pn_java_util_ArrayList) hisR ?_
 intro p e s m args below meth c s₁ Bd hml0 hP hK
 obtain ⟨rfl, hZ, hh⟩ := hP
 have hx := Bd.exec
 have hby := Bd.bytes
 have hml : c.maxLocals = 4 := hml0
 have hown : s.vm.findClass nm3 = some m.cls := findClass_of_methodNamed Bd.named
 have hnm := (name_of_methodNamed Bd.named Bd.method).1
 have X0 : Stand p l e ({ frames := 1, cells := 1, slots := 10, locals := 14 } : Room) s m #[(.ref a1), (.int 1)] below meth c s₁ [] 0 0 := Stand.of_body Bd
 have e0 : s₁.heap = h0 := by rw [← hh, Bd.state]; rfl
 have N0 := Fr.nil n0
 have pre0 : ∀ t, Steps p.tables e below (s₁.setTop (mkF m 0 #[.val (.ref a1), .val (.int 1), .unset, .unset] [])) t → Steps p.tables e below (s₁.setTop (entryFrame m #[(.ref a1), (.int 1)] 4)) t := fun t k => castTop (ef_rmGrowI m a1) k
 obtain ⟨T1, X1, e1, st1⟩ := getF X0 hx hZ hown (host := "") (Or.inl (own_w hw 26 rfl)) Via.refl e0 F_elementData_a1 (g := (mkF m 1 #[.val (.ref a1), .val (.int 1), .unset, .unset] [(.ref a1)])) rfl rfl (hb hby d8_1)
 obtain ⟨c2, Ac2, -, Sc2, Nc2, -, -⟩ := id V_wD
 let lc3 : Array Slot := #[.val (.ref a1), .val (.int 1), .val (.int 0), .unset]
 obtain ⟨T4, X4, e4, st4⟩ := getF X1 hx hZ hown (host := "") (Or.inl (own_w hw 26 rfl)) Via.refl e1 F_elementData_a1 (g := (mkF m 11 lc3 [(.ref a1)])) rfl rfl (hb hby d8_11)
 obtain ⟨T5, X5, e5, st5⟩ := getS2 X4 hx hZ hown (host := "") (Or.inl (own_w hw 25 rfl)) Via.refl e4 S_DEFAULTCAPACITY_EMPTY_ELEMENTDATA (g := (mkF m 14 lc3 [(.ref wD)])) rfl (hb hby d8_14)
 obtain ⟨_, _, ⟨T6, L6, k6, n6⟩, -, X6, ⟨Lc6, hQ6, l6, y6, z6⟩, st6⟩ := Jvm.LawKit.callS X5 hx (y := mn3) hown (mvT hZ (own_w hw 55 rfl)) (mvT hZ (own_w hw 56 rfl)) (mvT hZ (own_w hw 57 rfl)) (mvT hZ (own_w hw 58 rfl)) (by decide) (backOf (W := 1) (rmMax10 l Z a0 hw []  h0 n0 Z0 ) hZ (own_w hw 58 rfl) (own_w hw 57 rfl) (by decide) (by decide)) (g := (mkF m 49 lc3 [(.int 1), (.int 10), (.ref a1)])) rfl (by rw [hml]; rfl) (argsL := [(.int 10), (.int 1)]) (rest := [(.ref a1)]) (lenOf pd__28II_29I rfl) rfl (by show 2 * 0 + _ ≤ _; exact Nat.le_of_eq rfl) (hb hby d8_49) (fun _ _ => ⟨rfl, e5, (by decide : 0 + 0 ≤ _), (by decide : 0 + 0 ≤ _)⟩)
 dsimp only [Pt.U, Pt.locs, Pt.cells, Pt.slots] at y6 z6 st6 hQ6
 change Stand p l e _ s m _ below meth c T6 L6 k6 n6 at X6
 change L6 = _ ++ Lc6 at l6
 subst y6 z6
 obtain ⟨rfl, N6q, e6⟩ := hQ6
 have N6 : Fr n0 L6 := l6 ▸ Fr.app N0 N6q
 obtain ⟨T7, h7, k7, X7, e7, E7, A7, O7, st7⟩ := newR X6 hx hZ hown (own_w hw 59 rfl) (own_w hw 60 rfl) e6 (g := (mkF m 52 lc3 [(.int 10), (.ref a1)])) rfl (hb hby d8_52) rfl (by decide) (cap := 10) (by decide) (by decide) (by decide) (by decide)
 obtain ⟨b7, g7⟩ : ∃ z, z = h0.size := ⟨_, rfl⟩
 rw [← g7] at A7 st7
 have ne_a1_b7 : a1 ≠ b7 := Nat.ne_of_lt (Nat.lt_of_lt_of_le E_a1.lt (Nat.le_of_eq g7.symm))
 have ne_wD_b7 : wD ≠ b7 := Nat.ne_of_lt (Nat.lt_of_lt_of_le V_wD.lt (Nat.le_of_eq g7.symm))
 have g_b7 : n0 ≤ b7 := Nat.le_trans Z0 (Nat.le_of_eq g7.symm)
 have sz_b7 : h0.size ≤ b7 := Nat.le_trans (Keep.refl h0 [a1]).1 (Nat.le_of_eq g7.symm)
 have K8 : Keep h0 h7 [a1] := (Keep.refl h0 [a1]).ext E7
 have V_b7 : Arv Z h7 b7 k7 (.object nm7) (10 : Int32) [.null, .null, .null, .null, .null, .null, .null, .null, .null, .null] .null := (Arv.new A7 (by decide)).pad (pad_rep [] .null 10)
 have f9 := (F_elementData_a1.ext E7)
 have f10 := (E_a1.ext E7)
 have f11 := (V_wD.ext E7)
 have na12 := (Exa.neArv f10 f11 (own_w hw 3 rfl)).symm
 obtain ⟨T13, h13, X13, e13, W13, st13⟩ := putF X7 hx hZ hown (host := "") (Or.inl (own_w hw 26 rfl)) Via.refl e7 f9 f10 (Or.inl (own_w hw 27 rfl)) (own_w hw 3 rfl) (ty := (.array (.object nm7))) (by decide) rfl rfl (g := (mkF m 56 lc3 [(.ref b7), (.ref a1), (.ref b7)])) rfl rfl (hb hby d8_56)
 have K14 : Keep h0 h13 [a1] := K8.wr W13 (Or.inl (List.mem_of_getElem? (i := 0) rfl))
 have N15 := Fr.snoc X13 N6 g_a1
 have Fw13 := f9.same W13
 have f16 := (f10.wr W13)
 have f17 := ((F_size_a1.ext E7).other W13 (Or.inr (sn3 hw)))
 have f18 := ((F_modCount_a1.ext E7).other W13 (Or.inr (sn2 hw)))
 have f19 := (V_b7.other W13 (Ne.symm ne_a1_b7))
 obtain ⟨fs, hr, hrun, hended, hW, hsame⟩ := X13.leave (v := some (.ref b7)) (fun h => by rw [Bd.returns] at h; cases h)
 refine ⟨_, _, pre0 _ ?_, hrun, hended, _, _, rfl, ?_, ⟨_, rfl⟩, hW, hsame.mono (by decide) (by decide)⟩
 ·show oS s₁ (mkF m 0 #[.val (.ref a1), .val (.int 1), .unset, .unset] [])
  refine XS.aloadN X0.here hx rfl (hb hby d8_0) rfl rfl ?_
  show oS s₁ (mkF m 1 #[.val (.ref a1), .val (.int 1), .unset, .unset] [(.ref a1)])
  refine st1 _ ?_
  show oS T1 (mkF m 4 #[.val (.ref a1), .val (.int 1), .unset, .unset] [(.ref wD)])
  refine X1.arraylength hx (by rw [e1]; exact Ac2.1) (State.isArrayOf_alike hZ.alike Ac2.2.1) (g := (mkF m 4 #[.val (.ref a1), .val (.int 1), .unset, .unset] [(.ref wD)])) rfl rfl (hb hby d8_4) _ ?_
  rw [len_of Sc2 Nc2]
  show oS T1 (mkF m 5 #[.val (.ref a1), .val (.int 1), .unset, .unset] [(.int 0)])
  refine XS.istoreN X1.here hx rfl (hb hby d8_5) rfl (l' := lc3) rfl ?_
  show oS T1 (mkF m 6 lc3 [])
  refine XS.iloadN X1.here hx rfl (hb hby d8_6) rfl ?_
  show oS T1 (mkF m 7 lc3 [(.int 0)])
  refine XS.ifNo X1.here hx rfl (hb hby d8_7) rfl ((if0 _ _).trans (flt (by decide : ¬ ((0 : Int32) < (0 : Int32)))).2.2.1) ?_
  show oS T1 (mkF m 10 lc3 [])
  refine XS.aloadN X1.here hx rfl (hb hby d8_10) rfl rfl ?_
  show oS T1 (mkF m 11 lc3 [(.ref a1)])
  refine st4 _ ?_
  show oS T4 (mkF m 14 lc3 [(.ref wD)])
  refine st5 _ ?_
  show oS T5 (mkF m 17 lc3 [(.ref wD), (.ref wD)])
  refine Jvm.RoadKit.acmp (g := (mkF m 17 lc3 [(.ref wD), (.ref wD)])) X5 hx rfl rfl rfl (pc0 := 17) (pc' := 45) (same := true) rfl (hb hby d8_17) rfl (decide_eq_true rfl) (by decide) (by decide) ?_
  show oS T5 (mkF m 45 lc3 [])
  refine XS.aloadN X5.here hx rfl (hb hby d8_45) rfl rfl ?_
  show oS T5 (mkF m 46 lc3 [(.ref a1)])
  refine XS.bipush X5.here hx rfl (hb hby d8_46) ?_
  show oS T5 (mkF m 48 lc3 [(.int 10), (.ref a1)])
  refine XS.iloadN X5.here hx rfl (hb hby d8_48) rfl ?_
  show oS T5 (mkF m 49 lc3 [(.int 1), (.int 10), (.ref a1)])
  refine st6 _ ?_
  show oS T6 (mkF m 52 lc3 [(.int 10), (.ref a1)])
  refine st7 _ ?_
  show oS T7 (mkF m 55 lc3 [(.ref b7), (.ref a1)])
  refine XS.dupX1 X7.here hx rfl (hb hby d8_55) rfl rfl rfl ?_
  show oS T7 (mkF m 56 lc3 [(.ref b7), (.ref a1), (.ref b7)])
  refine st13 _ ?_
  show oS T13 (mkF m 59 lc3 [(.ref b7)])
  jvm_step X13.here [X13.here.top, hx, (hb hby d8_59), X13.method', Bd.returns, Value.isRef, FieldType.isReference]
  first | (intro acts; rw [hr _ acts rfl rfl rfl]) | rw [hr _ _ rfl rfl rfl]
  exact Steps.refl _
 ·show Q_rmGrowI Z a1 wD kD h0 n0 _ T13.heap _
  rw [e13]
  exact ⟨b7, k7, rfl, N15, K14, sz_b7, g_b7, f16, Fw13, f17, f18, f19, O7⟩
theorem d7_0 : decode cd21 0 = .ok (.aload_n 0, 1) := by decide +kernel
theorem d7_1 : decode cd21 1 = .ok (.aload_n 0, 1) := by decide +kernel
theorem d7_2 : decode cd21 2 = .ok (.getfield 48, 3) := by decide +kernel
theorem d7_5 : decode cd21 5 = .ok (.iconst 1, 1) := by decide +kernel
theorem d7_6 : decode cd21 6 = .ok (.iadd, 1) := by decide +kernel
theorem pd__28I_29_5bLjava_2flang_2fObject_3b : parseMethodDescriptor "(I)[Ljava/lang/Object;" = some ⟨[.int], some (.array (.object nm7))⟩ := by decide +kernel
theorem d7_7 : decode cd21 7 = .ok (.invokevirtual 69, 3) := by decide +kernel
theorem d7_10 : decode cd21 10 = .ok (.areturn, 1) := by decide +kernel
theorem ef_rmGrow (m : MethodId) (a1 : Addr) : entryFrame m #[(.ref a1)] 1 = mkF m 0 #[.val (.ref a1)] [] := by first | (simp [entryFrame, mkF, argsToLocals, Value.category]; done) | rfl
def Q_rmGrow (Z : State) (a1 : Addr) (wD : Addr) (kD : ClassId) (h0 : Heap) (n0 : Nat) (v : Option Value) (h : Heap) (L : List Loc) : Prop := ∃ r : Addr, ∃ kr : ClassId, v = some (.ref r) ∧ Fr n0 L ∧ Keep h0 h [a1] ∧ h0.size ≤ r ∧ n0 ≤ r ∧ Exa Z h a1 nm3 ∧ Fld Z h a1 nm3 nm18 nm9 (.ref r) ∧ Fld Z h a1 nm3 "size" "I" (.int 0) ∧ Fld Z h a1 nm14 "modCount" "I" (.int 1) ∧ Arv Z h r kr (.object nm7) (10 : Int32) [.null, .null, .null, .null, .null, .null, .null, .null, .null, .null] .null ∧ Ovr Z kr nm7
set_option maxRecDepth 65536 in
set_option maxHeartbeats 40000000 in
theorem rmGrow (l : Launch) (Z : State) (a0 : Array Value) (hw : own_Hw Z a0) (ws : List Jvm.Cond) (a1 : Addr) (wD : Addr) (kD : ClassId) (h0 : Heap) (n0 : Nat) (Z0 : n0 ≤ h0.size) (S_DEFAULTCAPACITY_EMPTY_ELEMENTDATA : Sta Z h0 nm3 "DEFAULTCAPACITY_EMPTY_ELEMENTDATA" nm9 (.ref wD)) (E_a1 : Exa Z h0 a1 nm3) (F_elementData_a1 : Fld Z h0 a1 nm3 nm18 nm9 (.ref wD)) (F_size_a1 : Fld Z h0 a1 nm3 "size" "I" (.int 0)) (F_modCount_a1 : Fld Z h0 a1 nm14 "modCount" "I" (.int 1)) (V_wD : Arv Z h0 wD kD (.object nm7) (0 : Int32) [] .null) (g_a1 : n0 ≤ a1) :
  MetFree l mn5 (head1 (Jvm.Cond.code mn5 cd21 1 (some (.array (.object nm7))) :: ws) ({ frames := 2, cells := 1, slots := 10, locals := 29 } : Room)) (fun a U => a = #[(.ref a1)] ∧ Z.Warmed39 U.vm ∧ U.heap = h0) (fun _ _ _ _ _ => True) (fun _ U o U' => ∃ v L, o = .returned v ∧ Q_rmGrow Z a1 wD kD h0 n0 v U'.heap L ∧ FrameEnd U o U' L ({ frames := 2, cells := 1, slots := 10, locals := 29 } : Room).cells ({ frames := 2, cells := 1, slots := 10, locals := 29 } : Room).slots) := by
 refine MetFree.of_bodySF (plainFor_of_name pn_java_util_ArrayList) hisR ?_
 intro p e s m args below meth c s₁ Bd hml0 hP hK
 obtain ⟨rfl, hZ, hh⟩ := hP
 have hx := Bd.exec
 have hby := Bd.bytes
 have hml : c.maxLocals = 1 := hml0
 have hown : s.vm.findClass nm3 = some m.cls := findClass_of_methodNamed Bd.named
 have hnm := (name_of_methodNamed Bd.named Bd.method).1
 have X0 : Stand p l e ({ frames := 2, cells := 1, slots := 10, locals := 29 } : Room) s m #[(.ref a1)] below meth c s₁ [] 0 0 := Stand.of_body Bd
 have e0 : s₁.heap = h0 := by rw [← hh, Bd.state]; rfl
 have N0 := Fr.nil n0
 have pre0 : ∀ t, Steps p.tables e below (s₁.setTop (mkF m 0 #[.val (.ref a1)] [])) t → Steps p.tables e below (s₁.setTop (entryFrame m #[(.ref a1)] 1)) t := fun t k => castTop (ef_rmGrow m a1) k
 obtain ⟨T1, X1, e1, st1⟩ := getF X0 hx hZ hown (host := "") (Or.inl (own_w hw 38 rfl)) Via.refl e0 F_size_a1 (g := (mkF m 2 #[.val (.ref a1)] [(.ref a1), (.ref a1)])) rfl rfl (hb hby d7_2)
 have na3 := (Exa.neArv E_a1 V_wD (own_w hw 3 rfl)).symm
 obtain ⟨cq2, q2, q2'⟩ := E_a1.cell
 obtain ⟨_, _, ⟨T2, L2, k2, n2⟩, -, X2, ⟨Lc2, hQ2, l2, y2, z2⟩, st2⟩ := X1.privateBack hx (y := mn4) hown (mvT hZ (own_w hw 50 rfl)) (mvT hZ (own_w hw 51 rfl)) (mvT hZ (own_w hw 53 rfl)) (Cond.privateMethod_at (mvP hZ (own_w hw 52 rfl) (args := #[]))) (mvT hZ (own_w hw 54 rfl)) (by decide) (backOf (W := 0) (rmGrowI l Z a0 hw [] a1 wD kD h0 n0 Z0 S_DEFAULTCAPACITY_EMPTY_ELEMENTDATA E_a1 F_elementData_a1 F_size_a1 F_modCount_a1 V_wD g_a1) hZ (own_w hw 54 rfl) (own_w hw 4 rfl) (by decide) (by decide)) (g := (mkF m 7 #[.val (.ref a1)] [(.int 1), (.ref a1)])) rfl (by rw [hml]; rfl) (Steps.refl _) (a := a1) (by rw [e1]; exact q2) q2' (argsL := [(.int 1)]) (rest := []) (lenOf pd__28I_29_5bLjava_2flang_2fObject_3b rfl) rfl (by show 2 * 0 + _ ≤ _; exact Nat.le_of_eq rfl) (hb hby d7_7) (fun _ _ => ⟨rfl, e1, (by decide : 0 + 1 ≤ _), (by decide : 0 + 10 ≤ _)⟩)
 dsimp only [Pt.U, Pt.locs, Pt.cells, Pt.slots] at y2 z2 st2 hQ2
 change Stand p l e _ s m _ below meth c T2 L2 k2 n2 at X2
 change L2 = _ ++ Lc2 at l2
 subst y2 z2
 obtain ⟨r_2, kr_2, rfl, N2q, K2q, t2_0, t2_1, t2_2, t2_3, t2_4, t2_5, t2_6, t2_7⟩ := hQ2
 have N2 : Fr n0 L2 := l2 ▸ Fr.app N0 N2q
 have K2 : Keep h0 T2.heap [a1] := (Keep.refl h0 [a1]).trans K2q (allS (P := fun xz => xz ∈ [a1] ∨ h0.size ≤ xz) (Or.inl (List.mem_of_getElem? (i := 0) rfl)) all0)
 have ne_a1_r_2 : a1 ≠ r_2 := Nat.ne_of_lt (Nat.lt_of_lt_of_le E_a1.lt t2_0)
 have ne_wD_r_2 : wD ≠ r_2 := Nat.ne_of_lt (Nat.lt_of_lt_of_le V_wD.lt t2_0)
 have sz_r_2 : h0.size ≤ r_2 := Nat.le_trans (Keep.refl h0 [a1]).1 t2_0
 obtain ⟨fs, hr, hrun, hended, hW, hsame⟩ := X2.leave (v := some (.ref r_2)) (fun h => by rw [Bd.returns] at h; cases h)
 refine ⟨_, _, pre0 _ ?_, hrun, hended, _, _, rfl, ?_, ⟨_, rfl⟩, hW, hsame.mono (by decide) (by decide)⟩
 ·show oS s₁ (mkF m 0 #[.val (.ref a1)] [])
  refine XS.aloadN X0.here hx rfl (hb hby d7_0) rfl rfl ?_
  show oS s₁ (mkF m 1 #[.val (.ref a1)] [(.ref a1)])
  refine XS.aloadN X0.here hx rfl (hb hby d7_1) rfl rfl ?_
  show oS s₁ (mkF m 2 #[.val (.ref a1)] [(.ref a1), (.ref a1)])
  refine st1 _ ?_
  show oS T1 (mkF m 5 #[.val (.ref a1)] [(.int 0), (.ref a1)])
  refine XS.iconst X1.here hx rfl (hb hby d7_5) ?_
  show oS T1 (mkF m 6 #[.val (.ref a1)] [(.int 1), (.int 0), (.ref a1)])
  refine XS.iadd X1.here hx rfl (hb hby d7_6) rfl ?_
  show oS T1 (mkF m 7 #[.val (.ref a1)] [(.int 1), (.ref a1)])
  refine st2.trans ?_
  show oS T2 (mkF m 10 #[.val (.ref a1)] [(.ref r_2)])
  jvm_step X2.here [X2.here.top, hx, (hb hby d7_10), X2.method', Bd.returns, Value.isRef, FieldType.isReference]
  first | (intro acts; rw [hr _ acts rfl rfl rfl]) | rw [hr _ _ rfl rfl rfl]
  exact Steps.refl _
 ·show Q_rmGrow Z a1 wD kD h0 n0 _ T2.heap _
  exact ⟨r_2, kr_2, rfl, N2, K2, sz_r_2, t2_1, t2_2, t2_3, t2_4, t2_5, t2_6, t2_7⟩
theorem d6_0 : decode cd2 0 = .ok (.iload_n 3, 1) := by decide +kernel
theorem d6_1 : decode cd2 1 = .ok (.aload_n 2, 1) := by decide +kernel
theorem d6_2 : decode cd2 2 = .ok (.arraylength, 1) := by decide +kernel
theorem d6_3 : decode cd2 3 = .ok (.if_icmp .ne 8, 3) := by decide +kernel
theorem d6_6 : decode cd2 6 = .ok (.aload_n 0, 1) := by decide +kernel
theorem pd__28_29_5bLjava_2flang_2fObject_3b : parseMethodDescriptor "()[Ljava/lang/Object;" = some ⟨[], some (.array (.object nm7))⟩ := by decide +kernel
theorem d6_7 : decode cd2 7 = .ok (.invokevirtual 129, 3) := by decide +kernel
theorem d6_10 : decode cd2 10 = .ok (.astore_n 2, 1) := by decide +kernel
theorem d6_11 : decode cd2 11 = .ok (.aload_n 2, 1) := by decide +kernel
theorem d6_12 : decode cd2 12 = .ok (.iload_n 3, 1) := by decide +kernel
theorem d6_13 : decode cd2 13 = .ok (.aload_n 1, 1) := by decide +kernel
theorem d6_14 : decode cd2 14 = .ok (.aastore, 1) := by decide +kernel
theorem d6_15 : decode cd2 15 = .ok (.aload_n 0, 1) := by decide +kernel
theorem d6_16 : decode cd2 16 = .ok (.iload_n 3, 1) := by decide +kernel
theorem d6_17 : decode cd2 17 = .ok (.iconst 1, 1) := by decide +kernel
theorem d6_18 : decode cd2 18 = .ok (.iadd, 1) := by decide +kernel
theorem d6_19 : decode cd2 19 = .ok (.putfield 48, 3) := by decide +kernel
theorem d6_22 : decode cd2 22 = .ok (.return_, 1) := by decide +kernel
theorem sn4 {Z a0} (hw : own_Hw Z a0) : own_sO Z nm3 nm18 nm9 ≠ own_sO Z nm3 "size" "I" := own_sn hw 27 39 rfl rfl (by decide) (by decide) (by decide)
theorem sn5 {Z a0} (hw : own_Hw Z a0) : own_sO Z nm14 "modCount" "I" ≠ own_sO Z nm3 "size" "I" := own_sn hw 24 39 rfl rfl (by decide) (by decide) (by decide)
theorem ef_rmAdd3a (m : MethodId) (a1 : Addr) (a2 : Addr) (wD : Addr) : entryFrame m #[(.ref a1), (.ref a2), (.ref wD), (.int 0)] 4 = mkF m 0 #[.val (.ref a1), .val (.ref a2), .val (.ref wD), .val (.int 0)] [] := by first | (simp [entryFrame, mkF, argsToLocals, Value.category]; done) | rfl
def Q_rmAdd3a (Z : State) (a1 : Addr) (a2 : Addr) (wD : Addr) (kD : ClassId) (h0 : Heap) (n0 : Nat) (v : Option Value) (h : Heap) (L : List Loc) : Prop := ∃ r : Addr, ∃ kr : ClassId, v = none ∧ Fr n0 L ∧ Keep h0 h [a1] ∧ h0.size ≤ r ∧ n0 ≤ r ∧ Exa Z h a1 nm3 ∧ Fld Z h a1 nm3 nm18 nm9 (.ref r) ∧ Fld Z h a1 nm3 "size" "I" (.int 1) ∧ Fld Z h a1 nm14 "modCount" "I" (.int 1) ∧ Arv Z h r kr (.object nm7) (10 : Int32) [(.ref a2), .null, .null, .null, .null, .null, .null, .null, .null, .null] .null ∧ Ovr Z kr nm7
set_option maxRecDepth 65536 in
set_option maxHeartbeats 40000000 in
theorem rmAdd3a (l : Launch) (Z : State) (a0 : Array Value) (hw : own_Hw Z a0) (ws : List Jvm.Cond) (a1 : Addr) (a2 : Addr) (wD : Addr) (kD : ClassId) (h0 : Heap) (n0 : Nat) (Z0 : n0 ≤ h0.size) (S_DEFAULTCAPACITY_EMPTY_ELEMENTDATA : Sta Z h0 nm3 "DEFAULTCAPACITY_EMPTY_ELEMENTDATA" nm9 (.ref wD)) (E_a1 : Exa Z h0 a1 nm3) (E_a2 : Exa Z h0 a2 nm5) (F_elementData_a1 : Fld Z h0 a1 nm3 nm18 nm9 (.ref wD)) (F_size_a1 : Fld Z h0 a1 nm3 "size" "I" (.int 0)) (F_modCount_a1 : Fld Z h0 a1 nm14 "modCount" "I" (.int 1)) (V_wD : Arv Z h0 wD kD (.object nm7) (0 : Int32) [] .null) (g_a1 : n0 ≤ a1) :
  MetFree l mn6 (head1 (Jvm.Cond.code mn6 cd2 4 none :: ws) ({ frames := 3, cells := 1, slots := 10, locals := 41 } : Room)) (fun a U => a = #[(.ref a1), (.ref a2), (.ref wD), (.int 0)] ∧ Z.Warmed39 U.vm ∧ U.heap = h0) (fun _ _ _ _ _ => True) (fun _ U o U' => ∃ v L, o = .returned v ∧ Q_rmAdd3a Z a1 a2 wD kD h0 n0 v U'.heap L ∧ FrameEnd U o U' L ({ frames := 3, cells := 1, slots := 10, locals := 41 } : Room).cells ({ frames := 3, cells := 1, slots := 10, locals := 41 } : Room).slots) := by
 refine MetFree.of_bodySF (plainFor_of_name pn_java_util_ArrayList) hisR ?_
 intro p e s m args below meth c s₁ Bd hml0 hP hK
 obtain ⟨rfl, hZ, hh⟩ := hP
 have hx := Bd.exec
 have hby := Bd.bytes
 have hml : c.maxLocals = 4 := hml0
 have hown : s.vm.findClass nm3 = some m.cls := findClass_of_methodNamed Bd.named
 have hnm := (name_of_methodNamed Bd.named Bd.method).1
 have X0 : Stand p l e ({ frames := 3, cells := 1, slots := 10, locals := 41 } : Room) s m #[(.ref a1), (.ref a2), (.ref wD), (.int 0)] below meth c s₁ [] 0 0 := Stand.of_body Bd
 have e0 : s₁.heap = h0 := by rw [← hh, Bd.state]; rfl
 have N0 := Fr.nil n0
 have pre0 : ∀ t, Steps p.tables e below (s₁.setTop (mkF m 0 #[.val (.ref a1), .val (.ref a2), .val (.ref wD), .val (.int 0)] [])) t → Steps p.tables e below (s₁.setTop (entryFrame m #[(.ref a1), (.ref a2), (.ref wD), (.int 0)] 4)) t := fun t k => castTop (ef_rmAdd3a m a1 a2 wD) k
 let lc1 : Array Slot := #[.val (.ref a1), .val (.ref a2), .val (.ref wD), .val (.int 0)]
 obtain ⟨c2, Ac2, -, Sc2, Nc2, -, -⟩ := id V_wD
 have na4 := Exa.ne E_a2 E_a1 (by decide)
 have na5 := (Exa.neArv E_a1 V_wD (own_w hw 3 rfl)).symm
 obtain ⟨cq3, q3, q3'⟩ := E_a1.cell
 obtain ⟨_, _, ⟨T3, L3, k3, n3⟩, -, X3, ⟨Lc3, hQ3, l3, y3, z3⟩, st3⟩ := X0.privateBack hx (y := mn5) hown (mvT hZ (own_w hw 45 rfl)) (mvT hZ (own_w hw 46 rfl)) (mvT hZ (own_w hw 48 rfl)) (Cond.privateMethod_at (mvP hZ (own_w hw 47 rfl) (args := #[]))) (mvT hZ (own_w hw 49 rfl)) (by decide) (backOf (W := 0) (rmGrow l Z a0 hw [] a1 wD kD h0 n0 Z0 S_DEFAULTCAPACITY_EMPTY_ELEMENTDATA E_a1 F_elementData_a1 F_size_a1 F_modCount_a1 V_wD g_a1) hZ (own_w hw 49 rfl) (own_w hw 4 rfl) (by decide) (by decide)) (g := (mkF m 7 lc1 [(.ref a1)])) rfl (by rw [hml]; rfl) (Steps.refl _) (a := a1) (by rw [e0]; exact q3) q3' (argsL := []) (rest := []) (lenOf pd__28_29_5bLjava_2flang_2fObject_3b rfl) rfl (by show 2 * 0 + _ ≤ _; exact Nat.le_of_eq rfl) (hb hby d6_7) (fun _ _ => ⟨rfl, e0, (by decide : 0 + 1 ≤ _), (by decide : 0 + 10 ≤ _)⟩)
 dsimp only [Pt.U, Pt.locs, Pt.cells, Pt.slots] at y3 z3 st3 hQ3
 change Stand p l e _ s m _ below meth c T3 L3 k3 n3 at X3
 change L3 = _ ++ Lc3 at l3
 subst y3 z3
 obtain ⟨r_3, kr_3, rfl, N3q, K3q, t3_0, t3_1, t3_2, t3_3, t3_4, t3_5, t3_6, t3_7⟩ := hQ3
 have N3 : Fr n0 L3 := l3 ▸ Fr.app N0 N3q
 have K3 : Keep h0 T3.heap [a1] := (Keep.refl h0 [a1]).trans K3q (allS (P := fun xz => xz ∈ [a1] ∨ h0.size ≤ xz) (Or.inl (List.mem_of_getElem? (i := 0) rfl)) all0)
 have ne_a1_r_3 : a1 ≠ r_3 := Nat.ne_of_lt (Nat.lt_of_lt_of_le E_a1.lt t3_0)
 have ne_a2_r_3 : a2 ≠ r_3 := Nat.ne_of_lt (Nat.lt_of_lt_of_le E_a2.lt t3_0)
 have ne_wD_r_3 : wD ≠ r_3 := Nat.ne_of_lt (Nat.lt_of_lt_of_le V_wD.lt t3_0)
 have sz_r_3 : h0.size ≤ r_3 := Nat.le_trans (Keep.refl h0 [a1]).1 t3_0
 let lc6 : Array Slot := #[.val (.ref a1), .val (.ref a2), .val (.ref r_3), .val (.int 0)]
 have f8 := (E_a2.keep K3q)
 obtain ⟨c7, Ac7, qc7, Sc7, Nc7, Hc7, Gc7⟩ := id t3_6
 obtain ⟨T9, h9, X9, e9, W9, st9⟩ := stR X3 hx hZ rfl Ac7 (j := (0 : Int32)) (inb_of Sc7 ⟨by decide, by decide⟩) rfl (Sto.ofV Ac7 qc7 t3_7 (Ins.of_exa f8 (own_w hw 61 rfl))) (g := (mkF m 14 lc6 [(.ref a2), (.int 0), (.ref r_3)])) rfl rfl (hb hby d6_14)
 have K10 : Keep h0 h9 [a1] := K3.wr W9 (Or.inr sz_r_3)
 have N11 := Fr.snoc X9 N3 t3_1
 have Vw9 := Arv.set Ac7 qc7 Sc7 Nc7 Hc7 Gc7 rfl W9 0 rfl (Nat.le_of_ble_eq_true rfl)
 change Arv Z h9 r_3 kr_3 (.object nm7) (10 : Int32) [(.ref a2), .null, .null, .null, .null, .null, .null, .null, .null, .null] .null at Vw9
 have f12 := (t3_4.other W9 (Or.inl ne_a1_r_3))
 have f13 := (t3_2.wr W9)
 obtain ⟨T14, h14, X14, e14, W14, st14⟩ := putF X9 hx hZ hown (host := "") (Or.inl (own_w hw 38 rfl)) Via.refl e9 f12 f13 (Or.inl (own_w hw 39 rfl)) (own_w hw 3 rfl) (ty := .int) (by decide) rfl rfl (g := (mkF m 19 lc6 [(.int 1), (.ref a1)])) rfl rfl (hb hby d6_19)
 have K15 : Keep h0 h14 [a1] := K10.wr W14 (Or.inl (List.mem_of_getElem? (i := 0) rfl))
 have N16 := Fr.snoc X14 N11 g_a1
 have Fw14 := f12.same W14
 have f17 := (f13.wr W14)
 have f18 := ((t3_3.other W9 (Or.inl ne_a1_r_3)).other W14 (Or.inr (sn4 hw)))
 have f19 := ((t3_5.other W9 (Or.inl ne_a1_r_3)).other W14 (Or.inr (sn5 hw)))
 have f20 := (Vw9.other W14 (Ne.symm ne_a1_r_3))
 obtain ⟨fs, hr, hrun, hended, hW, hsame⟩ := X14.leave (v := none) (fun _ => rfl)
 refine ⟨_, _, pre0 _ ?_, hrun, hended, _, _, rfl, ?_, ⟨_, rfl⟩, hW, hsame.mono (by decide) (by decide)⟩
 ·show oS s₁ (mkF m 0 lc1 [])
  refine XS.iloadN X0.here hx rfl (hb hby d6_0) rfl ?_
  show oS s₁ (mkF m 1 lc1 [(.int 0)])
  refine XS.aloadN X0.here hx rfl (hb hby d6_1) rfl rfl ?_
  show oS s₁ (mkF m 2 lc1 [(.ref wD), (.int 0)])
  refine X0.arraylength hx (by rw [e0]; exact Ac2.1) (State.isArrayOf_alike hZ.alike Ac2.2.1) (g := (mkF m 2 lc1 [(.ref wD), (.int 0)])) rfl rfl (hb hby d6_2) _ ?_
  rw [len_of Sc2 Nc2]
  show oS s₁ (mkF m 3 lc1 [(.int 0), (.int 0)])
  refine XS.icmpNo X0.here hx rfl (hb hby d6_3) rfl (teq (by decide : (0 : Int32) = (0 : Int32))).2 ?_
  show oS s₁ (mkF m 6 lc1 [])
  refine XS.aloadN X0.here hx rfl (hb hby d6_6) rfl rfl ?_
  show oS s₁ (mkF m 7 lc1 [(.ref a1)])
  refine st3.trans ?_
  show oS T3 (mkF m 10 lc1 [(.ref r_3)])
  refine XS.astoreN X3.here hx rfl (hb hby d6_10) rfl rfl (l' := lc6) rfl ?_
  show oS T3 (mkF m 11 lc6 [])
  refine XS.aloadN X3.here hx rfl (hb hby d6_11) rfl rfl ?_
  show oS T3 (mkF m 12 lc6 [(.ref r_3)])
  refine XS.iloadN X3.here hx rfl (hb hby d6_12) rfl ?_
  show oS T3 (mkF m 13 lc6 [(.int 0), (.ref r_3)])
  refine XS.aloadN X3.here hx rfl (hb hby d6_13) rfl rfl ?_
  show oS T3 (mkF m 14 lc6 [(.ref a2), (.int 0), (.ref r_3)])
  refine st9 _ ?_
  show oS T9 (mkF m 15 lc6 [])
  refine XS.aloadN X9.here hx rfl (hb hby d6_15) rfl rfl ?_
  show oS T9 (mkF m 16 lc6 [(.ref a1)])
  refine XS.iloadN X9.here hx rfl (hb hby d6_16) rfl ?_
  show oS T9 (mkF m 17 lc6 [(.int 0), (.ref a1)])
  refine XS.iconst X9.here hx rfl (hb hby d6_17) ?_
  show oS T9 (mkF m 18 lc6 [(.int 1), (.int 0), (.ref a1)])
  refine XS.iadd X9.here hx rfl (hb hby d6_18) rfl ?_
  show oS T9 (mkF m 19 lc6 [(.int 1), (.ref a1)])
  refine st14 _ ?_
  show oS T14 (mkF m 22 lc6 [])
  exact X14.returnOut hx Bd.returns (hb hby d6_22) hr
 ·show Q_rmAdd3a Z a1 a2 wD kD h0 n0 _ T14.heap _
  rw [e14]
  exact ⟨r_3, kr_3, rfl, N16, K15, sz_r_3, t3_1, f17, f18, Fw14, f19, f20, t3_7⟩
theorem ef_rmAdd3b (m : MethodId) (a1 : Addr) (a2 : Addr) (a3 : Addr) : entryFrame m #[(.ref a1), (.ref a2), (.ref a3), (.int 1)] 4 = mkF m 0 #[.val (.ref a1), .val (.ref a2), .val (.ref a3), .val (.int 1)] [] := by first | (simp [entryFrame, mkF, argsToLocals, Value.category]; done) | rfl
def Q_rmAdd3b (Z : State) (a1 : Addr) (a2 : Addr) (a3 : Addr) (x1 : Addr) (kr : ClassId) (h0 : Heap) (n0 : Nat) (v : Option Value) (h : Heap) (L : List Loc) : Prop := v = none ∧ Fr n0 L ∧ Keep h0 h [a1, a3] ∧ Exa Z h a1 nm3 ∧ Fld Z h a1 nm3 nm18 nm9 (.ref a3) ∧ Fld Z h a1 nm3 "size" "I" (.int 2) ∧ Fld Z h a1 nm14 "modCount" "I" (.int 2) ∧ Arv Z h a3 kr (.object nm7) (10 : Int32) [(.ref x1), (.ref a2), .null, .null, .null, .null, .null, .null, .null, .null] .null
set_option maxRecDepth 65536 in
set_option maxHeartbeats 40000000 in
theorem rmAdd3b (l : Launch) (Z : State) (a0 : Array Value) (hw : own_Hw Z a0) (ws : List Jvm.Cond) (a1 : Addr) (a2 : Addr) (a3 : Addr) (x1 : Addr) (kr : ClassId) (h0 : Heap) (n0 : Nat) (Z0 : n0 ≤ h0.size) (E_a1 : Exa Z h0 a1 nm3) (E_a2 : Exa Z h0 a2 nm5) (F_elementData_a1 : Fld Z h0 a1 nm3 nm18 nm9 (.ref a3)) (F_size_a1 : Fld Z h0 a1 nm3 "size" "I" (.int 1)) (F_modCount_a1 : Fld Z h0 a1 nm14 "modCount" "I" (.int 2)) (V_a3 : Arv Z h0 a3 kr (.object nm7) (10 : Int32) [(.ref x1), .null, .null, .null, .null, .null, .null, .null, .null, .null] .null) (O_a3 : Ovr Z kr nm7) (g_a1 : n0 ≤ a1) (g_a3 : n0 ≤ a3) :
  MetFree l mn6 (head1 (Jvm.Cond.code mn6 cd2 4 none :: ws) ({ frames := 0, cells := 0, slots := 0, locals := 0 } : Room)) (fun a U => a = #[(.ref a1), (.ref a2), (.ref a3), (.int 1)] ∧ Z.Warmed39 U.vm ∧ U.heap = h0) (fun _ _ _ _ _ => True) (fun _ U o U' => ∃ v L, o = .returned v ∧ Q_rmAdd3b Z a1 a2 a3 x1 kr h0 n0 v U'.heap L ∧ FrameEnd U o U' L ({ frames := 0, cells := 0, slots := 0, locals := 0 } : Room).cells ({ frames := 0, cells := 0, slots := 0, locals := 0 } : Room).slots) := by
 refine MetFree.of_bodySF (plainFor_of_name pn_java_util_ArrayList) hisR ?_
 intro p e s m args below meth c s₁ Bd hml0 hP hK
 obtain ⟨rfl, hZ, hh⟩ := hP
 have hx := Bd.exec
 have hby := Bd.bytes
 have hml : c.maxLocals = 4 := hml0
 have hown : s.vm.findClass nm3 = some m.cls := findClass_of_methodNamed Bd.named
 have hnm := (name_of_methodNamed Bd.named Bd.method).1
 have X0 : Stand p l e ({ frames := 0, cells := 0, slots := 0, locals := 0 } : Room) s m #[(.ref a1), (.ref a2), (.ref a3), (.int 1)] below meth c s₁ [] 0 0 := Stand.of_body Bd
 have e0 : s₁.heap = h0 := by rw [← hh, Bd.state]; rfl
 have N0 := Fr.nil n0
 have pre0 : ∀ t, Steps p.tables e below (s₁.setTop (mkF m 0 #[.val (.ref a1), .val (.ref a2), .val (.ref a3), .val (.int 1)] [])) t → Steps p.tables e below (s₁.setTop (entryFrame m #[(.ref a1), (.ref a2), (.ref a3), (.int 1)] 4)) t := fun t k => castTop (ef_rmAdd3b m a1 a2 a3) k
 let lc1 : Array Slot := #[.val (.ref a1), .val (.ref a2), .val (.ref a3), .val (.int 1)]
 obtain ⟨c2, Ac2, -, Sc2, Nc2, -, -⟩ := id V_a3
 obtain ⟨c3, Ac3, qc3, Sc3, Nc3, Hc3, Gc3⟩ := id V_a3
 have na4 := Exa.neArv E_a1 V_a3 (own_w hw 3 rfl)
 obtain ⟨T5, h5, X5, e5, W5, st5⟩ := stR X0 hx hZ e0 Ac3 (j := (1 : Int32)) (inb_of Sc3 ⟨by decide, by decide⟩) rfl (Sto.ofV Ac3 qc3 O_a3 (Ins.of_exa E_a2 (own_w hw 61 rfl))) (g := (mkF m 14 lc1 [(.ref a2), (.int 1), (.ref a3)])) rfl rfl (hb hby d6_14)
 have K6 : Keep h0 h5 [a1, a3] := (Keep.refl h0 [a1, a3]).wr W5 (Or.inl (List.mem_of_getElem? (i := 1) rfl))
 have N7 := Fr.snoc X5 N0 g_a3
 have Vw5 := Arv.set Ac3 qc3 Sc3 Nc3 Hc3 Gc3 rfl W5 1 rfl (Nat.le_of_ble_eq_true rfl)
 change Arv Z h5 a3 kr (.object nm7) (10 : Int32) [(.ref x1), (.ref a2), .null, .null, .null, .null, .null, .null, .null, .null] .null at Vw5
 have f8 := (F_size_a1.other W5 (Or.inl na4))
 have f9 := (E_a1.wr W5)
 have f10 := (E_a2.wr W5)
 have na11 := Exa.ne f10 f9 (by decide)
 obtain ⟨T12, h12, X12, e12, W12, st12⟩ := putF X5 hx hZ hown (host := "") (Or.inl (own_w hw 38 rfl)) Via.refl e5 f8 f9 (Or.inl (own_w hw 39 rfl)) (own_w hw 3 rfl) (ty := .int) (by decide) rfl rfl (g := (mkF m 19 lc1 [(.int 2), (.ref a1)])) rfl rfl (hb hby d6_19)
 have K13 : Keep h0 h12 [a1, a3] := K6.wr W12 (Or.inl (List.mem_of_getElem? (i := 0) rfl))
 have N14 := Fr.snoc X12 N7 g_a1
 have Fw12 := f8.same W12
 have f15 := (f9.wr W12)
 have f16 := ((F_elementData_a1.other W5 (Or.inl na4)).other W12 (Or.inr (sn4 hw)))
 have f17 := ((F_modCount_a1.other W5 (Or.inl na4)).other W12 (Or.inr (sn5 hw)))
 have f18 := (Vw5.other W12 (Ne.symm na4))
 obtain ⟨fs, hr, hrun, hended, hW, hsame⟩ := X12.leave (v := none) (fun _ => rfl)
 refine ⟨_, _, pre0 _ ?_, hrun, hended, _, _, rfl, ?_, ⟨_, rfl⟩, hW, hsame.mono (by decide) (by decide)⟩
 ·show oS s₁ (mkF m 0 lc1 [])
  refine XS.iloadN X0.here hx rfl (hb hby d6_0) rfl ?_
  show oS s₁ (mkF m 1 lc1 [(.int 1)])
  refine XS.aloadN X0.here hx rfl (hb hby d6_1) rfl rfl ?_
  show oS s₁ (mkF m 2 lc1 [(.ref a3), (.int 1)])
  refine X0.arraylength hx (by rw [e0]; exact Ac2.1) (State.isArrayOf_alike hZ.alike Ac2.2.1) (g := (mkF m 2 lc1 [(.ref a3), (.int 1)])) rfl rfl (hb hby d6_2) _ ?_
  rw [len_of Sc2 Nc2]
  show oS s₁ (mkF m 3 lc1 [(.int 10), (.int 1)])
  refine XS.icmpYes X0.here hx rfl (pc0 := 3) (pc' := 11) rfl (hb hby d6_3) rfl (feq (by decide : ¬ ((1 : Int32) = (10 : Int32)))).2 (by decide) (by decide) ?_
  show oS s₁ (mkF m 11 lc1 [])
  refine XS.aloadN X0.here hx rfl (hb hby d6_11) rfl rfl ?_
  show oS s₁ (mkF m 12 lc1 [(.ref a3)])
  refine XS.iloadN X0.here hx rfl (hb hby d6_12) rfl ?_
  show oS s₁ (mkF m 13 lc1 [(.int 1), (.ref a3)])
  refine XS.aloadN X0.here hx rfl (hb hby d6_13) rfl rfl ?_
  show oS s₁ (mkF m 14 lc1 [(.ref a2), (.int 1), (.ref a3)])
  refine st5 _ ?_
  show oS T5 (mkF m 15 lc1 [])
  refine XS.aloadN X5.here hx rfl (hb hby d6_15) rfl rfl ?_
  show oS T5 (mkF m 16 lc1 [(.ref a1)])
  refine XS.iloadN X5.here hx rfl (hb hby d6_16) rfl ?_
  show oS T5 (mkF m 17 lc1 [(.int 1), (.ref a1)])
  refine XS.iconst X5.here hx rfl (hb hby d6_17) ?_
  show oS T5 (mkF m 18 lc1 [(.int 1), (.int 1), (.ref a1)])
  refine XS.iadd X5.here hx rfl (hb hby d6_18) rfl ?_
  show oS T5 (mkF m 19 lc1 [(.int 2), (.ref a1)])
  refine st12 _ ?_
  show oS T12 (mkF m 22 lc1 [])
  exact X12.returnOut hx Bd.returns (hb hby d6_22) hr
 ·show Q_rmAdd3b Z a1 a2 a3 x1 kr h0 n0 _ T12.heap _
  rw [e12]
  exact ⟨rfl, N14, K13, f15, f16, Fw12, f17, f18⟩
theorem d5_0 : decode cd3 0 = .ok (.aload_n 0, 1) := by decide +kernel
theorem d5_1 : decode cd3 1 = .ok (.dup, 1) := by decide +kernel
theorem d5_2 : decode cd3 2 = .ok (.getfield 63, 3) := by decide +kernel
theorem d5_5 : decode cd3 5 = .ok (.iconst 1, 1) := by decide +kernel
theorem d5_6 : decode cd3 6 = .ok (.iadd, 1) := by decide +kernel
theorem d5_7 : decode cd3 7 = .ok (.putfield 63, 3) := by decide +kernel
theorem d5_10 : decode cd3 10 = .ok (.aload_n 0, 1) := by decide +kernel
theorem d5_11 : decode cd3 11 = .ok (.aload_n 1, 1) := by decide +kernel
theorem d5_12 : decode cd3 12 = .ok (.aload_n 0, 1) := by decide +kernel
theorem d5_13 : decode cd3 13 = .ok (.getfield 9, 3) := by decide +kernel
theorem d5_16 : decode cd3 16 = .ok (.aload_n 0, 1) := by decide +kernel
theorem d5_17 : decode cd3 17 = .ok (.getfield 48, 3) := by decide +kernel
theorem pd__28Ljava_2flang_2fObject_3b_5bLjava_2flang_2fObject_3bI_29V : parseMethodDescriptor "(Ljava/lang/Object;[Ljava/lang/Object;I)V" = some ⟨[(.object nm7), (.array (.object nm7)), .int], none⟩ := by decide +kernel
theorem d5_20 : decode cd3 20 = .ok (.invokevirtual 131, 3) := by decide +kernel
theorem d5_23 : decode cd3 23 = .ok (.iconst 1, 1) := by decide +kernel
theorem d5_24 : decode cd3 24 = .ok (.ireturn, 1) := by decide +kernel
theorem ef_rmAddA (m : MethodId) (a1 : Addr) (a2 : Addr) : entryFrame m #[(.ref a1), (.ref a2)] 2 = mkF m 0 #[.val (.ref a1), .val (.ref a2)] [] := by first | (simp [entryFrame, mkF, argsToLocals, Value.category]; done) | rfl
def Q_rmAddA (Z : State) (a1 : Addr) (a2 : Addr) (wD : Addr) (kD : ClassId) (h0 : Heap) (n0 : Nat) (v : Option Value) (h : Heap) (L : List Loc) : Prop := ∃ r : Addr, ∃ kr : ClassId, v = some (.int 1) ∧ Fr n0 L ∧ Keep h0 h [a1] ∧ h0.size ≤ r ∧ n0 ≤ r ∧ Exa Z h a1 nm3 ∧ Fld Z h a1 nm3 nm18 nm9 (.ref r) ∧ Fld Z h a1 nm3 "size" "I" (.int 1) ∧ Fld Z h a1 nm14 "modCount" "I" (.int 1) ∧ Arv Z h r kr (.object nm7) (10 : Int32) [(.ref a2), .null, .null, .null, .null, .null, .null, .null, .null, .null] .null ∧ Ovr Z kr nm7
set_option maxRecDepth 65536 in
set_option maxHeartbeats 40000000 in
theorem rmAddA (l : Launch) (Z : State) (a0 : Array Value) (hw : own_Hw Z a0) (ws : List Jvm.Cond) (a1 : Addr) (a2 : Addr) (wD : Addr) (kD : ClassId) (h0 : Heap) (n0 : Nat) (Z0 : n0 ≤ h0.size) (S_DEFAULTCAPACITY_EMPTY_ELEMENTDATA : Sta Z h0 nm3 "DEFAULTCAPACITY_EMPTY_ELEMENTDATA" nm9 (.ref wD)) (E_a1 : Exa Z h0 a1 nm3) (E_a2 : Exa Z h0 a2 nm5) (F_elementData_a1 : Fld Z h0 a1 nm3 nm18 nm9 (.ref wD)) (F_size_a1 : Fld Z h0 a1 nm3 "size" "I" (.int 0)) (F_modCount_a1 : Fld Z h0 a1 nm14 "modCount" "I" (.int 0)) (V_wD : Arv Z h0 wD kD (.object nm7) (0 : Int32) [] .null) (g_a1 : n0 ≤ a1) :
  MetFree l mn7 (head1 (Jvm.Cond.code mn7 cd3 2 (some .boolean) :: ws) ({ frames := 4, cells := 1, slots := 10, locals := 56 } : Room)) (fun a U => a = #[(.ref a1), (.ref a2)] ∧ Z.Warmed39 U.vm ∧ U.heap = h0) (fun _ _ _ _ _ => True) (fun _ U o U' => ∃ v L, o = .returned v ∧ Q_rmAddA Z a1 a2 wD kD h0 n0 v U'.heap L ∧ FrameEnd U o U' L ({ frames := 4, cells := 1, slots := 10, locals := 56 } : Room).cells ({ frames := 4, cells := 1, slots := 10, locals := 56 } : Room).slots) := by
 refine MetFree.of_bodySF (plainFor_of_name pn_java_util_ArrayList) hisR ?_
 intro p e s m args below meth c s₁ Bd hml0 hP hK
 obtain ⟨rfl, hZ, hh⟩ := hP
 have hx := Bd.exec
 have hby := Bd.bytes
 have hml : c.maxLocals = 2 := hml0
 have hown : s.vm.findClass nm3 = some m.cls := findClass_of_methodNamed Bd.named
 have hnm := (name_of_methodNamed Bd.named Bd.method).1
 have X0 : Stand p l e ({ frames := 4, cells := 1, slots := 10, locals := 56 } : Room) s m #[(.ref a1), (.ref a2)] below meth c s₁ [] 0 0 := Stand.of_body Bd
 have e0 : s₁.heap = h0 := by rw [← hh, Bd.state]; rfl
 have N0 := Fr.nil n0
 have pre0 : ∀ t, Steps p.tables e below (s₁.setTop (mkF m 0 #[.val (.ref a1), .val (.ref a2)] [])) t → Steps p.tables e below (s₁.setTop (entryFrame m #[(.ref a1), (.ref a2)] 2)) t := fun t k => castTop (ef_rmAddA m a1 a2) k
 obtain ⟨T1, X1, e1, st1⟩ := getF X0 hx hZ hown (host := "") (Or.inl (own_w hw 36 rfl)) (Via.of (own_w hw 37 rfl)) e0 F_modCount_a1 (g := (mkF m 2 #[.val (.ref a1), .val (.ref a2)] [(.ref a1), (.ref a1)])) rfl rfl (hb hby d5_2)
 have na2 := Exa.ne E_a2 E_a1 (by decide)
 have na3 := (Exa.neArv E_a1 V_wD (own_w hw 3 rfl)).symm
 obtain ⟨T4, h4, X4, e4, W4, st4⟩ := putF X1 hx hZ hown (host := "") (Or.inl (own_w hw 36 rfl)) (Via.of (own_w hw 37 rfl)) e1 F_modCount_a1 E_a1 (Or.inl (own_w hw 24 rfl)) (own_w hw 3 rfl) (ty := .int) (by decide) rfl rfl (g := (mkF m 7 #[.val (.ref a1), .val (.ref a2)] [(.int 1), (.ref a1)])) rfl rfl (hb hby d5_7)
 have K5 : Keep h0 h4 [a1] := (Keep.refl h0 [a1]).wr W4 (Or.inl (List.mem_of_getElem? (i := 0) rfl))
 have N6 := Fr.snoc X4 N0 g_a1
 have Fw4 := F_modCount_a1.same W4
 have f7 := (F_elementData_a1.other W4 (Or.inr (sn0 hw)))
 obtain ⟨T8, X8, e8, st8⟩ := getF X4 hx hZ hown (host := "") (Or.inl (own_w hw 26 rfl)) Via.refl e4 f7 (g := (mkF m 13 #[.val (.ref a1), .val (.ref a2)] [(.ref a1), (.ref a2), (.ref a1)])) rfl rfl (hb hby d5_13)
 have f9 := (F_size_a1.other W4 (Or.inr (sn1 hw)))
 obtain ⟨T10, X10, e10, st10⟩ := getF X8 hx hZ hown (host := "") (Or.inl (own_w hw 38 rfl)) Via.refl e8 f9 (g := (mkF m 17 #[.val (.ref a1), .val (.ref a2)] [(.ref a1), (.ref wD), (.ref a2), (.ref a1)])) rfl rfl (hb hby d5_17)
 have f11 := (S_DEFAULTCAPACITY_EMPTY_ELEMENTDATA.wr W4)
 have f12 := (E_a1.wr W4)
 have f13 := (E_a2.wr W4)
 have f14 := (V_wD.other W4 na3)
 obtain ⟨cq15, q15, q15'⟩ := f12.cell
 obtain ⟨_, _, ⟨T15, L15, k15, n15⟩, -, X15, ⟨Lc15, hQ15, l15, y15, z15⟩, st15⟩ := X10.privateBack hx (y := mn6) hown (mvT hZ (own_w hw 40 rfl)) (mvT hZ (own_w hw 41 rfl)) (mvT hZ (own_w hw 43 rfl)) (Cond.privateMethod_at (mvP hZ (own_w hw 42 rfl) (args := #[]))) (mvT hZ (own_w hw 44 rfl)) (by decide) (backOf (W := 0) (rmAdd3a l Z a0 hw [] a1 a2 wD kD h4 n0 (Nat.le_trans Z0 K5.1) f11 f12 f13 f7 f9 Fw4 f14 g_a1) hZ (own_w hw 44 rfl) (own_w hw 4 rfl) (by decide) (by decide)) (g := (mkF m 20 #[.val (.ref a1), .val (.ref a2)] [(.int 0), (.ref wD), (.ref a2), (.ref a1)])) rfl (by rw [hml]; rfl) (Steps.refl _) (a := a1) (by rw [e10]; exact q15) q15' (argsL := [(.ref a2), (.ref wD), (.int 0)]) (rest := []) (lenOf pd__28Ljava_2flang_2fObject_3b_5bLjava_2flang_2fObject_3bI_29V rfl) rfl (by show 2 * 0 + _ ≤ _; exact Nat.le_of_eq rfl) (hb hby d5_20) (fun _ _ => ⟨rfl, e10, (by decide : 0 + 1 ≤ _), (by decide : 0 + 10 ≤ _)⟩)
 dsimp only [Pt.U, Pt.locs, Pt.cells, Pt.slots] at y15 z15 st15 hQ15
 change Stand p l e _ s m _ below meth c T15 L15 k15 n15 at X15
 change L15 = _ ++ Lc15 at l15
 subst y15 z15
 obtain ⟨r_15, kr_15, rfl, N15q, K15q, t15_0, t15_1, t15_2, t15_3, t15_4, t15_5, t15_6, t15_7⟩ := hQ15
 have N15 : Fr n0 L15 := l15 ▸ Fr.app N6 N15q
 have K15 : Keep h0 T15.heap [a1] := K5.trans K15q (allS (P := fun xz => xz ∈ [a1] ∨ h0.size ≤ xz) (Or.inl (List.mem_of_getElem? (i := 0) rfl)) all0)
 have ne_a1_r_15 : a1 ≠ r_15 := Nat.ne_of_lt (Nat.lt_of_lt_of_le f12.lt t15_0)
 have ne_a2_r_15 : a2 ≠ r_15 := Nat.ne_of_lt (Nat.lt_of_lt_of_le f13.lt t15_0)
 have ne_wD_r_15 : wD ≠ r_15 := Nat.ne_of_lt (Nat.lt_of_lt_of_le f14.lt t15_0)
 have sz_r_15 : h0.size ≤ r_15 := Nat.le_trans K5.1 t15_0
 obtain ⟨fs, hr, hrun, hended, hW, hsame⟩ := X15.leave (v := some (.int 1)) (fun h => by rw [Bd.returns] at h; cases h)
 refine ⟨_, _, pre0 _ ?_, hrun, hended, _, _, rfl, ?_, ⟨_, rfl⟩, hW, hsame.mono (by decide) (by decide)⟩
 ·show oS s₁ (mkF m 0 #[.val (.ref a1), .val (.ref a2)] [])
  refine XS.aloadN X0.here hx rfl (hb hby d5_0) rfl rfl ?_
  show oS s₁ (mkF m 1 #[.val (.ref a1), .val (.ref a2)] [(.ref a1)])
  refine XS.dup X0.here hx rfl (hb hby d5_1) rfl rfl ?_
  show oS s₁ (mkF m 2 #[.val (.ref a1), .val (.ref a2)] [(.ref a1), (.ref a1)])
  refine st1 _ ?_
  show oS T1 (mkF m 5 #[.val (.ref a1), .val (.ref a2)] [(.int 0), (.ref a1)])
  refine XS.iconst X1.here hx rfl (hb hby d5_5) ?_
  show oS T1 (mkF m 6 #[.val (.ref a1), .val (.ref a2)] [(.int 1), (.int 0), (.ref a1)])
  refine XS.iadd X1.here hx rfl (hb hby d5_6) rfl ?_
  show oS T1 (mkF m 7 #[.val (.ref a1), .val (.ref a2)] [(.int 1), (.ref a1)])
  refine st4 _ ?_
  show oS T4 (mkF m 10 #[.val (.ref a1), .val (.ref a2)] [])
  refine XS.aloadN X4.here hx rfl (hb hby d5_10) rfl rfl ?_
  show oS T4 (mkF m 11 #[.val (.ref a1), .val (.ref a2)] [(.ref a1)])
  refine XS.aloadN X4.here hx rfl (hb hby d5_11) rfl rfl ?_
  show oS T4 (mkF m 12 #[.val (.ref a1), .val (.ref a2)] [(.ref a2), (.ref a1)])
  refine XS.aloadN X4.here hx rfl (hb hby d5_12) rfl rfl ?_
  show oS T4 (mkF m 13 #[.val (.ref a1), .val (.ref a2)] [(.ref a1), (.ref a2), (.ref a1)])
  refine st8 _ ?_
  show oS T8 (mkF m 16 #[.val (.ref a1), .val (.ref a2)] [(.ref wD), (.ref a2), (.ref a1)])
  refine XS.aloadN X8.here hx rfl (hb hby d5_16) rfl rfl ?_
  show oS T8 (mkF m 17 #[.val (.ref a1), .val (.ref a2)] [(.ref a1), (.ref wD), (.ref a2), (.ref a1)])
  refine st10 _ ?_
  show oS T10 (mkF m 20 #[.val (.ref a1), .val (.ref a2)] [(.int 0), (.ref wD), (.ref a2), (.ref a1)])
  refine st15.trans ?_
  show oS T15 (mkF m 23 #[.val (.ref a1), .val (.ref a2)] [])
  refine XS.iconst X15.here hx rfl (hb hby d5_23) ?_
  show oS T15 (mkF m 24 #[.val (.ref a1), .val (.ref a2)] [(.int 1)])
  exact retN X15 hx (t := .boolean) Bd.returns (by simp) (hb hby d5_24) hr
 ·show Q_rmAddA Z a1 a2 wD kD h0 n0 _ T15.heap _
  exact ⟨r_15, kr_15, rfl, N15, K15, sz_r_15, t15_1, t15_2, t15_3, t15_4, t15_5, t15_6, t15_7⟩
theorem ef_rmAddB (m : MethodId) (a1 : Addr) (a2 : Addr) : entryFrame m #[(.ref a1), (.ref a2)] 2 = mkF m 0 #[.val (.ref a1), .val (.ref a2)] [] := by first | (simp [entryFrame, mkF, argsToLocals, Value.category]; done) | rfl
def Q_rmAddB (Z : State) (a1 : Addr) (a2 : Addr) (a3 : Addr) (x1 : Addr) (kr : ClassId) (h0 : Heap) (n0 : Nat) (v : Option Value) (h : Heap) (L : List Loc) : Prop := v = some (.int 1) ∧ Fr n0 L ∧ Keep h0 h [a1, a3] ∧ Exa Z h a1 nm3 ∧ Fld Z h a1 nm3 nm18 nm9 (.ref a3) ∧ Fld Z h a1 nm3 "size" "I" (.int 2) ∧ Fld Z h a1 nm14 "modCount" "I" (.int 2) ∧ Arv Z h a3 kr (.object nm7) (10 : Int32) [(.ref x1), (.ref a2), .null, .null, .null, .null, .null, .null, .null, .null] .null
set_option maxRecDepth 65536 in
set_option maxHeartbeats 40000000 in
theorem rmAddB (l : Launch) (Z : State) (a0 : Array Value) (hw : own_Hw Z a0) (ws : List Jvm.Cond) (a1 : Addr) (a2 : Addr) (a3 : Addr) (x1 : Addr) (kr : ClassId) (h0 : Heap) (n0 : Nat) (Z0 : n0 ≤ h0.size) (E_a1 : Exa Z h0 a1 nm3) (E_a2 : Exa Z h0 a2 nm5) (F_elementData_a1 : Fld Z h0 a1 nm3 nm18 nm9 (.ref a3)) (F_size_a1 : Fld Z h0 a1 nm3 "size" "I" (.int 1)) (F_modCount_a1 : Fld Z h0 a1 nm14 "modCount" "I" (.int 1)) (V_a3 : Arv Z h0 a3 kr (.object nm7) (10 : Int32) [(.ref x1), .null, .null, .null, .null, .null, .null, .null, .null, .null] .null) (O_a3 : Ovr Z kr nm7) (g_a1 : n0 ≤ a1) (g_a3 : n0 ≤ a3) :
  MetFree l mn7 (head1 (Jvm.Cond.code mn7 cd3 2 (some .boolean) :: ws) ({ frames := 1, cells := 0, slots := 0, locals := 15 } : Room)) (fun a U => a = #[(.ref a1), (.ref a2)] ∧ Z.Warmed39 U.vm ∧ U.heap = h0) (fun _ _ _ _ _ => True) (fun _ U o U' => ∃ v L, o = .returned v ∧ Q_rmAddB Z a1 a2 a3 x1 kr h0 n0 v U'.heap L ∧ FrameEnd U o U' L ({ frames := 1, cells := 0, slots := 0, locals := 15 } : Room).cells ({ frames := 1, cells := 0, slots := 0, locals := 15 } : Room).slots) := by
 refine MetFree.of_bodySF (plainFor_of_name pn_java_util_ArrayList) hisR ?_
 intro p e s m args below meth c s₁ Bd hml0 hP hK
 obtain ⟨rfl, hZ, hh⟩ := hP
 have hx := Bd.exec
 have hby := Bd.bytes
 have hml : c.maxLocals = 2 := hml0
 have hown : s.vm.findClass nm3 = some m.cls := findClass_of_methodNamed Bd.named
 have hnm := (name_of_methodNamed Bd.named Bd.method).1
 have X0 : Stand p l e ({ frames := 1, cells := 0, slots := 0, locals := 15 } : Room) s m #[(.ref a1), (.ref a2)] below meth c s₁ [] 0 0 := Stand.of_body Bd
 have e0 : s₁.heap = h0 := by rw [← hh, Bd.state]; rfl
 have N0 := Fr.nil n0
 have pre0 : ∀ t, Steps p.tables e below (s₁.setTop (mkF m 0 #[.val (.ref a1), .val (.ref a2)] [])) t → Steps p.tables e below (s₁.setTop (entryFrame m #[(.ref a1), (.ref a2)] 2)) t := fun t k => castTop (ef_rmAddB m a1 a2) k
 obtain ⟨T1, X1, e1, st1⟩ := getF X0 hx hZ hown (host := "") (Or.inl (own_w hw 36 rfl)) (Via.of (own_w hw 37 rfl)) e0 F_modCount_a1 (g := (mkF m 2 #[.val (.ref a1), .val (.ref a2)] [(.ref a1), (.ref a1)])) rfl rfl (hb hby d5_2)
 have na2 := Exa.ne E_a2 E_a1 (by decide)
 have na3 := (Exa.neArv E_a1 V_a3 (own_w hw 3 rfl)).symm
 obtain ⟨T4, h4, X4, e4, W4, st4⟩ := putF X1 hx hZ hown (host := "") (Or.inl (own_w hw 36 rfl)) (Via.of (own_w hw 37 rfl)) e1 F_modCount_a1 E_a1 (Or.inl (own_w hw 24 rfl)) (own_w hw 3 rfl) (ty := .int) (by decide) rfl rfl (g := (mkF m 7 #[.val (.ref a1), .val (.ref a2)] [(.int 2), (.ref a1)])) rfl rfl (hb hby d5_7)
 have K5 : Keep h0 h4 [a1, a3] := (Keep.refl h0 [a1, a3]).wr W4 (Or.inl (List.mem_of_getElem? (i := 0) rfl))
 have N6 := Fr.snoc X4 N0 g_a1
 have Fw4 := F_modCount_a1.same W4
 have f7 := (F_elementData_a1.other W4 (Or.inr (sn0 hw)))
 obtain ⟨T8, X8, e8, st8⟩ := getF X4 hx hZ hown (host := "") (Or.inl (own_w hw 26 rfl)) Via.refl e4 f7 (g := (mkF m 13 #[.val (.ref a1), .val (.ref a2)] [(.ref a1), (.ref a2), (.ref a1)])) rfl rfl (hb hby d5_13)
 have f9 := (F_size_a1.other W4 (Or.inr (sn1 hw)))
 obtain ⟨T10, X10, e10, st10⟩ := getF X8 hx hZ hown (host := "") (Or.inl (own_w hw 38 rfl)) Via.refl e8 f9 (g := (mkF m 17 #[.val (.ref a1), .val (.ref a2)] [(.ref a1), (.ref a3), (.ref a2), (.ref a1)])) rfl rfl (hb hby d5_17)
 have f11 := (E_a1.wr W4)
 have f12 := (E_a2.wr W4)
 have f13 := (V_a3.other W4 na3)
 obtain ⟨cq14, q14, q14'⟩ := f11.cell
 obtain ⟨_, _, ⟨T14, L14, k14, n14⟩, -, X14, ⟨Lc14, hQ14, l14, y14, z14⟩, st14⟩ := X10.privateBack hx (y := mn6) hown (mvT hZ (own_w hw 40 rfl)) (mvT hZ (own_w hw 41 rfl)) (mvT hZ (own_w hw 43 rfl)) (Cond.privateMethod_at (mvP hZ (own_w hw 42 rfl) (args := #[]))) (mvT hZ (own_w hw 44 rfl)) (by decide) (backOf (W := 0) (rmAdd3b l Z a0 hw [] a1 a2 a3 x1 kr h4 n0 (Nat.le_trans Z0 K5.1) f11 f12 f7 f9 Fw4 f13 O_a3 g_a1 g_a3) hZ (own_w hw 44 rfl) (own_w hw 4 rfl) (by decide) (by decide)) (g := (mkF m 20 #[.val (.ref a1), .val (.ref a2)] [(.int 1), (.ref a3), (.ref a2), (.ref a1)])) rfl (by rw [hml]; rfl) (Steps.refl _) (a := a1) (by rw [e10]; exact q14) q14' (argsL := [(.ref a2), (.ref a3), (.int 1)]) (rest := []) (lenOf pd__28Ljava_2flang_2fObject_3b_5bLjava_2flang_2fObject_3bI_29V rfl) rfl (by show 2 * 0 + _ ≤ _; exact Nat.le_of_eq rfl) (hb hby d5_20) (fun _ _ => ⟨rfl, e10, (by decide : 0 + 0 ≤ _), (by decide : 0 + 0 ≤ _)⟩)
 dsimp only [Pt.U, Pt.locs, Pt.cells, Pt.slots] at y14 z14 st14 hQ14
 change Stand p l e _ s m _ below meth c T14 L14 k14 n14 at X14
 change L14 = _ ++ Lc14 at l14
 subst y14 z14
 obtain ⟨rfl, N14q, K14q, t14_0, t14_1, t14_2, t14_3, t14_4⟩ := hQ14
 have N14 : Fr n0 L14 := l14 ▸ Fr.app N6 N14q
 have K14 : Keep h0 T14.heap [a1, a3] := K5.trans K14q (allS (P := fun xz => xz ∈ [a1, a3] ∨ h0.size ≤ xz) (Or.inl (List.mem_of_getElem? (i := 0) rfl)) (allS (P := fun xz => xz ∈ [a1, a3] ∨ h0.size ≤ xz) (Or.inl (List.mem_of_getElem? (i := 1) rfl)) all0))
 obtain ⟨fs, hr, hrun, hended, hW, hsame⟩ := X14.leave (v := some (.int 1)) (fun h => by rw [Bd.returns] at h; cases h)
 refine ⟨_, _, pre0 _ ?_, hrun, hended, _, _, rfl, ?_, ⟨_, rfl⟩, hW, hsame.mono (by decide) (by decide)⟩
 ·show oS s₁ (mkF m 0 #[.val (.ref a1), .val (.ref a2)] [])
  refine XS.aloadN X0.here hx rfl (hb hby d5_0) rfl rfl ?_
  show oS s₁ (mkF m 1 #[.val (.ref a1), .val (.ref a2)] [(.ref a1)])
  refine XS.dup X0.here hx rfl (hb hby d5_1) rfl rfl ?_
  show oS s₁ (mkF m 2 #[.val (.ref a1), .val (.ref a2)] [(.ref a1), (.ref a1)])
  refine st1 _ ?_
  show oS T1 (mkF m 5 #[.val (.ref a1), .val (.ref a2)] [(.int 1), (.ref a1)])
  refine XS.iconst X1.here hx rfl (hb hby d5_5) ?_
  show oS T1 (mkF m 6 #[.val (.ref a1), .val (.ref a2)] [(.int 1), (.int 1), (.ref a1)])
  refine XS.iadd X1.here hx rfl (hb hby d5_6) rfl ?_
  show oS T1 (mkF m 7 #[.val (.ref a1), .val (.ref a2)] [(.int 2), (.ref a1)])
  refine st4 _ ?_
  show oS T4 (mkF m 10 #[.val (.ref a1), .val (.ref a2)] [])
  refine XS.aloadN X4.here hx rfl (hb hby d5_10) rfl rfl ?_
  show oS T4 (mkF m 11 #[.val (.ref a1), .val (.ref a2)] [(.ref a1)])
  refine XS.aloadN X4.here hx rfl (hb hby d5_11) rfl rfl ?_
  show oS T4 (mkF m 12 #[.val (.ref a1), .val (.ref a2)] [(.ref a2), (.ref a1)])
  refine XS.aloadN X4.here hx rfl (hb hby d5_12) rfl rfl ?_
  show oS T4 (mkF m 13 #[.val (.ref a1), .val (.ref a2)] [(.ref a1), (.ref a2), (.ref a1)])
  refine st8 _ ?_
  show oS T8 (mkF m 16 #[.val (.ref a1), .val (.ref a2)] [(.ref a3), (.ref a2), (.ref a1)])
  refine XS.aloadN X8.here hx rfl (hb hby d5_16) rfl rfl ?_
  show oS T8 (mkF m 17 #[.val (.ref a1), .val (.ref a2)] [(.ref a1), (.ref a3), (.ref a2), (.ref a1)])
  refine st10 _ ?_
  show oS T10 (mkF m 20 #[.val (.ref a1), .val (.ref a2)] [(.int 1), (.ref a3), (.ref a2), (.ref a1)])
  refine st14.trans ?_
  show oS T14 (mkF m 23 #[.val (.ref a1), .val (.ref a2)] [])
  refine XS.iconst X14.here hx rfl (hb hby d5_23) ?_
  show oS T14 (mkF m 24 #[.val (.ref a1), .val (.ref a2)] [(.int 1)])
  exact retN X14 hx (t := .boolean) Bd.returns (by simp) (hb hby d5_24) hr
 ·show Q_rmAddB Z a1 a2 a3 x1 kr h0 n0 _ T14.heap _
  exact ⟨rfl, N14, K14, t14_0, t14_1, t14_2, t14_3, t14_4⟩
theorem d20_0 : decode cd22 0 = .ok (.aload_n 0, 1) := by decide +kernel
theorem d20_1 : decode cd22 1 = .ok (.getfield 48, 3) := by decide +kernel
theorem d20_4 : decode cd22 4 = .ok (.ireturn, 1) := by decide +kernel
theorem ef_rm20 (m : MethodId) (a1 : Addr) : entryFrame m #[(.ref a1)] 1 = mkF m 0 #[.val (.ref a1)] [] := by first | (simp [entryFrame, mkF, argsToLocals, Value.category]; done) | rfl
def Q_rm20 (Z : State) (a1 : Addr) (k : Int32) (h0 : Heap) (n0 : Nat) (v : Option Value) (h : Heap) (L : List Loc) : Prop := v = some (.int k) ∧ Fr n0 L ∧ h = h0
set_option maxRecDepth 65536 in
set_option maxHeartbeats 40000000 in
theorem rm20 (l : Launch) (Z : State) (a0 : Array Value) (hw : own_Hw Z a0) (ws : List Jvm.Cond) (a1 : Addr) (k : Int32) (h0 : Heap) (n0 : Nat) (Z0 : n0 ≤ h0.size) (F_size_a1 : Fld Z h0 a1 nm3 "size" "I" (.int k)) :
  MetFree l mn8 (head1 (Jvm.Cond.code mn8 cd22 1 (some .int) :: ws) ({ frames := 0, cells := 0, slots := 0, locals := 0 } : Room)) (fun a U => a = #[(.ref a1)] ∧ Z.Warmed39 U.vm ∧ U.heap = h0) (fun _ _ _ _ _ => True) (fun _ U o U' => ∃ v L, o = .returned v ∧ Q_rm20 Z a1 k h0 n0 v U'.heap L ∧ FrameEnd U o U' L ({ frames := 0, cells := 0, slots := 0, locals := 0 } : Room).cells ({ frames := 0, cells := 0, slots := 0, locals := 0 } : Room).slots) := by
 refine MetFree.of_bodySF (plainFor_of_name pn_java_util_ArrayList) hisR ?_
 intro p e s m args below meth c s₁ Bd hml0 hP hK
 obtain ⟨rfl, hZ, hh⟩ := hP
 have hx := Bd.exec
 have hby := Bd.bytes
 have hml : c.maxLocals = 1 := hml0
 have hown : s.vm.findClass nm3 = some m.cls := findClass_of_methodNamed Bd.named
 have hnm := (name_of_methodNamed Bd.named Bd.method).1
 have X0 : Stand p l e ({ frames := 0, cells := 0, slots := 0, locals := 0 } : Room) s m #[(.ref a1)] below meth c s₁ [] 0 0 := Stand.of_body Bd
 have e0 : s₁.heap = h0 := by rw [← hh, Bd.state]; rfl
 have N0 := Fr.nil n0
 have pre0 : ∀ t, Steps p.tables e below (s₁.setTop (mkF m 0 #[.val (.ref a1)] [])) t → Steps p.tables e below (s₁.setTop (entryFrame m #[(.ref a1)] 1)) t := fun t k => castTop (ef_rm20 m a1) k
 obtain ⟨T1, X1, e1, st1⟩ := getF X0 hx hZ hown (host := "") (Or.inl (own_w hw 38 rfl)) Via.refl e0 F_size_a1 (g := (mkF m 1 #[.val (.ref a1)] [(.ref a1)])) rfl rfl (hb hby d20_1)
 obtain ⟨fs, hr, hrun, hended, hW, hsame⟩ := X1.leave (v := some (.int k)) (fun h => by rw [Bd.returns] at h; cases h)
 refine ⟨_, _, pre0 _ ?_, hrun, hended, _, _, rfl, ?_, ⟨_, rfl⟩, hW, hsame.mono (by decide) (by decide)⟩
 ·show oS s₁ (mkF m 0 #[.val (.ref a1)] [])
  refine XS.aloadN X0.here hx rfl (hb hby d20_0) rfl rfl ?_
  show oS s₁ (mkF m 1 #[.val (.ref a1)] [(.ref a1)])
  refine st1 _ ?_
  show oS T1 (mkF m 4 #[.val (.ref a1)] [(.int k)])
  exact retI X1 hx Bd.returns (hb hby d20_4) hr
 ·show Q_rm20 Z a1 k h0 n0 _ T1.heap _
  rw [e1]
  exact ⟨rfl, N0, rfl⟩
theorem d23_0 : decode cd4 0 = .ok (.iload_n 0, 1) := by decide +kernel
theorem d23_1 : decode cd4 1 = .ok (.ifCond .lt 8, 3) := by decide +kernel
theorem d23_4 : decode cd4 4 = .ok (.iload_n 0, 1) := by decide +kernel
theorem d23_5 : decode cd4 5 = .ok (.iload_n 1, 1) := by decide +kernel
theorem d23_6 : decode cd4 6 = .ok (.if_icmp .lt 10, 3) := by decide +kernel
theorem d23_16 : decode cd4 16 = .ok (.iload_n 0, 1) := by decide +kernel
theorem d23_17 : decode cd4 17 = .ok (.ireturn, 1) := by decide +kernel
theorem pn_jdk_internal_util_Preconditions : plainName "jdk/internal/util/Preconditions" = true := by first | (simp [plainName, overriddenIn]; done) | decide +kernel
theorem ef_rmPc0 (m : MethodId)  : entryFrame m #[(.int 0), (.int 2), .null] 3 = mkF m 0 #[.val (.int 0), .val (.int 2), .val .null] [] := by first | (simp [entryFrame, mkF, argsToLocals, Value.category]; done) | rfl
def Q_rmPc0 (Z : State)  (h0 : Heap) (n0 : Nat) (v : Option Value) (h : Heap) (L : List Loc) : Prop := v = some (.int 0) ∧ Fr n0 L ∧ h = h0
set_option maxRecDepth 65536 in
set_option maxHeartbeats 40000000 in
theorem rmPc0 (l : Launch) (Z : State) (a0 : Array Value) (hw : own_Hw Z a0) (ws : List Jvm.Cond)  (h0 : Heap) (n0 : Nat) (Z0 : n0 ≤ h0.size) :
  MetFree l mn9 (head1 (Jvm.Cond.code mn9 cd4 3 (some .int) :: ws) ({ frames := 0, cells := 0, slots := 0, locals := 0 } : Room)) (fun a U => a = #[(.int 0), (.int 2), .null] ∧ Z.Warmed39 U.vm ∧ U.heap = h0) (fun _ _ _ _ _ => True) (fun _ U o U' => ∃ v L, o = .returned v ∧ Q_rmPc0 Z  h0 n0 v U'.heap L ∧ FrameEnd U o U' L ({ frames := 0, cells := 0, slots := 0, locals := 0 } : Room).cells ({ frames := 0, cells := 0, slots := 0, locals := 0 } : Room).slots) := by
 refine MetFree.of_bodySF (plainFor_of_name pn_jdk_internal_util_Preconditions) hisR ?_
 intro p e s m args below meth c s₁ Bd hml0 hP hK
 obtain ⟨rfl, hZ, hh⟩ := hP
 have hx := Bd.exec
 have hby := Bd.bytes
 have hml : c.maxLocals = 3 := hml0
 have hown : s.vm.findClass "jdk/internal/util/Preconditions" = some m.cls := findClass_of_methodNamed Bd.named
 have hnm := (name_of_methodNamed Bd.named Bd.method).1
 have X0 : Stand p l e ({ frames := 0, cells := 0, slots := 0, locals := 0 } : Room) s m #[(.int 0), (.int 2), .null] below meth c s₁ [] 0 0 := Stand.of_body Bd
 have e0 : s₁.heap = h0 := by rw [← hh, Bd.state]; rfl
 have N0 := Fr.nil n0
 have pre0 : ∀ t, Steps p.tables e below (s₁.setTop (mkF m 0 #[.val (.int 0), .val (.int 2), .val .null] [])) t → Steps p.tables e below (s₁.setTop (entryFrame m #[(.int 0), (.int 2), .null] 3)) t := fun t k => castTop (ef_rmPc0 m ) k
 let lc1 : Array Slot := #[.val (.int 0), .val (.int 2), .val .null]
 obtain ⟨fs, hr, hrun, hended, hW, hsame⟩ := X0.leave (v := some (.int 0)) (fun h => by rw [Bd.returns] at h; cases h)
 refine ⟨_, _, pre0 _ ?_, hrun, hended, _, _, rfl, ?_, ⟨_, rfl⟩, hW, hsame.mono (by decide) (by decide)⟩
 ·show oS s₁ (mkF m 0 lc1 [])
  refine XS.iloadN X0.here hx rfl (hb hby d23_0) rfl ?_
  show oS s₁ (mkF m 1 lc1 [(.int 0)])
  refine XS.ifNo X0.here hx rfl (hb hby d23_1) rfl ((if0 _ _).trans (flt (by decide : ¬ ((0 : Int32) < (0 : Int32)))).1) ?_
  show oS s₁ (mkF m 4 lc1 [])
  refine XS.iloadN X0.here hx rfl (hb hby d23_4) rfl ?_
  show oS s₁ (mkF m 5 lc1 [(.int 0)])
  refine XS.iloadN X0.here hx rfl (hb hby d23_5) rfl ?_
  show oS s₁ (mkF m 6 lc1 [(.int 2), (.int 0)])
  refine XS.icmpYes X0.here hx rfl (pc0 := 6) (pc' := 16) rfl (hb hby d23_6) rfl (tlt (by decide : (0 : Int32) < (2 : Int32))).1 (by decide) (by decide) ?_
  show oS s₁ (mkF m 16 lc1 [])
  refine XS.iloadN X0.here hx rfl (hb hby d23_16) rfl ?_
  show oS s₁ (mkF m 17 lc1 [(.int 0)])
  exact retI X0 hx Bd.returns (hb hby d23_17) hr
 ·show Q_rmPc0 Z  h0 n0 _ s₁.heap _
  rw [e0]
  exact ⟨rfl, N0, rfl⟩
theorem d22_0 : decode cd5 0 = .ok (.iload_n 0, 1) := by decide +kernel
theorem d22_1 : decode cd5 1 = .ok (.iload_n 1, 1) := by decide +kernel
theorem d22_2 : decode cd5 2 = .ok (.aconst_null, 1) := by decide +kernel
theorem pd__28IILjava_2futil_2ffunction_2fBiFunction_3b_29I : parseMethodDescriptor "(IILjava/util/function/BiFunction;)I" = some ⟨[.int, .int, (.object "java/util/function/BiFunction")], some .int⟩ := by decide +kernel
theorem d22_3 : decode cd5 3 = .ok (.invokestatic 105, 3) := by decide +kernel
theorem d22_6 : decode cd5 6 = .ok (.ireturn, 1) := by decide +kernel
theorem pn_java_util_Objects : plainName "java/util/Objects" = true := by first | (simp [plainName, overriddenIn]; done) | decide +kernel
theorem ef_rmCk0 (m : MethodId)  : entryFrame m #[(.int 0), (.int 2)] 2 = mkF m 0 #[.val (.int 0), .val (.int 2)] [] := by first | (simp [entryFrame, mkF, argsToLocals, Value.category]; done) | rfl
def Q_rmCk0 (Z : State)  (h0 : Heap) (n0 : Nat) (v : Option Value) (h : Heap) (L : List Loc) : Prop := v = some (.int 0) ∧ Fr n0 L ∧ h = h0
set_option maxRecDepth 65536 in
set_option maxHeartbeats 40000000 in
theorem rmCk0 (l : Launch) (Z : State) (a0 : Array Value) (hw : own_Hw Z a0) (ws : List Jvm.Cond)  (h0 : Heap) (n0 : Nat) (Z0 : n0 ≤ h0.size) :
  MetFree l mn10 (head1 (Jvm.Cond.code mn10 cd5 2 (some .int) :: ws) ({ frames := 1, cells := 0, slots := 0, locals := 14 } : Room)) (fun a U => a = #[(.int 0), (.int 2)] ∧ Z.Warmed39 U.vm ∧ U.heap = h0) (fun _ _ _ _ _ => True) (fun _ U o U' => ∃ v L, o = .returned v ∧ Q_rmCk0 Z  h0 n0 v U'.heap L ∧ FrameEnd U o U' L ({ frames := 1, cells := 0, slots := 0, locals := 14 } : Room).cells ({ frames := 1, cells := 0, slots := 0, locals := 14 } : Room).slots) := by
 refine MetFree.of_bodySF (plainFor_of_name pn_java_util_Objects) hisR ?_
 intro p e s m args below meth c s₁ Bd hml0 hP hK
 obtain ⟨rfl, hZ, hh⟩ := hP
 have hx := Bd.exec
 have hby := Bd.bytes
 have hml : c.maxLocals = 2 := hml0
 have hown : s.vm.findClass "java/util/Objects" = some m.cls := findClass_of_methodNamed Bd.named
 have hnm := (name_of_methodNamed Bd.named Bd.method).1
 have X0 : Stand p l e ({ frames := 1, cells := 0, slots := 0, locals := 14 } : Room) s m #[(.int 0), (.int 2)] below meth c s₁ [] 0 0 := Stand.of_body Bd
 have e0 : s₁.heap = h0 := by rw [← hh, Bd.state]; rfl
 have N0 := Fr.nil n0
 have pre0 : ∀ t, Steps p.tables e below (s₁.setTop (mkF m 0 #[.val (.int 0), .val (.int 2)] [])) t → Steps p.tables e below (s₁.setTop (entryFrame m #[(.int 0), (.int 2)] 2)) t := fun t k => castTop (ef_rmCk0 m ) k
 obtain ⟨_, _, ⟨T1, L1, k1, n1⟩, -, X1, ⟨Lc1, hQ1, l1, y1, z1⟩, st1⟩ := Jvm.LawKit.callS X0 hx (y := mn9) hown (mvT hZ (own_w hw 173 rfl)) (mvT hZ (own_w hw 174 rfl)) (mvT hZ (own_w hw 175 rfl)) (mvT hZ (own_w hw 176 rfl)) (by decide) (backOf (W := 0) (rmPc0 l Z a0 hw []  h0 n0 Z0 ) hZ (own_w hw 176 rfl) (own_w hw 175 rfl) (by decide) (by decide)) (g := (mkF m 3 #[.val (.int 0), .val (.int 2)] [.null, (.int 2), (.int 0)])) rfl (by rw [hml]; rfl) (argsL := [(.int 0), (.int 2), .null]) (rest := []) (lenOf pd__28IILjava_2futil_2ffunction_2fBiFunction_3b_29I rfl) rfl (by show 2 * 0 + _ ≤ _; exact Nat.le_of_eq rfl) (hb hby d22_3) (fun _ _ => ⟨rfl, e0, (by decide : 0 + 0 ≤ _), (by decide : 0 + 0 ≤ _)⟩)
 dsimp only [Pt.U, Pt.locs, Pt.cells, Pt.slots] at y1 z1 st1 hQ1
 change Stand p l e _ s m _ below meth c T1 L1 k1 n1 at X1
 change L1 = _ ++ Lc1 at l1
 subst y1 z1
 obtain ⟨rfl, N1q, e1⟩ := hQ1
 have N1 : Fr n0 L1 := l1 ▸ Fr.app N0 N1q
 obtain ⟨fs, hr, hrun, hended, hW, hsame⟩ := X1.leave (v := some (.int 0)) (fun h => by rw [Bd.returns] at h; cases h)
 refine ⟨_, _, pre0 _ ?_, hrun, hended, _, _, rfl, ?_, ⟨_, rfl⟩, hW, hsame.mono (by decide) (by decide)⟩
 ·show oS s₁ (mkF m 0 #[.val (.int 0), .val (.int 2)] [])
  refine XS.iloadN X0.here hx rfl (hb hby d22_0) rfl ?_
  show oS s₁ (mkF m 1 #[.val (.int 0), .val (.int 2)] [(.int 0)])
  refine XS.iloadN X0.here hx rfl (hb hby d22_1) rfl ?_
  show oS s₁ (mkF m 2 #[.val (.int 0), .val (.int 2)] [(.int 2), (.int 0)])
  refine XS.aconstNull X0.here hx rfl (hb hby d22_2) ?_
  show oS s₁ (mkF m 3 #[.val (.int 0), .val (.int 2)] [.null, (.int 2), (.int 0)])
  refine st1 _ ?_
  show oS T1 (mkF m 6 #[.val (.int 0), .val (.int 2)] [(.int 0)])
  exact retI X1 hx Bd.returns (hb hby d22_6) hr
 ·show Q_rmCk0 Z  h0 n0 _ T1.heap _
  rw [e1]
  exact ⟨rfl, N1, rfl⟩
theorem d24_0 : decode cd6 0 = .ok (.aload_n 0, 1) := by decide +kernel
theorem d24_1 : decode cd6 1 = .ok (.getfield 9, 3) := by decide +kernel
theorem d24_4 : decode cd6 4 = .ok (.iload_n 1, 1) := by decide +kernel
theorem d24_5 : decode cd6 5 = .ok (.aaload, 1) := by decide +kernel
theorem d24_6 : decode cd6 6 = .ok (.areturn, 1) := by decide +kernel
theorem ef_rmEd0 (m : MethodId) (a1 : Addr) : entryFrame m #[(.ref a1), (.int 0)] 2 = mkF m 0 #[.val (.ref a1), .val (.int 0)] [] := by first | (simp [entryFrame, mkF, argsToLocals, Value.category]; done) | rfl
def Q_rmEd0 (Z : State) (a1 : Addr) (a3 : Addr) (x1 : Addr) (x2 : Addr) (kr : ClassId) (h0 : Heap) (n0 : Nat) (v : Option Value) (h : Heap) (L : List Loc) : Prop := v = some (.ref x1) ∧ Fr n0 L ∧ h = h0
set_option maxRecDepth 65536 in
set_option maxHeartbeats 40000000 in
theorem rmEd0 (l : Launch) (Z : State) (a0 : Array Value) (hw : own_Hw Z a0) (ws : List Jvm.Cond) (a1 : Addr) (a3 : Addr) (x1 : Addr) (x2 : Addr) (kr : ClassId) (h0 : Heap) (n0 : Nat) (Z0 : n0 ≤ h0.size) (F_elementData_a1 : Fld Z h0 a1 nm3 nm18 nm9 (.ref a3)) (V_a3 : Arv Z h0 a3 kr (.object nm7) (10 : Int32) [(.ref x1), (.ref x2), .null, .null, .null, .null, .null, .null, .null, .null] .null) :
  MetFree l mn11 (head1 (Jvm.Cond.code mn11 cd6 2 (some (.object nm7)) :: ws) ({ frames := 0, cells := 0, slots := 0, locals := 0 } : Room)) (fun a U => a = #[(.ref a1), (.int 0)] ∧ Z.Warmed39 U.vm ∧ U.heap = h0) (fun _ _ _ _ _ => True) (fun _ U o U' => ∃ v L, o = .returned v ∧ Q_rmEd0 Z a1 a3 x1 x2 kr h0 n0 v U'.heap L ∧ FrameEnd U o U' L ({ frames := 0, cells := 0, slots := 0, locals := 0 } : Room).cells ({ frames := 0, cells := 0, slots := 0, locals := 0 } : Room).slots) := by
 refine MetFree.of_bodySF (plainFor_of_name pn_java_util_ArrayList) hisR ?_
 intro p e s m args below meth c s₁ Bd hml0 hP hK
 obtain ⟨rfl, hZ, hh⟩ := hP
 have hx := Bd.exec
 have hby := Bd.bytes
 have hml : c.maxLocals = 2 := hml0
 have hown : s.vm.findClass nm3 = some m.cls := findClass_of_methodNamed Bd.named
 have hnm := (name_of_methodNamed Bd.named Bd.method).1
 have X0 : Stand p l e ({ frames := 0, cells := 0, slots := 0, locals := 0 } : Room) s m #[(.ref a1), (.int 0)] below meth c s₁ [] 0 0 := Stand.of_body Bd
 have e0 : s₁.heap = h0 := by rw [← hh, Bd.state]; rfl
 have N0 := Fr.nil n0
 have pre0 : ∀ t, Steps p.tables e below (s₁.setTop (mkF m 0 #[.val (.ref a1), .val (.int 0)] [])) t → Steps p.tables e below (s₁.setTop (entryFrame m #[(.ref a1), (.int 0)] 2)) t := fun t k => castTop (ef_rmEd0 m a1) k
 obtain ⟨T1, X1, e1, st1⟩ := getF X0 hx hZ hown (host := "") (Or.inl (own_w hw 26 rfl)) Via.refl e0 F_elementData_a1 (g := (mkF m 1 #[.val (.ref a1), .val (.int 0)] [(.ref a1)])) rfl rfl (hb hby d24_1)
 obtain ⟨c2, Ac2, qc2, Sc2, Nc2, Hc2, Gc2⟩ := id V_a3
 have hinc2 := inb_of Sc2 (j := (0 : Int32)) ⟨by decide, by decide⟩
 obtain ⟨fs, hr, hrun, hended, hW, hsame⟩ := X1.leave (v := some (.ref x1)) (fun h => by rw [Bd.returns] at h; cases h)
 refine ⟨_, _, pre0 _ ?_, hrun, hended, _, _, rfl, ?_, ⟨_, rfl⟩, hW, hsame.mono (by decide) (by decide)⟩
 ·show oS s₁ (mkF m 0 #[.val (.ref a1), .val (.int 0)] [])
  refine XS.aloadN X0.here hx rfl (hb hby d24_0) rfl rfl ?_
  show oS s₁ (mkF m 1 #[.val (.ref a1), .val (.int 0)] [(.ref a1)])
  refine st1 _ ?_
  show oS T1 (mkF m 4 #[.val (.ref a1), .val (.int 0)] [(.ref a3)])
  refine XS.iloadN X1.here hx rfl (hb hby d24_4) rfl ?_
  show oS T1 (mkF m 5 #[.val (.ref a1), .val (.int 0)] [(.int 0), (.ref a3)])
  refine X1.aaload hx (j := (0 : Int32)) (v := (.ref x1)) (by rw [e1]; exact Ac2.1) (State.isArrayOf_alike hZ.alike Ac2.2.1) rfl Ac2.2.2 hinc2 (Has.at Hc2 hinc2 rfl) (g := (mkF m 5 #[.val (.ref a1), .val (.int 0)] [(.int 0), (.ref a3)])) rfl rfl (hb hby d24_5) _ ?_
  show oS T1 (mkF m 6 #[.val (.ref a1), .val (.int 0)] [(.ref x1)])
  jvm_step X1.here [X1.here.top, hx, (hb hby d24_6), X1.method', Bd.returns, Value.isRef, FieldType.isReference]
  first | (intro acts; rw [hr _ acts rfl rfl rfl]) | rw [hr _ _ rfl rfl rfl]
  exact Steps.refl _
 ·show Q_rmEd0 Z a1 a3 x1 x2 kr h0 n0 _ T1.heap _
  rw [e1]
  exact ⟨rfl, N0, rfl⟩
theorem d21_0 : decode cd7 0 = .ok (.iload_n 1, 1) := by decide +kernel
theorem d21_1 : decode cd7 1 = .ok (.aload_n 0, 1) := by decide +kernel
theorem d21_2 : decode cd7 2 = .ok (.getfield 48, 3) := by decide +kernel
theorem d21_5 : decode cd7 5 = .ok (.invokestatic 118, 3) := by decide +kernel
theorem d21_8 : decode cd7 8 = .ok (.pop, 1) := by decide +kernel
theorem d21_9 : decode cd7 9 = .ok (.aload_n 0, 1) := by decide +kernel
theorem d21_10 : decode cd7 10 = .ok (.iload_n 1, 1) := by decide +kernel
theorem pd__28I_29Ljava_2flang_2fObject_3b : parseMethodDescriptor nm12 = some ⟨[.int], some (.object nm7)⟩ := by decide +kernel
theorem d21_11 : decode cd7 11 = .ok (.invokevirtual 123, 3) := by decide +kernel
theorem d21_14 : decode cd7 14 = .ok (.areturn, 1) := by decide +kernel
theorem ef_rmGet0 (m : MethodId) (a1 : Addr) : entryFrame m #[(.ref a1), (.int 0)] 2 = mkF m 0 #[.val (.ref a1), .val (.int 0)] [] := by first | (simp [entryFrame, mkF, argsToLocals, Value.category]; done) | rfl
def Q_rmGet0 (Z : State) (a1 : Addr) (a3 : Addr) (x1 : Addr) (x2 : Addr) (kr : ClassId) (h0 : Heap) (n0 : Nat) (v : Option Value) (h : Heap) (L : List Loc) : Prop := v = some (.ref x1) ∧ Fr n0 L ∧ h = h0
set_option maxRecDepth 65536 in
set_option maxHeartbeats 40000000 in
theorem rmGet0 (l : Launch) (Z : State) (a0 : Array Value) (hw : own_Hw Z a0) (ws : List Jvm.Cond) (a1 : Addr) (a3 : Addr) (x1 : Addr) (x2 : Addr) (kr : ClassId) (h0 : Heap) (n0 : Nat) (Z0 : n0 ≤ h0.size) (E_a1 : Exa Z h0 a1 nm3) (F_size_a1 : Fld Z h0 a1 nm3 "size" "I" (.int 2)) (F_elementData_a1 : Fld Z h0 a1 nm3 nm18 nm9 (.ref a3)) (V_a3 : Arv Z h0 a3 kr (.object nm7) (10 : Int32) [(.ref x1), (.ref x2), .null, .null, .null, .null, .null, .null, .null, .null] .null) :
  MetFree l mn12 (head1 (Jvm.Cond.code mn12 cd7 2 (some (.object nm7)) :: ws) ({ frames := 2, cells := 0, slots := 0, locals := 27 } : Room)) (fun a U => a = #[(.ref a1), (.int 0)] ∧ Z.Warmed39 U.vm ∧ U.heap = h0) (fun _ _ _ _ _ => True) (fun _ U o U' => ∃ v L, o = .returned v ∧ Q_rmGet0 Z a1 a3 x1 x2 kr h0 n0 v U'.heap L ∧ FrameEnd U o U' L ({ frames := 2, cells := 0, slots := 0, locals := 27 } : Room).cells ({ frames := 2, cells := 0, slots := 0, locals := 27 } : Room).slots) := by
 refine MetFree.of_bodySF (plainFor_of_name pn_java_util_ArrayList) hisR ?_
 intro p e s m args below meth c s₁ Bd hml0 hP hK
 obtain ⟨rfl, hZ, hh⟩ := hP
 have hx := Bd.exec
 have hby := Bd.bytes
 have hml : c.maxLocals = 2 := hml0
 have hown : s.vm.findClass nm3 = some m.cls := findClass_of_methodNamed Bd.named
 have hnm := (name_of_methodNamed Bd.named Bd.method).1
 have X0 : Stand p l e ({ frames := 2, cells := 0, slots := 0, locals := 27 } : Room) s m #[(.ref a1), (.int 0)] below meth c s₁ [] 0 0 := Stand.of_body Bd
 have e0 : s₁.heap = h0 := by rw [← hh, Bd.state]; rfl
 have N0 := Fr.nil n0
 have pre0 : ∀ t, Steps p.tables e below (s₁.setTop (mkF m 0 #[.val (.ref a1), .val (.int 0)] [])) t → Steps p.tables e below (s₁.setTop (entryFrame m #[(.ref a1), (.int 0)] 2)) t := fun t k => castTop (ef_rmGet0 m a1) k
 obtain ⟨T1, X1, e1, st1⟩ := getF X0 hx hZ hown (host := "") (Or.inl (own_w hw 38 rfl)) Via.refl e0 F_size_a1 (g := (mkF m 2 #[.val (.ref a1), .val (.int 0)] [(.ref a1), (.int 0)])) rfl rfl (hb hby d21_2)
 obtain ⟨_, _, ⟨T2, L2, k2, n2⟩, -, X2, ⟨Lc2, hQ2, l2, y2, z2⟩, st2⟩ := Jvm.LawKit.callS X1 hx (y := mn10) hown (mvT hZ (own_w hw 169 rfl)) (mvT hZ (own_w hw 170 rfl)) (mvT hZ (own_w hw 171 rfl)) (mvT hZ (own_w hw 172 rfl)) (by decide) (backOf (W := 0) (rmCk0 l Z a0 hw []  h0 n0 Z0 ) hZ (own_w hw 172 rfl) (own_w hw 171 rfl) (by decide) (by decide)) (g := (mkF m 5 #[.val (.ref a1), .val (.int 0)] [(.int 2), (.int 0)])) rfl (by rw [hml]; rfl) (argsL := [(.int 0), (.int 2)]) (rest := []) (lenOf pd__28II_29I rfl) rfl (by show 2 * 0 + _ ≤ _; exact Nat.le_of_eq rfl) (hb hby d21_5) (fun _ _ => ⟨rfl, e1, (by decide : 0 + 0 ≤ _), (by decide : 0 + 0 ≤ _)⟩)
 dsimp only [Pt.U, Pt.locs, Pt.cells, Pt.slots] at y2 z2 st2 hQ2
 change Stand p l e _ s m _ below meth c T2 L2 k2 n2 at X2
 change L2 = _ ++ Lc2 at l2
 subst y2 z2
 obtain ⟨rfl, N2q, e2⟩ := hQ2
 have N2 : Fr n0 L2 := l2 ▸ Fr.app N0 N2q
 obtain ⟨cq3, kq3, q3a, q3b, q3c⟩ := isOf hZ e2 E_a1
 obtain ⟨_, _, ⟨T3, L3, k3, n3⟩, -, X3, ⟨Lc3, hQ3, l3, y3, z3⟩, st3⟩ := X2.virtualBack hx (y := mn11) (z := mn11) hown (mvT hZ (own_w hw 177 rfl)) (mvT hZ (own_w hw 178 rfl)) (notFace_of_selects (args := #[]) (mvT hZ (own_w hw 180 rfl))) (mvT hZ (own_w hw 180 rfl)) (mvT hZ (own_w hw 179 rfl)) (by decide) (backOf (W := 0) (rmEd0 l Z a0 hw [] a1 a3 x1 x2 kr h0 n0 Z0 F_elementData_a1 V_a3) hZ (own_w hw 181 rfl) (own_w hw 4 rfl) (by decide) (by decide)) q3a q3c (g := (mkF m 11 #[.val (.ref a1), .val (.int 0)] [(.int 0), (.ref a1)])) rfl (by rw [hml]; rfl) (Steps.refl _) (argsL := [(.int 0)]) (rest := []) (lenOf pd__28I_29Ljava_2flang_2fObject_3b rfl) rfl (by show 2 * 0 + _ ≤ _; exact Nat.le_of_eq rfl) (hb hby d21_11) (fun _ _ => ⟨rfl, e2, (by decide : 0 + 0 ≤ _), (by decide : 0 + 0 ≤ _)⟩)
 dsimp only [Pt.U, Pt.locs, Pt.cells, Pt.slots] at y3 z3 st3 hQ3
 change Stand p l e _ s m _ below meth c T3 L3 k3 n3 at X3
 change L3 = _ ++ Lc3 at l3
 subst y3 z3
 obtain ⟨rfl, N3q, e3⟩ := hQ3
 have N3 : Fr n0 L3 := l3 ▸ Fr.app N2 N3q
 obtain ⟨fs, hr, hrun, hended, hW, hsame⟩ := X3.leave (v := some (.ref x1)) (fun h => by rw [Bd.returns] at h; cases h)
 refine ⟨_, _, pre0 _ ?_, hrun, hended, _, _, rfl, ?_, ⟨_, rfl⟩, hW, hsame.mono (by decide) (by decide)⟩
 ·show oS s₁ (mkF m 0 #[.val (.ref a1), .val (.int 0)] [])
  refine XS.iloadN X0.here hx rfl (hb hby d21_0) rfl ?_
  show oS s₁ (mkF m 1 #[.val (.ref a1), .val (.int 0)] [(.int 0)])
  refine XS.aloadN X0.here hx rfl (hb hby d21_1) rfl rfl ?_
  show oS s₁ (mkF m 2 #[.val (.ref a1), .val (.int 0)] [(.ref a1), (.int 0)])
  refine st1 _ ?_
  show oS T1 (mkF m 5 #[.val (.ref a1), .val (.int 0)] [(.int 2), (.int 0)])
  refine st2 _ ?_
  show oS T2 (mkF m 8 #[.val (.ref a1), .val (.int 0)] [(.int 0)])
  refine XS.pop X2.here hx rfl (hb hby d21_8) rfl rfl ?_
  show oS T2 (mkF m 9 #[.val (.ref a1), .val (.int 0)] [])
  refine XS.aloadN X2.here hx rfl (hb hby d21_9) rfl rfl ?_
  show oS T2 (mkF m 10 #[.val (.ref a1), .val (.int 0)] [(.ref a1)])
  refine XS.iloadN X2.here hx rfl (hb hby d21_10) rfl ?_
  show oS T2 (mkF m 11 #[.val (.ref a1), .val (.int 0)] [(.int 0), (.ref a1)])
  refine st3.trans ?_
  show oS T3 (mkF m 14 #[.val (.ref a1), .val (.int 0)] [(.ref x1)])
  jvm_step X3.here [X3.here.top, hx, (hb hby d21_14), X3.method', Bd.returns, Value.isRef, FieldType.isReference]
  first | (intro acts; rw [hr _ acts rfl rfl rfl]) | rw [hr _ _ rfl rfl rfl]
  exact Steps.refl _
 ·show Q_rmGet0 Z a1 a3 x1 x2 kr h0 n0 _ T3.heap _
  rw [e3]
  exact ⟨rfl, N3, rfl⟩
theorem ef_rmPc1 (m : MethodId)  : entryFrame m #[(.int 1), (.int 2), .null] 3 = mkF m 0 #[.val (.int 1), .val (.int 2), .val .null] [] := by first | (simp [entryFrame, mkF, argsToLocals, Value.category]; done) | rfl
def Q_rmPc1 (Z : State)  (h0 : Heap) (n0 : Nat) (v : Option Value) (h : Heap) (L : List Loc) : Prop := v = some (.int 1) ∧ Fr n0 L ∧ h = h0
set_option maxRecDepth 65536 in
set_option maxHeartbeats 40000000 in
theorem rmPc1 (l : Launch) (Z : State) (a0 : Array Value) (hw : own_Hw Z a0) (ws : List Jvm.Cond)  (h0 : Heap) (n0 : Nat) (Z0 : n0 ≤ h0.size) :
  MetFree l mn9 (head1 (Jvm.Cond.code mn9 cd4 3 (some .int) :: ws) ({ frames := 0, cells := 0, slots := 0, locals := 0 } : Room)) (fun a U => a = #[(.int 1), (.int 2), .null] ∧ Z.Warmed39 U.vm ∧ U.heap = h0) (fun _ _ _ _ _ => True) (fun _ U o U' => ∃ v L, o = .returned v ∧ Q_rmPc1 Z  h0 n0 v U'.heap L ∧ FrameEnd U o U' L ({ frames := 0, cells := 0, slots := 0, locals := 0 } : Room).cells ({ frames := 0, cells := 0, slots := 0, locals := 0 } : Room).slots) := by
 refine MetFree.of_bodySF (plainFor_of_name pn_jdk_internal_util_Preconditions) hisR ?_
 intro p e s m args below meth c s₁ Bd hml0 hP hK
 obtain ⟨rfl, hZ, hh⟩ := hP
 have hx := Bd.exec
 have hby := Bd.bytes
 have hml : c.maxLocals = 3 := hml0
 have hown : s.vm.findClass "jdk/internal/util/Preconditions" = some m.cls := findClass_of_methodNamed Bd.named
 have hnm := (name_of_methodNamed Bd.named Bd.method).1
 have X0 : Stand p l e ({ frames := 0, cells := 0, slots := 0, locals := 0 } : Room) s m #[(.int 1), (.int 2), .null] below meth c s₁ [] 0 0 := Stand.of_body Bd
 have e0 : s₁.heap = h0 := by rw [← hh, Bd.state]; rfl
 have N0 := Fr.nil n0
 have pre0 : ∀ t, Steps p.tables e below (s₁.setTop (mkF m 0 #[.val (.int 1), .val (.int 2), .val .null] [])) t → Steps p.tables e below (s₁.setTop (entryFrame m #[(.int 1), (.int 2), .null] 3)) t := fun t k => castTop (ef_rmPc1 m ) k
 let lc1 : Array Slot := #[.val (.int 1), .val (.int 2), .val .null]
 obtain ⟨fs, hr, hrun, hended, hW, hsame⟩ := X0.leave (v := some (.int 1)) (fun h => by rw [Bd.returns] at h; cases h)
 refine ⟨_, _, pre0 _ ?_, hrun, hended, _, _, rfl, ?_, ⟨_, rfl⟩, hW, hsame.mono (by decide) (by decide)⟩
 ·show oS s₁ (mkF m 0 lc1 [])
  refine XS.iloadN X0.here hx rfl (hb hby d23_0) rfl ?_
  show oS s₁ (mkF m 1 lc1 [(.int 1)])
  refine XS.ifNo X0.here hx rfl (hb hby d23_1) rfl ((if0 _ _).trans (flt (by decide : ¬ ((1 : Int32) < (0 : Int32)))).1) ?_
  show oS s₁ (mkF m 4 lc1 [])
  refine XS.iloadN X0.here hx rfl (hb hby d23_4) rfl ?_
  show oS s₁ (mkF m 5 lc1 [(.int 1)])
  refine XS.iloadN X0.here hx rfl (hb hby d23_5) rfl ?_
  show oS s₁ (mkF m 6 lc1 [(.int 2), (.int 1)])
  refine XS.icmpYes X0.here hx rfl (pc0 := 6) (pc' := 16) rfl (hb hby d23_6) rfl (tlt (by decide : (1 : Int32) < (2 : Int32))).1 (by decide) (by decide) ?_
  show oS s₁ (mkF m 16 lc1 [])
  refine XS.iloadN X0.here hx rfl (hb hby d23_16) rfl ?_
  show oS s₁ (mkF m 17 lc1 [(.int 1)])
  exact retI X0 hx Bd.returns (hb hby d23_17) hr
 ·show Q_rmPc1 Z  h0 n0 _ s₁.heap _
  rw [e0]
  exact ⟨rfl, N0, rfl⟩
theorem ef_rmCk1 (m : MethodId)  : entryFrame m #[(.int 1), (.int 2)] 2 = mkF m 0 #[.val (.int 1), .val (.int 2)] [] := by first | (simp [entryFrame, mkF, argsToLocals, Value.category]; done) | rfl
def Q_rmCk1 (Z : State)  (h0 : Heap) (n0 : Nat) (v : Option Value) (h : Heap) (L : List Loc) : Prop := v = some (.int 1) ∧ Fr n0 L ∧ h = h0
set_option maxRecDepth 65536 in
set_option maxHeartbeats 40000000 in
theorem rmCk1 (l : Launch) (Z : State) (a0 : Array Value) (hw : own_Hw Z a0) (ws : List Jvm.Cond)  (h0 : Heap) (n0 : Nat) (Z0 : n0 ≤ h0.size) :
  MetFree l mn10 (head1 (Jvm.Cond.code mn10 cd5 2 (some .int) :: ws) ({ frames := 1, cells := 0, slots := 0, locals := 14 } : Room)) (fun a U => a = #[(.int 1), (.int 2)] ∧ Z.Warmed39 U.vm ∧ U.heap = h0) (fun _ _ _ _ _ => True) (fun _ U o U' => ∃ v L, o = .returned v ∧ Q_rmCk1 Z  h0 n0 v U'.heap L ∧ FrameEnd U o U' L ({ frames := 1, cells := 0, slots := 0, locals := 14 } : Room).cells ({ frames := 1, cells := 0, slots := 0, locals := 14 } : Room).slots) := by
 refine MetFree.of_bodySF (plainFor_of_name pn_java_util_Objects) hisR ?_
 intro p e s m args below meth c s₁ Bd hml0 hP hK
 obtain ⟨rfl, hZ, hh⟩ := hP
 have hx := Bd.exec
 have hby := Bd.bytes
 have hml : c.maxLocals = 2 := hml0
 have hown : s.vm.findClass "java/util/Objects" = some m.cls := findClass_of_methodNamed Bd.named
 have hnm := (name_of_methodNamed Bd.named Bd.method).1
 have X0 : Stand p l e ({ frames := 1, cells := 0, slots := 0, locals := 14 } : Room) s m #[(.int 1), (.int 2)] below meth c s₁ [] 0 0 := Stand.of_body Bd
 have e0 : s₁.heap = h0 := by rw [← hh, Bd.state]; rfl
 have N0 := Fr.nil n0
 have pre0 : ∀ t, Steps p.tables e below (s₁.setTop (mkF m 0 #[.val (.int 1), .val (.int 2)] [])) t → Steps p.tables e below (s₁.setTop (entryFrame m #[(.int 1), (.int 2)] 2)) t := fun t k => castTop (ef_rmCk1 m ) k
 obtain ⟨_, _, ⟨T1, L1, k1, n1⟩, -, X1, ⟨Lc1, hQ1, l1, y1, z1⟩, st1⟩ := Jvm.LawKit.callS X0 hx (y := mn9) hown (mvT hZ (own_w hw 173 rfl)) (mvT hZ (own_w hw 174 rfl)) (mvT hZ (own_w hw 175 rfl)) (mvT hZ (own_w hw 176 rfl)) (by decide) (backOf (W := 0) (rmPc1 l Z a0 hw []  h0 n0 Z0 ) hZ (own_w hw 176 rfl) (own_w hw 175 rfl) (by decide) (by decide)) (g := (mkF m 3 #[.val (.int 1), .val (.int 2)] [.null, (.int 2), (.int 1)])) rfl (by rw [hml]; rfl) (argsL := [(.int 1), (.int 2), .null]) (rest := []) (lenOf pd__28IILjava_2futil_2ffunction_2fBiFunction_3b_29I rfl) rfl (by show 2 * 0 + _ ≤ _; exact Nat.le_of_eq rfl) (hb hby d22_3) (fun _ _ => ⟨rfl, e0, (by decide : 0 + 0 ≤ _), (by decide : 0 + 0 ≤ _)⟩)
 dsimp only [Pt.U, Pt.locs, Pt.cells, Pt.slots] at y1 z1 st1 hQ1
 change Stand p l e _ s m _ below meth c T1 L1 k1 n1 at X1
 change L1 = _ ++ Lc1 at l1
 subst y1 z1
 obtain ⟨rfl, N1q, e1⟩ := hQ1
 have N1 : Fr n0 L1 := l1 ▸ Fr.app N0 N1q
 obtain ⟨fs, hr, hrun, hended, hW, hsame⟩ := X1.leave (v := some (.int 1)) (fun h => by rw [Bd.returns] at h; cases h)
 refine ⟨_, _, pre0 _ ?_, hrun, hended, _, _, rfl, ?_, ⟨_, rfl⟩, hW, hsame.mono (by decide) (by decide)⟩
 ·show oS s₁ (mkF m 0 #[.val (.int 1), .val (.int 2)] [])
  refine XS.iloadN X0.here hx rfl (hb hby d22_0) rfl ?_
  show oS s₁ (mkF m 1 #[.val (.int 1), .val (.int 2)] [(.int 1)])
  refine XS.iloadN X0.here hx rfl (hb hby d22_1) rfl ?_
  show oS s₁ (mkF m 2 #[.val (.int 1), .val (.int 2)] [(.int 2), (.int 1)])
  refine XS.aconstNull X0.here hx rfl (hb hby d22_2) ?_
  show oS s₁ (mkF m 3 #[.val (.int 1), .val (.int 2)] [.null, (.int 2), (.int 1)])
  refine st1 _ ?_
  show oS T1 (mkF m 6 #[.val (.int 1), .val (.int 2)] [(.int 1)])
  exact retI X1 hx Bd.returns (hb hby d22_6) hr
 ·show Q_rmCk1 Z  h0 n0 _ T1.heap _
  rw [e1]
  exact ⟨rfl, N1, rfl⟩
theorem ef_rmEd1 (m : MethodId) (a1 : Addr) : entryFrame m #[(.ref a1), (.int 1)] 2 = mkF m 0 #[.val (.ref a1), .val (.int 1)] [] := by first | (simp [entryFrame, mkF, argsToLocals, Value.category]; done) | rfl
def Q_rmEd1 (Z : State) (a1 : Addr) (a3 : Addr) (x1 : Addr) (x2 : Addr) (kr : ClassId) (h0 : Heap) (n0 : Nat) (v : Option Value) (h : Heap) (L : List Loc) : Prop := v = some (.ref x2) ∧ Fr n0 L ∧ h = h0
set_option maxRecDepth 65536 in
set_option maxHeartbeats 40000000 in
theorem rmEd1 (l : Launch) (Z : State) (a0 : Array Value) (hw : own_Hw Z a0) (ws : List Jvm.Cond) (a1 : Addr) (a3 : Addr) (x1 : Addr) (x2 : Addr) (kr : ClassId) (h0 : Heap) (n0 : Nat) (Z0 : n0 ≤ h0.size) (F_elementData_a1 : Fld Z h0 a1 nm3 nm18 nm9 (.ref a3)) (V_a3 : Arv Z h0 a3 kr (.object nm7) (10 : Int32) [(.ref x1), (.ref x2), .null, .null, .null, .null, .null, .null, .null, .null] .null) :
  MetFree l mn11 (head1 (Jvm.Cond.code mn11 cd6 2 (some (.object nm7)) :: ws) ({ frames := 0, cells := 0, slots := 0, locals := 0 } : Room)) (fun a U => a = #[(.ref a1), (.int 1)] ∧ Z.Warmed39 U.vm ∧ U.heap = h0) (fun _ _ _ _ _ => True) (fun _ U o U' => ∃ v L, o = .returned v ∧ Q_rmEd1 Z a1 a3 x1 x2 kr h0 n0 v U'.heap L ∧ FrameEnd U o U' L ({ frames := 0, cells := 0, slots := 0, locals := 0 } : Room).cells ({ frames := 0, cells := 0, slots := 0, locals := 0 } : Room).slots) := by
 refine MetFree.of_bodySF (plainFor_of_name pn_java_util_ArrayList) hisR ?_
 intro p e s m args below meth c s₁ Bd hml0 hP hK
 obtain ⟨rfl, hZ, hh⟩ := hP
 have hx := Bd.exec
 have hby := Bd.bytes
 have hml : c.maxLocals = 2 := hml0
 have hown : s.vm.findClass nm3 = some m.cls := findClass_of_methodNamed Bd.named
 have hnm := (name_of_methodNamed Bd.named Bd.method).1
 have X0 : Stand p l e ({ frames := 0, cells := 0, slots := 0, locals := 0 } : Room) s m #[(.ref a1), (.int 1)] below meth c s₁ [] 0 0 := Stand.of_body Bd
 have e0 : s₁.heap = h0 := by rw [← hh, Bd.state]; rfl
 have N0 := Fr.nil n0
 have pre0 : ∀ t, Steps p.tables e below (s₁.setTop (mkF m 0 #[.val (.ref a1), .val (.int 1)] [])) t → Steps p.tables e below (s₁.setTop (entryFrame m #[(.ref a1), (.int 1)] 2)) t := fun t k => castTop (ef_rmEd1 m a1) k
 obtain ⟨T1, X1, e1, st1⟩ := getF X0 hx hZ hown (host := "") (Or.inl (own_w hw 26 rfl)) Via.refl e0 F_elementData_a1 (g := (mkF m 1 #[.val (.ref a1), .val (.int 1)] [(.ref a1)])) rfl rfl (hb hby d24_1)
 obtain ⟨c2, Ac2, qc2, Sc2, Nc2, Hc2, Gc2⟩ := id V_a3
 have hinc2 := inb_of Sc2 (j := (1 : Int32)) ⟨by decide, by decide⟩
 obtain ⟨fs, hr, hrun, hended, hW, hsame⟩ := X1.leave (v := some (.ref x2)) (fun h => by rw [Bd.returns] at h; cases h)
 refine ⟨_, _, pre0 _ ?_, hrun, hended, _, _, rfl, ?_, ⟨_, rfl⟩, hW, hsame.mono (by decide) (by decide)⟩
 ·show oS s₁ (mkF m 0 #[.val (.ref a1), .val (.int 1)] [])
  refine XS.aloadN X0.here hx rfl (hb hby d24_0) rfl rfl ?_
  show oS s₁ (mkF m 1 #[.val (.ref a1), .val (.int 1)] [(.ref a1)])
  refine st1 _ ?_
  show oS T1 (mkF m 4 #[.val (.ref a1), .val (.int 1)] [(.ref a3)])
  refine XS.iloadN X1.here hx rfl (hb hby d24_4) rfl ?_
  show oS T1 (mkF m 5 #[.val (.ref a1), .val (.int 1)] [(.int 1), (.ref a3)])
  refine X1.aaload hx (j := (1 : Int32)) (v := (.ref x2)) (by rw [e1]; exact Ac2.1) (State.isArrayOf_alike hZ.alike Ac2.2.1) rfl Ac2.2.2 hinc2 (Has.at Hc2 hinc2 rfl) (g := (mkF m 5 #[.val (.ref a1), .val (.int 1)] [(.int 1), (.ref a3)])) rfl rfl (hb hby d24_5) _ ?_
  show oS T1 (mkF m 6 #[.val (.ref a1), .val (.int 1)] [(.ref x2)])
  jvm_step X1.here [X1.here.top, hx, (hb hby d24_6), X1.method', Bd.returns, Value.isRef, FieldType.isReference]
  first | (intro acts; rw [hr _ acts rfl rfl rfl]) | rw [hr _ _ rfl rfl rfl]
  exact Steps.refl _
 ·show Q_rmEd1 Z a1 a3 x1 x2 kr h0 n0 _ T1.heap _
  rw [e1]
  exact ⟨rfl, N0, rfl⟩
theorem ef_rmGet1 (m : MethodId) (a1 : Addr) : entryFrame m #[(.ref a1), (.int 1)] 2 = mkF m 0 #[.val (.ref a1), .val (.int 1)] [] := by first | (simp [entryFrame, mkF, argsToLocals, Value.category]; done) | rfl
def Q_rmGet1 (Z : State) (a1 : Addr) (a3 : Addr) (x1 : Addr) (x2 : Addr) (kr : ClassId) (h0 : Heap) (n0 : Nat) (v : Option Value) (h : Heap) (L : List Loc) : Prop := v = some (.ref x2) ∧ Fr n0 L ∧ h = h0
set_option maxRecDepth 65536 in
set_option maxHeartbeats 40000000 in
theorem rmGet1 (l : Launch) (Z : State) (a0 : Array Value) (hw : own_Hw Z a0) (ws : List Jvm.Cond) (a1 : Addr) (a3 : Addr) (x1 : Addr) (x2 : Addr) (kr : ClassId) (h0 : Heap) (n0 : Nat) (Z0 : n0 ≤ h0.size) (E_a1 : Exa Z h0 a1 nm3) (F_size_a1 : Fld Z h0 a1 nm3 "size" "I" (.int 2)) (F_elementData_a1 : Fld Z h0 a1 nm3 nm18 nm9 (.ref a3)) (V_a3 : Arv Z h0 a3 kr (.object nm7) (10 : Int32) [(.ref x1), (.ref x2), .null, .null, .null, .null, .null, .null, .null, .null] .null) :
  MetFree l mn12 (head1 (Jvm.Cond.code mn12 cd7 2 (some (.object nm7)) :: ws) ({ frames := 2, cells := 0, slots := 0, locals := 27 } : Room)) (fun a U => a = #[(.ref a1), (.int 1)] ∧ Z.Warmed39 U.vm ∧ U.heap = h0) (fun _ _ _ _ _ => True) (fun _ U o U' => ∃ v L, o = .returned v ∧ Q_rmGet1 Z a1 a3 x1 x2 kr h0 n0 v U'.heap L ∧ FrameEnd U o U' L ({ frames := 2, cells := 0, slots := 0, locals := 27 } : Room).cells ({ frames := 2, cells := 0, slots := 0, locals := 27 } : Room).slots) := by
 refine MetFree.of_bodySF (plainFor_of_name pn_java_util_ArrayList) hisR ?_
 intro p e s m args below meth c s₁ Bd hml0 hP hK
 obtain ⟨rfl, hZ, hh⟩ := hP
 have hx := Bd.exec
 have hby := Bd.bytes
 have hml : c.maxLocals = 2 := hml0
 have hown : s.vm.findClass nm3 = some m.cls := findClass_of_methodNamed Bd.named
 have hnm := (name_of_methodNamed Bd.named Bd.method).1
 have X0 : Stand p l e ({ frames := 2, cells := 0, slots := 0, locals := 27 } : Room) s m #[(.ref a1), (.int 1)] below meth c s₁ [] 0 0 := Stand.of_body Bd
 have e0 : s₁.heap = h0 := by rw [← hh, Bd.state]; rfl
 have N0 := Fr.nil n0
 have pre0 : ∀ t, Steps p.tables e below (s₁.setTop (mkF m 0 #[.val (.ref a1), .val (.int 1)] [])) t → Steps p.tables e below (s₁.setTop (entryFrame m #[(.ref a1), (.int 1)] 2)) t := fun t k => castTop (ef_rmGet1 m a1) k
 obtain ⟨T1, X1, e1, st1⟩ := getF X0 hx hZ hown (host := "") (Or.inl (own_w hw 38 rfl)) Via.refl e0 F_size_a1 (g := (mkF m 2 #[.val (.ref a1), .val (.int 1)] [(.ref a1), (.int 1)])) rfl rfl (hb hby d21_2)
 obtain ⟨_, _, ⟨T2, L2, k2, n2⟩, -, X2, ⟨Lc2, hQ2, l2, y2, z2⟩, st2⟩ := Jvm.LawKit.callS X1 hx (y := mn10) hown (mvT hZ (own_w hw 169 rfl)) (mvT hZ (own_w hw 170 rfl)) (mvT hZ (own_w hw 171 rfl)) (mvT hZ (own_w hw 172 rfl)) (by decide) (backOf (W := 0) (rmCk1 l Z a0 hw []  h0 n0 Z0 ) hZ (own_w hw 172 rfl) (own_w hw 171 rfl) (by decide) (by decide)) (g := (mkF m 5 #[.val (.ref a1), .val (.int 1)] [(.int 2), (.int 1)])) rfl (by rw [hml]; rfl) (argsL := [(.int 1), (.int 2)]) (rest := []) (lenOf pd__28II_29I rfl) rfl (by show 2 * 0 + _ ≤ _; exact Nat.le_of_eq rfl) (hb hby d21_5) (fun _ _ => ⟨rfl, e1, (by decide : 0 + 0 ≤ _), (by decide : 0 + 0 ≤ _)⟩)
 dsimp only [Pt.U, Pt.locs, Pt.cells, Pt.slots] at y2 z2 st2 hQ2
 change Stand p l e _ s m _ below meth c T2 L2 k2 n2 at X2
 change L2 = _ ++ Lc2 at l2
 subst y2 z2
 obtain ⟨rfl, N2q, e2⟩ := hQ2
 have N2 : Fr n0 L2 := l2 ▸ Fr.app N0 N2q
 obtain ⟨cq3, kq3, q3a, q3b, q3c⟩ := isOf hZ e2 E_a1
 obtain ⟨_, _, ⟨T3, L3, k3, n3⟩, -, X3, ⟨Lc3, hQ3, l3, y3, z3⟩, st3⟩ := X2.virtualBack hx (y := mn11) (z := mn11) hown (mvT hZ (own_w hw 177 rfl)) (mvT hZ (own_w hw 178 rfl)) (notFace_of_selects (args := #[]) (mvT hZ (own_w hw 180 rfl))) (mvT hZ (own_w hw 180 rfl)) (mvT hZ (own_w hw 179 rfl)) (by decide) (backOf (W := 0) (rmEd1 l Z a0 hw [] a1 a3 x1 x2 kr h0 n0 Z0 F_elementData_a1 V_a3) hZ (own_w hw 181 rfl) (own_w hw 4 rfl) (by decide) (by decide)) q3a q3c (g := (mkF m 11 #[.val (.ref a1), .val (.int 1)] [(.int 1), (.ref a1)])) rfl (by rw [hml]; rfl) (Steps.refl _) (argsL := [(.int 1)]) (rest := []) (lenOf pd__28I_29Ljava_2flang_2fObject_3b rfl) rfl (by show 2 * 0 + _ ≤ _; exact Nat.le_of_eq rfl) (hb hby d21_11) (fun _ _ => ⟨rfl, e2, (by decide : 0 + 0 ≤ _), (by decide : 0 + 0 ≤ _)⟩)
 dsimp only [Pt.U, Pt.locs, Pt.cells, Pt.slots] at y3 z3 st3 hQ3
 change Stand p l e _ s m _ below meth c T3 L3 k3 n3 at X3
 change L3 = _ ++ Lc3 at l3
 subst y3 z3
 obtain ⟨rfl, N3q, e3⟩ := hQ3
 have N3 : Fr n0 L3 := l3 ▸ Fr.app N2 N3q
 obtain ⟨fs, hr, hrun, hended, hW, hsame⟩ := X3.leave (v := some (.ref x2)) (fun h => by rw [Bd.returns] at h; cases h)
 refine ⟨_, _, pre0 _ ?_, hrun, hended, _, _, rfl, ?_, ⟨_, rfl⟩, hW, hsame.mono (by decide) (by decide)⟩
 ·show oS s₁ (mkF m 0 #[.val (.ref a1), .val (.int 1)] [])
  refine XS.iloadN X0.here hx rfl (hb hby d21_0) rfl ?_
  show oS s₁ (mkF m 1 #[.val (.ref a1), .val (.int 1)] [(.int 1)])
  refine XS.aloadN X0.here hx rfl (hb hby d21_1) rfl rfl ?_
  show oS s₁ (mkF m 2 #[.val (.ref a1), .val (.int 1)] [(.ref a1), (.int 1)])
  refine st1 _ ?_
  show oS T1 (mkF m 5 #[.val (.ref a1), .val (.int 1)] [(.int 2), (.int 1)])
  refine st2 _ ?_
  show oS T2 (mkF m 8 #[.val (.ref a1), .val (.int 1)] [(.int 1)])
  refine XS.pop X2.here hx rfl (hb hby d21_8) rfl rfl ?_
  show oS T2 (mkF m 9 #[.val (.ref a1), .val (.int 1)] [])
  refine XS.aloadN X2.here hx rfl (hb hby d21_9) rfl rfl ?_
  show oS T2 (mkF m 10 #[.val (.ref a1), .val (.int 1)] [(.ref a1)])
  refine XS.iloadN X2.here hx rfl (hb hby d21_10) rfl ?_
  show oS T2 (mkF m 11 #[.val (.ref a1), .val (.int 1)] [(.int 1), (.ref a1)])
  refine st3.trans ?_
  show oS T3 (mkF m 14 #[.val (.ref a1), .val (.int 1)] [(.ref x2)])
  jvm_step X3.here [X3.here.top, hx, (hb hby d21_14), X3.method', Bd.returns, Value.isRef, FieldType.isReference]
  first | (intro acts; rw [hr _ acts rfl rfl rfl]) | rw [hr _ _ rfl rfl rfl]
  exact Steps.refl _
 ·show Q_rmGet1 Z a1 a3 x1 x2 kr h0 n0 _ T3.heap _
  rw [e3]
  exact ⟨rfl, N3, rfl⟩
theorem d25_0 : decode cd23 0 = .ok (.aload_n 0, 1) := by decide +kernel
theorem d25_1 : decode cd23 1 = .ok (.getfield 7, 3) := by decide +kernel
theorem d25_4 : decode cd23 4 = .ok (.ireturn, 1) := by decide +kernel
theorem pn_java_lang_Enum : plainName nm8 = true := by first | (simp [plainName, overriddenIn]; done) | decide +kernel
theorem ef_rm25 (m : MethodId) (a1 : Addr) : entryFrame m #[(.ref a1)] 1 = mkF m 0 #[.val (.ref a1)] [] := by first | (simp [entryFrame, mkF, argsToLocals, Value.category]; done) | rfl
def Q_rm25 (Z : State) (a1 : Addr) (k : Int32) (h0 : Heap) (n0 : Nat) (v : Option Value) (h : Heap) (L : List Loc) : Prop := v = some (.int k) ∧ Fr n0 L ∧ h = h0
set_option maxRecDepth 65536 in
set_option maxHeartbeats 40000000 in
theorem rm25 (l : Launch) (Z : State) (a0 : Array Value) (hw : own_Hw Z a0) (ws : List Jvm.Cond) (a1 : Addr) (k : Int32) (h0 : Heap) (n0 : Nat) (Z0 : n0 ≤ h0.size) (F_ordinal_a1 : Fld Z h0 a1 nm8 "ordinal" "I" (.int k)) :
  MetFree l mn13 (head1 (Jvm.Cond.code mn13 cd23 1 (some .int) :: ws) ({ frames := 0, cells := 0, slots := 0, locals := 0 } : Room)) (fun a U => a = #[(.ref a1)] ∧ Z.Warmed39 U.vm ∧ U.heap = h0) (fun _ _ _ _ _ => True) (fun _ U o U' => ∃ v L, o = .returned v ∧ Q_rm25 Z a1 k h0 n0 v U'.heap L ∧ FrameEnd U o U' L ({ frames := 0, cells := 0, slots := 0, locals := 0 } : Room).cells ({ frames := 0, cells := 0, slots := 0, locals := 0 } : Room).slots) := by
 refine MetFree.of_bodySF (plainFor_of_name pn_java_lang_Enum) hisR ?_
 intro p e s m args below meth c s₁ Bd hml0 hP hK
 obtain ⟨rfl, hZ, hh⟩ := hP
 have hx := Bd.exec
 have hby := Bd.bytes
 have hml : c.maxLocals = 1 := hml0
 have hown : s.vm.findClass nm8 = some m.cls := findClass_of_methodNamed Bd.named
 have hnm := (name_of_methodNamed Bd.named Bd.method).1
 have X0 : Stand p l e ({ frames := 0, cells := 0, slots := 0, locals := 0 } : Room) s m #[(.ref a1)] below meth c s₁ [] 0 0 := Stand.of_body Bd
 have e0 : s₁.heap = h0 := by rw [← hh, Bd.state]; rfl
 have N0 := Fr.nil n0
 have pre0 : ∀ t, Steps p.tables e below (s₁.setTop (mkF m 0 #[.val (.ref a1)] [])) t → Steps p.tables e below (s₁.setTop (entryFrame m #[(.ref a1)] 1)) t := fun t k => castTop (ef_rm25 m a1) k
 obtain ⟨T1, X1, e1, st1⟩ := getF X0 hx hZ hown (host := "") (Or.inl (own_w hw 191 rfl)) Via.refl e0 F_ordinal_a1 (g := (mkF m 1 #[.val (.ref a1)] [(.ref a1)])) rfl rfl (hb hby d25_1)
 obtain ⟨fs, hr, hrun, hended, hW, hsame⟩ := X1.leave (v := some (.int k)) (fun h => by rw [Bd.returns] at h; cases h)
 refine ⟨_, _, pre0 _ ?_, hrun, hended, _, _, rfl, ?_, ⟨_, rfl⟩, hW, hsame.mono (by decide) (by decide)⟩
 ·show oS s₁ (mkF m 0 #[.val (.ref a1)] [])
  refine XS.aloadN X0.here hx rfl (hb hby d25_0) rfl rfl ?_
  show oS s₁ (mkF m 1 #[.val (.ref a1)] [(.ref a1)])
  refine st1 _ ?_
  show oS T1 (mkF m 4 #[.val (.ref a1)] [(.int k)])
  exact retI X1 hx Bd.returns (hb hby d25_4) hr
 ·show Q_rm25 Z a1 k h0 n0 _ T1.heap _
  rw [e1]
  exact ⟨rfl, N0, rfl⟩
theorem d27_0 : decode cd24 0 = .ok (.aload_n 0, 1) := by decide +kernel
theorem pd__28_29I : parseMethodDescriptor "()I" = some ⟨[], some .int⟩ := by decide +kernel
theorem d27_1 : decode cd24 1 = .ok (.invokevirtual 166, 3) := by decide +kernel
theorem d27_4 : decode cd24 4 = .ok (.tableswitch 138 6 31 #[132, 132, 132, 138, 138, 120, 120, 120, 120, 138, 138, 138, 138, 138, 138, 138, 138, 138, 138, 138, 126, 126, 126, 126, 126, 126], 120) := by decide +kernel
theorem d27_124 : decode cd24 124 = .ok (.getstatic 170, 3) := by decide +kernel
theorem d27_127 : decode cd24 127 = .ok (.goto 18, 3) := by decide +kernel
theorem d27_145 : decode cd24 145 = .ok (.areturn, 1) := by decide +kernel
theorem pn_com_example_morro_morro_analysis_PennTag : plainName nm5 = true := by first | (simp [plainName, overriddenIn]; done) | decide +kernel
theorem ef_rmWc11 (m : MethodId) (a1 : Addr) : entryFrame m #[(.ref a1)] 1 = mkF m 0 #[.val (.ref a1)] [] := by first | (simp [entryFrame, mkF, argsToLocals, Value.category]; done) | rfl
def Q_rmWc11 (Z : State) (a1 : Addr) (wc : Addr) (h0 : Heap) (n0 : Nat) (v : Option Value) (h : Heap) (L : List Loc) : Prop := v = some (.ref wc) ∧ Fr n0 L ∧ h = h0
set_option maxRecDepth 65536 in
set_option maxHeartbeats 40000000 in
theorem rmWc11 (l : Launch) (Z : State) (a0 : Array Value) (hw : own_Hw Z a0) (ws : List Jvm.Cond) (a1 : Addr) (wc : Addr) (h0 : Heap) (n0 : Nat) (Z0 : n0 ≤ h0.size) (E_a1 : Exa Z h0 a1 nm5) (F_ordinal_a1 : Fld Z h0 a1 nm8 "ordinal" "I" (.int 11)) (S_NOUN : Sta Z h0 nm6 "NOUN" nm10 (.ref wc)) :
  MetFree l mn14 (head1 (Jvm.Cond.code mn14 cd24 1 (some (.object nm6)) :: ws) ({ frames := 1, cells := 0, slots := 0, locals := 12 } : Room)) (fun a U => a = #[(.ref a1)] ∧ Z.Warmed39 U.vm ∧ U.heap = h0) (fun _ _ _ _ _ => True) (fun _ U o U' => ∃ v L, o = .returned v ∧ Q_rmWc11 Z a1 wc h0 n0 v U'.heap L ∧ FrameEnd U o U' L ({ frames := 1, cells := 0, slots := 0, locals := 12 } : Room).cells ({ frames := 1, cells := 0, slots := 0, locals := 12 } : Room).slots) := by
 refine MetFree.of_bodySF (plainFor_of_name pn_com_example_morro_morro_analysis_PennTag) hisR ?_
 intro p e s m args below meth c s₁ Bd hml0 hP hK
 obtain ⟨rfl, hZ, hh⟩ := hP
 have hx := Bd.exec
 have hby := Bd.bytes
 have hml : c.maxLocals = 1 := hml0
 have hown : s.vm.findClass nm5 = some m.cls := findClass_of_methodNamed Bd.named
 have hnm := (name_of_methodNamed Bd.named Bd.method).1
 have X0 : Stand p l e ({ frames := 1, cells := 0, slots := 0, locals := 12 } : Room) s m #[(.ref a1)] below meth c s₁ [] 0 0 := Stand.of_body Bd
 have e0 : s₁.heap = h0 := by rw [← hh, Bd.state]; rfl
 have N0 := Fr.nil n0
 have pre0 : ∀ t, Steps p.tables e below (s₁.setTop (mkF m 0 #[.val (.ref a1)] [])) t → Steps p.tables e below (s₁.setTop (entryFrame m #[(.ref a1)] 1)) t := fun t k => castTop (ef_rmWc11 m a1) k
 obtain ⟨cq1, kq1, q1a, q1b, q1c⟩ := isOf hZ e0 E_a1
 obtain ⟨_, _, ⟨T1, L1, k1, n1⟩, -, X1, ⟨Lc1, hQ1, l1, y1, z1⟩, st1⟩ := X0.virtualBackUp hx (x := mn15) (y := mn13) (owner := nm8) hown (mvT hZ (own_w hw 209 rfl)) (mvT hZ (own_w hw 185 rfl)) (mvT hZ (own_w hw 186 rfl)) (by decide) (mvT hZ (own_w hw 188 rfl)) (mvT hZ (own_w hw 187 rfl)) (backOf (W := 0) (rm25 l Z a0 hw [] a1 (11 : Int32) h0 n0 Z0 F_ordinal_a1) hZ (own_w hw 190 rfl) (own_w hw 189 rfl) (by decide) (by decide)) q1a q1c (g := (mkF m 1 #[.val (.ref a1)] [(.ref a1)])) rfl (by rw [hml]; rfl) (Steps.refl _) (argsL := []) (rest := []) (lenOf pd__28_29I rfl) rfl (by show 2 * 0 + _ ≤ _; exact Nat.le_of_eq rfl) (hb hby d27_1) (fun _ _ => ⟨rfl, e0, (by decide : 0 + 0 ≤ _), (by decide : 0 + 0 ≤ _)⟩)
 dsimp only [Pt.U, Pt.locs, Pt.cells, Pt.slots] at y1 z1 st1 hQ1
 change Stand p l e _ s m _ below meth c T1 L1 k1 n1 at X1
 change L1 = _ ++ Lc1 at l1
 subst y1 z1
 obtain ⟨rfl, N1q, e1⟩ := hQ1
 have N1 : Fr n0 L1 := l1 ▸ Fr.app N0 N1q
 obtain ⟨T2, X2, e2, st2⟩ := getS2 X1 hx hZ hown (host := "") (Or.inl (own_w hw 210 rfl)) Via.refl e1 S_NOUN (g := (mkF m 124 #[.val (.ref a1)] [])) rfl (hb hby d27_124)
 obtain ⟨fs, hr, hrun, hended, hW, hsame⟩ := X2.leave (v := some (.ref wc)) (fun h => by rw [Bd.returns] at h; cases h)
 refine ⟨_, _, pre0 _ ?_, hrun, hended, _, _, rfl, ?_, ⟨_, rfl⟩, hW, hsame.mono (by decide) (by decide)⟩
 ·show oS s₁ (mkF m 0 #[.val (.ref a1)] [])
  refine XS.aloadN X0.here hx rfl (hb hby d27_0) rfl rfl ?_
  show oS s₁ (mkF m 1 #[.val (.ref a1)] [(.ref a1)])
  refine st1.trans ?_
  show oS T1 (mkF m 4 #[.val (.ref a1)] [(.int 11)])
  refine XS.tswIn X1.here hx rfl (o := 120) (pc0 := 4) (pc' := 124) rfl (hb hby d27_4) rfl (by decide) (by decide) (by decide) (by decide) ?_
  show oS T1 (mkF m 124 #[.val (.ref a1)] [])
  refine st2 _ ?_
  show oS T2 (mkF m 127 #[.val (.ref a1)] [(.ref wc)])
  refine XS.goto X2.here hx rfl (pc0 := 127) (pc' := 145) rfl (hb hby d27_127) (by decide) (by decide) ?_
  show oS T2 (mkF m 145 #[.val (.ref a1)] [(.ref wc)])
  jvm_step X2.here [X2.here.top, hx, (hb hby d27_145), X2.method', Bd.returns, Value.isRef, FieldType.isReference]
  first | (intro acts; rw [hr _ acts rfl rfl rfl]) | rw [hr _ _ rfl rfl rfl]
  exact Steps.refl _
 ·show Q_rmWc11 Z a1 wc h0 n0 _ T2.heap _
  rw [e2]
  exact ⟨rfl, N1, rfl⟩
theorem d27_142 : decode cd24 142 = .ok (.getstatic 182, 3) := by decide +kernel
theorem ef_rmWc44 (m : MethodId) (a1 : Addr) : entryFrame m #[(.ref a1)] 1 = mkF m 0 #[.val (.ref a1)] [] := by first | (simp [entryFrame, mkF, argsToLocals, Value.category]; done) | rfl
def Q_rmWc44 (Z : State) (a1 : Addr) (wc : Addr) (h0 : Heap) (n0 : Nat) (v : Option Value) (h : Heap) (L : List Loc) : Prop := v = some (.ref wc) ∧ Fr n0 L ∧ h = h0
set_option maxRecDepth 65536 in
set_option maxHeartbeats 40000000 in
theorem rmWc44 (l : Launch) (Z : State) (a0 : Array Value) (hw : own_Hw Z a0) (ws : List Jvm.Cond) (a1 : Addr) (wc : Addr) (h0 : Heap) (n0 : Nat) (Z0 : n0 ≤ h0.size) (E_a1 : Exa Z h0 a1 nm5) (F_ordinal_a1 : Fld Z h0 a1 nm8 "ordinal" "I" (.int 44)) (S_OTHER : Sta Z h0 nm6 "OTHER" nm10 (.ref wc)) :
  MetFree l mn14 (head1 (Jvm.Cond.code mn14 cd24 1 (some (.object nm6)) :: ws) ({ frames := 1, cells := 0, slots := 0, locals := 12 } : Room)) (fun a U => a = #[(.ref a1)] ∧ Z.Warmed39 U.vm ∧ U.heap = h0) (fun _ _ _ _ _ => True) (fun _ U o U' => ∃ v L, o = .returned v ∧ Q_rmWc44 Z a1 wc h0 n0 v U'.heap L ∧ FrameEnd U o U' L ({ frames := 1, cells := 0, slots := 0, locals := 12 } : Room).cells ({ frames := 1, cells := 0, slots := 0, locals := 12 } : Room).slots) := by
 refine MetFree.of_bodySF (plainFor_of_name pn_com_example_morro_morro_analysis_PennTag) hisR ?_
 intro p e s m args below meth c s₁ Bd hml0 hP hK
 obtain ⟨rfl, hZ, hh⟩ := hP
 have hx := Bd.exec
 have hby := Bd.bytes
 have hml : c.maxLocals = 1 := hml0
 have hown : s.vm.findClass nm5 = some m.cls := findClass_of_methodNamed Bd.named
 have hnm := (name_of_methodNamed Bd.named Bd.method).1
 have X0 : Stand p l e ({ frames := 1, cells := 0, slots := 0, locals := 12 } : Room) s m #[(.ref a1)] below meth c s₁ [] 0 0 := Stand.of_body Bd
 have e0 : s₁.heap = h0 := by rw [← hh, Bd.state]; rfl
 have N0 := Fr.nil n0
 have pre0 : ∀ t, Steps p.tables e below (s₁.setTop (mkF m 0 #[.val (.ref a1)] [])) t → Steps p.tables e below (s₁.setTop (entryFrame m #[(.ref a1)] 1)) t := fun t k => castTop (ef_rmWc44 m a1) k
 obtain ⟨cq1, kq1, q1a, q1b, q1c⟩ := isOf hZ e0 E_a1
 obtain ⟨_, _, ⟨T1, L1, k1, n1⟩, -, X1, ⟨Lc1, hQ1, l1, y1, z1⟩, st1⟩ := X0.virtualBackUp hx (x := mn15) (y := mn13) (owner := nm8) hown (mvT hZ (own_w hw 209 rfl)) (mvT hZ (own_w hw 185 rfl)) (mvT hZ (own_w hw 186 rfl)) (by decide) (mvT hZ (own_w hw 188 rfl)) (mvT hZ (own_w hw 187 rfl)) (backOf (W := 0) (rm25 l Z a0 hw [] a1 (44 : Int32) h0 n0 Z0 F_ordinal_a1) hZ (own_w hw 190 rfl) (own_w hw 189 rfl) (by decide) (by decide)) q1a q1c (g := (mkF m 1 #[.val (.ref a1)] [(.ref a1)])) rfl (by rw [hml]; rfl) (Steps.refl _) (argsL := []) (rest := []) (lenOf pd__28_29I rfl) rfl (by show 2 * 0 + _ ≤ _; exact Nat.le_of_eq rfl) (hb hby d27_1) (fun _ _ => ⟨rfl, e0, (by decide : 0 + 0 ≤ _), (by decide : 0 + 0 ≤ _)⟩)
 dsimp only [Pt.U, Pt.locs, Pt.cells, Pt.slots] at y1 z1 st1 hQ1
 change Stand p l e _ s m _ below meth c T1 L1 k1 n1 at X1
 change L1 = _ ++ Lc1 at l1
 subst y1 z1
 obtain ⟨rfl, N1q, e1⟩ := hQ1
 have N1 : Fr n0 L1 := l1 ▸ Fr.app N0 N1q
 obtain ⟨T2, X2, e2, st2⟩ := getS2 X1 hx hZ hown (host := "") (Or.inl (own_w hw 217 rfl)) Via.refl e1 S_OTHER (g := (mkF m 142 #[.val (.ref a1)] [])) rfl (hb hby d27_142)
 obtain ⟨fs, hr, hrun, hended, hW, hsame⟩ := X2.leave (v := some (.ref wc)) (fun h => by rw [Bd.returns] at h; cases h)
 refine ⟨_, _, pre0 _ ?_, hrun, hended, _, _, rfl, ?_, ⟨_, rfl⟩, hW, hsame.mono (by decide) (by decide)⟩
 ·show oS s₁ (mkF m 0 #[.val (.ref a1)] [])
  refine XS.aloadN X0.here hx rfl (hb hby d27_0) rfl rfl ?_
  show oS s₁ (mkF m 1 #[.val (.ref a1)] [(.ref a1)])
  refine st1.trans ?_
  show oS T1 (mkF m 4 #[.val (.ref a1)] [(.int 44)])
  refine XS.tswOut X1.here hx rfl (pc0 := 4) (pc' := 142) rfl (hb hby d27_4) rfl (by decide) (by decide) (by decide) ?_
  show oS T1 (mkF m 142 #[.val (.ref a1)] [])
  refine st2 _ ?_
  show oS T2 (mkF m 145 #[.val (.ref a1)] [(.ref wc)])
  jvm_step X2.here [X2.here.top, hx, (hb hby d27_145), X2.method', Bd.returns, Value.isRef, FieldType.isReference]
  first | (intro acts; rw [hr _ acts rfl rfl rfl]) | rw [hr _ _ rfl rfl rfl]
  exact Steps.refl _
 ·show Q_rmWc44 Z a1 wc h0 n0 _ T2.heap _
  rw [e2]
  exact ⟨rfl, N1, rfl⟩
theorem d18_0 : decode cd8 0 = .ok (.iload_n 0, 1) := by decide +kernel
theorem d18_1 : decode cd8 1 = .ok (.iload_n 1, 1) := by decide +kernel
theorem d18_2 : decode cd8 2 = .ok (.if_icmp .gt 7, 3) := by decide +kernel
theorem d18_9 : decode cd8 9 = .ok (.iload_n 1, 1) := by decide +kernel
theorem d18_10 : decode cd8 10 = .ok (.ireturn, 1) := by decide +kernel
theorem ef_rmM_min_4_2 (m : MethodId)  : entryFrame m #[(.int 4), (.int 2)] 2 = mkF m 0 #[.val (.int 4), .val (.int 2)] [] := by first | (simp [entryFrame, mkF, argsToLocals, Value.category]; done) | rfl
def Q_rmM_min_4_2 (Z : State)  (h0 : Heap) (n0 : Nat) (v : Option Value) (h : Heap) (L : List Loc) : Prop := v = some (.int 2) ∧ Fr n0 L ∧ h = h0
set_option maxRecDepth 65536 in
set_option maxHeartbeats 40000000 in
theorem rmM_min_4_2 (l : Launch) (Z : State) (a0 : Array Value) (hw : own_Hw Z a0) (ws : List Jvm.Cond)  (h0 : Heap) (n0 : Nat) (Z0 : n0 ≤ h0.size) :
  MetFree l mn16 (head1 (Jvm.Cond.code mn16 cd8 2 (some .int) :: ws) ({ frames := 0, cells := 0, slots := 0, locals := 0 } : Room)) (fun a U => a = #[(.int 4), (.int 2)] ∧ Z.Warmed39 U.vm ∧ U.heap = h0) (fun _ _ _ _ _ => True) (fun _ U o U' => ∃ v L, o = .returned v ∧ Q_rmM_min_4_2 Z  h0 n0 v U'.heap L ∧ FrameEnd U o U' L ({ frames := 0, cells := 0, slots := 0, locals := 0 } : Room).cells ({ frames := 0, cells := 0, slots := 0, locals := 0 } : Room).slots) := by
 refine MetFree.of_bodySF (Jvm.Free.JP.mathPlain rfl (by decide +kernel)) hisR ?_
 intro p e s m args below meth c s₁ Bd hml0 hP hK
 obtain ⟨rfl, hZ, hh⟩ := hP
 have hx := Bd.exec
 have hby := Bd.bytes
 have hml : c.maxLocals = 2 := hml0
 have hown : s.vm.findClass nm17 = some m.cls := findClass_of_methodNamed Bd.named
 have hnm := (name_of_methodNamed Bd.named Bd.method).1
 have X0 : Stand p l e ({ frames := 0, cells := 0, slots := 0, locals := 0 } : Room) s m #[(.int 4), (.int 2)] below meth c s₁ [] 0 0 := Stand.of_body Bd
 have e0 : s₁.heap = h0 := by rw [← hh, Bd.state]; rfl
 have N0 := Fr.nil n0
 have pre0 : ∀ t, Steps p.tables e below (s₁.setTop (mkF m 0 #[.val (.int 4), .val (.int 2)] [])) t → Steps p.tables e below (s₁.setTop (entryFrame m #[(.int 4), (.int 2)] 2)) t := fun t k => castTop (ef_rmM_min_4_2 m ) k
 obtain ⟨fs, hr, hrun, hended, hW, hsame⟩ := X0.leave (v := some (.int 2)) (fun h => by rw [Bd.returns] at h; cases h)
 refine ⟨_, _, pre0 _ ?_, hrun, hended, _, _, rfl, ?_, ⟨_, rfl⟩, hW, hsame.mono (by decide) (by decide)⟩
 ·show oS s₁ (mkF m 0 #[.val (.int 4), .val (.int 2)] [])
  refine XS.iloadN X0.here hx rfl (hb hby d18_0) rfl ?_
  show oS s₁ (mkF m 1 #[.val (.int 4), .val (.int 2)] [(.int 4)])
  refine XS.iloadN X0.here hx rfl (hb hby d18_1) rfl ?_
  show oS s₁ (mkF m 2 #[.val (.int 4), .val (.int 2)] [(.int 2), (.int 4)])
  refine XS.icmpYes X0.here hx rfl (pc0 := 2) (pc' := 9) rfl (hb hby d18_2) rfl (tlt (by decide : (2 : Int32) < (4 : Int32))).2.2.1 (by decide) (by decide) ?_
  show oS s₁ (mkF m 9 #[.val (.int 4), .val (.int 2)] [])
  refine XS.iloadN X0.here hx rfl (hb hby d18_9) rfl ?_
  show oS s₁ (mkF m 10 #[.val (.int 4), .val (.int 2)] [(.int 2)])
  exact retI X0 hx Bd.returns (hb hby d18_10) hr
 ·show Q_rmM_min_4_2 Z  h0 n0 _ s₁.heap _
  rw [e0]
  exact ⟨rfl, N0, rfl⟩
theorem ef_rmM_max_0_m1 (m : MethodId)  : entryFrame m #[(.int 0), (.int (-1))] 2 = mkF m 0 #[.val (.int 0), .val (.int (-1))] [] := by first | (simp [entryFrame, mkF, argsToLocals, Value.category]; done) | rfl
def Q_rmM_max_0_m1 (Z : State)  (h0 : Heap) (n0 : Nat) (v : Option Value) (h : Heap) (L : List Loc) : Prop := v = some (.int 0) ∧ Fr n0 L ∧ h = h0
set_option maxRecDepth 65536 in
set_option maxHeartbeats 40000000 in
theorem rmM_max_0_m1 (l : Launch) (Z : State) (a0 : Array Value) (hw : own_Hw Z a0) (ws : List Jvm.Cond)  (h0 : Heap) (n0 : Nat) (Z0 : n0 ≤ h0.size) :
  MetFree l mn3 (head1 (Jvm.Cond.code mn3 cd1 2 (some .int) :: ws) ({ frames := 0, cells := 0, slots := 0, locals := 0 } : Room)) (fun a U => a = #[(.int 0), (.int (-1))] ∧ Z.Warmed39 U.vm ∧ U.heap = h0) (fun _ _ _ _ _ => True) (fun _ U o U' => ∃ v L, o = .returned v ∧ Q_rmM_max_0_m1 Z  h0 n0 v U'.heap L ∧ FrameEnd U o U' L ({ frames := 0, cells := 0, slots := 0, locals := 0 } : Room).cells ({ frames := 0, cells := 0, slots := 0, locals := 0 } : Room).slots) := by
 refine MetFree.of_bodySF (Jvm.Free.JP.mathPlain rfl (by decide +kernel)) hisR ?_
 intro p e s m args below meth c s₁ Bd hml0 hP hK
 obtain ⟨rfl, hZ, hh⟩ := hP
 have hx := Bd.exec
 have hby := Bd.bytes
 have hml : c.maxLocals = 2 := hml0
 have hown : s.vm.findClass nm17 = some m.cls := findClass_of_methodNamed Bd.named
 have hnm := (name_of_methodNamed Bd.named Bd.method).1
 have X0 : Stand p l e ({ frames := 0, cells := 0, slots := 0, locals := 0 } : Room) s m #[(.int 0), (.int (-1))] below meth c s₁ [] 0 0 := Stand.of_body Bd
 have e0 : s₁.heap = h0 := by rw [← hh, Bd.state]; rfl
 have N0 := Fr.nil n0
 have pre0 : ∀ t, Steps p.tables e below (s₁.setTop (mkF m 0 #[.val (.int 0), .val (.int (-1))] [])) t → Steps p.tables e below (s₁.setTop (entryFrame m #[(.int 0), (.int (-1))] 2)) t := fun t k => castTop (ef_rmM_max_0_m1 m ) k
 obtain ⟨fs, hr, hrun, hended, hW, hsame⟩ := X0.leave (v := some (.int 0)) (fun h => by rw [Bd.returns] at h; cases h)
 refine ⟨_, _, pre0 _ ?_, hrun, hended, _, _, rfl, ?_, ⟨_, rfl⟩, hW, hsame.mono (by decide) (by decide)⟩
 ·show oS s₁ (mkF m 0 #[.val (.int 0), .val (.int (-1))] [])
  refine XS.iloadN X0.here hx rfl (hb hby d9_0) rfl ?_
  show oS s₁ (mkF m 1 #[.val (.int 0), .val (.int (-1))] [(.int 0)])
  refine XS.iloadN X0.here hx rfl (hb hby d9_1) rfl ?_
  show oS s₁ (mkF m 2 #[.val (.int 0), .val (.int (-1))] [(.int (-1)), (.int 0)])
  refine XS.icmpNo X0.here hx rfl (hb hby d9_2) rfl (flt (by decide : ¬ ((0 : Int32) < (-1 : Int32)))).1 ?_
  show oS s₁ (mkF m 5 #[.val (.int 0), .val (.int (-1))] [])
  refine XS.iloadN X0.here hx rfl (hb hby d9_5) rfl ?_
  show oS s₁ (mkF m 6 #[.val (.int 0), .val (.int (-1))] [(.int 0)])
  refine XS.goto X0.here hx rfl (pc0 := 6) (pc' := 10) rfl (hb hby d9_6) (by decide) (by decide) ?_
  show oS s₁ (mkF m 10 #[.val (.int 0), .val (.int (-1))] [(.int 0)])
  exact retI X0 hx Bd.returns (hb hby d9_10) hr
 ·show Q_rmM_max_0_m1 Z  h0 n0 _ s₁.heap _
  rw [e0]
  exact ⟨rfl, N0, rfl⟩
theorem ef_rmM_max_0_0 (m : MethodId)  : entryFrame m #[(.int 0), (.int 0)] 2 = mkF m 0 #[.val (.int 0), .val (.int 0)] [] := by first | (simp [entryFrame, mkF, argsToLocals, Value.category]; done) | rfl
def Q_rmM_max_0_0 (Z : State)  (h0 : Heap) (n0 : Nat) (v : Option Value) (h : Heap) (L : List Loc) : Prop := v = some (.int 0) ∧ Fr n0 L ∧ h = h0
set_option maxRecDepth 65536 in
set_option maxHeartbeats 40000000 in
theorem rmM_max_0_0 (l : Launch) (Z : State) (a0 : Array Value) (hw : own_Hw Z a0) (ws : List Jvm.Cond)  (h0 : Heap) (n0 : Nat) (Z0 : n0 ≤ h0.size) :
  MetFree l mn3 (head1 (Jvm.Cond.code mn3 cd1 2 (some .int) :: ws) ({ frames := 0, cells := 0, slots := 0, locals := 0 } : Room)) (fun a U => a = #[(.int 0), (.int 0)] ∧ Z.Warmed39 U.vm ∧ U.heap = h0) (fun _ _ _ _ _ => True) (fun _ U o U' => ∃ v L, o = .returned v ∧ Q_rmM_max_0_0 Z  h0 n0 v U'.heap L ∧ FrameEnd U o U' L ({ frames := 0, cells := 0, slots := 0, locals := 0 } : Room).cells ({ frames := 0, cells := 0, slots := 0, locals := 0 } : Room).slots) := by
 refine MetFree.of_bodySF (Jvm.Free.JP.mathPlain rfl (by decide +kernel)) hisR ?_
 intro p e s m args below meth c s₁ Bd hml0 hP hK
 obtain ⟨rfl, hZ, hh⟩ := hP
 have hx := Bd.exec
 have hby := Bd.bytes
 have hml : c.maxLocals = 2 := hml0
 have hown : s.vm.findClass nm17 = some m.cls := findClass_of_methodNamed Bd.named
 have hnm := (name_of_methodNamed Bd.named Bd.method).1
 have X0 : Stand p l e ({ frames := 0, cells := 0, slots := 0, locals := 0 } : Room) s m #[(.int 0), (.int 0)] below meth c s₁ [] 0 0 := Stand.of_body Bd
 have e0 : s₁.heap = h0 := by rw [← hh, Bd.state]; rfl
 have N0 := Fr.nil n0
 have pre0 : ∀ t, Steps p.tables e below (s₁.setTop (mkF m 0 #[.val (.int 0), .val (.int 0)] [])) t → Steps p.tables e below (s₁.setTop (entryFrame m #[(.int 0), (.int 0)] 2)) t := fun t k => castTop (ef_rmM_max_0_0 m ) k
 obtain ⟨fs, hr, hrun, hended, hW, hsame⟩ := X0.leave (v := some (.int 0)) (fun h => by rw [Bd.returns] at h; cases h)
 refine ⟨_, _, pre0 _ ?_, hrun, hended, _, _, rfl, ?_, ⟨_, rfl⟩, hW, hsame.mono (by decide) (by decide)⟩
 ·show oS s₁ (mkF m 0 #[.val (.int 0), .val (.int 0)] [])
  refine XS.iloadN X0.here hx rfl (hb hby d9_0) rfl ?_
  show oS s₁ (mkF m 1 #[.val (.int 0), .val (.int 0)] [(.int 0)])
  refine XS.iloadN X0.here hx rfl (hb hby d9_1) rfl ?_
  show oS s₁ (mkF m 2 #[.val (.int 0), .val (.int 0)] [(.int 0), (.int 0)])
  refine XS.icmpNo X0.here hx rfl (hb hby d9_2) rfl (flt (by decide : ¬ ((0 : Int32) < (0 : Int32)))).1 ?_
  show oS s₁ (mkF m 5 #[.val (.int 0), .val (.int 0)] [])
  refine XS.iloadN X0.here hx rfl (hb hby d9_5) rfl ?_
  show oS s₁ (mkF m 6 #[.val (.int 0), .val (.int 0)] [(.int 0)])
  refine XS.goto X0.here hx rfl (pc0 := 6) (pc' := 10) rfl (hb hby d9_6) (by decide) (by decide) ?_
  show oS s₁ (mkF m 10 #[.val (.int 0), .val (.int 0)] [(.int 0)])
  exact retI X0 hx Bd.returns (hb hby d9_10) hr
 ·show Q_rmM_max_0_0 Z  h0 n0 _ s₁.heap _
  rw [e0]
  exact ⟨rfl, N0, rfl⟩
theorem d18_5 : decode cd8 5 = .ok (.iload_n 0, 1) := by decide +kernel
theorem d18_6 : decode cd8 6 = .ok (.goto 4, 3) := by decide +kernel
theorem ef_rmM_min_0_0 (m : MethodId)  : entryFrame m #[(.int 0), (.int 0)] 2 = mkF m 0 #[.val (.int 0), .val (.int 0)] [] := by first | (simp [entryFrame, mkF, argsToLocals, Value.category]; done) | rfl
def Q_rmM_min_0_0 (Z : State)  (h0 : Heap) (n0 : Nat) (v : Option Value) (h : Heap) (L : List Loc) : Prop := v = some (.int 0) ∧ Fr n0 L ∧ h = h0
set_option maxRecDepth 65536 in
set_option maxHeartbeats 40000000 in
theorem rmM_min_0_0 (l : Launch) (Z : State) (a0 : Array Value) (hw : own_Hw Z a0) (ws : List Jvm.Cond)  (h0 : Heap) (n0 : Nat) (Z0 : n0 ≤ h0.size) :
  MetFree l mn16 (head1 (Jvm.Cond.code mn16 cd8 2 (some .int) :: ws) ({ frames := 0, cells := 0, slots := 0, locals := 0 } : Room)) (fun a U => a = #[(.int 0), (.int 0)] ∧ Z.Warmed39 U.vm ∧ U.heap = h0) (fun _ _ _ _ _ => True) (fun _ U o U' => ∃ v L, o = .returned v ∧ Q_rmM_min_0_0 Z  h0 n0 v U'.heap L ∧ FrameEnd U o U' L ({ frames := 0, cells := 0, slots := 0, locals := 0 } : Room).cells ({ frames := 0, cells := 0, slots := 0, locals := 0 } : Room).slots) := by
 refine MetFree.of_bodySF (Jvm.Free.JP.mathPlain rfl (by decide +kernel)) hisR ?_
 intro p e s m args below meth c s₁ Bd hml0 hP hK
 obtain ⟨rfl, hZ, hh⟩ := hP
 have hx := Bd.exec
 have hby := Bd.bytes
 have hml : c.maxLocals = 2 := hml0
 have hown : s.vm.findClass nm17 = some m.cls := findClass_of_methodNamed Bd.named
 have hnm := (name_of_methodNamed Bd.named Bd.method).1
 have X0 : Stand p l e ({ frames := 0, cells := 0, slots := 0, locals := 0 } : Room) s m #[(.int 0), (.int 0)] below meth c s₁ [] 0 0 := Stand.of_body Bd
 have e0 : s₁.heap = h0 := by rw [← hh, Bd.state]; rfl
 have N0 := Fr.nil n0
 have pre0 : ∀ t, Steps p.tables e below (s₁.setTop (mkF m 0 #[.val (.int 0), .val (.int 0)] [])) t → Steps p.tables e below (s₁.setTop (entryFrame m #[(.int 0), (.int 0)] 2)) t := fun t k => castTop (ef_rmM_min_0_0 m ) k
 obtain ⟨fs, hr, hrun, hended, hW, hsame⟩ := X0.leave (v := some (.int 0)) (fun h => by rw [Bd.returns] at h; cases h)
 refine ⟨_, _, pre0 _ ?_, hrun, hended, _, _, rfl, ?_, ⟨_, rfl⟩, hW, hsame.mono (by decide) (by decide)⟩
 ·show oS s₁ (mkF m 0 #[.val (.int 0), .val (.int 0)] [])
  refine XS.iloadN X0.here hx rfl (hb hby d18_0) rfl ?_
  show oS s₁ (mkF m 1 #[.val (.int 0), .val (.int 0)] [(.int 0)])
  refine XS.iloadN X0.here hx rfl (hb hby d18_1) rfl ?_
  show oS s₁ (mkF m 2 #[.val (.int 0), .val (.int 0)] [(.int 0), (.int 0)])
  refine XS.icmpNo X0.here hx rfl (hb hby d18_2) rfl (flt (by decide : ¬ ((0 : Int32) < (0 : Int32)))).2.2.1 ?_
  show oS s₁ (mkF m 5 #[.val (.int 0), .val (.int 0)] [])
  refine XS.iloadN X0.here hx rfl (hb hby d18_5) rfl ?_
  show oS s₁ (mkF m 6 #[.val (.int 0), .val (.int 0)] [(.int 0)])
  refine XS.goto X0.here hx rfl (pc0 := 6) (pc' := 10) rfl (hb hby d18_6) (by decide) (by decide) ?_
  show oS s₁ (mkF m 10 #[.val (.int 0), .val (.int 0)] [(.int 0)])
  exact retI X0 hx Bd.returns (hb hby d18_10) hr
 ·show Q_rmM_min_0_0 Z  h0 n0 _ s₁.heap _
  rw [e0]
  exact ⟨rfl, N0, rfl⟩
theorem ef_rmM_min_1_0 (m : MethodId)  : entryFrame m #[(.int 1), (.int 0)] 2 = mkF m 0 #[.val (.int 1), .val (.int 0)] [] := by first | (simp [entryFrame, mkF, argsToLocals, Value.category]; done) | rfl
def Q_rmM_min_1_0 (Z : State)  (h0 : Heap) (n0 : Nat) (v : Option Value) (h : Heap) (L : List Loc) : Prop := v = some (.int 0) ∧ Fr n0 L ∧ h = h0
set_option maxRecDepth 65536 in
set_option maxHeartbeats 40000000 in
theorem rmM_min_1_0 (l : Launch) (Z : State) (a0 : Array Value) (hw : own_Hw Z a0) (ws : List Jvm.Cond)  (h0 : Heap) (n0 : Nat) (Z0 : n0 ≤ h0.size) :
  MetFree l mn16 (head1 (Jvm.Cond.code mn16 cd8 2 (some .int) :: ws) ({ frames := 0, cells := 0, slots := 0, locals := 0 } : Room)) (fun a U => a = #[(.int 1), (.int 0)] ∧ Z.Warmed39 U.vm ∧ U.heap = h0) (fun _ _ _ _ _ => True) (fun _ U o U' => ∃ v L, o = .returned v ∧ Q_rmM_min_1_0 Z  h0 n0 v U'.heap L ∧ FrameEnd U o U' L ({ frames := 0, cells := 0, slots := 0, locals := 0 } : Room).cells ({ frames := 0, cells := 0, slots := 0, locals := 0 } : Room).slots) := by
 refine MetFree.of_bodySF (Jvm.Free.JP.mathPlain rfl (by decide +kernel)) hisR ?_
 intro p e s m args below meth c s₁ Bd hml0 hP hK
 obtain ⟨rfl, hZ, hh⟩ := hP
 have hx := Bd.exec
 have hby := Bd.bytes
 have hml : c.maxLocals = 2 := hml0
 have hown : s.vm.findClass nm17 = some m.cls := findClass_of_methodNamed Bd.named
 have hnm := (name_of_methodNamed Bd.named Bd.method).1
 have X0 : Stand p l e ({ frames := 0, cells := 0, slots := 0, locals := 0 } : Room) s m #[(.int 1), (.int 0)] below meth c s₁ [] 0 0 := Stand.of_body Bd
 have e0 : s₁.heap = h0 := by rw [← hh, Bd.state]; rfl
 have N0 := Fr.nil n0
 have pre0 : ∀ t, Steps p.tables e below (s₁.setTop (mkF m 0 #[.val (.int 1), .val (.int 0)] [])) t → Steps p.tables e below (s₁.setTop (entryFrame m #[(.int 1), (.int 0)] 2)) t := fun t k => castTop (ef_rmM_min_1_0 m ) k
 obtain ⟨fs, hr, hrun, hended, hW, hsame⟩ := X0.leave (v := some (.int 0)) (fun h => by rw [Bd.returns] at h; cases h)
 refine ⟨_, _, pre0 _ ?_, hrun, hended, _, _, rfl, ?_, ⟨_, rfl⟩, hW, hsame.mono (by decide) (by decide)⟩
 ·show oS s₁ (mkF m 0 #[.val (.int 1), .val (.int 0)] [])
  refine XS.iloadN X0.here hx rfl (hb hby d18_0) rfl ?_
  show oS s₁ (mkF m 1 #[.val (.int 1), .val (.int 0)] [(.int 1)])
  refine XS.iloadN X0.here hx rfl (hb hby d18_1) rfl ?_
  show oS s₁ (mkF m 2 #[.val (.int 1), .val (.int 0)] [(.int 0), (.int 1)])
  refine XS.icmpYes X0.here hx rfl (pc0 := 2) (pc' := 9) rfl (hb hby d18_2) rfl (tlt (by decide : (0 : Int32) < (1 : Int32))).2.2.1 (by decide) (by decide) ?_
  show oS s₁ (mkF m 9 #[.val (.int 1), .val (.int 0)] [])
  refine XS.iloadN X0.here hx rfl (hb hby d18_9) rfl ?_
  show oS s₁ (mkF m 10 #[.val (.int 1), .val (.int 0)] [(.int 0)])
  exact retI X0 hx Bd.returns (hb hby d18_10) hr
 ·show Q_rmM_min_1_0 Z  h0 n0 _ s₁.heap _
  rw [e0]
  exact ⟨rfl, N0, rfl⟩
theorem d26_0 : decode cd9 0 = .ok (.iconst 4, 1) := by decide +kernel
theorem d26_1 : decode cd9 1 = .ok (.aload_n 0, 1) := by decide +kernel
theorem d26_2 : decode cd9 2 = .ok (.invokeinterface 25 1, 5) := by decide +kernel
theorem d26_7 : decode cd9 7 = .ok (.invokestatic 30, 3) := by decide +kernel
theorem d26_10 : decode cd9 10 = .ok (.istore_n 3, 1) := by decide +kernel
theorem d26_11 : decode cd9 11 = .ok (.bipush 12, 2) := by decide +kernel
theorem d26_13 : decode cd9 13 = .ok (.iload_n 3, 1) := by decide +kernel
theorem d26_14 : decode cd9 14 = .ok (.idiv, 1) := by decide +kernel
theorem d26_15 : decode cd9 15 = .ok (.istore 4, 2) := by decide +kernel
theorem d26_17 : decode cd9 17 = .ok (.iconst 0, 1) := by decide +kernel
theorem d26_18 : decode cd9 18 = .ok (.iload_n 1, 1) := by decide +kernel
theorem d26_19 : decode cd9 19 = .ok (.iload_n 3, 1) := by decide +kernel
theorem d26_20 : decode cd9 20 = .ok (.isub, 1) := by decide +kernel
theorem d26_21 : decode cd9 21 = .ok (.iconst 1, 1) := by decide +kernel
theorem d26_22 : decode cd9 22 = .ok (.iadd, 1) := by decide +kernel
theorem d26_23 : decode cd9 23 = .ok (.invokestatic 36, 3) := by decide +kernel
theorem d26_26 : decode cd9 26 = .ok (.istore 5, 2) := by decide +kernel
theorem d26_28 : decode cd9 28 = .ok (.iload_n 1, 1) := by decide +kernel
theorem d26_29 : decode cd9 29 = .ok (.aload_n 0, 1) := by decide +kernel
theorem d26_30 : decode cd9 30 = .ok (.invokeinterface 25 1, 5) := by decide +kernel
theorem d26_35 : decode cd9 35 = .ok (.iload_n 3, 1) := by decide +kernel
theorem d26_36 : decode cd9 36 = .ok (.isub, 1) := by decide +kernel
theorem d26_37 : decode cd9 37 = .ok (.invokestatic 30, 3) := by decide +kernel
theorem d26_40 : decode cd9 40 = .ok (.istore 6, 2) := by decide +kernel
theorem d26_42 : decode cd9 42 = .ok (.iload 5, 2) := by decide +kernel
theorem d26_44 : decode cd9 44 = .ok (.istore 7, 2) := by decide +kernel
theorem d26_46 : decode cd9 46 = .ok (.iload 7, 2) := by decide +kernel
theorem d26_48 : decode cd9 48 = .ok (.iload 6, 2) := by decide +kernel
theorem d26_50 : decode cd9 50 = .ok (.if_icmp .gt 53, 3) := by decide +kernel
theorem d26_53 : decode cd9 53 = .ok (.iload 7, 2) := by decide +kernel
theorem d26_55 : decode cd9 55 = .ok (.istore 8, 2) := by decide +kernel
theorem d26_57 : decode cd9 57 = .ok (.iload 8, 2) := by decide +kernel
theorem d26_59 : decode cd9 59 = .ok (.iload 7, 2) := by decide +kernel
theorem d26_61 : decode cd9 61 = .ok (.iload_n 3, 1) := by decide +kernel
theorem d26_62 : decode cd9 62 = .ok (.iadd, 1) := by decide +kernel
theorem d26_63 : decode cd9 63 = .ok (.if_icmp .ge 34, 3) := by decide +kernel
theorem d26_66 : decode cd9 66 = .ok (.aload_n 2, 1) := by decide +kernel
theorem d26_67 : decode cd9 67 = .ok (.aload_n 0, 1) := by decide +kernel
theorem d26_68 : decode cd9 68 = .ok (.iload 8, 2) := by decide +kernel
theorem d26_70 : decode cd9 70 = .ok (.invokeinterface 39 2, 5) := by decide +kernel
theorem d26_75 : decode cd9 75 = .ok (.checkcast 43, 3) := by decide +kernel
theorem pd__28_29Lcom_2fexample_2fmorro_2fmorro_2fanalysis_2fWordClass_3b : parseMethodDescriptor nm15 = some ⟨[], some (.object nm6)⟩ := by decide +kernel
theorem d26_78 : decode cd9 78 = .ok (.invokevirtual 45, 3) := by decide +kernel
theorem d26_81 : decode cd9 81 = .ok (.invokevirtual 17, 3) := by decide +kernel
theorem d26_84 : decode cd9 84 = .ok (.dup2, 1) := by decide +kernel
theorem d26_85 : decode cd9 85 = .ok (.laload, 1) := by decide +kernel
theorem d26_86 : decode cd9 86 = .ok (.iload 4, 2) := by decide +kernel
theorem d26_88 : decode cd9 88 = .ok (.i2l, 1) := by decide +kernel
theorem d26_89 : decode cd9 89 = .ok (.ladd, 1) := by decide +kernel
theorem d26_90 : decode cd9 90 = .ok (.lastore, 1) := by decide +kernel
theorem d26_91 : decode cd9 91 = .ok (.iinc 8 1, 3) := by decide +kernel
theorem d26_94 : decode cd9 94 = .ok (.goto (-37), 3) := by decide +kernel
theorem d26_97 : decode cd9 97 = .ok (.iinc 7 1, 3) := by decide +kernel
theorem d26_100 : decode cd9 100 = .ok (.goto (-54), 3) := by decide +kernel
theorem d26_103 : decode cd9 103 = .ok (.iload 6, 2) := by decide +kernel
theorem d26_105 : decode cd9 105 = .ok (.iload 5, 2) := by decide +kernel
theorem d26_107 : decode cd9 107 = .ok (.isub, 1) := by decide +kernel
theorem d26_108 : decode cd9 108 = .ok (.iconst 1, 1) := by decide +kernel
theorem d26_109 : decode cd9 109 = .ok (.iadd, 1) := by decide +kernel
theorem d26_110 : decode cd9 110 = .ok (.ireturn, 1) := by decide +kernel
theorem pn_com_example_morro_morro_index_WordClassShares : plainName nm16 = true := by first | (simp [plainName, overriddenIn]; done) | decide +kernel
theorem ef_rmCnt0 (m : MethodId) (a1 : Addr) (sh : Addr) : entryFrame m #[(.ref a1), (.int 0), (.ref sh)] 9 = mkF m 0 #[.val (.ref a1), .val (.int 0), .val (.ref sh), .unset, .unset, .unset, .unset, .unset, .unset] [] := by first | (simp [entryFrame, mkF, argsToLocals, Value.category]; done) | rfl
def Q_rmCnt0 (Z : State) (a1 : Addr) (sh : Addr) (a3 : Addr) (x1 : Addr) (x2 : Addr) (kr : ClassId) (wNo : Addr) (wOt : Addr) (ks : ClassId) (y0 : Int64) (y1 : Int64) (y2 : Int64) (y3 : Int64) (h0 : Heap) (n0 : Nat) (v : Option Value) (h : Heap) (L : List Loc) : Prop := v = some (.int 1) ∧ Fr n0 L ∧ Keep h0 h [sh] ∧ Arv Z h sh ks .long (4 : Int32) [(.long (y0 + ((6 : Int32).toInt64))), (.long y1), (.long y2), (.long (y3 + ((6 : Int32).toInt64)))] (.long 0)
set_option maxRecDepth 65536 in
set_option maxHeartbeats 40000000 in
theorem rmCnt0 (l : Launch) (Z : State) (a0 : Array Value) (hw : own_Hw Z a0) (ws : List Jvm.Cond) (a1 : Addr) (sh : Addr) (a3 : Addr) (x1 : Addr) (x2 : Addr) (kr : ClassId) (wNo : Addr) (wOt : Addr) (ks : ClassId) (y0 : Int64) (y1 : Int64) (y2 : Int64) (y3 : Int64) (h0 : Heap) (n0 : Nat) (Z0 : n0 ≤ h0.size) (E_a1 : Exa Z h0 a1 nm3) (F_size_a1 : Fld Z h0 a1 nm3 "size" "I" (.int 2)) (F_elementData_a1 : Fld Z h0 a1 nm3 nm18 nm9 (.ref a3)) (V_a3 : Arv Z h0 a3 kr (.object nm7) (10 : Int32) [(.ref x1), (.ref x2), .null, .null, .null, .null, .null, .null, .null, .null] .null) (E_x1 : Exa Z h0 x1 nm5) (E_x2 : Exa Z h0 x2 nm5) (F_ordinal_x1 : Fld Z h0 x1 nm8 "ordinal" "I" (.int 11)) (F_ordinal_x2 : Fld Z h0 x2 nm8 "ordinal" "I" (.int 44)) (lt_x1 : x1 < n0) (lt_x2 : x2 < n0) (S_NOUN : Sta Z h0 nm6 "NOUN" nm10 (.ref wNo)) (S_OTHER : Sta Z h0 nm6 "OTHER" nm10 (.ref wOt)) (E_wNo : Exa Z h0 wNo nm6) (E_wOt : Exa Z h0 wOt nm6) (F_ordinal_wNo : Fld Z h0 wNo nm8 "ordinal" "I" (.int 0)) (F_ordinal_wOt : Fld Z h0 wOt nm8 "ordinal" "I" (.int 3)) (lt_wNo : wNo < n0) (lt_wOt : wOt < n0) (V_sh : Arv Z h0 sh ks .long (4 : Int32) [(.long y0), (.long y1), (.long y2), (.long y3)] (.long 0)) (g_sh : n0 ≤ sh) :
  MetFree l mn17 (head1 (Jvm.Cond.code mn17 cd9 9 (some .int) :: ws) ({ frames := 3, cells := 0, slots := 0, locals := 41 } : Room)) (fun a U => a = #[(.ref a1), (.int 0), (.ref sh)] ∧ Z.Warmed39 U.vm ∧ U.heap = h0) (fun _ _ _ _ _ => True) (fun _ U o U' => ∃ v L, o = .returned v ∧ Q_rmCnt0 Z a1 sh a3 x1 x2 kr wNo wOt ks y0 y1 y2 y3 h0 n0 v U'.heap L ∧ FrameEnd U o U' L ({ frames := 3, cells := 0, slots := 0, locals := 41 } : Room).cells ({ frames := 3, cells := 0, slots := 0, locals := 41 } : Room).slots) := by
 refine MetFree.of_bodySF (plainFor_of_name pn_com_example_morro_morro_index_WordClassShares) hisR ?_
 intro p e s m args below meth c s₁ Bd hml0 hP hK
 obtain ⟨rfl, hZ, hh⟩ := hP
 have hx := Bd.exec
 have hby := Bd.bytes
 have hml : c.maxLocals = 9 := hml0
 have hown : s.vm.findClass nm16 = some m.cls := findClass_of_methodNamed Bd.named
 have hnm := (name_of_methodNamed Bd.named Bd.method).1
 have X0 : Stand p l e ({ frames := 3, cells := 0, slots := 0, locals := 41 } : Room) s m #[(.ref a1), (.int 0), (.ref sh)] below meth c s₁ [] 0 0 := Stand.of_body Bd
 have e0 : s₁.heap = h0 := by rw [← hh, Bd.state]; rfl
 have N0 := Fr.nil n0
 have pre0 : ∀ t, Steps p.tables e below (s₁.setTop (mkF m 0 #[.val (.ref a1), .val (.int 0), .val (.ref sh), .unset, .unset, .unset, .unset, .unset, .unset] [])) t → Steps p.tables e below (s₁.setTop (entryFrame m #[(.ref a1), (.int 0), (.ref sh)] 9)) t := fun t k => castTop (ef_rmCnt0 m a1 sh) k
 let lc1 : Array Slot := #[.val (.ref a1), .val (.int 0), .val (.ref sh), .unset, .unset, .unset, .unset, .unset, .unset]
 obtain ⟨cq2, kq2, q2a, q2b, q2c⟩ := isOf hZ e0 E_a1
 obtain ⟨_, _, ⟨T2, L2, k2, n2⟩, -, X2, ⟨Lc2, hQ2, l2, y2, z2⟩, st2⟩ := X0.interfaceBack hx (xi := mn18) (y := mn8) hown (mvT hZ (own_w hw 199 rfl)) (mvT hZ (own_w hw 89 rfl)) (mvT hZ (own_w hw 90 rfl)) (mvT hZ (own_w hw 155 rfl)) (mvT hZ (own_w hw 156 rfl)) (mvT hZ (own_w hw 157 rfl)) (mvT hZ (own_w hw 158 rfl)) (mvT hZ (own_w hw 159 rfl)) (by decide) (backOf (W := 1) (rm20 l Z a0 hw [] a1 (2 : Int32) h0 n0 Z0 F_size_a1) hZ (own_w hw 160 rfl) (own_w hw 4 rfl) (by decide) (by decide)) q2a q2b q2c (g := (mkF m 2 lc1 [(.ref a1), (.int 4)])) rfl (by rw [hml]; rfl) (Steps.refl _) (argsL := []) (rest := [(.int 4)]) (lenOf pd__28_29I rfl) rfl (by show 2 * 0 + _ ≤ _; exact Nat.le_of_eq rfl) (hb hby d26_2) (fun _ _ => ⟨rfl, e0, (by decide : 0 + 0 ≤ _), (by decide : 0 + 0 ≤ _)⟩)
 dsimp only [Pt.U, Pt.locs, Pt.cells, Pt.slots] at y2 z2 st2 hQ2
 change Stand p l e _ s m _ below meth c T2 L2 k2 n2 at X2
 change L2 = _ ++ Lc2 at l2
 subst y2 z2
 obtain ⟨rfl, N2q, e2⟩ := hQ2
 have N2 : Fr n0 L2 := l2 ▸ Fr.app N0 N2q
 obtain ⟨_, _, ⟨T3, L3, k3, n3⟩, -, X3, ⟨Lc3, hQ3, l3, y3, z3⟩, st3⟩ := Jvm.LawKit.callS X2 hx (y := mn16) hown (mvT hZ (own_w hw 200 rfl)) (mvT hZ (own_w hw 144 rfl)) (mvT hZ (own_w hw 57 rfl)) (mvT hZ (own_w hw 145 rfl)) (by decide) (backOf (W := 0) (rmM_min_4_2 l Z a0 hw []  h0 n0 Z0 ) hZ (own_w hw 145 rfl) (own_w hw 57 rfl) (by decide) (by decide)) (g := (mkF m 7 lc1 [(.int 2), (.int 4)])) rfl (by rw [hml]; rfl) (argsL := [(.int 4), (.int 2)]) (rest := []) (lenOf pd__28II_29I rfl) rfl (by show 2 * 0 + _ ≤ _; exact Nat.le_of_eq rfl) (hb hby d26_7) (fun _ _ => ⟨rfl, e2, (by decide : 0 + 0 ≤ _), (by decide : 0 + 0 ≤ _)⟩)
 dsimp only [Pt.U, Pt.locs, Pt.cells, Pt.slots] at y3 z3 st3 hQ3
 change Stand p l e _ s m _ below meth c T3 L3 k3 n3 at X3
 change L3 = _ ++ Lc3 at l3
 subst y3 z3
 obtain ⟨rfl, N3q, e3⟩ := hQ3
 have N3 : Fr n0 L3 := l3 ▸ Fr.app N2 N3q
 let lc4 : Array Slot := #[.val (.ref a1), .val (.int 0), .val (.ref sh), .val (.int 2), .unset, .unset, .unset, .unset, .unset]
 let lc5 : Array Slot := #[.val (.ref a1), .val (.int 0), .val (.ref sh), .val (.int 2), .val (.int 6), .unset, .unset, .unset, .unset]
 obtain ⟨_, _, ⟨T6, L6, k6, n6⟩, -, X6, ⟨Lc6, hQ6, l6, y6, z6⟩, st6⟩ := Jvm.LawKit.callS X3 hx (y := mn3) hown (mvT hZ (own_w hw 201 rfl)) (mvT hZ (own_w hw 56 rfl)) (mvT hZ (own_w hw 57 rfl)) (mvT hZ (own_w hw 58 rfl)) (by decide) (backOf (W := 0) (rmM_max_0_m1 l Z a0 hw []  h0 n0 Z0 ) hZ (own_w hw 58 rfl) (own_w hw 57 rfl) (by decide) (by decide)) (g := (mkF m 23 lc5 [(.int (-1)), (.int 0)])) rfl (by rw [hml]; rfl) (argsL := [(.int 0), (.int (-1))]) (rest := []) (lenOf pd__28II_29I rfl) rfl (by show 2 * 0 + _ ≤ _; exact Nat.le_of_eq rfl) (hb hby d26_23) (fun _ _ => ⟨rfl, e3, (by decide : 0 + 0 ≤ _), (by decide : 0 + 0 ≤ _)⟩)
 dsimp only [Pt.U, Pt.locs, Pt.cells, Pt.slots] at y6 z6 st6 hQ6
 change Stand p l e _ s m _ below meth c T6 L6 k6 n6 at X6
 change L6 = _ ++ Lc6 at l6
 subst y6 z6
 obtain ⟨rfl, N6q, e6⟩ := hQ6
 have N6 : Fr n0 L6 := l6 ▸ Fr.app N3 N6q
 let lc7 : Array Slot := #[.val (.ref a1), .val (.int 0), .val (.ref sh), .val (.int 2), .val (.int 6), .val (.int 0), .unset, .unset, .unset]
 obtain ⟨cq8, kq8, q8a, q8b, q8c⟩ := isOf hZ e6 E_a1
 obtain ⟨_, _, ⟨T8, L8, k8, n8⟩, -, X8, ⟨Lc8, hQ8, l8, y8, z8⟩, st8⟩ := X6.interfaceBack hx (xi := mn18) (y := mn8) hown (mvT hZ (own_w hw 199 rfl)) (mvT hZ (own_w hw 89 rfl)) (mvT hZ (own_w hw 90 rfl)) (mvT hZ (own_w hw 155 rfl)) (mvT hZ (own_w hw 156 rfl)) (mvT hZ (own_w hw 157 rfl)) (mvT hZ (own_w hw 158 rfl)) (mvT hZ (own_w hw 159 rfl)) (by decide) (backOf (W := 1) (rm20 l Z a0 hw [] a1 (2 : Int32) h0 n0 Z0 F_size_a1) hZ (own_w hw 160 rfl) (own_w hw 4 rfl) (by decide) (by decide)) q8a q8b q8c (g := (mkF m 30 lc7 [(.ref a1), (.int 0)])) rfl (by rw [hml]; rfl) (Steps.refl _) (argsL := []) (rest := [(.int 0)]) (lenOf pd__28_29I rfl) rfl (by show 2 * 0 + _ ≤ _; exact Nat.le_of_eq rfl) (hb hby d26_30) (fun _ _ => ⟨rfl, e6, (by decide : 0 + 0 ≤ _), (by decide : 0 + 0 ≤ _)⟩)
 dsimp only [Pt.U, Pt.locs, Pt.cells, Pt.slots] at y8 z8 st8 hQ8
 change Stand p l e _ s m _ below meth c T8 L8 k8 n8 at X8
 change L8 = _ ++ Lc8 at l8
 subst y8 z8
 obtain ⟨rfl, N8q, e8⟩ := hQ8
 have N8 : Fr n0 L8 := l8 ▸ Fr.app N6 N8q
 obtain ⟨_, _, ⟨T9, L9, k9, n9⟩, -, X9, ⟨Lc9, hQ9, l9, y9, z9⟩, st9⟩ := Jvm.LawKit.callS X8 hx (y := mn16) hown (mvT hZ (own_w hw 200 rfl)) (mvT hZ (own_w hw 144 rfl)) (mvT hZ (own_w hw 57 rfl)) (mvT hZ (own_w hw 145 rfl)) (by decide) (backOf (W := 0) (rmM_min_0_0 l Z a0 hw []  h0 n0 Z0 ) hZ (own_w hw 145 rfl) (own_w hw 57 rfl) (by decide) (by decide)) (g := (mkF m 37 lc7 [(.int 0), (.int 0)])) rfl (by rw [hml]; rfl) (argsL := [(.int 0), (.int 0)]) (rest := []) (lenOf pd__28II_29I rfl) rfl (by show 2 * 0 + _ ≤ _; exact Nat.le_of_eq rfl) (hb hby d26_37) (fun _ _ => ⟨rfl, e8, (by decide : 0 + 0 ≤ _), (by decide : 0 + 0 ≤ _)⟩)
 dsimp only [Pt.U, Pt.locs, Pt.cells, Pt.slots] at y9 z9 st9 hQ9
 change Stand p l e _ s m _ below meth c T9 L9 k9 n9 at X9
 change L9 = _ ++ Lc9 at l9
 subst y9 z9
 obtain ⟨rfl, N9q, e9⟩ := hQ9
 have N9 : Fr n0 L9 := l9 ▸ Fr.app N8 N9q
 let lc10 : Array Slot := #[.val (.ref a1), .val (.int 0), .val (.ref sh), .val (.int 2), .val (.int 6), .val (.int 0), .val (.int 0), .unset, .unset]
 let lc11 : Array Slot := #[.val (.ref a1), .val (.int 0), .val (.ref sh), .val (.int 2), .val (.int 6), .val (.int 0), .val (.int 0), .val (.int 0), .unset]
 let lc12 : Array Slot := #[.val (.ref a1), .val (.int 0), .val (.ref sh), .val (.int 2), .val (.int 6), .val (.int 0), .val (.int 0), .val (.int 0), .val (.int 0)]
 have pre13 : ∀ t, Steps p.tables e below (T9.setTop (mkF m 66 lc12 [])) t → Steps p.tables e below (s₁.setTop (entryFrame m #[(.ref a1), (.int 0), (.ref sh)] 9)) t := fun t kt => by
  refine pre0 t ?_
  show oS s₁ (mkF m 0 lc1 [])
  refine XS.iconst X0.here hx rfl (hb hby d26_0) ?_
  show oS s₁ (mkF m 1 lc1 [(.int 4)])
  refine XS.aloadN X0.here hx rfl (hb hby d26_1) rfl rfl ?_
  show oS s₁ (mkF m 2 lc1 [(.ref a1), (.int 4)])
  refine st2.trans ?_
  show oS T2 (mkF m 7 lc1 [(.int 2), (.int 4)])
  refine st3 _ ?_
  show oS T3 (mkF m 10 lc1 [(.int 2)])
  refine XS.istoreN X3.here hx rfl (hb hby d26_10) rfl (l' := lc4) rfl ?_
  show oS T3 (mkF m 11 lc4 [])
  refine XS.bipush X3.here hx rfl (hb hby d26_11) ?_
  show oS T3 (mkF m 13 lc4 [(.int 12)])
  refine XS.iloadN X3.here hx rfl (hb hby d26_13) rfl ?_
  show oS T3 (mkF m 14 lc4 [(.int 2), (.int 12)])
  refine XS.idiv X3.here hx rfl (hb hby d26_14) rfl (by decide) ?_
  show oS T3 (mkF m 15 lc4 [(.int 6)])
  refine XS.istore X3.here hx rfl (hb hby d26_15) rfl (l' := lc5) rfl ?_
  show oS T3 (mkF m 17 lc5 [])
  refine XS.iconst X3.here hx rfl (hb hby d26_17) ?_
  show oS T3 (mkF m 18 lc5 [(.int 0)])
  refine XS.iloadN X3.here hx rfl (hb hby d26_18) rfl ?_
  show oS T3 (mkF m 19 lc5 [(.int 0), (.int 0)])
  refine XS.iloadN X3.here hx rfl (hb hby d26_19) rfl ?_
  show oS T3 (mkF m 20 lc5 [(.int 2), (.int 0), (.int 0)])
  refine XS.isub X3.here hx rfl (hb hby d26_20) rfl ?_
  show oS T3 (mkF m 21 lc5 [(.int (-2)), (.int 0)])
  refine XS.iconst X3.here hx rfl (hb hby d26_21) ?_
  show oS T3 (mkF m 22 lc5 [(.int 1), (.int (-2)), (.int 0)])
  refine XS.iadd X3.here hx rfl (hb hby d26_22) rfl ?_
  show oS T3 (mkF m 23 lc5 [(.int (-1)), (.int 0)])
  refine st6 _ ?_
  show oS T6 (mkF m 26 lc5 [(.int 0)])
  refine XS.istore X6.here hx rfl (hb hby d26_26) rfl (l' := lc7) rfl ?_
  show oS T6 (mkF m 28 lc7 [])
  refine XS.iloadN X6.here hx rfl (hb hby d26_28) rfl ?_
  show oS T6 (mkF m 29 lc7 [(.int 0)])
  refine XS.aloadN X6.here hx rfl (hb hby d26_29) rfl rfl ?_
  show oS T6 (mkF m 30 lc7 [(.ref a1), (.int 0)])
  refine st8.trans ?_
  show oS T8 (mkF m 35 lc7 [(.int 2), (.int 0)])
  refine XS.iloadN X8.here hx rfl (hb hby d26_35) rfl ?_
  show oS T8 (mkF m 36 lc7 [(.int 2), (.int 2), (.int 0)])
  refine XS.isub X8.here hx rfl (hb hby d26_36) rfl ?_
  show oS T8 (mkF m 37 lc7 [(.int 0), (.int 0)])
  refine st9 _ ?_
  show oS T9 (mkF m 40 lc7 [(.int 0)])
  refine XS.istore X9.here hx rfl (hb hby d26_40) rfl (l' := lc10) rfl ?_
  show oS T9 (mkF m 42 lc10 [])
  refine XS.iload X9.here hx rfl (hb hby d26_42) rfl ?_
  show oS T9 (mkF m 44 lc10 [(.int 0)])
  refine XS.istore X9.here hx rfl (hb hby d26_44) rfl (l' := lc11) rfl ?_
  show oS T9 (mkF m 46 lc11 [])
  refine XS.iload X9.here hx rfl (hb hby d26_46) rfl ?_
  show oS T9 (mkF m 48 lc11 [(.int 0)])
  refine XS.iload X9.here hx rfl (hb hby d26_48) rfl ?_
  show oS T9 (mkF m 50 lc11 [(.int 0), (.int 0)])
  refine XS.icmpNo X9.here hx rfl (hb hby d26_50) rfl (flt (by decide : ¬ ((0 : Int32) < (0 : Int32)))).2.2.1 ?_
  show oS T9 (mkF m 53 lc11 [])
  refine XS.iload X9.here hx rfl (hb hby d26_53) rfl ?_
  show oS T9 (mkF m 55 lc11 [(.int 0)])
  refine XS.istore X9.here hx rfl (hb hby d26_55) rfl (l' := lc12) rfl ?_
  show oS T9 (mkF m 57 lc12 [])
  refine XS.iload X9.here hx rfl (hb hby d26_57) rfl ?_
  show oS T9 (mkF m 59 lc12 [(.int 0)])
  refine XS.iload X9.here hx rfl (hb hby d26_59) rfl ?_
  show oS T9 (mkF m 61 lc12 [(.int 0), (.int 0)])
  refine XS.iloadN X9.here hx rfl (hb hby d26_61) rfl ?_
  show oS T9 (mkF m 62 lc12 [(.int 2), (.int 0), (.int 0)])
  refine XS.iadd X9.here hx rfl (hb hby d26_62) rfl ?_
  show oS T9 (mkF m 63 lc12 [(.int 2), (.int 0)])
  refine XS.icmpNo X9.here hx rfl (hb hby d26_63) rfl (tlt (by decide : (0 : Int32) < (2 : Int32))).2.1 ?_
  exact kt
 obtain ⟨cq14, kq14, q14a, q14b, q14c⟩ := isOf hZ e9 E_a1
 obtain ⟨_, _, ⟨T14, L14, k14, n14⟩, -, X14, ⟨Lc14, hQ14, l14, y14, z14⟩, st14⟩ := X9.interfaceBack hx (xi := mn19) (y := mn12) hown (mvT hZ (own_w hw 202 rfl)) (mvT hZ (own_w hw 162 rfl)) (mvT hZ (own_w hw 163 rfl)) (mvT hZ (own_w hw 164 rfl)) (mvT hZ (own_w hw 165 rfl)) (mvT hZ (own_w hw 166 rfl)) (mvT hZ (own_w hw 167 rfl)) (mvT hZ (own_w hw 159 rfl)) (by decide) (backOf (W := 1) (rmGet0 l Z a0 hw [] a1 a3 x1 x2 kr h0 n0 Z0 E_a1 F_size_a1 F_elementData_a1 V_a3) hZ (own_w hw 168 rfl) (own_w hw 4 rfl) (by decide) (by decide)) q14a q14b q14c (g := (mkF m 70 lc12 [(.int 0), (.ref a1), (.ref sh)])) rfl (by rw [hml]; rfl) (Steps.refl _) (argsL := [(.int 0)]) (rest := [(.ref sh)]) (lenOf pd__28I_29Ljava_2flang_2fObject_3b rfl) rfl (by show 2 * 0 + _ ≤ _; exact Nat.le_of_eq rfl) (hb hby d26_70) (fun _ _ => ⟨rfl, e9, (by decide : 0 + 0 ≤ _), (by decide : 0 + 0 ≤ _)⟩)
 dsimp only [Pt.U, Pt.locs, Pt.cells, Pt.slots] at y14 z14 st14 hQ14
 change Stand p l e _ s m _ below meth c T14 L14 k14 n14 at X14
 change L14 = _ ++ Lc14 at l14
 subst y14 z14
 obtain ⟨rfl, N14q, e14⟩ := hQ14
 have N14 : Fr n0 L14 := l14 ▸ Fr.app N9 N14q
 obtain ⟨T15, X15, e15, st15⟩ := castY X14 hx hZ hown (own_w hw 203 rfl) e14 (Ins.self E_x1) (g := (mkF m 75 lc12 [(.ref x1), (.ref sh)])) rfl rfl (hb hby d26_75)
 obtain ⟨cq16, kq16, q16a, q16b, q16c⟩ := isOf hZ e15 E_x1
 obtain ⟨_, _, ⟨T16, L16, k16, n16⟩, -, X16, ⟨Lc16, hQ16, l16, y16, z16⟩, st16⟩ := X15.virtualBack hx (y := mn14) (z := mn14) hown (mvT hZ (own_w hw 204 rfl)) (mvT hZ (own_w hw 205 rfl)) (notFace_of_selects (args := #[]) (mvT hZ (own_w hw 207 rfl))) (mvT hZ (own_w hw 207 rfl)) (mvT hZ (own_w hw 206 rfl)) (by decide) (backOf (W := 1) (rmWc11 l Z a0 hw [] x1 wNo h0 n0 Z0 E_x1 F_ordinal_x1 S_NOUN) hZ (own_w hw 208 rfl) (own_w hw 29 rfl) (by decide) (by decide)) q16a q16c (g := (mkF m 78 lc12 [(.ref x1), (.ref sh)])) rfl (by rw [hml]; rfl) (Steps.refl _) (argsL := []) (rest := [(.ref sh)]) (lenOf pd__28_29Lcom_2fexample_2fmorro_2fmorro_2fanalysis_2fWordClass_3b rfl) rfl (by show 2 * 0 + _ ≤ _; exact Nat.le_of_eq rfl) (hb hby d26_78) (fun _ _ => ⟨rfl, e15, (by decide : 0 + 0 ≤ _), (by decide : 0 + 0 ≤ _)⟩)
 dsimp only [Pt.U, Pt.locs, Pt.cells, Pt.slots] at y16 z16 st16 hQ16
 change Stand p l e _ s m _ below meth c T16 L16 k16 n16 at X16
 change L16 = _ ++ Lc16 at l16
 subst y16 z16
 obtain ⟨rfl, N16q, e16⟩ := hQ16
 have N16 : Fr n0 L16 := l16 ▸ Fr.app N14 N16q
 obtain ⟨cq17, kq17, q17a, q17b, q17c⟩ := isOf hZ e16 E_wNo
 obtain ⟨_, _, ⟨T17, L17, k17, n17⟩, -, X17, ⟨Lc17, hQ17, l17, y17, z17⟩, st17⟩ := X16.virtualBackUp hx (x := mn20) (y := mn13) (owner := nm8) hown (mvT hZ (own_w hw 213 rfl)) (mvT hZ (own_w hw 214 rfl)) (mvT hZ (own_w hw 186 rfl)) (by decide) (mvT hZ (own_w hw 215 rfl)) (mvT hZ (own_w hw 187 rfl)) (backOf (W := 1) (rm25 l Z a0 hw [] wNo (0 : Int32) h0 n0 Z0 F_ordinal_wNo) hZ (own_w hw 190 rfl) (own_w hw 189 rfl) (by decide) (by decide)) q17a q17c (g := (mkF m 81 lc12 [(.ref wNo), (.ref sh)])) rfl (by rw [hml]; rfl) (Steps.refl _) (argsL := []) (rest := [(.ref sh)]) (lenOf pd__28_29I rfl) rfl (by show 2 * 0 + _ ≤ _; exact Nat.le_of_eq rfl) (hb hby d26_81) (fun _ _ => ⟨rfl, e16, (by decide : 0 + 0 ≤ _), (by decide : 0 + 0 ≤ _)⟩)
 dsimp only [Pt.U, Pt.locs, Pt.cells, Pt.slots] at y17 z17 st17 hQ17
 change Stand p l e _ s m _ below meth c T17 L17 k17 n17 at X17
 change L17 = _ ++ Lc17 at l17
 subst y17 z17
 obtain ⟨rfl, N17q, e17⟩ := hQ17
 have N17 : Fr n0 L17 := l17 ▸ Fr.app N16 N17q
 obtain ⟨c18, Ac18, qc18, Sc18, Nc18, Hc18, Gc18⟩ := id V_sh
 have hinc18 := inb_of Sc18 (j := (0 : Int32)) ⟨by decide, by decide⟩
 obtain ⟨c19, Ac19, qc19, Sc19, Nc19, Hc19, Gc19⟩ := id V_sh
 have na20 := Exa.neArv E_a1 V_sh (own_w hw 3 rfl)
 have na21 := own_neVV V_a3 V_sh (by decide)
 have na22 := Nat.ne_of_lt (Nat.lt_of_lt_of_le lt_wNo g_sh)
 have na23 := Nat.ne_of_lt (Nat.lt_of_lt_of_le lt_wOt g_sh)
 have na24 := Nat.ne_of_lt (Nat.lt_of_lt_of_le lt_x1 g_sh)
 have na25 := Nat.ne_of_lt (Nat.lt_of_lt_of_le lt_x2 g_sh)
 obtain ⟨T26, h26, X26, e26, W26, st26⟩ := stJ X17 hx hZ e17 Ac19 (j := (0 : Int32)) (inb_of Sc19 ⟨by decide, by decide⟩) (g := (mkF m 90 lc12 [(.long (y0 + ((6 : Int32).toInt64))), (.int 0), (.ref sh)])) rfl rfl (hb hby d26_90)
 have K27 : Keep h0 h26 [sh] := (Keep.refl h0 [sh]).wr W26 (Or.inl (List.mem_of_getElem? (i := 0) rfl))
 have N28 := Fr.snoc X26 N17 g_sh
 have Vw26 := Arv.set Ac19 qc19 Sc19 Nc19 Hc19 Gc19 rfl W26 0 rfl (Nat.le_of_ble_eq_true rfl)
 change Arv Z h26 sh ks .long (4 : Int32) [(.long (y0 + ((6 : Int32).toInt64))), (.long y1), (.long y2), (.long y3)] (.long 0) at Vw26
 let lc29 : Array Slot := #[.val (.ref a1), .val (.int 0), .val (.ref sh), .val (.int 2), .val (.int 6), .val (.int 0), .val (.int 0), .val (.int 0), .val (.int 1)]
 have f30 := (E_a1.wr W26)
 have f31 := (F_size_a1.other W26 (Or.inl na20))
 have f32 := (F_elementData_a1.other W26 (Or.inl na20))
 have f33 := (V_a3.other W26 na21)
 obtain ⟨cq34, kq34, q34a, q34b, q34c⟩ := isOf hZ e26 f30
 obtain ⟨_, _, ⟨T34, L34, k34, n34⟩, -, X34, ⟨Lc34, hQ34, l34, y34, z34⟩, st34⟩ := X26.interfaceBack hx (xi := mn19) (y := mn12) hown (mvT hZ (own_w hw 202 rfl)) (mvT hZ (own_w hw 162 rfl)) (mvT hZ (own_w hw 163 rfl)) (mvT hZ (own_w hw 164 rfl)) (mvT hZ (own_w hw 165 rfl)) (mvT hZ (own_w hw 166 rfl)) (mvT hZ (own_w hw 167 rfl)) (mvT hZ (own_w hw 159 rfl)) (by decide) (backOf (W := 1) (rmGet1 l Z a0 hw [] a1 a3 x1 x2 kr h26 n0 (Nat.le_trans Z0 K27.1) f30 f31 f32 f33) hZ (own_w hw 168 rfl) (own_w hw 4 rfl) (by decide) (by decide)) q34a q34b q34c (g := (mkF m 70 lc29 [(.int 1), (.ref a1), (.ref sh)])) rfl (by rw [hml]; rfl) (Steps.refl _) (argsL := [(.int 1)]) (rest := [(.ref sh)]) (lenOf pd__28I_29Ljava_2flang_2fObject_3b rfl) rfl (by show 2 * 0 + _ ≤ _; exact Nat.le_of_eq rfl) (hb hby d26_70) (fun _ _ => ⟨rfl, e26, (by decide : 0 + 0 ≤ _), (by decide : 0 + 0 ≤ _)⟩)
 dsimp only [Pt.U, Pt.locs, Pt.cells, Pt.slots] at y34 z34 st34 hQ34
 change Stand p l e _ s m _ below meth c T34 L34 k34 n34 at X34
 change L34 = _ ++ Lc34 at l34
 subst y34 z34
 obtain ⟨rfl, N34q, e34⟩ := hQ34
 have N34 : Fr n0 L34 := l34 ▸ Fr.app N28 N34q
 have f35 := (E_x2.wr W26)
 obtain ⟨T36, X36, e36, st36⟩ := castY X34 hx hZ hown (own_w hw 203 rfl) e34 (Ins.self f35) (g := (mkF m 75 lc29 [(.ref x2), (.ref sh)])) rfl rfl (hb hby d26_75)
 have f37 := (F_ordinal_x2.other W26 (Or.inl na25))
 have f38 := (S_OTHER.wr W26)
 obtain ⟨cq39, kq39, q39a, q39b, q39c⟩ := isOf hZ e36 f35
 obtain ⟨_, _, ⟨T39, L39, k39, n39⟩, -, X39, ⟨Lc39, hQ39, l39, y39, z39⟩, st39⟩ := X36.virtualBack hx (y := mn14) (z := mn14) hown (mvT hZ (own_w hw 204 rfl)) (mvT hZ (own_w hw 205 rfl)) (notFace_of_selects (args := #[]) (mvT hZ (own_w hw 207 rfl))) (mvT hZ (own_w hw 207 rfl)) (mvT hZ (own_w hw 206 rfl)) (by decide) (backOf (W := 1) (rmWc44 l Z a0 hw [] x2 wOt h26 n0 (Nat.le_trans Z0 K27.1) f35 f37 f38) hZ (own_w hw 208 rfl) (own_w hw 29 rfl) (by decide) (by decide)) q39a q39c (g := (mkF m 78 lc29 [(.ref x2), (.ref sh)])) rfl (by rw [hml]; rfl) (Steps.refl _) (argsL := []) (rest := [(.ref sh)]) (lenOf pd__28_29Lcom_2fexample_2fmorro_2fmorro_2fanalysis_2fWordClass_3b rfl) rfl (by show 2 * 0 + _ ≤ _; exact Nat.le_of_eq rfl) (hb hby d26_78) (fun _ _ => ⟨rfl, e36, (by decide : 0 + 0 ≤ _), (by decide : 0 + 0 ≤ _)⟩)
 dsimp only [Pt.U, Pt.locs, Pt.cells, Pt.slots] at y39 z39 st39 hQ39
 change Stand p l e _ s m _ below meth c T39 L39 k39 n39 at X39
 change L39 = _ ++ Lc39 at l39
 subst y39 z39
 obtain ⟨rfl, N39q, e39⟩ := hQ39
 have N39 : Fr n0 L39 := l39 ▸ Fr.app N34 N39q
 have f40 := (F_ordinal_wOt.other W26 (Or.inl na23))
 have f42 := (E_wOt.wr W26)
 obtain ⟨cq41, kq41, q41a, q41b, q41c⟩ := isOf hZ e39 f42
 obtain ⟨_, _, ⟨T41, L41, k41, n41⟩, -, X41, ⟨Lc41, hQ41, l41, y41, z41⟩, st41⟩ := X39.virtualBackUp hx (x := mn20) (y := mn13) (owner := nm8) hown (mvT hZ (own_w hw 213 rfl)) (mvT hZ (own_w hw 214 rfl)) (mvT hZ (own_w hw 186 rfl)) (by decide) (mvT hZ (own_w hw 215 rfl)) (mvT hZ (own_w hw 187 rfl)) (backOf (W := 1) (rm25 l Z a0 hw [] wOt (3 : Int32) h26 n0 (Nat.le_trans Z0 K27.1) f40) hZ (own_w hw 190 rfl) (own_w hw 189 rfl) (by decide) (by decide)) q41a q41c (g := (mkF m 81 lc29 [(.ref wOt), (.ref sh)])) rfl (by rw [hml]; rfl) (Steps.refl _) (argsL := []) (rest := [(.ref sh)]) (lenOf pd__28_29I rfl) rfl (by show 2 * 0 + _ ≤ _; exact Nat.le_of_eq rfl) (hb hby d26_81) (fun _ _ => ⟨rfl, e39, (by decide : 0 + 0 ≤ _), (by decide : 0 + 0 ≤ _)⟩)
 dsimp only [Pt.U, Pt.locs, Pt.cells, Pt.slots] at y41 z41 st41 hQ41
 change Stand p l e _ s m _ below meth c T41 L41 k41 n41 at X41
 change L41 = _ ++ Lc41 at l41
 subst y41 z41
 obtain ⟨rfl, N41q, e41⟩ := hQ41
 have N41 : Fr n0 L41 := l41 ▸ Fr.app N39 N41q
 obtain ⟨c43, Ac43, qc43, Sc43, Nc43, Hc43, Gc43⟩ := id Vw26
 have hinc43 := inb_of Sc43 (j := (3 : Int32)) ⟨by decide, by decide⟩
 obtain ⟨c44, Ac44, qc44, Sc44, Nc44, Hc44, Gc44⟩ := id Vw26
 obtain ⟨T45, h45, X45, e45, W45, st45⟩ := stJ X41 hx hZ e41 Ac44 (j := (3 : Int32)) (inb_of Sc44 ⟨by decide, by decide⟩) (g := (mkF m 90 lc29 [(.long (y3 + ((6 : Int32).toInt64))), (.int 3), (.ref sh)])) rfl rfl (hb hby d26_90)
 have K46 : Keep h0 h45 [sh] := K27.wr W45 (Or.inl (List.mem_of_getElem? (i := 0) rfl))
 have N47 := Fr.snoc X45 N41 g_sh
 have Vw45 := Arv.set Ac44 qc44 Sc44 Nc44 Hc44 Gc44 rfl W45 3 rfl (Nat.le_of_ble_eq_true rfl)
 change Arv Z h45 sh ks .long (4 : Int32) [(.long (y0 + ((6 : Int32).toInt64))), (.long y1), (.long y2), (.long (y3 + ((6 : Int32).toInt64)))] (.long 0) at Vw45
 let lc48 : Array Slot := #[.val (.ref a1), .val (.int 0), .val (.ref sh), .val (.int 2), .val (.int 6), .val (.int 0), .val (.int 0), .val (.int 0), .val (.int 2)]
 have pre49 : ∀ t, Steps p.tables e below (T45.setTop (mkF m 59 lc48 [(.int 2)])) t → Steps p.tables e below (s₁.setTop (entryFrame m #[(.ref a1), (.int 0), (.ref sh)] 9)) t := fun t kt => by
  refine pre13 t ?_
  show oS T9 (mkF m 66 lc12 [])
  refine XS.aloadN X9.here hx rfl (hb hby d26_66) rfl rfl ?_
  show oS T9 (mkF m 67 lc12 [(.ref sh)])
  refine XS.aloadN X9.here hx rfl (hb hby d26_67) rfl rfl ?_
  show oS T9 (mkF m 68 lc12 [(.ref a1), (.ref sh)])
  refine XS.iload X9.here hx rfl (hb hby d26_68) rfl ?_
  show oS T9 (mkF m 70 lc12 [(.int 0), (.ref a1), (.ref sh)])
  refine st14.trans ?_
  show oS T14 (mkF m 75 lc12 [(.ref x1), (.ref sh)])
  refine st15 _ ?_
  show oS T15 (mkF m 78 lc12 [(.ref x1), (.ref sh)])
  refine st16.trans ?_
  show oS T16 (mkF m 81 lc12 [(.ref wNo), (.ref sh)])
  refine st17.trans ?_
  show oS T17 (mkF m 84 lc12 [(.int 0), (.ref sh)])
  jvm_step X17.here [X17.here.top, hx, (hb hby d26_84), Value.category]
  show oS T17 (mkF m 85 lc12 [(.int 0), (.ref sh), (.int 0), (.ref sh)])
  refine X17.laload hx (j := (0 : Int32)) (v := (.long y0)) (by rw [e17]; exact Ac18.1) (State.isArrayOf_alike hZ.alike Ac18.2.1) Ac18.2.2 hinc18 (Has.at Hc18 hinc18 rfl) (g := (mkF m 85 lc12 [(.int 0), (.ref sh), (.int 0), (.ref sh)])) rfl rfl (hb hby d26_85) _ ?_
  show oS T17 (mkF m 86 lc12 [(.long y0), (.int 0), (.ref sh)])
  refine XS.iload X17.here hx rfl (hb hby d26_86) rfl ?_
  show oS T17 (mkF m 88 lc12 [(.int 6), (.long y0), (.int 0), (.ref sh)])
  refine XS.i2l X17.here hx rfl (hb hby d26_88) rfl ?_
  show oS T17 (mkF m 89 lc12 [(.long ((6 : Int32).toInt64)), (.long y0), (.int 0), (.ref sh)])
  refine XS.ladd X17.here hx rfl (hb hby d26_89) rfl ?_
  show oS T17 (mkF m 90 lc12 [(.long (y0 + ((6 : Int32).toInt64))), (.int 0), (.ref sh)])
  refine st26 _ ?_
  show oS T26 (mkF m 91 lc12 [])
  refine XS.iinc X26.here hx rfl (hb hby d26_91) rfl (l' := lc29) rfl ?_
  show oS T26 (mkF m 94 lc29 [])
  refine XS.goto X26.here hx rfl (pc0 := 94) (pc' := 57) rfl (hb hby d26_94) (by decide) (by decide) ?_
  show oS T26 (mkF m 57 lc29 [])
  refine XS.iload X26.here hx rfl (hb hby d26_57) rfl ?_
  show oS T26 (mkF m 59 lc29 [(.int 1)])
  refine XS.iload X26.here hx rfl (hb hby d26_59) rfl ?_
  show oS T26 (mkF m 61 lc29 [(.int 0), (.int 1)])
  refine XS.iloadN X26.here hx rfl (hb hby d26_61) rfl ?_
  show oS T26 (mkF m 62 lc29 [(.int 2), (.int 0), (.int 1)])
  refine XS.iadd X26.here hx rfl (hb hby d26_62) rfl ?_
  show oS T26 (mkF m 63 lc29 [(.int 2), (.int 1)])
  refine XS.icmpNo X26.here hx rfl (hb hby d26_63) rfl (tlt (by decide : (1 : Int32) < (2 : Int32))).2.1 ?_
  show oS T26 (mkF m 66 lc29 [])
  refine XS.aloadN X26.here hx rfl (hb hby d26_66) rfl rfl ?_
  show oS T26 (mkF m 67 lc29 [(.ref sh)])
  refine XS.aloadN X26.here hx rfl (hb hby d26_67) rfl rfl ?_
  show oS T26 (mkF m 68 lc29 [(.ref a1), (.ref sh)])
  refine XS.iload X26.here hx rfl (hb hby d26_68) rfl ?_
  show oS T26 (mkF m 70 lc29 [(.int 1), (.ref a1), (.ref sh)])
  refine st34.trans ?_
  show oS T34 (mkF m 75 lc29 [(.ref x2), (.ref sh)])
  refine st36 _ ?_
  show oS T36 (mkF m 78 lc29 [(.ref x2), (.ref sh)])
  refine st39.trans ?_
  show oS T39 (mkF m 81 lc29 [(.ref wOt), (.ref sh)])
  refine st41.trans ?_
  show oS T41 (mkF m 84 lc29 [(.int 3), (.ref sh)])
  jvm_step X41.here [X41.here.top, hx, (hb hby d26_84), Value.category]
  show oS T41 (mkF m 85 lc29 [(.int 3), (.ref sh), (.int 3), (.ref sh)])
  refine X41.laload hx (j := (3 : Int32)) (v := (.long y3)) (by rw [e41]; exact Ac43.1) (State.isArrayOf_alike hZ.alike Ac43.2.1) Ac43.2.2 hinc43 (Has.at Hc43 hinc43 rfl) (g := (mkF m 85 lc29 [(.int 3), (.ref sh), (.int 3), (.ref sh)])) rfl rfl (hb hby d26_85) _ ?_
  show oS T41 (mkF m 86 lc29 [(.long y3), (.int 3), (.ref sh)])
  refine XS.iload X41.here hx rfl (hb hby d26_86) rfl ?_
  show oS T41 (mkF m 88 lc29 [(.int 6), (.long y3), (.int 3), (.ref sh)])
  refine XS.i2l X41.here hx rfl (hb hby d26_88) rfl ?_
  show oS T41 (mkF m 89 lc29 [(.long ((6 : Int32).toInt64)), (.long y3), (.int 3), (.ref sh)])
  refine XS.ladd X41.here hx rfl (hb hby d26_89) rfl ?_
  show oS T41 (mkF m 90 lc29 [(.long (y3 + ((6 : Int32).toInt64))), (.int 3), (.ref sh)])
  refine st45 _ ?_
  show oS T45 (mkF m 91 lc29 [])
  refine XS.iinc X45.here hx rfl (hb hby d26_91) rfl (l' := lc48) rfl ?_
  show oS T45 (mkF m 94 lc48 [])
  refine XS.goto X45.here hx rfl (pc0 := 94) (pc' := 57) rfl (hb hby d26_94) (by decide) (by decide) ?_
  show oS T45 (mkF m 57 lc48 [])
  refine XS.iload X45.here hx rfl (hb hby d26_57) rfl ?_
  exact kt
 let lc50 : Array Slot := #[.val (.ref a1), .val (.int 0), .val (.ref sh), .val (.int 2), .val (.int 6), .val (.int 0), .val (.int 0), .val (.int 1), .val (.int 2)]
 obtain ⟨fs, hr, hrun, hended, hW, hsame⟩ := X45.leave (v := some (.int 1)) (fun h => by rw [Bd.returns] at h; cases h)
 refine ⟨_, _, pre49 _ ?_, hrun, hended, _, _, rfl, ?_, ⟨_, rfl⟩, hW, hsame.mono (by decide) (by decide)⟩
 ·show oS T45 (mkF m 59 lc48 [(.int 2)])
  refine XS.iload X45.here hx rfl (hb hby d26_59) rfl ?_
  show oS T45 (mkF m 61 lc48 [(.int 0), (.int 2)])
  refine XS.iloadN X45.here hx rfl (hb hby d26_61) rfl ?_
  show oS T45 (mkF m 62 lc48 [(.int 2), (.int 0), (.int 2)])
  refine XS.iadd X45.here hx rfl (hb hby d26_62) rfl ?_
  show oS T45 (mkF m 63 lc48 [(.int 2), (.int 2)])
  refine XS.icmpYes X45.here hx rfl (pc0 := 63) (pc' := 97) rfl (hb hby d26_63) rfl (flt (by decide : ¬ ((2 : Int32) < (2 : Int32)))).2.1 (by decide) (by decide) ?_
  show oS T45 (mkF m 97 lc48 [])
  refine XS.iinc X45.here hx rfl (hb hby d26_97) rfl (l' := lc50) rfl ?_
  show oS T45 (mkF m 100 lc50 [])
  refine XS.goto X45.here hx rfl (pc0 := 100) (pc' := 46) rfl (hb hby d26_100) (by decide) (by decide) ?_
  show oS T45 (mkF m 46 lc50 [])
  refine XS.iload X45.here hx rfl (hb hby d26_46) rfl ?_
  show oS T45 (mkF m 48 lc50 [(.int 1)])
  refine XS.iload X45.here hx rfl (hb hby d26_48) rfl ?_
  show oS T45 (mkF m 50 lc50 [(.int 0), (.int 1)])
  refine XS.icmpYes X45.here hx rfl (pc0 := 50) (pc' := 103) rfl (hb hby d26_50) rfl (tlt (by decide : (0 : Int32) < (1 : Int32))).2.2.1 (by decide) (by decide) ?_
  show oS T45 (mkF m 103 lc50 [])
  refine XS.iload X45.here hx rfl (hb hby d26_103) rfl ?_
  show oS T45 (mkF m 105 lc50 [(.int 0)])
  refine XS.iload X45.here hx rfl (hb hby d26_105) rfl ?_
  show oS T45 (mkF m 107 lc50 [(.int 0), (.int 0)])
  refine XS.isub X45.here hx rfl (hb hby d26_107) rfl ?_
  show oS T45 (mkF m 108 lc50 [(.int 0)])
  refine XS.iconst X45.here hx rfl (hb hby d26_108) ?_
  show oS T45 (mkF m 109 lc50 [(.int 1), (.int 0)])
  refine XS.iadd X45.here hx rfl (hb hby d26_109) rfl ?_
  show oS T45 (mkF m 110 lc50 [(.int 1)])
  exact retI X45 hx Bd.returns (hb hby d26_110) hr
 ·show Q_rmCnt0 Z a1 sh a3 x1 x2 kr wNo wOt ks y0 y1 y2 y3 h0 n0 _ T45.heap _
  rw [e45]
  exact ⟨rfl, N47, K46, Vw45⟩
theorem ef_rmCnt1 (m : MethodId) (a1 : Addr) (sh : Addr) : entryFrame m #[(.ref a1), (.int 1), (.ref sh)] 9 = mkF m 0 #[.val (.ref a1), .val (.int 1), .val (.ref sh), .unset, .unset, .unset, .unset, .unset, .unset] [] := by first | (simp [entryFrame, mkF, argsToLocals, Value.category]; done) | rfl
def Q_rmCnt1 (Z : State) (a1 : Addr) (sh : Addr) (a3 : Addr) (x1 : Addr) (x2 : Addr) (kr : ClassId) (wNo : Addr) (wOt : Addr) (ks : ClassId) (y0 : Int64) (y1 : Int64) (y2 : Int64) (y3 : Int64) (h0 : Heap) (n0 : Nat) (v : Option Value) (h : Heap) (L : List Loc) : Prop := v = some (.int 1) ∧ Fr n0 L ∧ Keep h0 h [sh] ∧ Arv Z h sh ks .long (4 : Int32) [(.long (y0 + ((6 : Int32).toInt64))), (.long y1), (.long y2), (.long (y3 + ((6 : Int32).toInt64)))] (.long 0)
set_option maxRecDepth 65536 in
set_option maxHeartbeats 40000000 in
theorem rmCnt1 (l : Launch) (Z : State) (a0 : Array Value) (hw : own_Hw Z a0) (ws : List Jvm.Cond) (a1 : Addr) (sh : Addr) (a3 : Addr) (x1 : Addr) (x2 : Addr) (kr : ClassId) (wNo : Addr) (wOt : Addr) (ks : ClassId) (y0 : Int64) (y1 : Int64) (y2 : Int64) (y3 : Int64) (h0 : Heap) (n0 : Nat) (Z0 : n0 ≤ h0.size) (E_a1 : Exa Z h0 a1 nm3) (F_size_a1 : Fld Z h0 a1 nm3 "size" "I" (.int 2)) (F_elementData_a1 : Fld Z h0 a1 nm3 nm18 nm9 (.ref a3)) (V_a3 : Arv Z h0 a3 kr (.object nm7) (10 : Int32) [(.ref x1), (.ref x2), .null, .null, .null, .null, .null, .null, .null, .null] .null) (E_x1 : Exa Z h0 x1 nm5) (E_x2 : Exa Z h0 x2 nm5) (F_ordinal_x1 : Fld Z h0 x1 nm8 "ordinal" "I" (.int 11)) (F_ordinal_x2 : Fld Z h0 x2 nm8 "ordinal" "I" (.int 44)) (lt_x1 : x1 < n0) (lt_x2 : x2 < n0) (S_NOUN : Sta Z h0 nm6 "NOUN" nm10 (.ref wNo)) (S_OTHER : Sta Z h0 nm6 "OTHER" nm10 (.ref wOt)) (E_wNo : Exa Z h0 wNo nm6) (E_wOt : Exa Z h0 wOt nm6) (F_ordinal_wNo : Fld Z h0 wNo nm8 "ordinal" "I" (.int 0)) (F_ordinal_wOt : Fld Z h0 wOt nm8 "ordinal" "I" (.int 3)) (lt_wNo : wNo < n0) (lt_wOt : wOt < n0) (V_sh : Arv Z h0 sh ks .long (4 : Int32) [(.long y0), (.long y1), (.long y2), (.long y3)] (.long 0)) (g_sh : n0 ≤ sh) :
  MetFree l mn17 (head1 (Jvm.Cond.code mn17 cd9 9 (some .int) :: ws) ({ frames := 3, cells := 0, slots := 0, locals := 41 } : Room)) (fun a U => a = #[(.ref a1), (.int 1), (.ref sh)] ∧ Z.Warmed39 U.vm ∧ U.heap = h0) (fun _ _ _ _ _ => True) (fun _ U o U' => ∃ v L, o = .returned v ∧ Q_rmCnt1 Z a1 sh a3 x1 x2 kr wNo wOt ks y0 y1 y2 y3 h0 n0 v U'.heap L ∧ FrameEnd U o U' L ({ frames := 3, cells := 0, slots := 0, locals := 41 } : Room).cells ({ frames := 3, cells := 0, slots := 0, locals := 41 } : Room).slots) := by
 refine MetFree.of_bodySF (plainFor_of_name pn_com_example_morro_morro_index_WordClassShares) hisR ?_
 intro p e s m args below meth c s₁ Bd hml0 hP hK
 obtain ⟨rfl, hZ, hh⟩ := hP
 have hx := Bd.exec
 have hby := Bd.bytes
 have hml : c.maxLocals = 9 := hml0
 have hown : s.vm.findClass nm16 = some m.cls := findClass_of_methodNamed Bd.named
 have hnm := (name_of_methodNamed Bd.named Bd.method).1
 have X0 : Stand p l e ({ frames := 3, cells := 0, slots := 0, locals := 41 } : Room) s m #[(.ref a1), (.int 1), (.ref sh)] below meth c s₁ [] 0 0 := Stand.of_body Bd
 have e0 : s₁.heap = h0 := by rw [← hh, Bd.state]; rfl
 have N0 := Fr.nil n0
 have pre0 : ∀ t, Steps p.tables e below (s₁.setTop (mkF m 0 #[.val (.ref a1), .val (.int 1), .val (.ref sh), .unset, .unset, .unset, .unset, .unset, .unset] [])) t → Steps p.tables e below (s₁.setTop (entryFrame m #[(.ref a1), (.int 1), (.ref sh)] 9)) t := fun t k => castTop (ef_rmCnt1 m a1 sh) k
 let lc1 : Array Slot := #[.val (.ref a1), .val (.int 1), .val (.ref sh), .unset, .unset, .unset, .unset, .unset, .unset]
 obtain ⟨cq2, kq2, q2a, q2b, q2c⟩ := isOf hZ e0 E_a1
 obtain ⟨_, _, ⟨T2, L2, k2, n2⟩, -, X2, ⟨Lc2, hQ2, l2, y2, z2⟩, st2⟩ := X0.interfaceBack hx (xi := mn18) (y := mn8) hown (mvT hZ (own_w hw 199 rfl)) (mvT hZ (own_w hw 89 rfl)) (mvT hZ (own_w hw 90 rfl)) (mvT hZ (own_w hw 155 rfl)) (mvT hZ (own_w hw 156 rfl)) (mvT hZ (own_w hw 157 rfl)) (mvT hZ (own_w hw 158 rfl)) (mvT hZ (own_w hw 159 rfl)) (by decide) (backOf (W := 1) (rm20 l Z a0 hw [] a1 (2 : Int32) h0 n0 Z0 F_size_a1) hZ (own_w hw 160 rfl) (own_w hw 4 rfl) (by decide) (by decide)) q2a q2b q2c (g := (mkF m 2 lc1 [(.ref a1), (.int 4)])) rfl (by rw [hml]; rfl) (Steps.refl _) (argsL := []) (rest := [(.int 4)]) (lenOf pd__28_29I rfl) rfl (by show 2 * 0 + _ ≤ _; exact Nat.le_of_eq rfl) (hb hby d26_2) (fun _ _ => ⟨rfl, e0, (by decide : 0 + 0 ≤ _), (by decide : 0 + 0 ≤ _)⟩)
 dsimp only [Pt.U, Pt.locs, Pt.cells, Pt.slots] at y2 z2 st2 hQ2
 change Stand p l e _ s m _ below meth c T2 L2 k2 n2 at X2
 change L2 = _ ++ Lc2 at l2
 subst y2 z2
 obtain ⟨rfl, N2q, e2⟩ := hQ2
 have N2 : Fr n0 L2 := l2 ▸ Fr.app N0 N2q
 obtain ⟨_, _, ⟨T3, L3, k3, n3⟩, -, X3, ⟨Lc3, hQ3, l3, y3, z3⟩, st3⟩ := Jvm.LawKit.callS X2 hx (y := mn16) hown (mvT hZ (own_w hw 200 rfl)) (mvT hZ (own_w hw 144 rfl)) (mvT hZ (own_w hw 57 rfl)) (mvT hZ (own_w hw 145 rfl)) (by decide) (backOf (W := 0) (rmM_min_4_2 l Z a0 hw []  h0 n0 Z0 ) hZ (own_w hw 145 rfl) (own_w hw 57 rfl) (by decide) (by decide)) (g := (mkF m 7 lc1 [(.int 2), (.int 4)])) rfl (by rw [hml]; rfl) (argsL := [(.int 4), (.int 2)]) (rest := []) (lenOf pd__28II_29I rfl) rfl (by show 2 * 0 + _ ≤ _; exact Nat.le_of_eq rfl) (hb hby d26_7) (fun _ _ => ⟨rfl, e2, (by decide : 0 + 0 ≤ _), (by decide : 0 + 0 ≤ _)⟩)
 dsimp only [Pt.U, Pt.locs, Pt.cells, Pt.slots] at y3 z3 st3 hQ3
 change Stand p l e _ s m _ below meth c T3 L3 k3 n3 at X3
 change L3 = _ ++ Lc3 at l3
 subst y3 z3
 obtain ⟨rfl, N3q, e3⟩ := hQ3
 have N3 : Fr n0 L3 := l3 ▸ Fr.app N2 N3q
 let lc4 : Array Slot := #[.val (.ref a1), .val (.int 1), .val (.ref sh), .val (.int 2), .unset, .unset, .unset, .unset, .unset]
 let lc5 : Array Slot := #[.val (.ref a1), .val (.int 1), .val (.ref sh), .val (.int 2), .val (.int 6), .unset, .unset, .unset, .unset]
 obtain ⟨_, _, ⟨T6, L6, k6, n6⟩, -, X6, ⟨Lc6, hQ6, l6, y6, z6⟩, st6⟩ := Jvm.LawKit.callS X3 hx (y := mn3) hown (mvT hZ (own_w hw 201 rfl)) (mvT hZ (own_w hw 56 rfl)) (mvT hZ (own_w hw 57 rfl)) (mvT hZ (own_w hw 58 rfl)) (by decide) (backOf (W := 0) (rmM_max_0_0 l Z a0 hw []  h0 n0 Z0 ) hZ (own_w hw 58 rfl) (own_w hw 57 rfl) (by decide) (by decide)) (g := (mkF m 23 lc5 [(.int 0), (.int 0)])) rfl (by rw [hml]; rfl) (argsL := [(.int 0), (.int 0)]) (rest := []) (lenOf pd__28II_29I rfl) rfl (by show 2 * 0 + _ ≤ _; exact Nat.le_of_eq rfl) (hb hby d26_23) (fun _ _ => ⟨rfl, e3, (by decide : 0 + 0 ≤ _), (by decide : 0 + 0 ≤ _)⟩)
 dsimp only [Pt.U, Pt.locs, Pt.cells, Pt.slots] at y6 z6 st6 hQ6
 change Stand p l e _ s m _ below meth c T6 L6 k6 n6 at X6
 change L6 = _ ++ Lc6 at l6
 subst y6 z6
 obtain ⟨rfl, N6q, e6⟩ := hQ6
 have N6 : Fr n0 L6 := l6 ▸ Fr.app N3 N6q
 let lc7 : Array Slot := #[.val (.ref a1), .val (.int 1), .val (.ref sh), .val (.int 2), .val (.int 6), .val (.int 0), .unset, .unset, .unset]
 obtain ⟨cq8, kq8, q8a, q8b, q8c⟩ := isOf hZ e6 E_a1
 obtain ⟨_, _, ⟨T8, L8, k8, n8⟩, -, X8, ⟨Lc8, hQ8, l8, y8, z8⟩, st8⟩ := X6.interfaceBack hx (xi := mn18) (y := mn8) hown (mvT hZ (own_w hw 199 rfl)) (mvT hZ (own_w hw 89 rfl)) (mvT hZ (own_w hw 90 rfl)) (mvT hZ (own_w hw 155 rfl)) (mvT hZ (own_w hw 156 rfl)) (mvT hZ (own_w hw 157 rfl)) (mvT hZ (own_w hw 158 rfl)) (mvT hZ (own_w hw 159 rfl)) (by decide) (backOf (W := 1) (rm20 l Z a0 hw [] a1 (2 : Int32) h0 n0 Z0 F_size_a1) hZ (own_w hw 160 rfl) (own_w hw 4 rfl) (by decide) (by decide)) q8a q8b q8c (g := (mkF m 30 lc7 [(.ref a1), (.int 1)])) rfl (by rw [hml]; rfl) (Steps.refl _) (argsL := []) (rest := [(.int 1)]) (lenOf pd__28_29I rfl) rfl (by show 2 * 0 + _ ≤ _; exact Nat.le_of_eq rfl) (hb hby d26_30) (fun _ _ => ⟨rfl, e6, (by decide : 0 + 0 ≤ _), (by decide : 0 + 0 ≤ _)⟩)
 dsimp only [Pt.U, Pt.locs, Pt.cells, Pt.slots] at y8 z8 st8 hQ8
 change Stand p l e _ s m _ below meth c T8 L8 k8 n8 at X8
 change L8 = _ ++ Lc8 at l8
 subst y8 z8
 obtain ⟨rfl, N8q, e8⟩ := hQ8
 have N8 : Fr n0 L8 := l8 ▸ Fr.app N6 N8q
 obtain ⟨_, _, ⟨T9, L9, k9, n9⟩, -, X9, ⟨Lc9, hQ9, l9, y9, z9⟩, st9⟩ := Jvm.LawKit.callS X8 hx (y := mn16) hown (mvT hZ (own_w hw 200 rfl)) (mvT hZ (own_w hw 144 rfl)) (mvT hZ (own_w hw 57 rfl)) (mvT hZ (own_w hw 145 rfl)) (by decide) (backOf (W := 0) (rmM_min_1_0 l Z a0 hw []  h0 n0 Z0 ) hZ (own_w hw 145 rfl) (own_w hw 57 rfl) (by decide) (by decide)) (g := (mkF m 37 lc7 [(.int 0), (.int 1)])) rfl (by rw [hml]; rfl) (argsL := [(.int 1), (.int 0)]) (rest := []) (lenOf pd__28II_29I rfl) rfl (by show 2 * 0 + _ ≤ _; exact Nat.le_of_eq rfl) (hb hby d26_37) (fun _ _ => ⟨rfl, e8, (by decide : 0 + 0 ≤ _), (by decide : 0 + 0 ≤ _)⟩)
 dsimp only [Pt.U, Pt.locs, Pt.cells, Pt.slots] at y9 z9 st9 hQ9
 change Stand p l e _ s m _ below meth c T9 L9 k9 n9 at X9
 change L9 = _ ++ Lc9 at l9
 subst y9 z9
 obtain ⟨rfl, N9q, e9⟩ := hQ9
 have N9 : Fr n0 L9 := l9 ▸ Fr.app N8 N9q
 let lc10 : Array Slot := #[.val (.ref a1), .val (.int 1), .val (.ref sh), .val (.int 2), .val (.int 6), .val (.int 0), .val (.int 0), .unset, .unset]
 let lc11 : Array Slot := #[.val (.ref a1), .val (.int 1), .val (.ref sh), .val (.int 2), .val (.int 6), .val (.int 0), .val (.int 0), .val (.int 0), .unset]
 let lc12 : Array Slot := #[.val (.ref a1), .val (.int 1), .val (.ref sh), .val (.int 2), .val (.int 6), .val (.int 0), .val (.int 0), .val (.int 0), .val (.int 0)]
 have pre13 : ∀ t, Steps p.tables e below (T9.setTop (mkF m 66 lc12 [])) t → Steps p.tables e below (s₁.setTop (entryFrame m #[(.ref a1), (.int 1), (.ref sh)] 9)) t := fun t kt => by
  refine pre0 t ?_
  show oS s₁ (mkF m 0 lc1 [])
  refine XS.iconst X0.here hx rfl (hb hby d26_0) ?_
  show oS s₁ (mkF m 1 lc1 [(.int 4)])
  refine XS.aloadN X0.here hx rfl (hb hby d26_1) rfl rfl ?_
  show oS s₁ (mkF m 2 lc1 [(.ref a1), (.int 4)])
  refine st2.trans ?_
  show oS T2 (mkF m 7 lc1 [(.int 2), (.int 4)])
  refine st3 _ ?_
  show oS T3 (mkF m 10 lc1 [(.int 2)])
  refine XS.istoreN X3.here hx rfl (hb hby d26_10) rfl (l' := lc4) rfl ?_
  show oS T3 (mkF m 11 lc4 [])
  refine XS.bipush X3.here hx rfl (hb hby d26_11) ?_
  show oS T3 (mkF m 13 lc4 [(.int 12)])
  refine XS.iloadN X3.here hx rfl (hb hby d26_13) rfl ?_
  show oS T3 (mkF m 14 lc4 [(.int 2), (.int 12)])
  refine XS.idiv X3.here hx rfl (hb hby d26_14) rfl (by decide) ?_
  show oS T3 (mkF m 15 lc4 [(.int 6)])
  refine XS.istore X3.here hx rfl (hb hby d26_15) rfl (l' := lc5) rfl ?_
  show oS T3 (mkF m 17 lc5 [])
  refine XS.iconst X3.here hx rfl (hb hby d26_17) ?_
  show oS T3 (mkF m 18 lc5 [(.int 0)])
  refine XS.iloadN X3.here hx rfl (hb hby d26_18) rfl ?_
  show oS T3 (mkF m 19 lc5 [(.int 1), (.int 0)])
  refine XS.iloadN X3.here hx rfl (hb hby d26_19) rfl ?_
  show oS T3 (mkF m 20 lc5 [(.int 2), (.int 1), (.int 0)])
  refine XS.isub X3.here hx rfl (hb hby d26_20) rfl ?_
  show oS T3 (mkF m 21 lc5 [(.int (-1)), (.int 0)])
  refine XS.iconst X3.here hx rfl (hb hby d26_21) ?_
  show oS T3 (mkF m 22 lc5 [(.int 1), (.int (-1)), (.int 0)])
  refine XS.iadd X3.here hx rfl (hb hby d26_22) rfl ?_
  show oS T3 (mkF m 23 lc5 [(.int 0), (.int 0)])
  refine st6 _ ?_
  show oS T6 (mkF m 26 lc5 [(.int 0)])
  refine XS.istore X6.here hx rfl (hb hby d26_26) rfl (l' := lc7) rfl ?_
  show oS T6 (mkF m 28 lc7 [])
  refine XS.iloadN X6.here hx rfl (hb hby d26_28) rfl ?_
  show oS T6 (mkF m 29 lc7 [(.int 1)])
  refine XS.aloadN X6.here hx rfl (hb hby d26_29) rfl rfl ?_
  show oS T6 (mkF m 30 lc7 [(.ref a1), (.int 1)])
  refine st8.trans ?_
  show oS T8 (mkF m 35 lc7 [(.int 2), (.int 1)])
  refine XS.iloadN X8.here hx rfl (hb hby d26_35) rfl ?_
  show oS T8 (mkF m 36 lc7 [(.int 2), (.int 2), (.int 1)])
  refine XS.isub X8.here hx rfl (hb hby d26_36) rfl ?_
  show oS T8 (mkF m 37 lc7 [(.int 0), (.int 1)])
  refine st9 _ ?_
  show oS T9 (mkF m 40 lc7 [(.int 0)])
  refine XS.istore X9.here hx rfl (hb hby d26_40) rfl (l' := lc10) rfl ?_
  show oS T9 (mkF m 42 lc10 [])
  refine XS.iload X9.here hx rfl (hb hby d26_42) rfl ?_
  show oS T9 (mkF m 44 lc10 [(.int 0)])
  refine XS.istore X9.here hx rfl (hb hby d26_44) rfl (l' := lc11) rfl ?_
  show oS T9 (mkF m 46 lc11 [])
  refine XS.iload X9.here hx rfl (hb hby d26_46) rfl ?_
  show oS T9 (mkF m 48 lc11 [(.int 0)])
  refine XS.iload X9.here hx rfl (hb hby d26_48) rfl ?_
  show oS T9 (mkF m 50 lc11 [(.int 0), (.int 0)])
  refine XS.icmpNo X9.here hx rfl (hb hby d26_50) rfl (flt (by decide : ¬ ((0 : Int32) < (0 : Int32)))).2.2.1 ?_
  show oS T9 (mkF m 53 lc11 [])
  refine XS.iload X9.here hx rfl (hb hby d26_53) rfl ?_
  show oS T9 (mkF m 55 lc11 [(.int 0)])
  refine XS.istore X9.here hx rfl (hb hby d26_55) rfl (l' := lc12) rfl ?_
  show oS T9 (mkF m 57 lc12 [])
  refine XS.iload X9.here hx rfl (hb hby d26_57) rfl ?_
  show oS T9 (mkF m 59 lc12 [(.int 0)])
  refine XS.iload X9.here hx rfl (hb hby d26_59) rfl ?_
  show oS T9 (mkF m 61 lc12 [(.int 0), (.int 0)])
  refine XS.iloadN X9.here hx rfl (hb hby d26_61) rfl ?_
  show oS T9 (mkF m 62 lc12 [(.int 2), (.int 0), (.int 0)])
  refine XS.iadd X9.here hx rfl (hb hby d26_62) rfl ?_
  show oS T9 (mkF m 63 lc12 [(.int 2), (.int 0)])
  refine XS.icmpNo X9.here hx rfl (hb hby d26_63) rfl (tlt (by decide : (0 : Int32) < (2 : Int32))).2.1 ?_
  exact kt
 obtain ⟨cq14, kq14, q14a, q14b, q14c⟩ := isOf hZ e9 E_a1
 obtain ⟨_, _, ⟨T14, L14, k14, n14⟩, -, X14, ⟨Lc14, hQ14, l14, y14, z14⟩, st14⟩ := X9.interfaceBack hx (xi := mn19) (y := mn12) hown (mvT hZ (own_w hw 202 rfl)) (mvT hZ (own_w hw 162 rfl)) (mvT hZ (own_w hw 163 rfl)) (mvT hZ (own_w hw 164 rfl)) (mvT hZ (own_w hw 165 rfl)) (mvT hZ (own_w hw 166 rfl)) (mvT hZ (own_w hw 167 rfl)) (mvT hZ (own_w hw 159 rfl)) (by decide) (backOf (W := 1) (rmGet0 l Z a0 hw [] a1 a3 x1 x2 kr h0 n0 Z0 E_a1 F_size_a1 F_elementData_a1 V_a3) hZ (own_w hw 168 rfl) (own_w hw 4 rfl) (by decide) (by decide)) q14a q14b q14c (g := (mkF m 70 lc12 [(.int 0), (.ref a1), (.ref sh)])) rfl (by rw [hml]; rfl) (Steps.refl _) (argsL := [(.int 0)]) (rest := [(.ref sh)]) (lenOf pd__28I_29Ljava_2flang_2fObject_3b rfl) rfl (by show 2 * 0 + _ ≤ _; exact Nat.le_of_eq rfl) (hb hby d26_70) (fun _ _ => ⟨rfl, e9, (by decide : 0 + 0 ≤ _), (by decide : 0 + 0 ≤ _)⟩)
 dsimp only [Pt.U, Pt.locs, Pt.cells, Pt.slots] at y14 z14 st14 hQ14
 change Stand p l e _ s m _ below meth c T14 L14 k14 n14 at X14
 change L14 = _ ++ Lc14 at l14
 subst y14 z14
 obtain ⟨rfl, N14q, e14⟩ := hQ14
 have N14 : Fr n0 L14 := l14 ▸ Fr.app N9 N14q
 obtain ⟨T15, X15, e15, st15⟩ := castY X14 hx hZ hown (own_w hw 203 rfl) e14 (Ins.self E_x1) (g := (mkF m 75 lc12 [(.ref x1), (.ref sh)])) rfl rfl (hb hby d26_75)
 obtain ⟨cq16, kq16, q16a, q16b, q16c⟩ := isOf hZ e15 E_x1
 obtain ⟨_, _, ⟨T16, L16, k16, n16⟩, -, X16, ⟨Lc16, hQ16, l16, y16, z16⟩, st16⟩ := X15.virtualBack hx (y := mn14) (z := mn14) hown (mvT hZ (own_w hw 204 rfl)) (mvT hZ (own_w hw 205 rfl)) (notFace_of_selects (args := #[]) (mvT hZ (own_w hw 207 rfl))) (mvT hZ (own_w hw 207 rfl)) (mvT hZ (own_w hw 206 rfl)) (by decide) (backOf (W := 1) (rmWc11 l Z a0 hw [] x1 wNo h0 n0 Z0 E_x1 F_ordinal_x1 S_NOUN) hZ (own_w hw 208 rfl) (own_w hw 29 rfl) (by decide) (by decide)) q16a q16c (g := (mkF m 78 lc12 [(.ref x1), (.ref sh)])) rfl (by rw [hml]; rfl) (Steps.refl _) (argsL := []) (rest := [(.ref sh)]) (lenOf pd__28_29Lcom_2fexample_2fmorro_2fmorro_2fanalysis_2fWordClass_3b rfl) rfl (by show 2 * 0 + _ ≤ _; exact Nat.le_of_eq rfl) (hb hby d26_78) (fun _ _ => ⟨rfl, e15, (by decide : 0 + 0 ≤ _), (by decide : 0 + 0 ≤ _)⟩)
 dsimp only [Pt.U, Pt.locs, Pt.cells, Pt.slots] at y16 z16 st16 hQ16
 change Stand p l e _ s m _ below meth c T16 L16 k16 n16 at X16
 change L16 = _ ++ Lc16 at l16
 subst y16 z16
 obtain ⟨rfl, N16q, e16⟩ := hQ16
 have N16 : Fr n0 L16 := l16 ▸ Fr.app N14 N16q
 obtain ⟨cq17, kq17, q17a, q17b, q17c⟩ := isOf hZ e16 E_wNo
 obtain ⟨_, _, ⟨T17, L17, k17, n17⟩, -, X17, ⟨Lc17, hQ17, l17, y17, z17⟩, st17⟩ := X16.virtualBackUp hx (x := mn20) (y := mn13) (owner := nm8) hown (mvT hZ (own_w hw 213 rfl)) (mvT hZ (own_w hw 214 rfl)) (mvT hZ (own_w hw 186 rfl)) (by decide) (mvT hZ (own_w hw 215 rfl)) (mvT hZ (own_w hw 187 rfl)) (backOf (W := 1) (rm25 l Z a0 hw [] wNo (0 : Int32) h0 n0 Z0 F_ordinal_wNo) hZ (own_w hw 190 rfl) (own_w hw 189 rfl) (by decide) (by decide)) q17a q17c (g := (mkF m 81 lc12 [(.ref wNo), (.ref sh)])) rfl (by rw [hml]; rfl) (Steps.refl _) (argsL := []) (rest := [(.ref sh)]) (lenOf pd__28_29I rfl) rfl (by show 2 * 0 + _ ≤ _; exact Nat.le_of_eq rfl) (hb hby d26_81) (fun _ _ => ⟨rfl, e16, (by decide : 0 + 0 ≤ _), (by decide : 0 + 0 ≤ _)⟩)
 dsimp only [Pt.U, Pt.locs, Pt.cells, Pt.slots] at y17 z17 st17 hQ17
 change Stand p l e _ s m _ below meth c T17 L17 k17 n17 at X17
 change L17 = _ ++ Lc17 at l17
 subst y17 z17
 obtain ⟨rfl, N17q, e17⟩ := hQ17
 have N17 : Fr n0 L17 := l17 ▸ Fr.app N16 N17q
 obtain ⟨c18, Ac18, qc18, Sc18, Nc18, Hc18, Gc18⟩ := id V_sh
 have hinc18 := inb_of Sc18 (j := (0 : Int32)) ⟨by decide, by decide⟩
 obtain ⟨c19, Ac19, qc19, Sc19, Nc19, Hc19, Gc19⟩ := id V_sh
 have na20 := Exa.neArv E_a1 V_sh (own_w hw 3 rfl)
 have na21 := own_neVV V_a3 V_sh (by decide)
 have na22 := Nat.ne_of_lt (Nat.lt_of_lt_of_le lt_wNo g_sh)
 have na23 := Nat.ne_of_lt (Nat.lt_of_lt_of_le lt_wOt g_sh)
 have na24 := Nat.ne_of_lt (Nat.lt_of_lt_of_le lt_x1 g_sh)
 have na25 := Nat.ne_of_lt (Nat.lt_of_lt_of_le lt_x2 g_sh)
 obtain ⟨T26, h26, X26, e26, W26, st26⟩ := stJ X17 hx hZ e17 Ac19 (j := (0 : Int32)) (inb_of Sc19 ⟨by decide, by decide⟩) (g := (mkF m 90 lc12 [(.long (y0 + ((6 : Int32).toInt64))), (.int 0), (.ref sh)])) rfl rfl (hb hby d26_90)
 have K27 : Keep h0 h26 [sh] := (Keep.refl h0 [sh]).wr W26 (Or.inl (List.mem_of_getElem? (i := 0) rfl))
 have N28 := Fr.snoc X26 N17 g_sh
 have Vw26 := Arv.set Ac19 qc19 Sc19 Nc19 Hc19 Gc19 rfl W26 0 rfl (Nat.le_of_ble_eq_true rfl)
 change Arv Z h26 sh ks .long (4 : Int32) [(.long (y0 + ((6 : Int32).toInt64))), (.long y1), (.long y2), (.long y3)] (.long 0) at Vw26
 let lc29 : Array Slot := #[.val (.ref a1), .val (.int 1), .val (.ref sh), .val (.int 2), .val (.int 6), .val (.int 0), .val (.int 0), .val (.int 0), .val (.int 1)]
 have f30 := (E_a1.wr W26)
 have f31 := (F_size_a1.other W26 (Or.inl na20))
 have f32 := (F_elementData_a1.other W26 (Or.inl na20))
 have f33 := (V_a3.other W26 na21)
 obtain ⟨cq34, kq34, q34a, q34b, q34c⟩ := isOf hZ e26 f30
 obtain ⟨_, _, ⟨T34, L34, k34, n34⟩, -, X34, ⟨Lc34, hQ34, l34, y34, z34⟩, st34⟩ := X26.interfaceBack hx (xi := mn19) (y := mn12) hown (mvT hZ (own_w hw 202 rfl)) (mvT hZ (own_w hw 162 rfl)) (mvT hZ (own_w hw 163 rfl)) (mvT hZ (own_w hw 164 rfl)) (mvT hZ (own_w hw 165 rfl)) (mvT hZ (own_w hw 166 rfl)) (mvT hZ (own_w hw 167 rfl)) (mvT hZ (own_w hw 159 rfl)) (by decide) (backOf (W := 1) (rmGet1 l Z a0 hw [] a1 a3 x1 x2 kr h26 n0 (Nat.le_trans Z0 K27.1) f30 f31 f32 f33) hZ (own_w hw 168 rfl) (own_w hw 4 rfl) (by decide) (by decide)) q34a q34b q34c (g := (mkF m 70 lc29 [(.int 1), (.ref a1), (.ref sh)])) rfl (by rw [hml]; rfl) (Steps.refl _) (argsL := [(.int 1)]) (rest := [(.ref sh)]) (lenOf pd__28I_29Ljava_2flang_2fObject_3b rfl) rfl (by show 2 * 0 + _ ≤ _; exact Nat.le_of_eq rfl) (hb hby d26_70) (fun _ _ => ⟨rfl, e26, (by decide : 0 + 0 ≤ _), (by decide : 0 + 0 ≤ _)⟩)
 dsimp only [Pt.U, Pt.locs, Pt.cells, Pt.slots] at y34 z34 st34 hQ34
 change Stand p l e _ s m _ below meth c T34 L34 k34 n34 at X34
 change L34 = _ ++ Lc34 at l34
 subst y34 z34
 obtain ⟨rfl, N34q, e34⟩ := hQ34
 have N34 : Fr n0 L34 := l34 ▸ Fr.app N28 N34q
 have f35 := (E_x2.wr W26)
 obtain ⟨T36, X36, e36, st36⟩ := castY X34 hx hZ hown (own_w hw 203 rfl) e34 (Ins.self f35) (g := (mkF m 75 lc29 [(.ref x2), (.ref sh)])) rfl rfl (hb hby d26_75)
 have f37 := (F_ordinal_x2.other W26 (Or.inl na25))
 have f38 := (S_OTHER.wr W26)
 obtain ⟨cq39, kq39, q39a, q39b, q39c⟩ := isOf hZ e36 f35
 obtain ⟨_, _, ⟨T39, L39, k39, n39⟩, -, X39, ⟨Lc39, hQ39, l39, y39, z39⟩, st39⟩ := X36.virtualBack hx (y := mn14) (z := mn14) hown (mvT hZ (own_w hw 204 rfl)) (mvT hZ (own_w hw 205 rfl)) (notFace_of_selects (args := #[]) (mvT hZ (own_w hw 207 rfl))) (mvT hZ (own_w hw 207 rfl)) (mvT hZ (own_w hw 206 rfl)) (by decide) (backOf (W := 1) (rmWc44 l Z a0 hw [] x2 wOt h26 n0 (Nat.le_trans Z0 K27.1) f35 f37 f38) hZ (own_w hw 208 rfl) (own_w hw 29 rfl) (by decide) (by decide)) q39a q39c (g := (mkF m 78 lc29 [(.ref x2), (.ref sh)])) rfl (by rw [hml]; rfl) (Steps.refl _) (argsL := []) (rest := [(.ref sh)]) (lenOf pd__28_29Lcom_2fexample_2fmorro_2fmorro_2fanalysis_2fWordClass_3b rfl) rfl (by show 2 * 0 + _ ≤ _; exact Nat.le_of_eq rfl) (hb hby d26_78) (fun _ _ => ⟨rfl, e36, (by decide : 0 + 0 ≤ _), (by decide : 0 + 0 ≤ _)⟩)
 dsimp only [Pt.U, Pt.locs, Pt.cells, Pt.slots] at y39 z39 st39 hQ39
 change Stand p l e _ s m _ below meth c T39 L39 k39 n39 at X39
 change L39 = _ ++ Lc39 at l39
 subst y39 z39
 obtain ⟨rfl, N39q, e39⟩ := hQ39
 have N39 : Fr n0 L39 := l39 ▸ Fr.app N34 N39q
 have f40 := (F_ordinal_wOt.other W26 (Or.inl na23))
 have f42 := (E_wOt.wr W26)
 obtain ⟨cq41, kq41, q41a, q41b, q41c⟩ := isOf hZ e39 f42
 obtain ⟨_, _, ⟨T41, L41, k41, n41⟩, -, X41, ⟨Lc41, hQ41, l41, y41, z41⟩, st41⟩ := X39.virtualBackUp hx (x := mn20) (y := mn13) (owner := nm8) hown (mvT hZ (own_w hw 213 rfl)) (mvT hZ (own_w hw 214 rfl)) (mvT hZ (own_w hw 186 rfl)) (by decide) (mvT hZ (own_w hw 215 rfl)) (mvT hZ (own_w hw 187 rfl)) (backOf (W := 1) (rm25 l Z a0 hw [] wOt (3 : Int32) h26 n0 (Nat.le_trans Z0 K27.1) f40) hZ (own_w hw 190 rfl) (own_w hw 189 rfl) (by decide) (by decide)) q41a q41c (g := (mkF m 81 lc29 [(.ref wOt), (.ref sh)])) rfl (by rw [hml]; rfl) (Steps.refl _) (argsL := []) (rest := [(.ref sh)]) (lenOf pd__28_29I rfl) rfl (by show 2 * 0 + _ ≤ _; exact Nat.le_of_eq rfl) (hb hby d26_81) (fun _ _ => ⟨rfl, e39, (by decide : 0 + 0 ≤ _), (by decide : 0 + 0 ≤ _)⟩)
 dsimp only [Pt.U, Pt.locs, Pt.cells, Pt.slots] at y41 z41 st41 hQ41
 change Stand p l e _ s m _ below meth c T41 L41 k41 n41 at X41
 change L41 = _ ++ Lc41 at l41
 subst y41 z41
 obtain ⟨rfl, N41q, e41⟩ := hQ41
 have N41 : Fr n0 L41 := l41 ▸ Fr.app N39 N41q
 obtain ⟨c43, Ac43, qc43, Sc43, Nc43, Hc43, Gc43⟩ := id Vw26
 have hinc43 := inb_of Sc43 (j := (3 : Int32)) ⟨by decide, by decide⟩
 obtain ⟨c44, Ac44, qc44, Sc44, Nc44, Hc44, Gc44⟩ := id Vw26
 obtain ⟨T45, h45, X45, e45, W45, st45⟩ := stJ X41 hx hZ e41 Ac44 (j := (3 : Int32)) (inb_of Sc44 ⟨by decide, by decide⟩) (g := (mkF m 90 lc29 [(.long (y3 + ((6 : Int32).toInt64))), (.int 3), (.ref sh)])) rfl rfl (hb hby d26_90)
 have K46 : Keep h0 h45 [sh] := K27.wr W45 (Or.inl (List.mem_of_getElem? (i := 0) rfl))
 have N47 := Fr.snoc X45 N41 g_sh
 have Vw45 := Arv.set Ac44 qc44 Sc44 Nc44 Hc44 Gc44 rfl W45 3 rfl (Nat.le_of_ble_eq_true rfl)
 change Arv Z h45 sh ks .long (4 : Int32) [(.long (y0 + ((6 : Int32).toInt64))), (.long y1), (.long y2), (.long (y3 + ((6 : Int32).toInt64)))] (.long 0) at Vw45
 let lc48 : Array Slot := #[.val (.ref a1), .val (.int 1), .val (.ref sh), .val (.int 2), .val (.int 6), .val (.int 0), .val (.int 0), .val (.int 0), .val (.int 2)]
 have pre49 : ∀ t, Steps p.tables e below (T45.setTop (mkF m 59 lc48 [(.int 2)])) t → Steps p.tables e below (s₁.setTop (entryFrame m #[(.ref a1), (.int 1), (.ref sh)] 9)) t := fun t kt => by
  refine pre13 t ?_
  show oS T9 (mkF m 66 lc12 [])
  refine XS.aloadN X9.here hx rfl (hb hby d26_66) rfl rfl ?_
  show oS T9 (mkF m 67 lc12 [(.ref sh)])
  refine XS.aloadN X9.here hx rfl (hb hby d26_67) rfl rfl ?_
  show oS T9 (mkF m 68 lc12 [(.ref a1), (.ref sh)])
  refine XS.iload X9.here hx rfl (hb hby d26_68) rfl ?_
  show oS T9 (mkF m 70 lc12 [(.int 0), (.ref a1), (.ref sh)])
  refine st14.trans ?_
  show oS T14 (mkF m 75 lc12 [(.ref x1), (.ref sh)])
  refine st15 _ ?_
  show oS T15 (mkF m 78 lc12 [(.ref x1), (.ref sh)])
  refine st16.trans ?_
  show oS T16 (mkF m 81 lc12 [(.ref wNo), (.ref sh)])
  refine st17.trans ?_
  show oS T17 (mkF m 84 lc12 [(.int 0), (.ref sh)])
  jvm_step X17.here [X17.here.top, hx, (hb hby d26_84), Value.category]
  show oS T17 (mkF m 85 lc12 [(.int 0), (.ref sh), (.int 0), (.ref sh)])
  refine X17.laload hx (j := (0 : Int32)) (v := (.long y0)) (by rw [e17]; exact Ac18.1) (State.isArrayOf_alike hZ.alike Ac18.2.1) Ac18.2.2 hinc18 (Has.at Hc18 hinc18 rfl) (g := (mkF m 85 lc12 [(.int 0), (.ref sh), (.int 0), (.ref sh)])) rfl rfl (hb hby d26_85) _ ?_
  show oS T17 (mkF m 86 lc12 [(.long y0), (.int 0), (.ref sh)])
  refine XS.iload X17.here hx rfl (hb hby d26_86) rfl ?_
  show oS T17 (mkF m 88 lc12 [(.int 6), (.long y0), (.int 0), (.ref sh)])
  refine XS.i2l X17.here hx rfl (hb hby d26_88) rfl ?_
  show oS T17 (mkF m 89 lc12 [(.long ((6 : Int32).toInt64)), (.long y0), (.int 0), (.ref sh)])
  refine XS.ladd X17.here hx rfl (hb hby d26_89) rfl ?_
  show oS T17 (mkF m 90 lc12 [(.long (y0 + ((6 : Int32).toInt64))), (.int 0), (.ref sh)])
  refine st26 _ ?_
  show oS T26 (mkF m 91 lc12 [])
  refine XS.iinc X26.here hx rfl (hb hby d26_91) rfl (l' := lc29) rfl ?_
  show oS T26 (mkF m 94 lc29 [])
  refine XS.goto X26.here hx rfl (pc0 := 94) (pc' := 57) rfl (hb hby d26_94) (by decide) (by decide) ?_
  show oS T26 (mkF m 57 lc29 [])
  refine XS.iload X26.here hx rfl (hb hby d26_57) rfl ?_
  show oS T26 (mkF m 59 lc29 [(.int 1)])
  refine XS.iload X26.here hx rfl (hb hby d26_59) rfl ?_
  show oS T26 (mkF m 61 lc29 [(.int 0), (.int 1)])
  refine XS.iloadN X26.here hx rfl (hb hby d26_61) rfl ?_
  show oS T26 (mkF m 62 lc29 [(.int 2), (.int 0), (.int 1)])
  refine XS.iadd X26.here hx rfl (hb hby d26_62) rfl ?_
  show oS T26 (mkF m 63 lc29 [(.int 2), (.int 1)])
  refine XS.icmpNo X26.here hx rfl (hb hby d26_63) rfl (tlt (by decide : (1 : Int32) < (2 : Int32))).2.1 ?_
  show oS T26 (mkF m 66 lc29 [])
  refine XS.aloadN X26.here hx rfl (hb hby d26_66) rfl rfl ?_
  show oS T26 (mkF m 67 lc29 [(.ref sh)])
  refine XS.aloadN X26.here hx rfl (hb hby d26_67) rfl rfl ?_
  show oS T26 (mkF m 68 lc29 [(.ref a1), (.ref sh)])
  refine XS.iload X26.here hx rfl (hb hby d26_68) rfl ?_
  show oS T26 (mkF m 70 lc29 [(.int 1), (.ref a1), (.ref sh)])
  refine st34.trans ?_
  show oS T34 (mkF m 75 lc29 [(.ref x2), (.ref sh)])
  refine st36 _ ?_
  show oS T36 (mkF m 78 lc29 [(.ref x2), (.ref sh)])
  refine st39.trans ?_
  show oS T39 (mkF m 81 lc29 [(.ref wOt), (.ref sh)])
  refine st41.trans ?_
  show oS T41 (mkF m 84 lc29 [(.int 3), (.ref sh)])
  jvm_step X41.here [X41.here.top, hx, (hb hby d26_84), Value.category]
  show oS T41 (mkF m 85 lc29 [(.int 3), (.ref sh), (.int 3), (.ref sh)])
  refine X41.laload hx (j := (3 : Int32)) (v := (.long y3)) (by rw [e41]; exact Ac43.1) (State.isArrayOf_alike hZ.alike Ac43.2.1) Ac43.2.2 hinc43 (Has.at Hc43 hinc43 rfl) (g := (mkF m 85 lc29 [(.int 3), (.ref sh), (.int 3), (.ref sh)])) rfl rfl (hb hby d26_85) _ ?_
  show oS T41 (mkF m 86 lc29 [(.long y3), (.int 3), (.ref sh)])
  refine XS.iload X41.here hx rfl (hb hby d26_86) rfl ?_
  show oS T41 (mkF m 88 lc29 [(.int 6), (.long y3), (.int 3), (.ref sh)])
  refine XS.i2l X41.here hx rfl (hb hby d26_88) rfl ?_
  show oS T41 (mkF m 89 lc29 [(.long ((6 : Int32).toInt64)), (.long y3), (.int 3), (.ref sh)])
  refine XS.ladd X41.here hx rfl (hb hby d26_89) rfl ?_
  show oS T41 (mkF m 90 lc29 [(.long (y3 + ((6 : Int32).toInt64))), (.int 3), (.ref sh)])
  refine st45 _ ?_
  show oS T45 (mkF m 91 lc29 [])
  refine XS.iinc X45.here hx rfl (hb hby d26_91) rfl (l' := lc48) rfl ?_
  show oS T45 (mkF m 94 lc48 [])
  refine XS.goto X45.here hx rfl (pc0 := 94) (pc' := 57) rfl (hb hby d26_94) (by decide) (by decide) ?_
  show oS T45 (mkF m 57 lc48 [])
  refine XS.iload X45.here hx rfl (hb hby d26_57) rfl ?_
  exact kt
 let lc50 : Array Slot := #[.val (.ref a1), .val (.int 1), .val (.ref sh), .val (.int 2), .val (.int 6), .val (.int 0), .val (.int 0), .val (.int 1), .val (.int 2)]
 obtain ⟨fs, hr, hrun, hended, hW, hsame⟩ := X45.leave (v := some (.int 1)) (fun h => by rw [Bd.returns] at h; cases h)
 refine ⟨_, _, pre49 _ ?_, hrun, hended, _, _, rfl, ?_, ⟨_, rfl⟩, hW, hsame.mono (by decide) (by decide)⟩
 ·show oS T45 (mkF m 59 lc48 [(.int 2)])
  refine XS.iload X45.here hx rfl (hb hby d26_59) rfl ?_
  show oS T45 (mkF m 61 lc48 [(.int 0), (.int 2)])
  refine XS.iloadN X45.here hx rfl (hb hby d26_61) rfl ?_
  show oS T45 (mkF m 62 lc48 [(.int 2), (.int 0), (.int 2)])
  refine XS.iadd X45.here hx rfl (hb hby d26_62) rfl ?_
  show oS T45 (mkF m 63 lc48 [(.int 2), (.int 2)])
  refine XS.icmpYes X45.here hx rfl (pc0 := 63) (pc' := 97) rfl (hb hby d26_63) rfl (flt (by decide : ¬ ((2 : Int32) < (2 : Int32)))).2.1 (by decide) (by decide) ?_
  show oS T45 (mkF m 97 lc48 [])
  refine XS.iinc X45.here hx rfl (hb hby d26_97) rfl (l' := lc50) rfl ?_
  show oS T45 (mkF m 100 lc50 [])
  refine XS.goto X45.here hx rfl (pc0 := 100) (pc' := 46) rfl (hb hby d26_100) (by decide) (by decide) ?_
  show oS T45 (mkF m 46 lc50 [])
  refine XS.iload X45.here hx rfl (hb hby d26_46) rfl ?_
  show oS T45 (mkF m 48 lc50 [(.int 1)])
  refine XS.iload X45.here hx rfl (hb hby d26_48) rfl ?_
  show oS T45 (mkF m 50 lc50 [(.int 0), (.int 1)])
  refine XS.icmpYes X45.here hx rfl (pc0 := 50) (pc' := 103) rfl (hb hby d26_50) rfl (tlt (by decide : (0 : Int32) < (1 : Int32))).2.2.1 (by decide) (by decide) ?_
  show oS T45 (mkF m 103 lc50 [])
  refine XS.iload X45.here hx rfl (hb hby d26_103) rfl ?_
  show oS T45 (mkF m 105 lc50 [(.int 0)])
  refine XS.iload X45.here hx rfl (hb hby d26_105) rfl ?_
  show oS T45 (mkF m 107 lc50 [(.int 0), (.int 0)])
  refine XS.isub X45.here hx rfl (hb hby d26_107) rfl ?_
  show oS T45 (mkF m 108 lc50 [(.int 0)])
  refine XS.iconst X45.here hx rfl (hb hby d26_108) ?_
  show oS T45 (mkF m 109 lc50 [(.int 1), (.int 0)])
  refine XS.iadd X45.here hx rfl (hb hby d26_109) rfl ?_
  show oS T45 (mkF m 110 lc50 [(.int 1)])
  exact retI X45 hx Bd.returns (hb hby d26_110) hr
 ·show Q_rmCnt1 Z a1 sh a3 x1 x2 kr wNo wOt ks y0 y1 y2 y3 h0 n0 _ T45.heap _
  rw [e45]
  exact ⟨rfl, N47, K46, Vw45⟩
def Q_rmGetP (Z : State) (a1 : Addr) (p2 : Int32) (a3 : Addr) (x1 : Addr) (x2 : Addr) (kr : ClassId) (h0 : Heap) (n0 : Nat) (v : Option Value) (h : Heap) (L : List Loc) : Prop := ∃ xo : Addr, ∃ ko : Int32, v = some (.ref xo) ∧ Fr n0 L ∧ h = h0 ∧ Exa Z h xo nm5 ∧ Fld Z h xo nm8 "ordinal" "I" (.int ko) ∧ (0 ≤ ko.toInt ∧ ko.toInt < 128) ∧ xo < n0
theorem rmGetP (l : Launch) (Z : State) (a0 : Array Value) (hw : own_Hw Z a0) (ws : List Jvm.Cond) (a1 : Addr) (p2 : Int32) (a3 : Addr) (x1 : Addr) (x2 : Addr) (kr : ClassId) (h0 : Heap) (n0 : Nat) (Z0 : n0 ≤ h0.size) (E_a1 : Exa Z h0 a1 nm3) (F_size_a1 : Fld Z h0 a1 nm3 "size" "I" (.int 2)) (F_elementData_a1 : Fld Z h0 a1 nm3 nm18 nm9 (.ref a3)) (V_a3 : Arv Z h0 a3 kr (.object nm7) (10 : Int32) [(.ref x1), (.ref x2), .null, .null, .null, .null, .null, .null, .null, .null] .null) (E_x1 : Exa Z h0 x1 nm5) (E_x2 : Exa Z h0 x2 nm5) (F_ordinal_x1 : Fld Z h0 x1 nm8 "ordinal" "I" (.int 11)) (F_ordinal_x2 : Fld Z h0 x2 nm8 "ordinal" "I" (.int 44)) (lt_x1 : x1 < n0) (lt_x2 : x2 < n0) (hp : p2 = (0 : Int32) ∨ p2 = (1 : Int32)) :
  MetFree l mn12 (head1 (Jvm.Cond.code mn12 cd7 2 (some (.object nm7)) :: ws) ({ frames := 2, cells := 0, slots := 0, locals := 27 } : Room)) (fun a U => a = #[(.ref a1), (.int p2)] ∧ Z.Warmed39 U.vm ∧ U.heap = h0) (fun _ _ _ _ _ => True) (fun _ U o U' => ∃ v L, o = .returned v ∧ Q_rmGetP Z a1 p2 a3 x1 x2 kr h0 n0 v U'.heap L ∧ FrameEnd U o U' L ({ frames := 2, cells := 0, slots := 0, locals := 27 } : Room).cells ({ frames := 2, cells := 0, slots := 0, locals := 27 } : Room).slots) := by
 rcases hp with rfl | rfl
 ·refine (rmGet0 l Z a0 hw ws a1 a3 x1 x2 kr h0 n0 Z0 E_a1 F_size_a1 F_elementData_a1 V_a3).mono (fun _ _ h => h) (fun _ _ _ _ _ h => h) (fun _ _ _ _ _ h => ?_)
  obtain ⟨v, L, h1, ⟨h2, h3, h4⟩, h5⟩ := h
  exact ⟨v, L, h1, ⟨x1, _, h2, h3, h4, (by rw [h4]; exact E_x1), (by rw [h4]; exact F_ordinal_x1), by decide, lt_x1⟩, h5⟩
 ·refine (rmGet1 l Z a0 hw ws a1 a3 x1 x2 kr h0 n0 Z0 E_a1 F_size_a1 F_elementData_a1 V_a3).mono (fun _ _ h => h) (fun _ _ _ _ _ h => h) (fun _ _ _ _ _ h => ?_)
  obtain ⟨v, L, h1, ⟨h2, h3, h4⟩, h5⟩ := h
  exact ⟨v, L, h1, ⟨x2, _, h2, h3, h4, (by rw [h4]; exact E_x2), (by rw [h4]; exact F_ordinal_x2), by decide, lt_x2⟩, h5⟩
def Q_rmCntP (Z : State) (a1 : Addr) (p2 : Int32) (sh : Addr) (a3 : Addr) (x1 : Addr) (x2 : Addr) (kr : ClassId) (wNo : Addr) (wOt : Addr) (ks : ClassId) (y0 : Int64) (y1 : Int64) (y2 : Int64) (y3 : Int64) (h0 : Heap) (n0 : Nat) (v : Option Value) (h : Heap) (L : List Loc) : Prop := v = some (.int 1) ∧ Fr n0 L ∧ Keep h0 h [sh] ∧ Arv Z h sh ks .long (4 : Int32) [(.long (y0 + ((6 : Int32).toInt64))), (.long y1), (.long y2), (.long (y3 + ((6 : Int32).toInt64)))] (.long 0)
theorem rmCntP (l : Launch) (Z : State) (a0 : Array Value) (hw : own_Hw Z a0) (ws : List Jvm.Cond) (a1 : Addr) (p2 : Int32) (sh : Addr) (a3 : Addr) (x1 : Addr) (x2 : Addr) (kr : ClassId) (wNo : Addr) (wOt : Addr) (ks : ClassId) (y0 : Int64) (y1 : Int64) (y2 : Int64) (y3 : Int64) (h0 : Heap) (n0 : Nat) (Z0 : n0 ≤ h0.size) (E_a1 : Exa Z h0 a1 nm3) (F_size_a1 : Fld Z h0 a1 nm3 "size" "I" (.int 2)) (F_elementData_a1 : Fld Z h0 a1 nm3 nm18 nm9 (.ref a3)) (V_a3 : Arv Z h0 a3 kr (.object nm7) (10 : Int32) [(.ref x1), (.ref x2), .null, .null, .null, .null, .null, .null, .null, .null] .null) (E_x1 : Exa Z h0 x1 nm5) (E_x2 : Exa Z h0 x2 nm5) (F_ordinal_x1 : Fld Z h0 x1 nm8 "ordinal" "I" (.int 11)) (F_ordinal_x2 : Fld Z h0 x2 nm8 "ordinal" "I" (.int 44)) (lt_x1 : x1 < n0) (lt_x2 : x2 < n0) (S_NOUN : Sta Z h0 nm6 "NOUN" nm10 (.ref wNo)) (S_OTHER : Sta Z h0 nm6 "OTHER" nm10 (.ref wOt)) (E_wNo : Exa Z h0 wNo nm6) (E_wOt : Exa Z h0 wOt nm6) (F_ordinal_wNo : Fld Z h0 wNo nm8 "ordinal" "I" (.int 0)) (F_ordinal_wOt : Fld Z h0 wOt nm8 "ordinal" "I" (.int 3)) (lt_wNo : wNo < n0) (lt_wOt : wOt < n0) (V_sh : Arv Z h0 sh ks .long (4 : Int32) [(.long y0), (.long y1), (.long y2), (.long y3)] (.long 0)) (g_sh : n0 ≤ sh) (hp : p2 = (0 : Int32) ∨ p2 = (1 : Int32)) :
  MetFree l mn17 (head1 (Jvm.Cond.code mn17 cd9 9 (some .int) :: ws) ({ frames := 3, cells := 0, slots := 0, locals := 41 } : Room)) (fun a U => a = #[(.ref a1), (.int p2), (.ref sh)] ∧ Z.Warmed39 U.vm ∧ U.heap = h0) (fun _ _ _ _ _ => True) (fun _ U o U' => ∃ v L, o = .returned v ∧ Q_rmCntP Z a1 p2 sh a3 x1 x2 kr wNo wOt ks y0 y1 y2 y3 h0 n0 v U'.heap L ∧ FrameEnd U o U' L ({ frames := 3, cells := 0, slots := 0, locals := 41 } : Room).cells ({ frames := 3, cells := 0, slots := 0, locals := 41 } : Room).slots) := by
 rcases hp with rfl | rfl
 ·exact rmCnt0 l Z a0 hw ws a1 sh a3 x1 x2 kr wNo wOt ks y0 y1 y2 y3 h0 n0 Z0 E_a1 F_size_a1 F_elementData_a1 V_a3 E_x1 E_x2 F_ordinal_x1 F_ordinal_x2 lt_x1 lt_x2 S_NOUN S_OTHER E_wNo E_wOt F_ordinal_wNo F_ordinal_wOt lt_wNo lt_wOt V_sh g_sh
 ·exact rmCnt1 l Z a0 hw ws a1 sh a3 x1 x2 kr wNo wOt ks y0 y1 y2 y3 h0 n0 Z0 E_a1 F_size_a1 F_elementData_a1 V_a3 E_x1 E_x2 F_ordinal_x1 F_ordinal_x2 lt_x1 lt_x2 S_NOUN S_OTHER E_wNo E_wOt F_ordinal_wNo F_ordinal_wOt lt_wNo lt_wOt V_sh g_sh
theorem d9_9 : decode cd1 9 = .ok (.iload_n 1, 1) := by decide +kernel
def own_max (p1 : Int32) (p2 : Int32) : Int32 := (if p1 < p2 then p2 else p1)
theorem ef_rmMax (m : MethodId) (p1 : Int32) (p2 : Int32) : entryFrame m #[(.int p1), (.int p2)] 2 = mkF m 0 #[.val (.int p1), .val (.int p2)] [] := by first | (simp [entryFrame, mkF, argsToLocals, Value.category]; done) | rfl
def Q_rmMax (Z : State) (p1 : Int32) (p2 : Int32) (h0 : Heap) (n0 : Nat) (v : Option Value) (h : Heap) (L : List Loc) : Prop := v = some (.int (own_max p1 p2)) ∧ Fr n0 L ∧ h = h0
set_option maxRecDepth 65536 in
set_option maxHeartbeats 40000000 in
theorem rmMax (l : Launch) (Z : State) (a0 : Array Value) (hw : own_Hw Z a0) (ws : List Jvm.Cond) (p1 : Int32) (p2 : Int32) (h0 : Heap) (n0 : Nat) (Z0 : n0 ≤ h0.size) :
  MetFree l mn3 (head1 (Jvm.Cond.code mn3 cd1 2 (some .int) :: ws) ({ frames := 0, cells := 0, slots := 0, locals := 0 } : Room)) (fun a U => a = #[(.int p1), (.int p2)] ∧ Z.Warmed39 U.vm ∧ U.heap = h0) (fun _ _ _ _ _ => True) (fun _ U o U' => ∃ v L, o = .returned v ∧ Q_rmMax Z p1 p2 h0 n0 v U'.heap L ∧ FrameEnd U o U' L ({ frames := 0, cells := 0, slots := 0, locals := 0 } : Room).cells ({ frames := 0, cells := 0, slots := 0, locals := 0 } : Room).slots) := by
 refine MetFree.of_bodySF (Jvm.Free.JP.mathPlain rfl (by decide +kernel)) hisR ?_
 intro p e s m args below meth c s₁ Bd hml0 hP hK
 obtain ⟨rfl, hZ, hh⟩ := hP
 have hx := Bd.exec
 have hby := Bd.bytes
 have hml : c.maxLocals = 2 := hml0
 have hown : s.vm.findClass nm17 = some m.cls := findClass_of_methodNamed Bd.named
 have hnm := (name_of_methodNamed Bd.named Bd.method).1
 have X0 : Stand p l e ({ frames := 0, cells := 0, slots := 0, locals := 0 } : Room) s m #[(.int p1), (.int p2)] below meth c s₁ [] 0 0 := Stand.of_body Bd
 have e0 : s₁.heap = h0 := by rw [← hh, Bd.state]; rfl
 have N0 := Fr.nil n0
 have pre0 : ∀ t, Steps p.tables e below (s₁.setTop (mkF m 0 #[.val (.int p1), .val (.int p2)] [])) t → Steps p.tables e below (s₁.setTop (entryFrame m #[(.int p1), (.int p2)] 2)) t := fun t k => castTop (ef_rmMax m p1 p2) k
 have pre2 : ∀ t, Steps p.tables e below (s₁.setTop (mkF m 2 #[.val (.int p1), .val (.int p2)] [(.int p2), (.int p1)])) t → Steps p.tables e below (s₁.setTop (entryFrame m #[(.int p1), (.int p2)] 2)) t := fun t kt => by
  refine pre0 t ?_
  show oS s₁ (mkF m 0 #[.val (.int p1), .val (.int p2)] [])
  refine XS.iloadN X0.here hx rfl (hb hby d9_0) rfl ?_
  show oS s₁ (mkF m 1 #[.val (.int p1), .val (.int p2)] [(.int p1)])
  refine XS.iloadN X0.here hx rfl (hb hby d9_1) rfl ?_
  exact kt
 by_cases hc2_1 : p1 < p2
 ·obtain ⟨fs, hr, hrun, hended, hW, hsame⟩ := X0.leave (v := some (.int p2)) (fun h => by rw [Bd.returns] at h; cases h)
  refine ⟨_, _, pre2 _ ?_, hrun, hended, _, _, rfl, ?_, ⟨_, rfl⟩, hW, hsame.mono (by decide) (by decide)⟩
  ·show oS s₁ (mkF m 2 #[.val (.int p1), .val (.int p2)] [(.int p2), (.int p1)])
   refine XS.icmpYes X0.here hx rfl (pc0 := 2) (pc' := 9) rfl (hb hby d9_2) rfl (tlt hc2_1).1 (by decide) (by decide) ?_
   show oS s₁ (mkF m 9 #[.val (.int p1), .val (.int p2)] [])
   refine XS.iloadN X0.here hx rfl (hb hby d9_9) rfl ?_
   show oS s₁ (mkF m 10 #[.val (.int p1), .val (.int p2)] [(.int p2)])
   exact retI X0 hx Bd.returns (hb hby d9_10) hr
  ·show Q_rmMax Z p1 p2 h0 n0 _ s₁.heap _
   rw [e0]
   exact ⟨by rw [own_max, if_pos hc2_1], N0, rfl⟩
 ·obtain ⟨fs, hr, hrun, hended, hW, hsame⟩ := X0.leave (v := some (.int p1)) (fun h => by rw [Bd.returns] at h; cases h)
  refine ⟨_, _, pre2 _ ?_, hrun, hended, _, _, rfl, ?_, ⟨_, rfl⟩, hW, hsame.mono (by decide) (by decide)⟩
  ·show oS s₁ (mkF m 2 #[.val (.int p1), .val (.int p2)] [(.int p2), (.int p1)])
   refine XS.icmpNo X0.here hx rfl (hb hby d9_2) rfl (flt hc2_1).1 ?_
   show oS s₁ (mkF m 5 #[.val (.int p1), .val (.int p2)] [])
   refine XS.iloadN X0.here hx rfl (hb hby d9_5) rfl ?_
   show oS s₁ (mkF m 6 #[.val (.int p1), .val (.int p2)] [(.int p1)])
   refine XS.goto X0.here hx rfl (pc0 := 6) (pc' := 10) rfl (hb hby d9_6) (by decide) (by decide) ?_
   show oS s₁ (mkF m 10 #[.val (.int p1), .val (.int p2)] [(.int p1)])
   exact retI X0 hx Bd.returns (hb hby d9_10) hr
  ·show Q_rmMax Z p1 p2 h0 n0 _ s₁.heap _
   rw [e0]
   exact ⟨by rw [own_max, if_neg hc2_1], N0, rfl⟩
def own_min (p1 : Int32) (p2 : Int32) : Int32 := (if p2 < p1 then p2 else p1)
theorem ef_rmMin (m : MethodId) (p1 : Int32) (p2 : Int32) : entryFrame m #[(.int p1), (.int p2)] 2 = mkF m 0 #[.val (.int p1), .val (.int p2)] [] := by first | (simp [entryFrame, mkF, argsToLocals, Value.category]; done) | rfl
def Q_rmMin (Z : State) (p1 : Int32) (p2 : Int32) (h0 : Heap) (n0 : Nat) (v : Option Value) (h : Heap) (L : List Loc) : Prop := v = some (.int (own_min p1 p2)) ∧ Fr n0 L ∧ h = h0
set_option maxRecDepth 65536 in
set_option maxHeartbeats 40000000 in
theorem rmMin (l : Launch) (Z : State) (a0 : Array Value) (hw : own_Hw Z a0) (ws : List Jvm.Cond) (p1 : Int32) (p2 : Int32) (h0 : Heap) (n0 : Nat) (Z0 : n0 ≤ h0.size) :
  MetFree l mn16 (head1 (Jvm.Cond.code mn16 cd8 2 (some .int) :: ws) ({ frames := 0, cells := 0, slots := 0, locals := 0 } : Room)) (fun a U => a = #[(.int p1), (.int p2)] ∧ Z.Warmed39 U.vm ∧ U.heap = h0) (fun _ _ _ _ _ => True) (fun _ U o U' => ∃ v L, o = .returned v ∧ Q_rmMin Z p1 p2 h0 n0 v U'.heap L ∧ FrameEnd U o U' L ({ frames := 0, cells := 0, slots := 0, locals := 0 } : Room).cells ({ frames := 0, cells := 0, slots := 0, locals := 0 } : Room).slots) := by
 refine MetFree.of_bodySF (Jvm.Free.JP.mathPlain rfl (by decide +kernel)) hisR ?_
 intro p e s m args below meth c s₁ Bd hml0 hP hK
 obtain ⟨rfl, hZ, hh⟩ := hP
 have hx := Bd.exec
 have hby := Bd.bytes
 have hml : c.maxLocals = 2 := hml0
 have hown : s.vm.findClass nm17 = some m.cls := findClass_of_methodNamed Bd.named
 have hnm := (name_of_methodNamed Bd.named Bd.method).1
 have X0 : Stand p l e ({ frames := 0, cells := 0, slots := 0, locals := 0 } : Room) s m #[(.int p1), (.int p2)] below meth c s₁ [] 0 0 := Stand.of_body Bd
 have e0 : s₁.heap = h0 := by rw [← hh, Bd.state]; rfl
 have N0 := Fr.nil n0
 have pre0 : ∀ t, Steps p.tables e below (s₁.setTop (mkF m 0 #[.val (.int p1), .val (.int p2)] [])) t → Steps p.tables e below (s₁.setTop (entryFrame m #[(.int p1), (.int p2)] 2)) t := fun t k => castTop (ef_rmMin m p1 p2) k
 have pre2 : ∀ t, Steps p.tables e below (s₁.setTop (mkF m 2 #[.val (.int p1), .val (.int p2)] [(.int p2), (.int p1)])) t → Steps p.tables e below (s₁.setTop (entryFrame m #[(.int p1), (.int p2)] 2)) t := fun t kt => by
  refine pre0 t ?_
  show oS s₁ (mkF m 0 #[.val (.int p1), .val (.int p2)] [])
  refine XS.iloadN X0.here hx rfl (hb hby d18_0) rfl ?_
  show oS s₁ (mkF m 1 #[.val (.int p1), .val (.int p2)] [(.int p1)])
  refine XS.iloadN X0.here hx rfl (hb hby d18_1) rfl ?_
  exact kt
 by_cases hc2_1 : p2 < p1
 ·obtain ⟨fs, hr, hrun, hended, hW, hsame⟩ := X0.leave (v := some (.int p2)) (fun h => by rw [Bd.returns] at h; cases h)
  refine ⟨_, _, pre2 _ ?_, hrun, hended, _, _, rfl, ?_, ⟨_, rfl⟩, hW, hsame.mono (by decide) (by decide)⟩
  ·show oS s₁ (mkF m 2 #[.val (.int p1), .val (.int p2)] [(.int p2), (.int p1)])
   refine XS.icmpYes X0.here hx rfl (pc0 := 2) (pc' := 9) rfl (hb hby d18_2) rfl (tlt hc2_1).2.2.1 (by decide) (by decide) ?_
   show oS s₁ (mkF m 9 #[.val (.int p1), .val (.int p2)] [])
   refine XS.iloadN X0.here hx rfl (hb hby d18_9) rfl ?_
   show oS s₁ (mkF m 10 #[.val (.int p1), .val (.int p2)] [(.int p2)])
   exact retI X0 hx Bd.returns (hb hby d18_10) hr
  ·show Q_rmMin Z p1 p2 h0 n0 _ s₁.heap _
   rw [e0]
   exact ⟨by rw [own_min, if_pos hc2_1], N0, rfl⟩
 ·obtain ⟨fs, hr, hrun, hended, hW, hsame⟩ := X0.leave (v := some (.int p1)) (fun h => by rw [Bd.returns] at h; cases h)
  refine ⟨_, _, pre2 _ ?_, hrun, hended, _, _, rfl, ?_, ⟨_, rfl⟩, hW, hsame.mono (by decide) (by decide)⟩
  ·show oS s₁ (mkF m 2 #[.val (.int p1), .val (.int p2)] [(.int p2), (.int p1)])
   refine XS.icmpNo X0.here hx rfl (hb hby d18_2) rfl (flt hc2_1).2.2.1 ?_
   show oS s₁ (mkF m 5 #[.val (.int p1), .val (.int p2)] [])
   refine XS.iloadN X0.here hx rfl (hb hby d18_5) rfl ?_
   show oS s₁ (mkF m 6 #[.val (.int p1), .val (.int p2)] [(.int p1)])
   refine XS.goto X0.here hx rfl (pc0 := 6) (pc' := 10) rfl (hb hby d18_6) (by decide) (by decide) ?_
   show oS s₁ (mkF m 10 #[.val (.int p1), .val (.int p2)] [(.int p1)])
   exact retI X0 hx Bd.returns (hb hby d18_10) hr
  ·show Q_rmMin Z p1 p2 h0 n0 _ s₁.heap _
   rw [e0]
   exact ⟨by rw [own_min, if_neg hc2_1], N0, rfl⟩
def own_s7 (r : Int64) : Int64 := ((r.toUInt64 >>> ((7 : Int32) &&& 0x3f).toInt64.toUInt64).toInt64)
def own_cont (r : Int64) : Value := .int (((((r &&& (127 : Int64)) ||| (128 : Int64)).toInt32).toInt8.toInt32)).toInt8.toInt32
def own_last (r : Int64) : Value := .int (((r.toInt32).toInt8.toInt32)).toInt8.toInt32
def own_pre : Nat → Int64 → Nat → List Value → List Value
 | 0, _, _, vs => vs
 | f + 1, r, p, vs => own_pre f (own_s7 r) (p + 1) (vs.set p (own_cont r))
def own_it : Nat → Int64 → Int64
 | 0, r => r
 | f + 1, r => own_it f (own_s7 r)
theorem own_preLen : ∀ (f : Nat) (r : Int64) (p : Nat) (vs : List Value), (own_pre f r p vs).length = vs.length
 | 0, _, _, _ => rfl
 | f + 1, r, p, vs => by rw [own_pre, own_preLen f, List.length_set]
theorem own_getSet (vs : List Value) (p k : Nat) (c d : Value) (h : p < vs.length) : (vs.set p c).getD k d = if p = k then c else vs.getD k d := by
 simp only [List.getD_eq_getElem?_getD, List.getElem?_set]
 by_cases q : p = k
 ·subst q; simp [h]
 ·simp [q]
theorem own_preGet (d : Value) : ∀ (f : Nat) (r : Int64) (p : Nat) (vs : List Value) (k : Nat), p + f ≤ vs.length → (own_pre f r p vs).getD k d = if p ≤ k ∧ k < p + f then own_cont (own_it (k - p) r) else vs.getD k d
 | 0, r, p, vs, k, _ => by rw [own_pre, if_neg (by omega)]
 | f + 1, r, p, vs, k, h => by
  rw [own_pre, own_preGet d f (own_s7 r) (p + 1) _ k (by rw [List.length_set]; omega), own_getSet vs p k _ d (by omega)]
  by_cases q : p = k
  ·subst q
   rw [if_neg (by omega), if_pos rfl, if_pos (by omega), Nat.sub_self]; rfl
  ·rw [if_neg q]
   by_cases q2 : p + 1 ≤ k ∧ k < p + 1 + f
   ·rw [if_pos q2, if_pos (by omega)]
    obtain ⟨j, hj⟩ : ∃ j, k - p = j + 1 := ⟨k - (p + 1), by omega⟩
    have hj2 : k - (p + 1) = j := by omega
    rw [hj, hj2]; rfl
   ·rw [if_neg q2, if_neg (by omega)]
theorem own_s7I {r : Int64} (h : 0 ≤ r.toInt) : (own_s7 r).toInt = r.toInt / 128 := by
 have e := Jvm.Kit.i64_lushr (Jvm.Kit.i64_nonneg.mpr h) (n := ((7 : Int32) &&& 0x3f).toInt64.toUInt64) (k := 7) (by decide) (by decide)
 exact e
theorem own_itI : ∀ (n : Nat) {r : Int64}, 0 ≤ r.toInt → (own_it n r).toInt = r.toInt / 2 ^ (7 * n)
 | 0, r, h => by rw [own_it]; simp
 | n + 1, r, h => by
  have e := own_s7I h
  rw [own_it, own_itI n (by rw [e]; omega), e, Int.ediv_ediv_of_nonneg (by decide)]
  congr 1
  rw [show 7 * (n + 1) = 7 * n + 7 by omega, Int.pow_add, Int.mul_comm]; rfl
theorem own_small {r : Int64} (h0 : 0 ≤ r.toInt) (h1 : r.toInt < 128) : (r &&& (-128 : Int64)) = (0 : Int64) := by
 have e : r &&& (127 : Int64) = r := by
  apply Int64.toInt_inj.mp
  rw [Jvm.Kit.i64_mask r _ (k := 7) (by decide) (by decide)]; omega
 rw [← e, Int64.and_assoc]
 have z : (127 : Int64) &&& (-128 : Int64) = 0 := by decide
 rw [z, Int64.and_zero]
theorem own_big {r : Int64} (h1 : 128 ≤ r.toInt) : ¬ ((r &&& (-128 : Int64)) = (0 : Int64)) := fun q => by
 have e : r &&& (127 : Int64) = r := by
  have o : (127 : Int64) ||| (-128 : Int64) = -1 := by decide
  have a : r &&& (-1 : Int64) = r := Int64.and_neg_one
  have b : r &&& ((127 : Int64) ||| (-128 : Int64)) = (r &&& (127 : Int64)) ||| (r &&& (-128 : Int64)) := by
   apply Int64.toBitVec_inj.mp
   simp only [Int64.toBitVec_and, Int64.toBitVec_or]
   exact BitVec.and_or_distrib_left
  rw [o, a, q, Int64.or_zero] at b
  exact b.symm
 have m := Jvm.Kit.i64_mask r (127 : Int64) (k := 7) (by decide) (by decide)
 rw [e] at m; omega
theorem d19_6 : decode cd10 6 = .ok (.lload 5, 2) := by decide +kernel
theorem d19_8 : decode cd10 8 = .ok (.ldc2_w 65, 3) := by decide +kernel
theorem d19_11 : decode cd10 11 = .ok (.land, 1) := by decide +kernel
theorem d19_12 : decode cd10 12 = .ok (.lconst 0, 1) := by decide +kernel
theorem d19_13 : decode cd10 13 = .ok (.lcmp, 1) := by decide +kernel
theorem d19_14 : decode cd10 14 = .ok (.ifCond .eq 32, 3) := by decide +kernel
theorem d19_17 : decode cd10 17 = .ok (.aload_n 2, 1) := by decide +kernel
theorem d19_18 : decode cd10 18 = .ok (.iload 4, 2) := by decide +kernel
theorem d19_20 : decode cd10 20 = .ok (.lload 5, 2) := by decide +kernel
theorem d19_22 : decode cd10 22 = .ok (.ldc2_w 67, 3) := by decide +kernel
theorem d19_25 : decode cd10 25 = .ok (.land, 1) := by decide +kernel
theorem d19_26 : decode cd10 26 = .ok (.ldc2_w 69, 3) := by decide +kernel
theorem d19_29 : decode cd10 29 = .ok (.lor, 1) := by decide +kernel
theorem d19_30 : decode cd10 30 = .ok (.l2i, 1) := by decide +kernel
theorem d19_31 : decode cd10 31 = .ok (.i2b, 1) := by decide +kernel
theorem d19_32 : decode cd10 32 = .ok (.bastore, 1) := by decide +kernel
theorem d19_33 : decode cd10 33 = .ok (.iinc 4 1, 3) := by decide +kernel
theorem d19_36 : decode cd10 36 = .ok (.lload 5, 2) := by decide +kernel
theorem d19_38 : decode cd10 38 = .ok (.bipush 7, 2) := by decide +kernel
theorem d19_40 : decode cd10 40 = .ok (.lushr, 1) := by decide +kernel
theorem d19_41 : decode cd10 41 = .ok (.lstore 5, 2) := by decide +kernel
theorem d19_43 : decode cd10 43 = .ok (.goto (-37), 3) := by decide +kernel
set_option maxRecDepth 65536 in
set_option maxHeartbeats 40000000 in
theorem own_turn {p : Program} {l : Launch} {e : Env} {R : Room} {s : State} {m : MethodId} {args : Array Value} {below : List Frame} {meth : Method} {c : Code} {T0 : State} {locs : List Loc} {cells slots : Nat} {Z : State} {a0 : Array Value} {h0 : Heap} {n0 : Nat} (q0 : Int64) (a2 : Addr) (i3 : Int32) (i4 : Int32) (j5 : Int64) (kk : ClassId) (nn : Int32) (vs : List Value) (o : Nat)
  (X0 : Stand p l e R s m args below meth c T0 locs cells slots) (hx : p.tables.exec = Jvm.exec) (hZ : Z.Warmed39 s.vm) (hw : own_Hw Z a0) (hby : c.code = cd10) (hml : c.maxLocals = 7) (hown : s.vm.findClass "com/example/morro/morro/index/IndexOutput" = some m.cls) (e0 : T0.heap = h0) (N0 : Fr n0 locs) (Z0 : n0 ≤ h0.size) (V_a2 : Arv Z h0 a2 kk .byte nn vs (.int 0)) (g_a2 : n0 ≤ a2) (ho : i4.toNatClampNeg = o) (hin : ¬ i4 < 0 ∧ i4 < nn) (hol : o < vs.length) (hb6 : ¬ ((j5 &&& (-128 : Int64)) = (0 : Int64))) :
  ∃ (T' : State) (h' : Heap) (L' : List Loc), Stand p l e R s m args below meth c T' L' cells slots ∧ T'.heap = h' ∧ Fr n0 L' ∧ Keep h0 h' [a2] ∧ Arv Z h' a2 kk .byte nn (vs.set o (own_cont j5)) (.int 0) ∧ ∀ t, Steps p.tables e below (T'.setTop (mkF m 6 #[.val (.long q0), .second, .val (.ref a2), .val (.int i3), .val (.int (i4 + (1 : Int32))), .val (.long ((j5.toUInt64 >>> ((7 : Int32) &&& 0x3f).toInt64.toUInt64).toInt64)), .second] [])) t → Steps p.tables e below (T0.setTop (mkF m 6 #[.val (.long q0), .second, .val (.ref a2), .val (.int i3), .val (.int i4), .val (.long j5), .second] [])) t := by
 have pre0 : ∀ t, Steps p.tables e below (T0.setTop (mkF m 6 #[.val (.long q0), .second, .val (.ref a2), .val (.int i3), .val (.int i4), .val (.long j5), .second] [])) t → Steps p.tables e below (T0.setTop (mkF m 6 #[.val (.long q0), .second, .val (.ref a2), .val (.int i3), .val (.int i4), .val (.long j5), .second] [])) t := fun t k => k
 let lc1 : Array Slot := #[.val (.long q0), .second, .val (.ref a2), .val (.int i3), .val (.int i4), .val (.long j5), .second]
 obtain ⟨c2, Ac2, qc2, Sc2, Nc2, Hc2, Gc2⟩ := id V_a2
 obtain ⟨T3, h3, X3, e3, W3, st3⟩ := stB X0 hx hZ e0 Ac2 (j := i4) (inb_of Sc2 hin) (g := (mkF m 32 lc1 [(.int ((((j5 &&& (127 : Int64)) ||| (128 : Int64)).toInt32).toInt8.toInt32)), (.int i4), (.ref a2)])) rfl rfl (hb hby d19_32)
 have K4 : Keep h0 h3 [a2] := (Keep.refl h0 [a2]).wr W3 (Or.inl (List.mem_of_getElem? (i := 0) rfl))
 have N5 := Fr.snoc X3 N0 g_a2
 have Vw3 := Arv.set Ac2 qc2 Sc2 Nc2 Hc2 Gc2 (fits_nar_byte _) W3 o ho hol
 let lc6 : Array Slot := #[.val (.long q0), .second, .val (.ref a2), .val (.int i3), .val (.int (i4 + (1 : Int32))), .val (.long j5), .second]
 let lc7 : Array Slot := #[.val (.long q0), .second, .val (.ref a2), .val (.int i3), .val (.int (i4 + (1 : Int32))), .val (.long ((j5.toUInt64 >>> ((7 : Int32) &&& 0x3f).toInt64.toUInt64).toInt64)), .second]
 have pre8 : ∀ t, Steps p.tables e below (T3.setTop (mkF m 6 lc7 [])) t → Steps p.tables e below (T0.setTop (mkF m 6 #[.val (.long q0), .second, .val (.ref a2), .val (.int i3), .val (.int i4), .val (.long j5), .second] [])) t := fun t kt => by
  refine pre0 t ?_
  show oS T0 (mkF m 6 lc1 [])
  refine XS.lload X0.here hx rfl (hb hby d19_6) rfl ?_
  show oS T0 (mkF m 8 lc1 [(.long j5)])
  refine X0.ldc2Long hx hown (mvT hZ (own_w hw 154 rfl)) (g := (mkF m 8 lc1 [(.long j5)])) rfl (hb hby d19_8) _ ?_
  show oS T0 (mkF m 11 lc1 [(.long (-128 : Int64)), (.long j5)])
  refine XS.land X0.here hx rfl (hb hby d19_11) rfl ?_
  show oS T0 (mkF m 12 lc1 [(.long (j5 &&& (-128 : Int64)))])
  refine XS.lconst X0.here hx rfl (hb hby d19_12) ?_
  show oS T0 (mkF m 13 lc1 [(.long 0), (.long (j5 &&& (-128 : Int64)))])
  refine XS.lcmp X0.here hx rfl (hb hby d19_13) rfl ?_
  show oS T0 (mkF m 14 lc1 [(.int (lcmpW (j5 &&& (-128 : Int64)) (0 : Int64)))])
  refine XS.ifNo X0.here hx rfl (hb hby d19_14) rfl (own_leqF hb6) ?_
  show oS T0 (mkF m 17 lc1 [])
  refine XS.aloadN X0.here hx rfl (hb hby d19_17) rfl rfl ?_
  show oS T0 (mkF m 18 lc1 [(.ref a2)])
  refine XS.iload X0.here hx rfl (hb hby d19_18) rfl ?_
  show oS T0 (mkF m 20 lc1 [(.int i4), (.ref a2)])
  refine XS.lload X0.here hx rfl (hb hby d19_20) rfl ?_
  show oS T0 (mkF m 22 lc1 [(.long j5), (.int i4), (.ref a2)])
  refine X0.ldc2Long hx hown (mvT hZ (own_w hw 236 rfl)) (g := (mkF m 22 lc1 [(.long j5), (.int i4), (.ref a2)])) rfl (hb hby d19_22) _ ?_
  show oS T0 (mkF m 25 lc1 [(.long 127), (.long j5), (.int i4), (.ref a2)])
  refine XS.land X0.here hx rfl (hb hby d19_25) rfl ?_
  show oS T0 (mkF m 26 lc1 [(.long (j5 &&& (127 : Int64))), (.int i4), (.ref a2)])
  refine X0.ldc2Long hx hown (mvT hZ (own_w hw 237 rfl)) (g := (mkF m 26 lc1 [(.long (j5 &&& (127 : Int64))), (.int i4), (.ref a2)])) rfl (hb hby d19_26) _ ?_
  show oS T0 (mkF m 29 lc1 [(.long 128), (.long (j5 &&& (127 : Int64))), (.int i4), (.ref a2)])
  refine XS.lor X0.here hx rfl (hb hby d19_29) rfl ?_
  show oS T0 (mkF m 30 lc1 [(.long ((j5 &&& (127 : Int64)) ||| (128 : Int64))), (.int i4), (.ref a2)])
  refine XS.l2i X0.here hx rfl (hb hby d19_30) rfl ?_
  show oS T0 (mkF m 31 lc1 [(.int (((j5 &&& (127 : Int64)) ||| (128 : Int64)).toInt32)), (.int i4), (.ref a2)])
  refine XS.i2b X0.here hx rfl (hb hby d19_31) rfl ?_
  show oS T0 (mkF m 32 lc1 [(.int ((((j5 &&& (127 : Int64)) ||| (128 : Int64)).toInt32).toInt8.toInt32)), (.int i4), (.ref a2)])
  refine st3 _ ?_
  show oS T3 (mkF m 33 lc1 [])
  refine XS.iinc X3.here hx rfl (hb hby d19_33) rfl (l' := lc6) rfl ?_
  show oS T3 (mkF m 36 lc6 [])
  refine XS.lload X3.here hx rfl (hb hby d19_36) rfl ?_
  show oS T3 (mkF m 38 lc6 [(.long j5)])
  refine XS.bipush X3.here hx rfl (hb hby d19_38) ?_
  show oS T3 (mkF m 40 lc6 [(.int 7), (.long j5)])
  refine XS.lushr X3.here hx rfl (hb hby d19_40) rfl ?_
  show oS T3 (mkF m 41 lc6 [(.long ((j5.toUInt64 >>> ((7 : Int32) &&& 0x3f).toInt64.toUInt64).toInt64))])
  refine XS.lstore X3.here hx rfl (hb hby d19_41) rfl (l' := lc7) rfl ?_
  show oS T3 (mkF m 43 lc7 [])
  refine XS.goto X3.here hx rfl (pc0 := 43) (pc' := 6) rfl (hb hby d19_43) (by decide) (by decide) ?_
  exact kt
 exact ⟨T3, h3, _, X3, e3, N5, K4, Vw3, pre8⟩
set_option maxRecDepth 65536 in
set_option maxHeartbeats 40000000 in
theorem own_out {p : Program} {l : Launch} {e : Env} {R : Room} {s : State} {m : MethodId} {args : Array Value} {below : List Frame} {meth : Method} {c : Code} {T0 : State} {locs : List Loc} {cells slots : Nat} {Z : State} {a0 : Array Value} {h0 : Heap} {n0 : Nat} (q0 : Int64) (a2 : Addr) (i3 : Int32) (i4 : Int32) (j5 : Int64)
  (X0 : Stand p l e R s m args below meth c T0 locs cells slots) (hx : p.tables.exec = Jvm.exec) (hZ : Z.Warmed39 s.vm) (hw : own_Hw Z a0) (hby : c.code = cd10) (hml : c.maxLocals = 7) (hown : s.vm.findClass "com/example/morro/morro/index/IndexOutput" = some m.cls) (e0 : T0.heap = h0) (N0 : Fr n0 locs) (Z0 : n0 ≤ h0.size) (hb6 : (j5 &&& (-128 : Int64)) = (0 : Int64)) :
  ∃ T' : State, Stand p l e R s m args below meth c T' locs cells slots ∧ T'.heap = h0 ∧ ∀ t, Steps p.tables e below (T'.setTop (mkF m 46 #[.val (.long q0), .second, .val (.ref a2), .val (.int i3), .val (.int i4), .val (.long j5), .second] [])) t → Steps p.tables e below (T0.setTop (mkF m 6 #[.val (.long q0), .second, .val (.ref a2), .val (.int i3), .val (.int i4), .val (.long j5), .second] [])) t := by
 have pre0 : ∀ t, Steps p.tables e below (T0.setTop (mkF m 6 #[.val (.long q0), .second, .val (.ref a2), .val (.int i3), .val (.int i4), .val (.long j5), .second] [])) t → Steps p.tables e below (T0.setTop (mkF m 6 #[.val (.long q0), .second, .val (.ref a2), .val (.int i3), .val (.int i4), .val (.long j5), .second] [])) t := fun t k => k
 let lc1 : Array Slot := #[.val (.long q0), .second, .val (.ref a2), .val (.int i3), .val (.int i4), .val (.long j5), .second]
 have pre2 : ∀ t, Steps p.tables e below (T0.setTop (mkF m 46 lc1 [])) t → Steps p.tables e below (T0.setTop (mkF m 6 #[.val (.long q0), .second, .val (.ref a2), .val (.int i3), .val (.int i4), .val (.long j5), .second] [])) t := fun t kt => by
  refine pre0 t ?_
  show oS T0 (mkF m 6 lc1 [])
  refine XS.lload X0.here hx rfl (hb hby d19_6) rfl ?_
  show oS T0 (mkF m 8 lc1 [(.long j5)])
  refine X0.ldc2Long hx hown (mvT hZ (own_w hw 154 rfl)) (g := (mkF m 8 lc1 [(.long j5)])) rfl (hb hby d19_8) _ ?_
  show oS T0 (mkF m 11 lc1 [(.long (-128 : Int64)), (.long j5)])
  refine XS.land X0.here hx rfl (hb hby d19_11) rfl ?_
  show oS T0 (mkF m 12 lc1 [(.long (j5 &&& (-128 : Int64)))])
  refine XS.lconst X0.here hx rfl (hb hby d19_12) ?_
  show oS T0 (mkF m 13 lc1 [(.long 0), (.long (j5 &&& (-128 : Int64)))])
  refine XS.lcmp X0.here hx rfl (hb hby d19_13) rfl ?_
  show oS T0 (mkF m 14 lc1 [(.int (lcmpW (j5 &&& (-128 : Int64)) (0 : Int64)))])
  refine XS.ifYes X0.here hx rfl (pc0 := 14) (pc' := 46) rfl (hb hby d19_14) rfl (own_leqT hb6) (by decide) (by decide) ?_
  exact kt
 exact ⟨T0, X0, e0, pre2⟩
theorem own_inc {i : Int32} {f : Nat} {N : Nat} (h0 : 0 ≤ i.toInt) (h1 : i.toInt + (f + 1) < N) (hN : N ≤ 2000000000) : (i + (1 : Int32)).toInt = i.toInt + 1 := by
 have e : (1 : Int32).toInt = 1 := by decide
 rw [Jvm.Kit.i32_add (by omega) (by omega), e]
theorem own_lt {i nn : Int32} {N : Nat} (h0 : 0 ≤ i.toInt) (h1 : i.toInt < N) (hN : nn.toInt = N) : ¬ i < 0 ∧ i < nn := by
 rw [Int32.lt_iff_toInt_lt, Int32.lt_iff_toInt_lt, Int32.toInt_zero]; omega
theorem own_loop {p : Program} {l : Launch} {e : Env} {R : Room} {s : State} {m : MethodId} {args : Array Value} {below : List Frame} {meth : Method} {c : Code} {cells slots : Nat} {Z : State} {a0 : Array Value} {n0 : Nat} (q0 : Int64) (a2 : Addr) (i3 : Int32) (kk : ClassId) (nn : Int32) (N : Nat) (hN : nn.toInt = N) (hN2 : N ≤ 2000000000)
  (hx : p.tables.exec = Jvm.exec) (hZ : Z.Warmed39 s.vm) (hw : own_Hw Z a0) (hby : c.code = cd10) (hml : c.maxLocals = 7) (hown : s.vm.findClass "com/example/morro/morro/index/IndexOutput" = some m.cls) (g_a2 : n0 ≤ a2) :
  ∀ (f : Nat) (T0 : State) (locs : List Loc) (h0 : Heap) (i4 : Int32) (j5 : Int64) (vs : List Value), Stand p l e R s m args below meth c T0 locs cells slots → T0.heap = h0 → Fr n0 locs → n0 ≤ h0.size → Arv Z h0 a2 kk .byte nn vs (.int 0) → vs.length = N → 0 ≤ i4.toInt → i4.toInt + f < N → 0 ≤ j5.toInt → j5.toInt < 2 ^ (7 * (f + 1)) → (f ≠ 0 → 2 ^ (7 * f) ≤ j5.toInt) →
   ∃ (T' : State) (h' : Heap) (L' : List Loc) (i' : Int32) (j' : Int64), i'.toInt = i4.toInt + f ∧ j' = own_it f j5 ∧ Stand p l e R s m args below meth c T' L' cells slots ∧ T'.heap = h' ∧ Fr n0 L' ∧ Keep h0 h' [a2] ∧ Arv Z h' a2 kk .byte nn (own_pre f j5 i4.toNatClampNeg vs) (.int 0) ∧
    ∀ t, Steps p.tables e below (T'.setTop (mkF m 46 #[.val (.long q0), .second, .val (.ref a2), .val (.int i3), .val (.int i'), .val (.long j'), .second] [])) t → Steps p.tables e below (T0.setTop (mkF m 6 #[.val (.long q0), .second, .val (.ref a2), .val (.int i3), .val (.int i4), .val (.long j5), .second] [])) t := by
 intro f
 induction f with
 | zero =>
  intro T0 locs h0 i4 j5 vs X0 e0 N0 Z0 V hl hi hi2 hj hj2 hj3
  obtain ⟨T1, X1, e1, st⟩ := own_out q0 a2 i3 i4 j5 X0 hx hZ hw hby hml hown e0 N0 Z0 (own_small hj (by simpa using hj2))
  exact ⟨T1, h0, locs, i4, j5, by omega, rfl, X1, e1, N0, Keep.refl _ _, V, st⟩
 | succ f ih =>
  intro T0 locs h0 i4 j5 vs X0 e0 N0 Z0 V hl hi hi2 hj hj2 hj3
  have hge : (128 : Int) ≤ j5.toInt := by
   have q := hj3 (by omega)
   have q2 : (2 : Int) ^ 7 ≤ 2 ^ (7 * (f + 1)) := by
    have : (2 : Nat) ^ 7 ≤ 2 ^ (7 * (f + 1)) := Nat.pow_le_pow_right (by decide) (by omega)
    exact_mod_cast this
   omega
  have hk : i4.toNatClampNeg < vs.length := by
   show i4.toInt.toNat < vs.length
   omega
  obtain ⟨T1, h1, L1, X1, e1, N1, K1, V1, st1⟩ := own_turn q0 a2 i3 i4 j5 kk nn vs i4.toNatClampNeg X0 hx hZ hw hby hml hown e0 N0 Z0 V g_a2 rfl (own_lt hi (by omega) hN) hk (own_big hge)
  have ei := own_inc (f := f) (N := N) hi (by omega) hN2
  have es := own_s7I hj
  have q1 : (2 : Int) ^ (7 * (f + 1 + 1)) = 2 ^ (7 * (f + 1)) * 128 := by rw [show 7 * (f + 1 + 1) = 7 * (f + 1) + 7 by omega, Int.pow_add]; rfl
  have q2 : (2 : Int) ^ (7 * (f + 1)) = 2 ^ (7 * f) * 128 := by rw [show 7 * (f + 1) = 7 * f + 7 by omega, Int.pow_add]; rfl
  have q3 := hj3 (by omega)
  obtain ⟨T2, h2, L2, i2, j2, a1, a2', X2, e2, N2, K2, V2, st2⟩ := ih T1 L1 h1 (i4 + (1 : Int32)) (own_s7 j5) (vs.set i4.toNatClampNeg (own_cont j5)) X1 e1 N1 (Nat.le_trans Z0 K1.1) V1 (by rw [List.length_set]; exact hl) (by omega) (by omega) (by rw [es]; omega) (by rw [es]; omega) (fun _ => by rw [es]; omega)
  have ec : (i4 + (1 : Int32)).toNatClampNeg = i4.toNatClampNeg + 1 := by
   show (i4 + (1 : Int32)).toInt.toNat = i4.toInt.toNat + 1
   omega
  rw [ec] at V2
  exact ⟨T2, h2, L2, i2, j2, by omega, a2', X2, e2, N2, K1.trans K2 (allS (P := fun x => x ∈ [a2] ∨ h0.size ≤ x) (Or.inl (List.mem_of_getElem? (i := 0) rfl)) all0), V2, fun t kt => st1 t (st2 t kt)⟩
theorem own_rv {i p ln : Int32} {f N : Nat} (h : i.toInt = p.toInt + f) (hl : ln.toInt = f + 1) (h0 : 0 ≤ p.toInt) (h1 : p.toInt + f < N) (hN : N ≤ 2000000000) : i + (1 : Int32) = p + ln := by
 have e : (1 : Int32).toInt = 1 := by decide
 apply Int32.toInt_inj.mp
 rw [Jvm.Kit.i32_add (by omega) (by omega), Jvm.Kit.i32_add (by omega) (by omega), e]; omega
theorem d19_0 : decode cd10 0 = .ok (.iload_n 3, 1) := by decide +kernel
theorem d19_1 : decode cd10 1 = .ok (.istore 4, 2) := by decide +kernel
theorem d19_3 : decode cd10 3 = .ok (.lload_n 0, 1) := by decide +kernel
theorem d19_4 : decode cd10 4 = .ok (.lstore 5, 2) := by decide +kernel
theorem d19_46 : decode cd10 46 = .ok (.aload_n 2, 1) := by decide +kernel
theorem d19_47 : decode cd10 47 = .ok (.iload 4, 2) := by decide +kernel
theorem d19_49 : decode cd10 49 = .ok (.lload 5, 2) := by decide +kernel
theorem d19_51 : decode cd10 51 = .ok (.l2i, 1) := by decide +kernel
theorem d19_52 : decode cd10 52 = .ok (.i2b, 1) := by decide +kernel
theorem d19_53 : decode cd10 53 = .ok (.bastore, 1) := by decide +kernel
theorem d19_54 : decode cd10 54 = .ok (.iload 4, 2) := by decide +kernel
theorem d19_56 : decode cd10 56 = .ok (.iconst 1, 1) := by decide +kernel
theorem d19_57 : decode cd10 57 = .ok (.iadd, 1) := by decide +kernel
theorem d19_58 : decode cd10 58 = .ok (.ireturn, 1) := by decide +kernel
theorem pn_com_example_morro_morro_index_IndexOutput : plainName "com/example/morro/morro/index/IndexOutput" = true := by first | (simp [plainName, overriddenIn]; done) | decide +kernel
theorem ef_rm19 (m : MethodId) (q1 : Int64) (a2 : Addr) (p3 : Int32) : entryFrame m #[(.long q1), (.ref a2), (.int p3)] 7 = mkF m 0 #[.val (.long q1), .second, .val (.ref a2), .val (.int p3), .unset, .unset, .unset] [] := by first | (simp [entryFrame, mkF, argsToLocals, Value.category]; done) | rfl
def Q_rm19 (Z : State) (q1 : Int64) (a2 : Addr) (p3 : Int32) (kk : ClassId) (nn : Int32) (vs : List Value) (f : Nat) (N : Nat) (ln : Int32) (h0 : Heap) (n0 : Nat) (v : Option Value) (h : Heap) (L : List Loc) : Prop := v = some (.int (p3 + ln)) ∧ Fr n0 L ∧ Keep h0 h [a2] ∧ Arv Z h a2 kk .byte nn ((own_pre f q1 p3.toNatClampNeg vs).set (p3.toNatClampNeg + f) (own_last (own_it f q1))) (.int 0)
set_option maxRecDepth 65536 in
set_option maxHeartbeats 40000000 in
theorem rm19 (l : Launch) (Z : State) (a0 : Array Value) (hw : own_Hw Z a0) (ws : List Jvm.Cond) (q1 : Int64) (a2 : Addr) (p3 : Int32) (kk : ClassId) (nn : Int32) (vs : List Value) (f : Nat) (N : Nat) (ln : Int32) (h0 : Heap) (n0 : Nat) (Z0 : n0 ≤ h0.size) (V_a2 : Arv Z h0 a2 kk .byte nn vs (.int 0)) (g_a2 : n0 ≤ a2) (hN : nn.toInt = N) (hN2 : N ≤ 2000000000) (hl : vs.length = N) (hi : 0 ≤ p3.toInt) (hi2 : p3.toInt + f < N) (hj : 0 ≤ q1.toInt) (hj2 : q1.toInt < 2 ^ (7 * (f + 1))) (hj3 : f ≠ 0 → 2 ^ (7 * f) ≤ q1.toInt) (hln : ln.toInt = f + 1) :
  MetFree l mn21 (head1 (Jvm.Cond.code mn21 cd10 7 (some .int) :: ws) ({ frames := 0, cells := 0, slots := 0, locals := 0 } : Room)) (fun a U => a = #[(.long q1), (.ref a2), (.int p3)] ∧ Z.Warmed39 U.vm ∧ U.heap = h0) (fun _ _ _ _ _ => True) (fun _ U o U' => ∃ v L, o = .returned v ∧ Q_rm19 Z q1 a2 p3 kk nn vs f N ln h0 n0 v U'.heap L ∧ FrameEnd U o U' L ({ frames := 0, cells := 0, slots := 0, locals := 0 } : Room).cells ({ frames := 0, cells := 0, slots := 0, locals := 0 } : Room).slots) := by
 refine MetFree.of_bodySF (plainFor_of_name pn_com_example_morro_morro_index_IndexOutput) hisR ?_
 intro p e s m args below meth c s₁ Bd hml0 hP hK
 obtain ⟨rfl, hZ, hh⟩ := hP
 have hx := Bd.exec
 have hby := Bd.bytes
 have hml : c.maxLocals = 7 := hml0
 have hown : s.vm.findClass "com/example/morro/morro/index/IndexOutput" = some m.cls := findClass_of_methodNamed Bd.named
 have hnm := (name_of_methodNamed Bd.named Bd.method).1
 have X0 : Stand p l e ({ frames := 0, cells := 0, slots := 0, locals := 0 } : Room) s m #[(.long q1), (.ref a2), (.int p3)] below meth c s₁ [] 0 0 := Stand.of_body Bd
 have e0 : s₁.heap = h0 := by rw [← hh, Bd.state]; rfl
 have N0 := Fr.nil n0
 have pre0 : ∀ t, Steps p.tables e below (s₁.setTop (mkF m 0 #[.val (.long q1), .second, .val (.ref a2), .val (.int p3), .unset, .unset, .unset] [])) t → Steps p.tables e below (s₁.setTop (entryFrame m #[(.long q1), (.ref a2), (.int p3)] 7)) t := fun t k => castTop (ef_rm19 m q1 a2 p3) k
 let lc1 : Array Slot := #[.val (.long q1), .second, .val (.ref a2), .val (.int p3), .unset, .unset, .unset]
 let lc2 : Array Slot := #[.val (.long q1), .second, .val (.ref a2), .val (.int p3), .val (.int p3), .unset, .unset]
 let lc3 : Array Slot := #[.val (.long q1), .second, .val (.ref a2), .val (.int p3), .val (.int p3), .val (.long q1), .second]
 have pre4 : ∀ t, Steps p.tables e below (s₁.setTop (mkF m 6 lc3 [])) t → Steps p.tables e below (s₁.setTop (entryFrame m #[(.long q1), (.ref a2), (.int p3)] 7)) t := fun t kt => by
  refine pre0 t ?_
  show oS s₁ (mkF m 0 lc1 [])
  refine XS.iloadN X0.here hx rfl (hb hby d19_0) rfl ?_
  show oS s₁ (mkF m 1 lc1 [(.int p3)])
  refine XS.istore X0.here hx rfl (hb hby d19_1) rfl (l' := lc2) rfl ?_
  show oS s₁ (mkF m 3 lc2 [])
  refine XS.lloadN X0.here hx rfl (hb hby d19_3) rfl ?_
  show oS s₁ (mkF m 4 lc2 [(.long q1)])
  refine XS.lstore X0.here hx rfl (hb hby d19_4) rfl (l' := lc3) rfl ?_
  exact kt
 obtain ⟨TL, hL, LL, i', j', ha, hb, XL, eL, NL, KL, VL, stL⟩ := own_loop q1 a2 p3 kk nn N hN hN2 hx hZ hw hby hml hown g_a2 f s₁ [] h0 p3 q1 vs X0 e0 N0 Z0 V_a2 hl hi hi2 hj hj2 hj3
 subst hb
 have ho : i'.toNatClampNeg = p3.toNatClampNeg + f := by
  show i'.toInt.toNat = p3.toInt.toNat + f
  omega
 let lc5 : Array Slot := #[.val (.long q1), .second, .val (.ref a2), .val (.int p3), .val (.int i'), .val (.long (own_it f q1)), .second]
 obtain ⟨c6, Ac6, qc6, Sc6, Nc6, Hc6, Gc6⟩ := id VL
 obtain ⟨T7, h7, X7, e7, W7, st7⟩ := stB XL hx hZ eL Ac6 (j := i') (inb_of Sc6 (own_lt (by omega) (by omega) hN)) (g := (mkF m 53 lc5 [(.int (((own_it f q1).toInt32).toInt8.toInt32)), (.int i'), (.ref a2)])) rfl rfl (hb hby d19_53)
 have K8 : Keep h0 h7 [a2] := KL.wr W7 (Or.inl (List.mem_of_getElem? (i := 0) rfl))
 have N9 := Fr.snoc X7 NL g_a2
 have Vw7 := Arv.set Ac6 qc6 Sc6 Nc6 Hc6 Gc6 (fits_nar_byte _) W7 (p3.toNatClampNeg + f) ho (by rw [own_preLen, hl]; show p3.toInt.toNat + f < N; omega)
 obtain ⟨fs, hr, hrun, hended, hW, hsame⟩ := X7.leave (v := some (.int (i' + (1 : Int32)))) (fun h => by rw [Bd.returns] at h; cases h)
 refine ⟨_, _, pre4 _ ?_, hrun, hended, _, _, rfl, ?_, ⟨_, rfl⟩, hW, hsame.mono (by decide) (by decide)⟩
 ·refine stL _ ?_
  show oS TL (mkF m 46 lc5 [])
  refine XS.aloadN XL.here hx rfl (hb hby d19_46) rfl rfl ?_
  show oS TL (mkF m 47 lc5 [(.ref a2)])
  refine XS.iload XL.here hx rfl (hb hby d19_47) rfl ?_
  show oS TL (mkF m 49 lc5 [(.int i'), (.ref a2)])
  refine XS.lload XL.here hx rfl (hb hby d19_49) rfl ?_
  show oS TL (mkF m 51 lc5 [(.long (own_it f q1)), (.int i'), (.ref a2)])
  refine XS.l2i XL.here hx rfl (hb hby d19_51) rfl ?_
  show oS TL (mkF m 52 lc5 [(.int ((own_it f q1).toInt32)), (.int i'), (.ref a2)])
  refine XS.i2b XL.here hx rfl (hb hby d19_52) rfl ?_
  show oS TL (mkF m 53 lc5 [(.int (((own_it f q1).toInt32).toInt8.toInt32)), (.int i'), (.ref a2)])
  refine st7 _ ?_
  show oS T7 (mkF m 54 lc5 [])
  refine XS.iload X7.here hx rfl (hb hby d19_54) rfl ?_
  show oS T7 (mkF m 56 lc5 [(.int i')])
  refine XS.iconst X7.here hx rfl (hb hby d19_56) ?_
  show oS T7 (mkF m 57 lc5 [(.int 1), (.int i')])
  refine XS.iadd X7.here hx rfl (hb hby d19_57) rfl ?_
  show oS T7 (mkF m 58 lc5 [(.int (i' + (1 : Int32)))])
  exact retI X7 hx Bd.returns (hb hby d19_58) hr
 ·show Q_rm19 Z q1 a2 p3 kk nn vs f N ln h0 n0 _ T7.heap _
  rw [e7]
  exact ⟨by rw [own_rv ha hln hi (by omega) hN2], N9, K8, Vw7⟩
theorem own_bor {h0 h : Heap} {r a : Addr} (o : r = a ∨ h.size ≤ r) (b : h0.size ≤ a) (l : h0.size ≤ h.size) : h0.size ≤ r := o.elim (fun e => e ▸ b) (Nat.le_trans l)
def own_cap (nn sz : Int32) : Int32 := if nn < (sz + (9 : Int32)) then own_max ((2 : Int32) * nn) (sz + (9 : Int32)) else nn
theorem own_sz9 {sz : Int32} (h : 0 ≤ sz.toInt ∧ sz.toInt ≤ 100) : (sz + (9 : Int32)).toInt = sz.toInt + 9 := by
 have e : (9 : Int32).toInt = 9 := by decide
 rw [Jvm.Kit.i32_add (by omega) (by omega), e]
theorem own_2n {nn : Int32} (h : 8 ≤ nn.toInt ∧ nn.toInt ≤ 100) : ((2 : Int32) * nn).toInt = 2 * nn.toInt := by
 have e : (2 : Int32).toInt = 2 := by decide
 rw [Jvm.Kit.i32_mul (by rw [e]; omega) (by rw [e]; omega), e]
theorem own_maxI (x y : Int32) : (own_max x y).toInt = if x.toInt < y.toInt then y.toInt else x.toInt := by
 unfold own_max
 simp only [Int32.lt_iff_toInt_lt]
 split <;> rfl
theorem own_minI (x y : Int32) : (own_min x y).toInt = if y.toInt < x.toInt then y.toInt else x.toInt := by
 unfold own_min
 simp only [Int32.lt_iff_toInt_lt]
 split <;> rfl
theorem own_capI {nn sz : Int32} (h : 8 ≤ nn.toInt ∧ nn.toInt ≤ 32) (g : 0 ≤ sz.toInt ∧ sz.toInt ≤ 16) : (own_cap nn sz).toInt = if nn.toInt < sz.toInt + 9 then (if 2 * nn.toInt < sz.toInt + 9 then sz.toInt + 9 else 2 * nn.toInt) else nn.toInt := by
 unfold own_cap
 simp only [Int32.lt_iff_toInt_lt, own_sz9 (sz := sz) (by omega)]
 split
 ·rw [own_maxI, own_2n (by omega), own_sz9 (by omega)]
 ·rfl
theorem own_nneg {x : Int32} (h : 0 ≤ x.toInt) : ¬ x < 0 := by rw [Int32.lt_iff_toInt_lt, Int32.toInt_zero]; omega
theorem own_neI {x y : Int32} (h : x.toInt ≠ y.toInt) : ¬ (x = y) := fun q => h (by rw [q])
theorem own_cpl {a b c : Int32} {vs : List Value} {dv : Value} (hm : c.toNatClampNeg = a.toNatClampNeg) (h : a.toNatClampNeg ≤ b.toNatClampNeg) : (((List.replicate b.toNatClampNeg dv).take (0 : Int32).toNatClampNeg) ++ ((List.range c.toNatClampNeg).map fun i => vs.getD ((0 : Int32).toNatClampNeg + i) dv) ++ ((List.replicate b.toNatClampNeg dv).drop ((0 : Int32).toNatClampNeg + c.toNatClampNeg))).length = b.toNatClampNeg := by
 have z0 : (0 : Int32).toNatClampNeg = 0 := by decide
 rw [z0, hm]
 simp only [List.length_append, List.length_take, List.length_map, List.length_range, List.length_drop, List.length_replicate]
 omega
theorem d17_0 : decode cd0 0 = .ok (.iload_n 1, 1) := by decide +kernel
theorem d17_1 : decode cd0 1 = .ok (.aload_n 0, 1) := by decide +kernel
theorem d17_2 : decode cd0 2 = .ok (.arraylength, 1) := by decide +kernel
theorem d17_3 : decode cd0 3 = .ok (.if_icmp .ne 11, 3) := by decide +kernel
theorem d17_14 : decode cd0 14 = .ok (.iload_n 1, 1) := by decide +kernel
theorem d17_15 : decode cd0 15 = .ok (.newarray .byte, 2) := by decide +kernel
theorem d17_17 : decode cd0 17 = .ok (.astore_n 2, 1) := by decide +kernel
theorem d17_18 : decode cd0 18 = .ok (.aload_n 0, 1) := by decide +kernel
theorem d17_19 : decode cd0 19 = .ok (.iconst 0, 1) := by decide +kernel
theorem d17_20 : decode cd0 20 = .ok (.aload_n 2, 1) := by decide +kernel
theorem d17_21 : decode cd0 21 = .ok (.iconst 0, 1) := by decide +kernel
theorem d17_22 : decode cd0 22 = .ok (.aload_n 0, 1) := by decide +kernel
theorem d17_23 : decode cd0 23 = .ok (.arraylength, 1) := by decide +kernel
theorem d17_24 : decode cd0 24 = .ok (.iload_n 1, 1) := by decide +kernel
theorem d17_25 : decode cd0 25 = .ok (.invokestatic 304, 3) := by decide +kernel
theorem d17_28 : decode cd0 28 = .ok (.invokestatic 150, 3) := by decide +kernel
theorem d17_31 : decode cd0 31 = .ok (.aload_n 2, 1) := by decide +kernel
theorem d17_32 : decode cd0 32 = .ok (.areturn, 1) := by decide +kernel
theorem pn_java_util_Arrays : plainName "java/util/Arrays" = true := by first | (simp [plainName, overriddenIn]; done) | decide +kernel
theorem ef_rmCopy16 (m : MethodId) (a1 : Addr) (p2 : Int32) : entryFrame m #[(.ref a1), (.int p2)] 3 = mkF m 0 #[.val (.ref a1), .val (.int p2), .unset] [] := by first | (simp [entryFrame, mkF, argsToLocals, Value.category]; done) | rfl
def Q_rmCopy16 (Z : State) (a1 : Addr) (p2 : Int32) (kk : ClassId) (nn : Int32) (vs : List Value) (h0 : Heap) (n0 : Nat) (v : Option Value) (h : Heap) (L : List Loc) : Prop := ∃ r : Addr, ∃ kr : ClassId, ∃ vr : List Value, v = some (.ref r) ∧ Fr n0 L ∧ Keep h0 h [] ∧ h0.size ≤ r ∧ n0 ≤ r ∧ Arv Z h r kr .byte p2 vr (.int 0) ∧ vr.length = p2.toNatClampNeg
set_option maxRecDepth 65536 in
set_option maxHeartbeats 40000000 in
theorem rmCopy16 (l : Launch) (Z : State) (a0 : Array Value) (hw : own_Hw Z a0) (ws : List Jvm.Cond) (a1 : Addr) (p2 : Int32) (kk : ClassId) (nn : Int32) (vs : List Value) (h0 : Heap) (n0 : Nat) (Z0 : n0 ≤ h0.size) (V_a1 : Arv Z h0 a1 kk .byte nn vs (.int 0)) (hlt : nn.toInt < p2.toInt) (hn0 : 0 ≤ nn.toInt) (hcap : p2.toInt ≤ 16) :
  MetFree l mn22 (head1 (Jvm.Cond.code mn22 cd0 3 (some (.array .byte)) :: ws) ({ frames := 1, cells := 1, slots := 16, locals := 24 } : Room)) (fun a U => a = #[(.ref a1), (.int p2)] ∧ Z.Warmed39 U.vm ∧ U.heap = h0) (fun _ _ _ _ _ => True) (fun _ U o U' => ∃ v L, o = .returned v ∧ Q_rmCopy16 Z a1 p2 kk nn vs h0 n0 v U'.heap L ∧ FrameEnd U o U' L ({ frames := 1, cells := 1, slots := 16, locals := 24 } : Room).cells ({ frames := 1, cells := 1, slots := 16, locals := 24 } : Room).slots) := by
 refine MetFree.of_bodySF (plainFor_of_name pn_java_util_Arrays) hisR ?_
 intro p e s m args below meth c s₁ Bd hml0 hP hK
 obtain ⟨rfl, hZ, hh⟩ := hP
 have hx := Bd.exec
 have hby := Bd.bytes
 have hml : c.maxLocals = 3 := hml0
 have hown : s.vm.findClass "java/util/Arrays" = some m.cls := findClass_of_methodNamed Bd.named
 have hnm := (name_of_methodNamed Bd.named Bd.method).1
 have X0 : Stand p l e ({ frames := 1, cells := 1, slots := 16, locals := 24 } : Room) s m #[(.ref a1), (.int p2)] below meth c s₁ [] 0 0 := Stand.of_body Bd
 have e0 : s₁.heap = h0 := by rw [← hh, Bd.state]; rfl
 have N0 := Fr.nil n0
 have pre0 : ∀ t, Steps p.tables e below (s₁.setTop (mkF m 0 #[.val (.ref a1), .val (.int p2), .unset] [])) t → Steps p.tables e below (s₁.setTop (entryFrame m #[(.ref a1), (.int p2)] 3)) t := fun t k => castTop (ef_rmCopy16 m a1 p2) k
 obtain ⟨c1, Ac1, -, Sc1, Nc1, -, -⟩ := id V_a1
 obtain ⟨T2, h2, k2, X2, e2, E2, A2, st2⟩ := newP X0 hx hZ (own_w hw 78 rfl) e0 (g := (mkF m 15 #[.val (.ref a1), .val (.int p2), .unset] [(.int p2)])) rfl (hb hby d17_15) rfl (own_nneg (by omega)) (cap := 16) (by show p2.toInt.toNat ≤ 16; omega) (by decide) (by decide) (by decide)
 obtain ⟨b2, g2⟩ : ∃ z, z = h0.size := ⟨_, rfl⟩
 rw [← g2] at A2 st2
 have ne_a1_b2 : a1 ≠ b2 := Nat.ne_of_lt (Nat.lt_of_lt_of_le V_a1.lt (Nat.le_of_eq g2.symm))
 have g_b2 : n0 ≤ b2 := Nat.le_trans Z0 (Nat.le_of_eq g2.symm)
 have sz_b2 : h0.size ≤ b2 := Nat.le_trans (Keep.refl h0 []).1 (Nat.le_of_eq g2.symm)
 have K3 : Keep h0 h2 [] := (Keep.refl h0 []).ext E2
 have V_b2 : Arv Z h2 b2 k2 .byte p2 [] (.int 0) := Arv.new A2 (own_nneg (by omega))
 have Vp : Arv Z h2 b2 k2 .byte p2 (List.replicate p2.toNatClampNeg (.int 0)) (.int 0) := V_b2.pad (pad_rep [] (.int 0) _)
 have f4 := (V_a1.ext E2)
 obtain ⟨c5, Ac5, -, Sc5, Nc5, -, -⟩ := id f4
 obtain ⟨_, _, ⟨T6, L6, k6, n6⟩, -, X6, ⟨Lc6, hQ6, l6, y6, z6⟩, st6⟩ := Jvm.LawKit.callS X2 hx (y := mn16) hown (mvT hZ (own_w hw 143 rfl)) (mvT hZ (own_w hw 144 rfl)) (mvT hZ (own_w hw 57 rfl)) (mvT hZ (own_w hw 145 rfl)) (by decide) (backOf (W := 4) (rmMin l Z a0 hw [] nn p2 h2 n0 (Nat.le_trans Z0 K3.1) ) hZ (own_w hw 145 rfl) (own_w hw 57 rfl) (by decide) (by decide)) (g := (mkF m 25 #[.val (.ref a1), .val (.int p2), .val (.ref b2)] [(.int p2), (.int nn), (.int 0), (.ref b2), (.int 0), (.ref a1)])) rfl (by rw [hml]; rfl) (argsL := [(.int nn), (.int p2)]) (rest := [(.int 0), (.ref b2), (.int 0), (.ref a1)]) (lenOf pd__28II_29I rfl) rfl (by show 2 * 0 + _ ≤ _; exact Nat.le_of_eq rfl) (hb hby d17_25) (fun _ _ => ⟨rfl, e2, (by decide : 1 + 0 ≤ _), (by decide : 16 + 0 ≤ _)⟩)
 dsimp only [Pt.U, Pt.locs, Pt.cells, Pt.slots] at y6 z6 st6 hQ6
 change Stand p l e _ s m _ below meth c T6 L6 k6 n6 at X6
 change L6 = _ ++ Lc6 at l6
 subst y6 z6
 obtain ⟨rfl, N6q, e6⟩ := hQ6
 have N6 : Fr n0 L6 := l6 ▸ Fr.app N0 N6q
 have hm := own_minI nn p2
 rw [if_neg (by omega)] at hm
 have hmn : (own_min nn p2).toNatClampNeg = nn.toNatClampNeg := by show (own_min nn p2).toInt.toNat = nn.toInt.toNat; rw [hm]
 have z0 : (0 : Int32).toNatClampNeg = 0 := by decide
 obtain ⟨T7, h7, L7, X7, e7, N7, Kc7, Vc7, st7⟩ := cpA X6 hx hZ hown (own_w hw 146 rfl) (own_w hw 149 rfl) (own_w hw 147 rfl) (own_w hw 148 rfl) e6 f4 Vp (Or.inl ⟨rfl, rfl⟩) (by decide) (by decide) (own_nneg (by omega)) (by rw [z0, hmn]; omega) (by rw [z0, hmn]; show 0 + nn.toInt.toNat ≤ p2.toInt.toNat; omega) rfl (by rw [z0, hmn, List.length_replicate]; show 0 + nn.toInt.toNat ≤ p2.toInt.toNat; omega) N6 g_b2 (g := (mkF m 28 #[.val (.ref a1), .val (.int p2), .val (.ref b2)] [(.int (own_min nn p2)), (.int 0), (.ref b2), (.int 0), (.ref a1)])) rfl (by rw [hml]; rfl) rfl (hb hby d17_28) (by decide) (W := 0) (by show 2 * 0 + _ ≤ _; exact Nat.le_of_eq rfl) (by decide)
 have K7 : Keep h0 h7 [] := K3.trans Kc7 (allS (P := fun x => x ∈ [] ∨ h0.size ≤ x) (Or.inr sz_b2) all0)
 obtain ⟨fs, hr, hrun, hended, hW, hsame⟩ := X7.leave (v := some (.ref b2)) (fun h => by rw [Bd.returns] at h; cases h)
 refine ⟨_, _, pre0 _ ?_, hrun, hended, _, _, rfl, ?_, ⟨_, rfl⟩, hW, hsame.mono (by decide) (by decide)⟩
 ·show oS s₁ (mkF m 0 #[.val (.ref a1), .val (.int p2), .unset] [])
  refine XS.iloadN X0.here hx rfl (hb hby d17_0) rfl ?_
  show oS s₁ (mkF m 1 #[.val (.ref a1), .val (.int p2), .unset] [(.int p2)])
  refine XS.aloadN X0.here hx rfl (hb hby d17_1) rfl rfl ?_
  show oS s₁ (mkF m 2 #[.val (.ref a1), .val (.int p2), .unset] [(.ref a1), (.int p2)])
  refine X0.arraylength hx (by rw [e0]; exact Ac1.1) (State.isArrayOf_alike hZ.alike Ac1.2.1) (g := (mkF m 2 #[.val (.ref a1), .val (.int p2), .unset] [(.ref a1), (.int p2)])) rfl rfl (hb hby d17_2) _ ?_
  rw [len_of Sc1 Nc1]
  show oS s₁ (mkF m 3 #[.val (.ref a1), .val (.int p2), .unset] [(.int nn), (.int p2)])
  refine XS.icmpYes X0.here hx rfl (pc0 := 3) (pc' := 14) rfl (hb hby d17_3) rfl (feq (own_neI (by omega) : ¬ (p2 = nn))).2 (by decide) (by decide) ?_
  show oS s₁ (mkF m 14 #[.val (.ref a1), .val (.int p2), .unset] [])
  refine XS.iloadN X0.here hx rfl (hb hby d17_14) rfl ?_
  show oS s₁ (mkF m 15 #[.val (.ref a1), .val (.int p2), .unset] [(.int p2)])
  refine st2 _ ?_
  show oS T2 (mkF m 17 #[.val (.ref a1), .val (.int p2), .unset] [(.ref b2)])
  refine XS.astoreN X2.here hx rfl (hb hby d17_17) rfl rfl (l' := #[.val (.ref a1), .val (.int p2), .val (.ref b2)]) rfl ?_
  show oS T2 (mkF m 18 #[.val (.ref a1), .val (.int p2), .val (.ref b2)] [])
  refine XS.aloadN X2.here hx rfl (hb hby d17_18) rfl rfl ?_
  show oS T2 (mkF m 19 #[.val (.ref a1), .val (.int p2), .val (.ref b2)] [(.ref a1)])
  refine XS.iconst X2.here hx rfl (hb hby d17_19) ?_
  show oS T2 (mkF m 20 #[.val (.ref a1), .val (.int p2), .val (.ref b2)] [(.int 0), (.ref a1)])
  refine XS.aloadN X2.here hx rfl (hb hby d17_20) rfl rfl ?_
  show oS T2 (mkF m 21 #[.val (.ref a1), .val (.int p2), .val (.ref b2)] [(.ref b2), (.int 0), (.ref a1)])
  refine XS.iconst X2.here hx rfl (hb hby d17_21) ?_
  show oS T2 (mkF m 22 #[.val (.ref a1), .val (.int p2), .val (.ref b2)] [(.int 0), (.ref b2), (.int 0), (.ref a1)])
  refine XS.aloadN X2.here hx rfl (hb hby d17_22) rfl rfl ?_
  show oS T2 (mkF m 23 #[.val (.ref a1), .val (.int p2), .val (.ref b2)] [(.ref a1), (.int 0), (.ref b2), (.int 0), (.ref a1)])
  refine X2.arraylength hx (by rw [e2]; exact Ac5.1) (State.isArrayOf_alike hZ.alike Ac5.2.1) (g := (mkF m 23 #[.val (.ref a1), .val (.int p2), .val (.ref b2)] [(.ref a1), (.int 0), (.ref b2), (.int 0), (.ref a1)])) rfl rfl (hb hby d17_23) _ ?_
  rw [len_of Sc5 Nc5]
  show oS T2 (mkF m 24 #[.val (.ref a1), .val (.int p2), .val (.ref b2)] [(.int nn), (.int 0), (.ref b2), (.int 0), (.ref a1)])
  refine XS.iloadN X2.here hx rfl (hb hby d17_24) rfl ?_
  show oS T2 (mkF m 25 #[.val (.ref a1), .val (.int p2), .val (.ref b2)] [(.int p2), (.int nn), (.int 0), (.ref b2), (.int 0), (.ref a1)])
  refine st6 _ ?_
  show oS T6 (mkF m 28 #[.val (.ref a1), .val (.int p2), .val (.ref b2)] [(.int (own_min nn p2)), (.int 0), (.ref b2), (.int 0), (.ref a1)])
  refine st7 _ ?_
  show oS T7 (mkF m 31 #[.val (.ref a1), .val (.int p2), .val (.ref b2)] [])
  refine XS.aloadN X7.here hx rfl (hb hby d17_31) rfl rfl ?_
  show oS T7 (mkF m 32 #[.val (.ref a1), .val (.int p2), .val (.ref b2)] [(.ref b2)])
  jvm_step X7.here [X7.here.top, hx, (hb hby d17_32), X7.method', Bd.returns, Value.isRef, FieldType.isReference]
  first | (intro acts; rw [hr _ acts rfl rfl rfl]) | rw [hr _ _ rfl rfl rfl]
  exact Steps.refl _
 ·show Q_rmCopy16 Z a1 p2 kk nn vs h0 n0 _ T7.heap _
  rw [e7]
  exact ⟨b2, k2, (((List.replicate p2.toNatClampNeg (.int 0)).take (0 : Int32).toNatClampNeg) ++ ((List.range (own_min nn p2).toNatClampNeg).map fun i => vs.getD ((0 : Int32).toNatClampNeg + i) (.int 0)) ++ ((List.replicate p2.toNatClampNeg (.int 0)).drop ((0 : Int32).toNatClampNeg + (own_min nn p2).toNatClampNeg))), rfl, N7, K7, sz_b2, g_b2, Vc7, (own_cpl hmn (by show nn.toInt.toNat ≤ p2.toInt.toNat; omega))⟩
theorem ef_rmCopy32 (m : MethodId) (a1 : Addr) (p2 : Int32) : entryFrame m #[(.ref a1), (.int p2)] 3 = mkF m 0 #[.val (.ref a1), .val (.int p2), .unset] [] := by first | (simp [entryFrame, mkF, argsToLocals, Value.category]; done) | rfl
def Q_rmCopy32 (Z : State) (a1 : Addr) (p2 : Int32) (kk : ClassId) (nn : Int32) (vs : List Value) (h0 : Heap) (n0 : Nat) (v : Option Value) (h : Heap) (L : List Loc) : Prop := ∃ r : Addr, ∃ kr : ClassId, ∃ vr : List Value, v = some (.ref r) ∧ Fr n0 L ∧ Keep h0 h [] ∧ h0.size ≤ r ∧ n0 ≤ r ∧ Arv Z h r kr .byte p2 vr (.int 0) ∧ vr.length = p2.toNatClampNeg
set_option maxRecDepth 65536 in
set_option maxHeartbeats 40000000 in
theorem rmCopy32 (l : Launch) (Z : State) (a0 : Array Value) (hw : own_Hw Z a0) (ws : List Jvm.Cond) (a1 : Addr) (p2 : Int32) (kk : ClassId) (nn : Int32) (vs : List Value) (h0 : Heap) (n0 : Nat) (Z0 : n0 ≤ h0.size) (V_a1 : Arv Z h0 a1 kk .byte nn vs (.int 0)) (hlt : nn.toInt < p2.toInt) (hn0 : 0 ≤ nn.toInt) (hcap : p2.toInt ≤ 32) :
  MetFree l mn22 (head1 (Jvm.Cond.code mn22 cd0 3 (some (.array .byte)) :: ws) ({ frames := 1, cells := 1, slots := 32, locals := 24 } : Room)) (fun a U => a = #[(.ref a1), (.int p2)] ∧ Z.Warmed39 U.vm ∧ U.heap = h0) (fun _ _ _ _ _ => True) (fun _ U o U' => ∃ v L, o = .returned v ∧ Q_rmCopy32 Z a1 p2 kk nn vs h0 n0 v U'.heap L ∧ FrameEnd U o U' L ({ frames := 1, cells := 1, slots := 32, locals := 24 } : Room).cells ({ frames := 1, cells := 1, slots := 32, locals := 24 } : Room).slots) := by
 refine MetFree.of_bodySF (plainFor_of_name pn_java_util_Arrays) hisR ?_
 intro p e s m args below meth c s₁ Bd hml0 hP hK
 obtain ⟨rfl, hZ, hh⟩ := hP
 have hx := Bd.exec
 have hby := Bd.bytes
 have hml : c.maxLocals = 3 := hml0
 have hown : s.vm.findClass "java/util/Arrays" = some m.cls := findClass_of_methodNamed Bd.named
 have hnm := (name_of_methodNamed Bd.named Bd.method).1
 have X0 : Stand p l e ({ frames := 1, cells := 1, slots := 32, locals := 24 } : Room) s m #[(.ref a1), (.int p2)] below meth c s₁ [] 0 0 := Stand.of_body Bd
 have e0 : s₁.heap = h0 := by rw [← hh, Bd.state]; rfl
 have N0 := Fr.nil n0
 have pre0 : ∀ t, Steps p.tables e below (s₁.setTop (mkF m 0 #[.val (.ref a1), .val (.int p2), .unset] [])) t → Steps p.tables e below (s₁.setTop (entryFrame m #[(.ref a1), (.int p2)] 3)) t := fun t k => castTop (ef_rmCopy32 m a1 p2) k
 obtain ⟨c1, Ac1, -, Sc1, Nc1, -, -⟩ := id V_a1
 obtain ⟨T2, h2, k2, X2, e2, E2, A2, st2⟩ := newP X0 hx hZ (own_w hw 78 rfl) e0 (g := (mkF m 15 #[.val (.ref a1), .val (.int p2), .unset] [(.int p2)])) rfl (hb hby d17_15) rfl (own_nneg (by omega)) (cap := 32) (by show p2.toInt.toNat ≤ 32; omega) (by decide) (by decide) (by decide)
 obtain ⟨b2, g2⟩ : ∃ z, z = h0.size := ⟨_, rfl⟩
 rw [← g2] at A2 st2
 have ne_a1_b2 : a1 ≠ b2 := Nat.ne_of_lt (Nat.lt_of_lt_of_le V_a1.lt (Nat.le_of_eq g2.symm))
 have g_b2 : n0 ≤ b2 := Nat.le_trans Z0 (Nat.le_of_eq g2.symm)
 have sz_b2 : h0.size ≤ b2 := Nat.le_trans (Keep.refl h0 []).1 (Nat.le_of_eq g2.symm)
 have K3 : Keep h0 h2 [] := (Keep.refl h0 []).ext E2
 have V_b2 : Arv Z h2 b2 k2 .byte p2 [] (.int 0) := Arv.new A2 (own_nneg (by omega))
 have Vp : Arv Z h2 b2 k2 .byte p2 (List.replicate p2.toNatClampNeg (.int 0)) (.int 0) := V_b2.pad (pad_rep [] (.int 0) _)
 have f4 := (V_a1.ext E2)
 obtain ⟨c5, Ac5, -, Sc5, Nc5, -, -⟩ := id f4
 obtain ⟨_, _, ⟨T6, L6, k6, n6⟩, -, X6, ⟨Lc6, hQ6, l6, y6, z6⟩, st6⟩ := Jvm.LawKit.callS X2 hx (y := mn16) hown (mvT hZ (own_w hw 143 rfl)) (mvT hZ (own_w hw 144 rfl)) (mvT hZ (own_w hw 57 rfl)) (mvT hZ (own_w hw 145 rfl)) (by decide) (backOf (W := 4) (rmMin l Z a0 hw [] nn p2 h2 n0 (Nat.le_trans Z0 K3.1) ) hZ (own_w hw 145 rfl) (own_w hw 57 rfl) (by decide) (by decide)) (g := (mkF m 25 #[.val (.ref a1), .val (.int p2), .val (.ref b2)] [(.int p2), (.int nn), (.int 0), (.ref b2), (.int 0), (.ref a1)])) rfl (by rw [hml]; rfl) (argsL := [(.int nn), (.int p2)]) (rest := [(.int 0), (.ref b2), (.int 0), (.ref a1)]) (lenOf pd__28II_29I rfl) rfl (by show 2 * 0 + _ ≤ _; exact Nat.le_of_eq rfl) (hb hby d17_25) (fun _ _ => ⟨rfl, e2, (by decide : 1 + 0 ≤ _), (by decide : 32 + 0 ≤ _)⟩)
 dsimp only [Pt.U, Pt.locs, Pt.cells, Pt.slots] at y6 z6 st6 hQ6
 change Stand p l e _ s m _ below meth c T6 L6 k6 n6 at X6
 change L6 = _ ++ Lc6 at l6
 subst y6 z6
 obtain ⟨rfl, N6q, e6⟩ := hQ6
 have N6 : Fr n0 L6 := l6 ▸ Fr.app N0 N6q
 have hm := own_minI nn p2
 rw [if_neg (by omega)] at hm
 have hmn : (own_min nn p2).toNatClampNeg = nn.toNatClampNeg := by show (own_min nn p2).toInt.toNat = nn.toInt.toNat; rw [hm]
 have z0 : (0 : Int32).toNatClampNeg = 0 := by decide
 obtain ⟨T7, h7, L7, X7, e7, N7, Kc7, Vc7, st7⟩ := cpA X6 hx hZ hown (own_w hw 146 rfl) (own_w hw 149 rfl) (own_w hw 147 rfl) (own_w hw 148 rfl) e6 f4 Vp (Or.inl ⟨rfl, rfl⟩) (by decide) (by decide) (own_nneg (by omega)) (by rw [z0, hmn]; omega) (by rw [z0, hmn]; show 0 + nn.toInt.toNat ≤ p2.toInt.toNat; omega) rfl (by rw [z0, hmn, List.length_replicate]; show 0 + nn.toInt.toNat ≤ p2.toInt.toNat; omega) N6 g_b2 (g := (mkF m 28 #[.val (.ref a1), .val (.int p2), .val (.ref b2)] [(.int (own_min nn p2)), (.int 0), (.ref b2), (.int 0), (.ref a1)])) rfl (by rw [hml]; rfl) rfl (hb hby d17_28) (by decide) (W := 0) (by show 2 * 0 + _ ≤ _; exact Nat.le_of_eq rfl) (by decide)
 have K7 : Keep h0 h7 [] := K3.trans Kc7 (allS (P := fun x => x ∈ [] ∨ h0.size ≤ x) (Or.inr sz_b2) all0)
 obtain ⟨fs, hr, hrun, hended, hW, hsame⟩ := X7.leave (v := some (.ref b2)) (fun h => by rw [Bd.returns] at h; cases h)
 refine ⟨_, _, pre0 _ ?_, hrun, hended, _, _, rfl, ?_, ⟨_, rfl⟩, hW, hsame.mono (by decide) (by decide)⟩
 ·show oS s₁ (mkF m 0 #[.val (.ref a1), .val (.int p2), .unset] [])
  refine XS.iloadN X0.here hx rfl (hb hby d17_0) rfl ?_
  show oS s₁ (mkF m 1 #[.val (.ref a1), .val (.int p2), .unset] [(.int p2)])
  refine XS.aloadN X0.here hx rfl (hb hby d17_1) rfl rfl ?_
  show oS s₁ (mkF m 2 #[.val (.ref a1), .val (.int p2), .unset] [(.ref a1), (.int p2)])
  refine X0.arraylength hx (by rw [e0]; exact Ac1.1) (State.isArrayOf_alike hZ.alike Ac1.2.1) (g := (mkF m 2 #[.val (.ref a1), .val (.int p2), .unset] [(.ref a1), (.int p2)])) rfl rfl (hb hby d17_2) _ ?_
  rw [len_of Sc1 Nc1]
  show oS s₁ (mkF m 3 #[.val (.ref a1), .val (.int p2), .unset] [(.int nn), (.int p2)])
  refine XS.icmpYes X0.here hx rfl (pc0 := 3) (pc' := 14) rfl (hb hby d17_3) rfl (feq (own_neI (by omega) : ¬ (p2 = nn))).2 (by decide) (by decide) ?_
  show oS s₁ (mkF m 14 #[.val (.ref a1), .val (.int p2), .unset] [])
  refine XS.iloadN X0.here hx rfl (hb hby d17_14) rfl ?_
  show oS s₁ (mkF m 15 #[.val (.ref a1), .val (.int p2), .unset] [(.int p2)])
  refine st2 _ ?_
  show oS T2 (mkF m 17 #[.val (.ref a1), .val (.int p2), .unset] [(.ref b2)])
  refine XS.astoreN X2.here hx rfl (hb hby d17_17) rfl rfl (l' := #[.val (.ref a1), .val (.int p2), .val (.ref b2)]) rfl ?_
  show oS T2 (mkF m 18 #[.val (.ref a1), .val (.int p2), .val (.ref b2)] [])
  refine XS.aloadN X2.here hx rfl (hb hby d17_18) rfl rfl ?_
  show oS T2 (mkF m 19 #[.val (.ref a1), .val (.int p2), .val (.ref b2)] [(.ref a1)])
  refine XS.iconst X2.here hx rfl (hb hby d17_19) ?_
  show oS T2 (mkF m 20 #[.val (.ref a1), .val (.int p2), .val (.ref b2)] [(.int 0), (.ref a1)])
  refine XS.aloadN X2.here hx rfl (hb hby d17_20) rfl rfl ?_
  show oS T2 (mkF m 21 #[.val (.ref a1), .val (.int p2), .val (.ref b2)] [(.ref b2), (.int 0), (.ref a1)])
  refine XS.iconst X2.here hx rfl (hb hby d17_21) ?_
  show oS T2 (mkF m 22 #[.val (.ref a1), .val (.int p2), .val (.ref b2)] [(.int 0), (.ref b2), (.int 0), (.ref a1)])
  refine XS.aloadN X2.here hx rfl (hb hby d17_22) rfl rfl ?_
  show oS T2 (mkF m 23 #[.val (.ref a1), .val (.int p2), .val (.ref b2)] [(.ref a1), (.int 0), (.ref b2), (.int 0), (.ref a1)])
  refine X2.arraylength hx (by rw [e2]; exact Ac5.1) (State.isArrayOf_alike hZ.alike Ac5.2.1) (g := (mkF m 23 #[.val (.ref a1), .val (.int p2), .val (.ref b2)] [(.ref a1), (.int 0), (.ref b2), (.int 0), (.ref a1)])) rfl rfl (hb hby d17_23) _ ?_
  rw [len_of Sc5 Nc5]
  show oS T2 (mkF m 24 #[.val (.ref a1), .val (.int p2), .val (.ref b2)] [(.int nn), (.int 0), (.ref b2), (.int 0), (.ref a1)])
  refine XS.iloadN X2.here hx rfl (hb hby d17_24) rfl ?_
  show oS T2 (mkF m 25 #[.val (.ref a1), .val (.int p2), .val (.ref b2)] [(.int p2), (.int nn), (.int 0), (.ref b2), (.int 0), (.ref a1)])
  refine st6 _ ?_
  show oS T6 (mkF m 28 #[.val (.ref a1), .val (.int p2), .val (.ref b2)] [(.int (own_min nn p2)), (.int 0), (.ref b2), (.int 0), (.ref a1)])
  refine st7 _ ?_
  show oS T7 (mkF m 31 #[.val (.ref a1), .val (.int p2), .val (.ref b2)] [])
  refine XS.aloadN X7.here hx rfl (hb hby d17_31) rfl rfl ?_
  show oS T7 (mkF m 32 #[.val (.ref a1), .val (.int p2), .val (.ref b2)] [(.ref b2)])
  jvm_step X7.here [X7.here.top, hx, (hb hby d17_32), X7.method', Bd.returns, Value.isRef, FieldType.isReference]
  first | (intro acts; rw [hr _ acts rfl rfl rfl]) | rw [hr _ _ rfl rfl rfl]
  exact Steps.refl _
 ·show Q_rmCopy32 Z a1 p2 kk nn vs h0 n0 _ T7.heap _
  rw [e7]
  exact ⟨b2, k2, (((List.replicate p2.toNatClampNeg (.int 0)).take (0 : Int32).toNatClampNeg) ++ ((List.range (own_min nn p2).toNatClampNeg).map fun i => vs.getD ((0 : Int32).toNatClampNeg + i) (.int 0)) ++ ((List.replicate p2.toNatClampNeg (.int 0)).drop ((0 : Int32).toNatClampNeg + (own_min nn p2).toNatClampNeg))), rfl, N7, K7, sz_b2, g_b2, Vc7, (own_cpl hmn (by show nn.toInt.toNat ≤ p2.toInt.toNat; omega))⟩
theorem d11_0 : decode cd11 0 = .ok (.aload_n 0, 1) := by decide +kernel
theorem d11_1 : decode cd11 1 = .ok (.invokespecial 1, 3) := by decide +kernel
theorem d11_4 : decode cd11 4 = .ok (.aload_n 0, 1) := by decide +kernel
theorem d11_5 : decode cd11 5 = .ok (.bipush 8, 2) := by decide +kernel
theorem d11_7 : decode cd11 7 = .ok (.newarray .byte, 2) := by decide +kernel
theorem d11_9 : decode cd11 9 = .ok (.putfield 9, 3) := by decide +kernel
theorem d11_12 : decode cd11 12 = .ok (.return_, 1) := by decide +kernel
theorem sn6 {Z a0} (hw : own_Hw Z a0) : own_sO Z nm1 "size" "I" ≠ own_sO Z nm1 "bytes" "[B" := own_sn hw 137 80 rfl rfl (by decide) (by decide) (by decide)
theorem pn_com_example_morro_morro_index_TermPostings_EncodedNumbers : plainName nm1 = true := by first | (simp [plainName, overriddenIn]; done) | decide +kernel
theorem ef_rm11 (m : MethodId) (a1 : Addr) : entryFrame m #[(.ref a1)] 1 = mkF m 0 #[.val (.ref a1)] [] := by first | (simp [entryFrame, mkF, argsToLocals, Value.category]; done) | rfl
def Q_rm11 (Z : State) (a1 : Addr) (u1 : Value) (u2 : Value) (h0 : Heap) (n0 : Nat) (v : Option Value) (h : Heap) (L : List Loc) : Prop := ∃ r : Addr, ∃ kr : ClassId, v = none ∧ Fr n0 L ∧ Keep h0 h [a1] ∧ h0.size ≤ r ∧ n0 ≤ r ∧ Exa Z h a1 nm1 ∧ Fld Z h a1 nm1 "bytes" "[B" (.ref r) ∧ Fld Z h a1 nm1 "size" "I" u2 ∧ Arv Z h r kr .byte (8 : Int32) [(.int 0), (.int 0), (.int 0), (.int 0), (.int 0), (.int 0), (.int 0), (.int 0)] (.int 0)
set_option maxRecDepth 65536 in
set_option maxHeartbeats 40000000 in
theorem rm11 (l : Launch) (Z : State) (a0 : Array Value) (hw : own_Hw Z a0) (ws : List Jvm.Cond) (a1 : Addr) (u1 : Value) (u2 : Value) (h0 : Heap) (n0 : Nat) (Z0 : n0 ≤ h0.size) (E_a1 : Exa Z h0 a1 nm1) (F_bytes_a1 : Fld Z h0 a1 nm1 "bytes" "[B" u1) (F_size_a1 : Fld Z h0 a1 nm1 "size" "I" u2) (g_a1 : n0 ≤ a1) :
  MetFree l mn23 (head1 (Jvm.Cond.code mn23 cd11 1 none :: ws) ({ frames := 1, cells := 1, slots := 8, locals := 12 } : Room)) (fun a U => a = #[(.ref a1)] ∧ Z.Warmed39 U.vm ∧ U.heap = h0) (fun _ _ _ _ _ => True) (fun _ U o U' => ∃ v L, o = .returned v ∧ Q_rm11 Z a1 u1 u2 h0 n0 v U'.heap L ∧ FrameEnd U o U' L ({ frames := 1, cells := 1, slots := 8, locals := 12 } : Room).cells ({ frames := 1, cells := 1, slots := 8, locals := 12 } : Room).slots) := by
 refine MetFree.of_bodySF (plainFor_of_name pn_com_example_morro_morro_index_TermPostings_EncodedNumbers) hisR ?_
 intro p e s m args below meth c s₁ Bd hml0 hP hK
 obtain ⟨rfl, hZ, hh⟩ := hP
 have hx := Bd.exec
 have hby := Bd.bytes
 have hml : c.maxLocals = 1 := hml0
 have hown : s.vm.findClass nm1 = some m.cls := findClass_of_methodNamed Bd.named
 have hnm := (name_of_methodNamed Bd.named Bd.method).1
 have X0 : Stand p l e ({ frames := 1, cells := 1, slots := 8, locals := 12 } : Room) s m #[(.ref a1)] below meth c s₁ [] 0 0 := Stand.of_body Bd
 have e0 : s₁.heap = h0 := by rw [← hh, Bd.state]; rfl
 have N0 := Fr.nil n0
 have pre0 : ∀ t, Steps p.tables e below (s₁.setTop (mkF m 0 #[.val (.ref a1)] [])) t → Steps p.tables e below (s₁.setTop (entryFrame m #[(.ref a1)] 1)) t := fun t k => castTop (ef_rm11 m a1) k
 obtain ⟨T1, X1, e1, st1⟩ := initO X0 hx hZ hown (own_w hw 77 rfl) (own_w hw 21 rfl) (own_w hw 22 rfl) e0 (g := (mkF m 1 #[.val (.ref a1)] [(.ref a1)])) rfl (by rw [hml]; rfl) rfl (hb hby d11_1) (by decide) (W := 0) (by show 2 * 0 + _ ≤ _; exact Nat.le_of_eq rfl) (by decide)
 obtain ⟨T2, h2, k2, X2, e2, E2, A2, st2⟩ := newP X1 hx hZ (own_w hw 78 rfl) e1 (g := (mkF m 7 #[.val (.ref a1)] [(.int 8), (.ref a1)])) rfl (hb hby d11_7) rfl (by decide) (cap := 8) (by decide) (by decide) (by decide) (by decide)
 obtain ⟨b2, g2⟩ : ∃ z, z = h0.size := ⟨_, rfl⟩
 rw [← g2] at A2 st2
 have ne_a1_b2 : a1 ≠ b2 := Nat.ne_of_lt (Nat.lt_of_lt_of_le E_a1.lt (Nat.le_of_eq g2.symm))
 have g_b2 : n0 ≤ b2 := Nat.le_trans Z0 (Nat.le_of_eq g2.symm)
 have sz_b2 : h0.size ≤ b2 := Nat.le_trans (Keep.refl h0 [a1]).1 (Nat.le_of_eq g2.symm)
 have K3 : Keep h0 h2 [a1] := (Keep.refl h0 [a1]).ext E2
 have V_b2 : Arv Z h2 b2 k2 .byte (8 : Int32) [(.int 0), (.int 0), (.int 0), (.int 0), (.int 0), (.int 0), (.int 0), (.int 0)] (.int 0) := (Arv.new A2 (by decide)).pad (pad_rep [] (.int 0) 8)
 have f4 := (F_bytes_a1.ext E2)
 have f5 := (E_a1.ext E2)
 obtain ⟨T6, h6, X6, e6, W6, st6⟩ := putF X2 hx hZ hown (host := "") (Or.inl (own_w hw 79 rfl)) Via.refl e2 f4 f5 (Or.inl (own_w hw 80 rfl)) (own_w hw 72 rfl) (ty := (.array .byte)) (by decide) rfl rfl (g := (mkF m 9 #[.val (.ref a1)] [(.ref b2), (.ref a1)])) rfl rfl (hb hby d11_9)
 have K7 : Keep h0 h6 [a1] := K3.wr W6 (Or.inl (List.mem_of_getElem? (i := 0) rfl))
 have N8 := Fr.snoc X6 N0 g_a1
 have Fw6 := f4.same W6
 have f9 := (f5.wr W6)
 have f10 := ((F_size_a1.ext E2).other W6 (Or.inr (sn6 hw)))
 have f11 := (V_b2.other W6 (Ne.symm ne_a1_b2))
 obtain ⟨fs, hr, hrun, hended, hW, hsame⟩ := X6.leave (v := none) (fun _ => rfl)
 refine ⟨_, _, pre0 _ ?_, hrun, hended, _, _, rfl, ?_, ⟨_, rfl⟩, hW, hsame.mono (by decide) (by decide)⟩
 ·show oS s₁ (mkF m 0 #[.val (.ref a1)] [])
  refine XS.aloadN X0.here hx rfl (hb hby d11_0) rfl rfl ?_
  show oS s₁ (mkF m 1 #[.val (.ref a1)] [(.ref a1)])
  refine st1 _ ?_
  show oS T1 (mkF m 4 #[.val (.ref a1)] [])
  refine XS.aloadN X1.here hx rfl (hb hby d11_4) rfl rfl ?_
  show oS T1 (mkF m 5 #[.val (.ref a1)] [(.ref a1)])
  refine XS.bipush X1.here hx rfl (hb hby d11_5) ?_
  show oS T1 (mkF m 7 #[.val (.ref a1)] [(.int 8), (.ref a1)])
  refine st2 _ ?_
  show oS T2 (mkF m 9 #[.val (.ref a1)] [(.ref b2), (.ref a1)])
  refine st6 _ ?_
  show oS T6 (mkF m 12 #[.val (.ref a1)] [])
  exact X6.returnOut hx Bd.returns (hb hby d11_12) hr
 ·show Q_rm11 Z a1 u1 u2 h0 n0 _ T6.heap _
  rw [e6]
  exact ⟨b2, k2, rfl, N8, K7, sz_b2, g_b2, f9, Fw6, f10, f11⟩
theorem own_room {nn sz : Int32} {f : Nat} (h : 8 ≤ nn.toInt ∧ nn.toInt ≤ 32) (g : 0 ≤ sz.toInt ∧ sz.toInt ≤ 16) (hf : f ≤ 8) : sz.toInt + f < (own_cap nn sz).toInt ∧ 8 ≤ (own_cap nn sz).toInt ∧ (own_cap nn sz).toInt ≤ 64 := by
 rw [own_capI h g]; split <;> (try split) <;> omega
theorem own_grow {nn sz : Int32} (h : 8 ≤ nn.toInt ∧ nn.toInt ≤ 32) (g : 0 ≤ sz.toInt ∧ sz.toInt ≤ 16) (c : nn.toInt < sz.toInt + 9) : nn.toInt < (own_cap nn sz).toInt := by
 rw [own_capI h g, if_pos c]; split <;> omega
theorem own_nat {x : Int32} (h : 0 ≤ x.toInt) : x.toInt = (x.toNatClampNeg : Nat) := by show x.toInt = (x.toInt.toNat : Int); omega
theorem d16_0 : decode cd12 0 = .ok (.aload_n 0, 1) := by decide +kernel
theorem d16_1 : decode cd12 1 = .ok (.getfield 13, 3) := by decide +kernel
theorem d16_4 : decode cd12 4 = .ok (.bipush 9, 2) := by decide +kernel
theorem d16_6 : decode cd12 6 = .ok (.iadd, 1) := by decide +kernel
theorem d16_7 : decode cd12 7 = .ok (.aload_n 0, 1) := by decide +kernel
theorem d16_8 : decode cd12 8 = .ok (.getfield 9, 3) := by decide +kernel
theorem d16_11 : decode cd12 11 = .ok (.arraylength, 1) := by decide +kernel
theorem d16_12 : decode cd12 12 = .ok (.if_icmp .le 31, 3) := by decide +kernel
theorem d16_15 : decode cd12 15 = .ok (.aload_n 0, 1) := by decide +kernel
theorem d16_16 : decode cd12 16 = .ok (.aload_n 0, 1) := by decide +kernel
theorem d16_17 : decode cd12 17 = .ok (.getfield 9, 3) := by decide +kernel
theorem d16_20 : decode cd12 20 = .ok (.iconst 2, 1) := by decide +kernel
theorem d16_21 : decode cd12 21 = .ok (.aload_n 0, 1) := by decide +kernel
theorem d16_22 : decode cd12 22 = .ok (.getfield 9, 3) := by decide +kernel
theorem d16_25 : decode cd12 25 = .ok (.arraylength, 1) := by decide +kernel
theorem d16_26 : decode cd12 26 = .ok (.imul, 1) := by decide +kernel
theorem d16_27 : decode cd12 27 = .ok (.aload_n 0, 1) := by decide +kernel
theorem d16_28 : decode cd12 28 = .ok (.getfield 13, 3) := by decide +kernel
theorem d16_31 : decode cd12 31 = .ok (.bipush 9, 2) := by decide +kernel
theorem d16_33 : decode cd12 33 = .ok (.iadd, 1) := by decide +kernel
theorem d16_34 : decode cd12 34 = .ok (.invokestatic 19, 3) := by decide +kernel
theorem pd__28_5bBI_29_5bB : parseMethodDescriptor "([BI)[B" = some ⟨[(.array .byte), .int], some (.array .byte)⟩ := by decide +kernel
theorem d16_37 : decode cd12 37 = .ok (.invokestatic 25, 3) := by decide +kernel
theorem d16_40 : decode cd12 40 = .ok (.putfield 9, 3) := by decide +kernel
theorem d16_43 : decode cd12 43 = .ok (.aload_n 0, 1) := by decide +kernel
theorem d16_44 : decode cd12 44 = .ok (.lload_n 1, 1) := by decide +kernel
theorem d16_45 : decode cd12 45 = .ok (.aload_n 0, 1) := by decide +kernel
theorem d16_46 : decode cd12 46 = .ok (.getfield 9, 3) := by decide +kernel
theorem d16_49 : decode cd12 49 = .ok (.aload_n 0, 1) := by decide +kernel
theorem d16_50 : decode cd12 50 = .ok (.getfield 13, 3) := by decide +kernel
theorem pd__28J_5bBI_29I : parseMethodDescriptor "(J[BI)I" = some ⟨[.long, (.array .byte), .int], some .int⟩ := by decide +kernel
theorem d16_53 : decode cd12 53 = .ok (.invokestatic 31, 3) := by decide +kernel
theorem d16_56 : decode cd12 56 = .ok (.putfield 13, 3) := by decide +kernel
theorem d16_59 : decode cd12 59 = .ok (.return_, 1) := by decide +kernel
theorem sn7 {Z a0} (hw : own_Hw Z a0) : own_sO Z nm1 "bytes" "[B" ≠ own_sO Z nm1 "size" "I" := own_sn hw 80 137 rfl rfl (by decide) (by decide) (by decide)
theorem ef_rmEnG (m : MethodId) (a1 : Addr) (q2 : Int64) : entryFrame m #[(.ref a1), (.long q2)] 3 = mkF m 0 #[.val (.ref a1), .val (.long q2), .second] [] := by first | (simp [entryFrame, mkF, argsToLocals, Value.category]; done) | rfl
def Q_rmEnG (Z : State) (a1 : Addr) (q2 : Int64) (sz : Int32) (nn : Int32) (ar : Addr) (kk : ClassId) (vs : List Value) (f : Nat) (ln : Int32) (h0 : Heap) (n0 : Nat) (v : Option Value) (h : Heap) (L : List Loc) : Prop := ∃ r : Addr, ∃ kr : ClassId, ∃ vr : List Value, v = none ∧ Fr n0 L ∧ Keep h0 h [a1, ar] ∧ Exa Z h a1 nm1 ∧ Fld Z h a1 nm1 "bytes" "[B" (.ref r) ∧ Fld Z h a1 nm1 "size" "I" (.int (sz + ln)) ∧ Arv Z h r kr .byte (own_cap nn sz) vr (.int 0) ∧ n0 ≤ r ∧ vr.length = (own_cap nn sz).toNatClampNeg ∧ (r = ar ∨ h0.size ≤ r)
set_option maxRecDepth 65536 in
set_option maxHeartbeats 40000000 in
theorem rmEnG (l : Launch) (Z : State) (a0 : Array Value) (hw : own_Hw Z a0) (ws : List Jvm.Cond) (a1 : Addr) (q2 : Int64) (sz : Int32) (nn : Int32) (ar : Addr) (kk : ClassId) (vs : List Value) (f : Nat) (ln : Int32) (h0 : Heap) (n0 : Nat) (Z0 : n0 ≤ h0.size) (E_a1 : Exa Z h0 a1 nm1) (F_bytes_a1 : Fld Z h0 a1 nm1 "bytes" "[B" (.ref ar)) (F_size_a1 : Fld Z h0 a1 nm1 "size" "I" (.int sz)) (V_ar : Arv Z h0 ar kk .byte nn vs (.int 0)) (g_a1 : n0 ≤ a1) (g_ar : n0 ≤ ar) (hl : vs.length = nn.toNatClampNeg) (hnn : 8 ≤ nn.toInt ∧ nn.toInt ≤ 32) (hsz : 0 ≤ sz.toInt ∧ sz.toInt ≤ 16) (hf : f ≤ 8) (hj : 0 ≤ q2.toInt) (hj2 : q2.toInt < 2 ^ (7 * (f + 1))) (hj3 : f ≠ 0 → 2 ^ (7 * f) ≤ q2.toInt) (hln : ln.toInt = f + 1) (hg : nn.toInt < sz.toInt + 9) (hcap : (own_cap nn sz).toInt ≤ 16) :
  MetFree l mn24 (head1 (Jvm.Cond.code mn24 cd12 3 none :: ws) ({ frames := 2, cells := 1, slots := 16, locals := 39 } : Room)) (fun a U => a = #[(.ref a1), (.long q2)] ∧ Z.Warmed39 U.vm ∧ U.heap = h0) (fun _ _ _ _ _ => True) (fun _ U o U' => ∃ v L, o = .returned v ∧ Q_rmEnG Z a1 q2 sz nn ar kk vs f ln h0 n0 v U'.heap L ∧ FrameEnd U o U' L ({ frames := 2, cells := 1, slots := 16, locals := 39 } : Room).cells ({ frames := 2, cells := 1, slots := 16, locals := 39 } : Room).slots) := by
 refine MetFree.of_bodySF (plainFor_of_name pn_com_example_morro_morro_index_TermPostings_EncodedNumbers) hisR ?_
 intro p e s m args below meth c s₁ Bd hml0 hP hK
 obtain ⟨rfl, hZ, hh⟩ := hP
 have hx := Bd.exec
 have hby := Bd.bytes
 have hml : c.maxLocals = 3 := hml0
 have hown : s.vm.findClass nm1 = some m.cls := findClass_of_methodNamed Bd.named
 have hnm := (name_of_methodNamed Bd.named Bd.method).1
 have X0 : Stand p l e ({ frames := 2, cells := 1, slots := 16, locals := 39 } : Room) s m #[(.ref a1), (.long q2)] below meth c s₁ [] 0 0 := Stand.of_body Bd
 have e0 : s₁.heap = h0 := by rw [← hh, Bd.state]; rfl
 have N0 := Fr.nil n0
 have pre0 : ∀ t, Steps p.tables e below (s₁.setTop (mkF m 0 #[.val (.ref a1), .val (.long q2), .second] [])) t → Steps p.tables e below (s₁.setTop (entryFrame m #[(.ref a1), (.long q2)] 3)) t := fun t k => castTop (ef_rmEnG m a1 q2) k
 have hs9 := own_sz9 (sz := sz) (by omega)
 have hrm := own_room hnn hsz hf
 obtain ⟨T1, X1, e1, st1⟩ := getF X0 hx hZ hown (host := "") (Or.inl (own_w hw 136 rfl)) Via.refl e0 F_size_a1 (g := (mkF m 1 #[.val (.ref a1), .val (.long q2), .second] [(.ref a1)])) rfl rfl (hb hby d16_1)
 obtain ⟨T2, X2, e2, st2⟩ := getF X1 hx hZ hown (host := "") (Or.inl (own_w hw 79 rfl)) Via.refl e1 F_bytes_a1 (g := (mkF m 8 #[.val (.ref a1), .val (.long q2), .second] [(.ref a1), (.int (sz + (9 : Int32)))])) rfl rfl (hb hby d16_8)
 obtain ⟨c3, Ac3, -, Sc3, Nc3, -, -⟩ := id V_ar
 have hC : nn < (sz + (9 : Int32)) := by rw [Int32.lt_iff_toInt_lt, hs9]; exact hg
 obtain ⟨T4, X4, e4, st4⟩ := getF X2 hx hZ hown (host := "") (Or.inl (own_w hw 79 rfl)) Via.refl e2 F_bytes_a1 (g := (mkF m 17 #[.val (.ref a1), .val (.long q2), .second] [(.ref a1), (.ref a1)])) rfl rfl (hb hby d16_17)
 obtain ⟨T5, X5, e5, st5⟩ := getF X4 hx hZ hown (host := "") (Or.inl (own_w hw 79 rfl)) Via.refl e4 F_bytes_a1 (g := (mkF m 22 #[.val (.ref a1), .val (.long q2), .second] [(.ref a1), (.int 2), (.ref ar), (.ref a1)])) rfl rfl (hb hby d16_22)
 obtain ⟨c6, Ac6, -, Sc6, Nc6, -, -⟩ := id V_ar
 obtain ⟨T7, X7, e7, st7⟩ := getF X5 hx hZ hown (host := "") (Or.inl (own_w hw 136 rfl)) Via.refl e5 F_size_a1 (g := (mkF m 28 #[.val (.ref a1), .val (.long q2), .second] [(.ref a1), (.int ((2 : Int32) * nn)), (.ref ar), (.ref a1)])) rfl rfl (hb hby d16_28)
 obtain ⟨_, _, ⟨T8, L8, k8, n8⟩, -, X8, ⟨Lc8, hQ8, l8, y8, z8⟩, st8⟩ := Jvm.LawKit.callS X7 hx (y := mn3) hown (mvT hZ (own_w hw 138 rfl)) (mvT hZ (own_w hw 56 rfl)) (mvT hZ (own_w hw 57 rfl)) (mvT hZ (own_w hw 58 rfl)) (by decide) (backOf (W := 2) (rmMax l Z a0 hw [] ((2 : Int32) * nn) (sz + (9 : Int32)) h0 n0 Z0 ) hZ (own_w hw 58 rfl) (own_w hw 57 rfl) (by decide) (by decide)) (g := (mkF m 34 #[.val (.ref a1), .val (.long q2), .second] [(.int (sz + (9 : Int32))), (.int ((2 : Int32) * nn)), (.ref ar), (.ref a1)])) rfl (by rw [hml]; rfl) (argsL := [(.int ((2 : Int32) * nn)), (.int (sz + (9 : Int32)))]) (rest := [(.ref ar), (.ref a1)]) (lenOf pd__28II_29I rfl) rfl (by show 2 * 0 + _ ≤ _; exact Nat.le_of_eq rfl) (hb hby d16_34) (fun _ _ => ⟨rfl, e7, (by decide : 0 + 0 ≤ _), (by decide : 0 + 0 ≤ _)⟩)
 dsimp only [Pt.U, Pt.locs, Pt.cells, Pt.slots] at y8 z8 st8 hQ8
 change Stand p l e _ s m _ below meth c T8 L8 k8 n8 at X8
 change L8 = _ ++ Lc8 at l8
 subst y8 z8
 obtain ⟨rfl, N8q, e8⟩ := hQ8
 have N8 : Fr n0 L8 := l8 ▸ Fr.app N0 N8q
 have ecI : (own_max ((2 : Int32) * nn) (sz + (9 : Int32))).toInt = (own_cap nn sz).toInt := by rw [own_cap, if_pos hC]
 have hgr : nn.toInt < (own_cap nn sz).toInt := by rw [Int32.lt_iff_toInt_lt, hs9] at hC; exact own_grow hnn hsz hC
 obtain ⟨_, _, ⟨T9, L9, k9, n9⟩, -, X9, ⟨Lc9, hQ9, l9, y9, z9⟩, st9⟩ := Jvm.LawKit.callS X8 hx (y := mn22) hown (mvT hZ (own_w hw 139 rfl)) (mvT hZ (own_w hw 140 rfl)) (mvT hZ (own_w hw 141 rfl)) (mvT hZ (own_w hw 142 rfl)) (by decide) (backOf (W := 1) (rmCopy16 l Z a0 hw [] ar (own_max ((2 : Int32) * nn) (sz + (9 : Int32))) kk nn vs h0 n0 Z0 V_ar (by rw [ecI]; exact hgr) (by omega) (by rw [ecI]; exact hcap)) hZ (own_w hw 142 rfl) (own_w hw 141 rfl) (by decide) (by decide)) (g := (mkF m 37 #[.val (.ref a1), .val (.long q2), .second] [(.int (own_max ((2 : Int32) * nn) (sz + (9 : Int32)))), (.ref ar), (.ref a1)])) rfl (by rw [hml]; rfl) (argsL := [(.ref ar), (.int (own_max ((2 : Int32) * nn) (sz + (9 : Int32))))]) (rest := [(.ref a1)]) (lenOf pd__28_5bBI_29_5bB rfl) rfl (by show 2 * 0 + _ ≤ _; exact Nat.le_of_eq rfl) (hb hby d16_37) (fun _ _ => ⟨rfl, e8, (by decide : 0 + 1 ≤ _), (by decide : 0 + 16 ≤ _)⟩)
 dsimp only [Pt.U, Pt.locs, Pt.cells, Pt.slots] at y9 z9 st9 hQ9
 change Stand p l e _ s m _ below meth c T9 L9 k9 n9 at X9
 change L9 = _ ++ Lc9 at l9
 subst y9 z9
 obtain ⟨r_9, kr_9, vr_9, rfl, N9q, K9q, t9_0, t9_1, t9_2, t9_3⟩ := hQ9
 have N9 : Fr n0 L9 := l9 ▸ Fr.app N8 N9q
 have K9 : Keep h0 T9.heap [a1, ar] := (Keep.refl h0 [a1, ar]).trans K9q all0
 have ne_a1_r_9 : a1 ≠ r_9 := Nat.ne_of_lt (Nat.lt_of_lt_of_le E_a1.lt t9_0)
 have ne_ar_r_9 : ar ≠ r_9 := Nat.ne_of_lt (Nat.lt_of_lt_of_le V_ar.lt t9_0)
 have sz_r_9 : h0.size ≤ r_9 := Nat.le_trans (Keep.refl h0 [a1, ar]).1 t9_0
 have f10 := (F_bytes_a1.keep K9q nin0)
 have f11 := (E_a1.keep K9q)
 have f12 := (V_ar.keep K9q nin0)
 have na13 := (Exa.neArv f11 f12 (own_w hw 72 rfl)).symm
 obtain ⟨T14, h14, X14, e14, W14, st14⟩ := putF X9 hx hZ hown (host := "") (Or.inl (own_w hw 79 rfl)) Via.refl rfl f10 f11 (Or.inl (own_w hw 80 rfl)) (own_w hw 72 rfl) (ty := (.array .byte)) (by decide) rfl rfl (g := (mkF m 40 #[.val (.ref a1), .val (.long q2), .second] [(.ref r_9), (.ref a1)])) rfl rfl (hb hby d16_40)
 have K15 : Keep h0 h14 [a1, ar] := K9.wr W14 (Or.inl (List.mem_of_getElem? (i := 0) rfl))
 have N16 := Fr.snoc X14 N9 g_a1
 have Fw14 := f10.same W14
 obtain ⟨T17, X17, e17, st17⟩ := getF X14 hx hZ hown (host := "") (Or.inl (own_w hw 79 rfl)) Via.refl e14 Fw14 (g := (mkF m 46 #[.val (.ref a1), .val (.long q2), .second] [(.ref a1), (.long q2), (.ref a1)])) rfl rfl (hb hby d16_46)
 have f18 := ((F_size_a1.keep K9q nin0).other W14 (Or.inr (sn6 hw)))
 obtain ⟨T19, X19, e19, st19⟩ := getF X17 hx hZ hown (host := "") (Or.inl (own_w hw 136 rfl)) Via.refl e17 f18 (g := (mkF m 50 #[.val (.ref a1), .val (.long q2), .second] [(.ref a1), (.ref r_9), (.long q2), (.ref a1)])) rfl rfl (hb hby d16_50)
 have ec : own_max ((2 : Int32) * nn) (sz + (9 : Int32)) = own_cap nn sz := by rw [own_cap, if_pos hC]
 have f20 := (t9_2.other W14 (Ne.symm ne_a1_r_9))
 have Vq : Arv Z h14 r_9 kr_9 .byte (own_cap nn sz) vr_9 (.int 0) := ec ▸ f20
 have f22 := (f11.wr W14)
 have f23 := (f12.other W14 na13)
 obtain ⟨_, _, ⟨T21, L21, k21, n21⟩, -, X21, ⟨Lc21, hQ21, l21, y21, z21⟩, st21⟩ := Jvm.LawKit.callS X19 hx (y := mn21) hown (mvT hZ (own_w hw 150 rfl)) (mvT hZ (own_w hw 151 rfl)) (mvT hZ (own_w hw 152 rfl)) (mvT hZ (own_w hw 153 rfl)) (by decide) (backOf (W := 1) (rm19 l Z a0 hw [] q2 r_9 sz kr_9 (own_cap nn sz) vr_9 f ((own_cap nn sz).toNatClampNeg) ln h14 n0 (Nat.le_trans Z0 K15.1) Vq t9_1 (own_nat (by omega)) (by show (own_cap nn sz).toInt.toNat ≤ _; omega) (by rw [t9_3, ec]) hsz.1 (by rw [← own_nat (by omega)]; omega) hj hj2 hj3 hln) hZ (own_w hw 153 rfl) (own_w hw 152 rfl) (by decide) (by decide)) (g := (mkF m 53 #[.val (.ref a1), .val (.long q2), .second] [(.int sz), (.ref r_9), (.long q2), (.ref a1)])) rfl (by rw [hml]; rfl) (argsL := [(.long q2), (.ref r_9), (.int sz)]) (rest := [(.ref a1)]) (lenOf pd__28J_5bBI_29I rfl) rfl (by show 2 * 0 + _ ≤ _; exact Nat.le_of_eq rfl) (hb hby d16_53) (fun _ _ => ⟨rfl, e19, (by decide : 1 + 0 ≤ _), (by decide : 16 + 0 ≤ _)⟩)
 dsimp only [Pt.U, Pt.locs, Pt.cells, Pt.slots] at y21 z21 st21 hQ21
 change Stand p l e _ s m _ below meth c T21 L21 k21 n21 at X21
 change L21 = _ ++ Lc21 at l21
 subst y21 z21
 obtain ⟨rfl, N21q, K21q, t21_0⟩ := hQ21
 have N21 : Fr n0 L21 := l21 ▸ Fr.app N16 N21q
 have K21 : Keep h0 T21.heap [a1, ar] := K15.trans K21q (allS (P := fun xz => xz ∈ [a1, ar] ∨ h0.size ≤ xz) (Or.inr sz_r_9) all0)
 have f24 := (f18.keep K21q (ninS ne_a1_r_9 nin0))
 have f25 := (f22.keep K21q)
 obtain ⟨T26, h26, X26, e26, W26, st26⟩ := putF X21 hx hZ hown (host := "") (Or.inl (own_w hw 136 rfl)) Via.refl rfl f24 f25 (Or.inl (own_w hw 137 rfl)) (own_w hw 72 rfl) (ty := .int) (by decide) rfl rfl (g := (mkF m 56 #[.val (.ref a1), .val (.long q2), .second] [(.int (sz + ln)), (.ref a1)])) rfl rfl (hb hby d16_56)
 have K27 : Keep h0 h26 [a1, ar] := K21.wr W26 (Or.inl (List.mem_of_getElem? (i := 0) rfl))
 have N28 := Fr.snoc X26 N21 g_a1
 have Fw26 := f24.same W26
 have f29 := (f25.wr W26)
 have f30 := ((Fw14.keep K21q (ninS ne_a1_r_9 nin0)).other W26 (Or.inr (sn7 hw)))
 have f31 := (t21_0.other W26 (Ne.symm ne_a1_r_9))
 obtain ⟨fs, hr, hrun, hended, hW, hsame⟩ := X26.leave (v := none) (fun _ => rfl)
 refine ⟨_, _, pre0 _ ?_, hrun, hended, _, _, rfl, ?_, ⟨_, rfl⟩, hW, hsame.mono (by decide) (by decide)⟩
 ·show oS s₁ (mkF m 0 #[.val (.ref a1), .val (.long q2), .second] [])
  refine XS.aloadN X0.here hx rfl (hb hby d16_0) rfl rfl ?_
  show oS s₁ (mkF m 1 #[.val (.ref a1), .val (.long q2), .second] [(.ref a1)])
  refine st1 _ ?_
  show oS T1 (mkF m 4 #[.val (.ref a1), .val (.long q2), .second] [(.int sz)])
  refine XS.bipush X1.here hx rfl (hb hby d16_4) ?_
  show oS T1 (mkF m 6 #[.val (.ref a1), .val (.long q2), .second] [(.int 9), (.int sz)])
  refine XS.iadd X1.here hx rfl (hb hby d16_6) rfl ?_
  show oS T1 (mkF m 7 #[.val (.ref a1), .val (.long q2), .second] [(.int (sz + (9 : Int32)))])
  refine XS.aloadN X1.here hx rfl (hb hby d16_7) rfl rfl ?_
  show oS T1 (mkF m 8 #[.val (.ref a1), .val (.long q2), .second] [(.ref a1), (.int (sz + (9 : Int32)))])
  refine st2 _ ?_
  show oS T2 (mkF m 11 #[.val (.ref a1), .val (.long q2), .second] [(.ref ar), (.int (sz + (9 : Int32)))])
  refine X2.arraylength hx (by rw [e2]; exact Ac3.1) (State.isArrayOf_alike hZ.alike Ac3.2.1) (g := (mkF m 11 #[.val (.ref a1), .val (.long q2), .second] [(.ref ar), (.int (sz + (9 : Int32)))])) rfl rfl (hb hby d16_11) _ ?_
  rw [len_of Sc3 Nc3]
  show oS T2 (mkF m 12 #[.val (.ref a1), .val (.long q2), .second] [(.int nn), (.int (sz + (9 : Int32)))])
  refine XS.icmpNo X2.here hx rfl (hb hby d16_12) rfl (tlt hC).2.2.2 ?_
  show oS T2 (mkF m 15 #[.val (.ref a1), .val (.long q2), .second] [])
  refine XS.aloadN X2.here hx rfl (hb hby d16_15) rfl rfl ?_
  show oS T2 (mkF m 16 #[.val (.ref a1), .val (.long q2), .second] [(.ref a1)])
  refine XS.aloadN X2.here hx rfl (hb hby d16_16) rfl rfl ?_
  show oS T2 (mkF m 17 #[.val (.ref a1), .val (.long q2), .second] [(.ref a1), (.ref a1)])
  refine st4 _ ?_
  show oS T4 (mkF m 20 #[.val (.ref a1), .val (.long q2), .second] [(.ref ar), (.ref a1)])
  refine XS.iconst X4.here hx rfl (hb hby d16_20) ?_
  show oS T4 (mkF m 21 #[.val (.ref a1), .val (.long q2), .second] [(.int 2), (.ref ar), (.ref a1)])
  refine XS.aloadN X4.here hx rfl (hb hby d16_21) rfl rfl ?_
  show oS T4 (mkF m 22 #[.val (.ref a1), .val (.long q2), .second] [(.ref a1), (.int 2), (.ref ar), (.ref a1)])
  refine st5 _ ?_
  show oS T5 (mkF m 25 #[.val (.ref a1), .val (.long q2), .second] [(.ref ar), (.int 2), (.ref ar), (.ref a1)])
  refine X5.arraylength hx (by rw [e5]; exact Ac6.1) (State.isArrayOf_alike hZ.alike Ac6.2.1) (g := (mkF m 25 #[.val (.ref a1), .val (.long q2), .second] [(.ref ar), (.int 2), (.ref ar), (.ref a1)])) rfl rfl (hb hby d16_25) _ ?_
  rw [len_of Sc6 Nc6]
  show oS T5 (mkF m 26 #[.val (.ref a1), .val (.long q2), .second] [(.int nn), (.int 2), (.ref ar), (.ref a1)])
  refine XS.imul X5.here hx rfl (hb hby d16_26) rfl ?_
  show oS T5 (mkF m 27 #[.val (.ref a1), .val (.long q2), .second] [(.int ((2 : Int32) * nn)), (.ref ar), (.ref a1)])
  refine XS.aloadN X5.here hx rfl (hb hby d16_27) rfl rfl ?_
  show oS T5 (mkF m 28 #[.val (.ref a1), .val (.long q2), .second] [(.ref a1), (.int ((2 : Int32) * nn)), (.ref ar), (.ref a1)])
  refine st7 _ ?_
  show oS T7 (mkF m 31 #[.val (.ref a1), .val (.long q2), .second] [(.int sz), (.int ((2 : Int32) * nn)), (.ref ar), (.ref a1)])
  refine XS.bipush X7.here hx rfl (hb hby d16_31) ?_
  show oS T7 (mkF m 33 #[.val (.ref a1), .val (.long q2), .second] [(.int 9), (.int sz), (.int ((2 : Int32) * nn)), (.ref ar), (.ref a1)])
  refine XS.iadd X7.here hx rfl (hb hby d16_33) rfl ?_
  show oS T7 (mkF m 34 #[.val (.ref a1), .val (.long q2), .second] [(.int (sz + (9 : Int32))), (.int ((2 : Int32) * nn)), (.ref ar), (.ref a1)])
  refine st8 _ ?_
  show oS T8 (mkF m 37 #[.val (.ref a1), .val (.long q2), .second] [(.int (own_max ((2 : Int32) * nn) (sz + (9 : Int32)))), (.ref ar), (.ref a1)])
  refine st9 _ ?_
  show oS T9 (mkF m 40 #[.val (.ref a1), .val (.long q2), .second] [(.ref r_9), (.ref a1)])
  refine st14 _ ?_
  show oS T14 (mkF m 43 #[.val (.ref a1), .val (.long q2), .second] [])
  refine XS.aloadN X14.here hx rfl (hb hby d16_43) rfl rfl ?_
  show oS T14 (mkF m 44 #[.val (.ref a1), .val (.long q2), .second] [(.ref a1)])
  refine XS.lloadN X14.here hx rfl (hb hby d16_44) rfl ?_
  show oS T14 (mkF m 45 #[.val (.ref a1), .val (.long q2), .second] [(.long q2), (.ref a1)])
  refine XS.aloadN X14.here hx rfl (hb hby d16_45) rfl rfl ?_
  show oS T14 (mkF m 46 #[.val (.ref a1), .val (.long q2), .second] [(.ref a1), (.long q2), (.ref a1)])
  refine st17 _ ?_
  show oS T17 (mkF m 49 #[.val (.ref a1), .val (.long q2), .second] [(.ref r_9), (.long q2), (.ref a1)])
  refine XS.aloadN X17.here hx rfl (hb hby d16_49) rfl rfl ?_
  show oS T17 (mkF m 50 #[.val (.ref a1), .val (.long q2), .second] [(.ref a1), (.ref r_9), (.long q2), (.ref a1)])
  refine st19 _ ?_
  show oS T19 (mkF m 53 #[.val (.ref a1), .val (.long q2), .second] [(.int sz), (.ref r_9), (.long q2), (.ref a1)])
  refine st21 _ ?_
  show oS T21 (mkF m 56 #[.val (.ref a1), .val (.long q2), .second] [(.int (sz + ln)), (.ref a1)])
  refine st26 _ ?_
  show oS T26 (mkF m 59 #[.val (.ref a1), .val (.long q2), .second] [])
  exact X26.returnOut hx Bd.returns (hb hby d16_59) hr
 ·show Q_rmEnG Z a1 q2 sz nn ar kk vs f ln h0 n0 _ T26.heap _
  rw [e26]
  exact ⟨r_9, kr_9, ((own_pre f q2 sz.toNatClampNeg vr_9).set (sz.toNatClampNeg + f) (own_last (own_it f q2))), rfl, N28, K27, f29, f30, Fw26, f31, t9_1, (by rw [List.length_set, own_preLen]; exact (by rw [t9_3, ec])), (Or.inr sz_r_9)⟩
theorem ef_rmEnS (m : MethodId) (a1 : Addr) (q2 : Int64) : entryFrame m #[(.ref a1), (.long q2)] 3 = mkF m 0 #[.val (.ref a1), .val (.long q2), .second] [] := by first | (simp [entryFrame, mkF, argsToLocals, Value.category]; done) | rfl
def Q_rmEnS (Z : State) (a1 : Addr) (q2 : Int64) (sz : Int32) (nn : Int32) (ar : Addr) (kk : ClassId) (vs : List Value) (f : Nat) (ln : Int32) (h0 : Heap) (n0 : Nat) (v : Option Value) (h : Heap) (L : List Loc) : Prop := ∃ r : Addr, ∃ kr : ClassId, ∃ vr : List Value, v = none ∧ Fr n0 L ∧ Keep h0 h [a1, ar] ∧ Exa Z h a1 nm1 ∧ Fld Z h a1 nm1 "bytes" "[B" (.ref r) ∧ Fld Z h a1 nm1 "size" "I" (.int (sz + ln)) ∧ Arv Z h r kr .byte (own_cap nn sz) vr (.int 0) ∧ n0 ≤ r ∧ vr.length = (own_cap nn sz).toNatClampNeg ∧ (r = ar ∨ h0.size ≤ r)
set_option maxRecDepth 65536 in
set_option maxHeartbeats 40000000 in
theorem rmEnS (l : Launch) (Z : State) (a0 : Array Value) (hw : own_Hw Z a0) (ws : List Jvm.Cond) (a1 : Addr) (q2 : Int64) (sz : Int32) (nn : Int32) (ar : Addr) (kk : ClassId) (vs : List Value) (f : Nat) (ln : Int32) (h0 : Heap) (n0 : Nat) (Z0 : n0 ≤ h0.size) (E_a1 : Exa Z h0 a1 nm1) (F_bytes_a1 : Fld Z h0 a1 nm1 "bytes" "[B" (.ref ar)) (F_size_a1 : Fld Z h0 a1 nm1 "size" "I" (.int sz)) (V_ar : Arv Z h0 ar kk .byte nn vs (.int 0)) (g_a1 : n0 ≤ a1) (g_ar : n0 ≤ ar) (hl : vs.length = nn.toNatClampNeg) (hnn : 8 ≤ nn.toInt ∧ nn.toInt ≤ 32) (hsz : 0 ≤ sz.toInt ∧ sz.toInt ≤ 16) (hf : f ≤ 8) (hj : 0 ≤ q2.toInt) (hj2 : q2.toInt < 2 ^ (7 * (f + 1))) (hj3 : f ≠ 0 → 2 ^ (7 * f) ≤ q2.toInt) (hln : ln.toInt = f + 1) (hg : ¬ nn.toInt < sz.toInt + 9) :
  MetFree l mn24 (head1 (Jvm.Cond.code mn24 cd12 3 none :: ws) ({ frames := 1, cells := 0, slots := 0, locals := 19 } : Room)) (fun a U => a = #[(.ref a1), (.long q2)] ∧ Z.Warmed39 U.vm ∧ U.heap = h0) (fun _ _ _ _ _ => True) (fun _ U o U' => ∃ v L, o = .returned v ∧ Q_rmEnS Z a1 q2 sz nn ar kk vs f ln h0 n0 v U'.heap L ∧ FrameEnd U o U' L ({ frames := 1, cells := 0, slots := 0, locals := 19 } : Room).cells ({ frames := 1, cells := 0, slots := 0, locals := 19 } : Room).slots) := by
 refine MetFree.of_bodySF (plainFor_of_name pn_com_example_morro_morro_index_TermPostings_EncodedNumbers) hisR ?_
 intro p e s m args below meth c s₁ Bd hml0 hP hK
 obtain ⟨rfl, hZ, hh⟩ := hP
 have hx := Bd.exec
 have hby := Bd.bytes
 have hml : c.maxLocals = 3 := hml0
 have hown : s.vm.findClass nm1 = some m.cls := findClass_of_methodNamed Bd.named
 have hnm := (name_of_methodNamed Bd.named Bd.method).1
 have X0 : Stand p l e ({ frames := 1, cells := 0, slots := 0, locals := 19 } : Room) s m #[(.ref a1), (.long q2)] below meth c s₁ [] 0 0 := Stand.of_body Bd
 have e0 : s₁.heap = h0 := by rw [← hh, Bd.state]; rfl
 have N0 := Fr.nil n0
 have pre0 : ∀ t, Steps p.tables e below (s₁.setTop (mkF m 0 #[.val (.ref a1), .val (.long q2), .second] [])) t → Steps p.tables e below (s₁.setTop (entryFrame m #[(.ref a1), (.long q2)] 3)) t := fun t k => castTop (ef_rmEnS m a1 q2) k
 have hs9 := own_sz9 (sz := sz) (by omega)
 have hrm := own_room hnn hsz hf
 obtain ⟨T1, X1, e1, st1⟩ := getF X0 hx hZ hown (host := "") (Or.inl (own_w hw 136 rfl)) Via.refl e0 F_size_a1 (g := (mkF m 1 #[.val (.ref a1), .val (.long q2), .second] [(.ref a1)])) rfl rfl (hb hby d16_1)
 obtain ⟨T2, X2, e2, st2⟩ := getF X1 hx hZ hown (host := "") (Or.inl (own_w hw 79 rfl)) Via.refl e1 F_bytes_a1 (g := (mkF m 8 #[.val (.ref a1), .val (.long q2), .second] [(.ref a1), (.int (sz + (9 : Int32)))])) rfl rfl (hb hby d16_8)
 obtain ⟨c3, Ac3, -, Sc3, Nc3, -, -⟩ := id V_ar
 have hC : ¬ (nn < (sz + (9 : Int32))) := by rw [Int32.lt_iff_toInt_lt, hs9]; exact hg
 obtain ⟨T4, X4, e4, st4⟩ := getF X2 hx hZ hown (host := "") (Or.inl (own_w hw 79 rfl)) Via.refl e2 F_bytes_a1 (g := (mkF m 46 #[.val (.ref a1), .val (.long q2), .second] [(.ref a1), (.long q2), (.ref a1)])) rfl rfl (hb hby d16_46)
 obtain ⟨T5, X5, e5, st5⟩ := getF X4 hx hZ hown (host := "") (Or.inl (own_w hw 136 rfl)) Via.refl e4 F_size_a1 (g := (mkF m 50 #[.val (.ref a1), .val (.long q2), .second] [(.ref a1), (.ref ar), (.long q2), (.ref a1)])) rfl rfl (hb hby d16_50)
 have ec : nn = own_cap nn sz := by rw [own_cap, if_neg hC]
 have Vq : Arv Z h0 ar kk .byte (own_cap nn sz) vs (.int 0) := ec ▸ V_ar
 have na7 := Exa.neArv E_a1 Vq (own_w hw 72 rfl)
 obtain ⟨_, _, ⟨T6, L6, k6, n6⟩, -, X6, ⟨Lc6, hQ6, l6, y6, z6⟩, st6⟩ := Jvm.LawKit.callS X5 hx (y := mn21) hown (mvT hZ (own_w hw 150 rfl)) (mvT hZ (own_w hw 151 rfl)) (mvT hZ (own_w hw 152 rfl)) (mvT hZ (own_w hw 153 rfl)) (by decide) (backOf (W := 1) (rm19 l Z a0 hw [] q2 ar sz kk (own_cap nn sz) vs f ((own_cap nn sz).toNatClampNeg) ln h0 n0 Z0 Vq g_ar (own_nat (by omega)) (by show (own_cap nn sz).toInt.toNat ≤ _; omega) (by rw [hl, ← ec]) hsz.1 (by rw [← own_nat (by omega)]; omega) hj hj2 hj3 hln) hZ (own_w hw 153 rfl) (own_w hw 152 rfl) (by decide) (by decide)) (g := (mkF m 53 #[.val (.ref a1), .val (.long q2), .second] [(.int sz), (.ref ar), (.long q2), (.ref a1)])) rfl (by rw [hml]; rfl) (argsL := [(.long q2), (.ref ar), (.int sz)]) (rest := [(.ref a1)]) (lenOf pd__28J_5bBI_29I rfl) rfl (by show 2 * 0 + _ ≤ _; exact Nat.le_of_eq rfl) (hb hby d16_53) (fun _ _ => ⟨rfl, e5, (by decide : 0 + 0 ≤ _), (by decide : 0 + 0 ≤ _)⟩)
 dsimp only [Pt.U, Pt.locs, Pt.cells, Pt.slots] at y6 z6 st6 hQ6
 change Stand p l e _ s m _ below meth c T6 L6 k6 n6 at X6
 change L6 = _ ++ Lc6 at l6
 subst y6 z6
 obtain ⟨rfl, N6q, K6q, t6_0⟩ := hQ6
 have N6 : Fr n0 L6 := l6 ▸ Fr.app N0 N6q
 have K6 : Keep h0 T6.heap [a1, ar] := (Keep.refl h0 [a1, ar]).trans K6q (allS (P := fun xz => xz ∈ [a1, ar] ∨ h0.size ≤ xz) (Or.inl (List.mem_of_getElem? (i := 1) rfl)) all0)
 have f8 := (F_size_a1.keep K6q (ninS na7 nin0))
 have f9 := (E_a1.keep K6q)
 obtain ⟨T10, h10, X10, e10, W10, st10⟩ := putF X6 hx hZ hown (host := "") (Or.inl (own_w hw 136 rfl)) Via.refl rfl f8 f9 (Or.inl (own_w hw 137 rfl)) (own_w hw 72 rfl) (ty := .int) (by decide) rfl rfl (g := (mkF m 56 #[.val (.ref a1), .val (.long q2), .second] [(.int (sz + ln)), (.ref a1)])) rfl rfl (hb hby d16_56)
 have K11 : Keep h0 h10 [a1, ar] := K6.wr W10 (Or.inl (List.mem_of_getElem? (i := 0) rfl))
 have N12 := Fr.snoc X10 N6 g_a1
 have Fw10 := f8.same W10
 have f13 := (f9.wr W10)
 have f14 := ((F_bytes_a1.keep K6q (ninS na7 nin0)).other W10 (Or.inr (sn7 hw)))
 have f15 := (t6_0.other W10 (Ne.symm na7))
 obtain ⟨fs, hr, hrun, hended, hW, hsame⟩ := X10.leave (v := none) (fun _ => rfl)
 refine ⟨_, _, pre0 _ ?_, hrun, hended, _, _, rfl, ?_, ⟨_, rfl⟩, hW, hsame.mono (by decide) (by decide)⟩
 ·show oS s₁ (mkF m 0 #[.val (.ref a1), .val (.long q2), .second] [])
  refine XS.aloadN X0.here hx rfl (hb hby d16_0) rfl rfl ?_
  show oS s₁ (mkF m 1 #[.val (.ref a1), .val (.long q2), .second] [(.ref a1)])
  refine st1 _ ?_
  show oS T1 (mkF m 4 #[.val (.ref a1), .val (.long q2), .second] [(.int sz)])
  refine XS.bipush X1.here hx rfl (hb hby d16_4) ?_
  show oS T1 (mkF m 6 #[.val (.ref a1), .val (.long q2), .second] [(.int 9), (.int sz)])
  refine XS.iadd X1.here hx rfl (hb hby d16_6) rfl ?_
  show oS T1 (mkF m 7 #[.val (.ref a1), .val (.long q2), .second] [(.int (sz + (9 : Int32)))])
  refine XS.aloadN X1.here hx rfl (hb hby d16_7) rfl rfl ?_
  show oS T1 (mkF m 8 #[.val (.ref a1), .val (.long q2), .second] [(.ref a1), (.int (sz + (9 : Int32)))])
  refine st2 _ ?_
  show oS T2 (mkF m 11 #[.val (.ref a1), .val (.long q2), .second] [(.ref ar), (.int (sz + (9 : Int32)))])
  refine X2.arraylength hx (by rw [e2]; exact Ac3.1) (State.isArrayOf_alike hZ.alike Ac3.2.1) (g := (mkF m 11 #[.val (.ref a1), .val (.long q2), .second] [(.ref ar), (.int (sz + (9 : Int32)))])) rfl rfl (hb hby d16_11) _ ?_
  rw [len_of Sc3 Nc3]
  show oS T2 (mkF m 12 #[.val (.ref a1), .val (.long q2), .second] [(.int nn), (.int (sz + (9 : Int32)))])
  refine XS.icmpYes X2.here hx rfl (pc0 := 12) (pc' := 43) rfl (hb hby d16_12) rfl (flt hC).2.2.2 (by decide) (by decide) ?_
  show oS T2 (mkF m 43 #[.val (.ref a1), .val (.long q2), .second] [])
  refine XS.aloadN X2.here hx rfl (hb hby d16_43) rfl rfl ?_
  show oS T2 (mkF m 44 #[.val (.ref a1), .val (.long q2), .second] [(.ref a1)])
  refine XS.lloadN X2.here hx rfl (hb hby d16_44) rfl ?_
  show oS T2 (mkF m 45 #[.val (.ref a1), .val (.long q2), .second] [(.long q2), (.ref a1)])
  refine XS.aloadN X2.here hx rfl (hb hby d16_45) rfl rfl ?_
  show oS T2 (mkF m 46 #[.val (.ref a1), .val (.long q2), .second] [(.ref a1), (.long q2), (.ref a1)])
  refine st4 _ ?_
  show oS T4 (mkF m 49 #[.val (.ref a1), .val (.long q2), .second] [(.ref ar), (.long q2), (.ref a1)])
  refine XS.aloadN X4.here hx rfl (hb hby d16_49) rfl rfl ?_
  show oS T4 (mkF m 50 #[.val (.ref a1), .val (.long q2), .second] [(.ref a1), (.ref ar), (.long q2), (.ref a1)])
  refine st5 _ ?_
  show oS T5 (mkF m 53 #[.val (.ref a1), .val (.long q2), .second] [(.int sz), (.ref ar), (.long q2), (.ref a1)])
  refine st6 _ ?_
  show oS T6 (mkF m 56 #[.val (.ref a1), .val (.long q2), .second] [(.int (sz + ln)), (.ref a1)])
  refine st10 _ ?_
  show oS T10 (mkF m 59 #[.val (.ref a1), .val (.long q2), .second] [])
  exact X10.returnOut hx Bd.returns (hb hby d16_59) hr
 ·show Q_rmEnS Z a1 q2 sz nn ar kk vs f ln h0 n0 _ T10.heap _
  rw [e10]
  exact ⟨ar, kk, ((own_pre f q2 sz.toNatClampNeg vs).set (sz.toNatClampNeg + f) (own_last (own_it f q2))), rfl, N12, K11, f13, f14, Fw10, f15, g_ar, (by rw [List.length_set, own_preLen]; exact (by rw [hl, ← ec])), (Or.inl rfl)⟩
theorem ef_rmEnB (m : MethodId) (a1 : Addr) (q2 : Int64) : entryFrame m #[(.ref a1), (.long q2)] 3 = mkF m 0 #[.val (.ref a1), .val (.long q2), .second] [] := by first | (simp [entryFrame, mkF, argsToLocals, Value.category]; done) | rfl
def Q_rmEnB (Z : State) (a1 : Addr) (q2 : Int64) (sz : Int32) (nn : Int32) (ar : Addr) (kk : ClassId) (vs : List Value) (f : Nat) (ln : Int32) (h0 : Heap) (n0 : Nat) (v : Option Value) (h : Heap) (L : List Loc) : Prop := ∃ r : Addr, ∃ kr : ClassId, ∃ vr : List Value, v = none ∧ Fr n0 L ∧ Keep h0 h [a1, ar] ∧ Exa Z h a1 nm1 ∧ Fld Z h a1 nm1 "bytes" "[B" (.ref r) ∧ Fld Z h a1 nm1 "size" "I" (.int (sz + ln)) ∧ Arv Z h r kr .byte (own_cap nn sz) vr (.int 0) ∧ n0 ≤ r ∧ vr.length = (own_cap nn sz).toNatClampNeg ∧ (r = ar ∨ h0.size ≤ r)
set_option maxRecDepth 65536 in
set_option maxHeartbeats 40000000 in
theorem rmEnB (l : Launch) (Z : State) (a0 : Array Value) (hw : own_Hw Z a0) (ws : List Jvm.Cond) (a1 : Addr) (q2 : Int64) (sz : Int32) (nn : Int32) (ar : Addr) (kk : ClassId) (vs : List Value) (f : Nat) (ln : Int32) (h0 : Heap) (n0 : Nat) (Z0 : n0 ≤ h0.size) (E_a1 : Exa Z h0 a1 nm1) (F_bytes_a1 : Fld Z h0 a1 nm1 "bytes" "[B" (.ref ar)) (F_size_a1 : Fld Z h0 a1 nm1 "size" "I" (.int sz)) (V_ar : Arv Z h0 ar kk .byte nn vs (.int 0)) (g_a1 : n0 ≤ a1) (g_ar : n0 ≤ ar) (hl : vs.length = nn.toNatClampNeg) (hnn : 8 ≤ nn.toInt ∧ nn.toInt ≤ 32) (hsz : 0 ≤ sz.toInt ∧ sz.toInt ≤ 16) (hf : f ≤ 8) (hj : 0 ≤ q2.toInt) (hj2 : q2.toInt < 2 ^ (7 * (f + 1))) (hj3 : f ≠ 0 → 2 ^ (7 * f) ≤ q2.toInt) (hln : ln.toInt = f + 1) (hcap : (own_cap nn sz).toInt ≤ 32) :
  MetFree l mn24 (head1 (Jvm.Cond.code mn24 cd12 3 none :: ws) ({ frames := 2, cells := 1, slots := 32, locals := 39 } : Room)) (fun a U => a = #[(.ref a1), (.long q2)] ∧ Z.Warmed39 U.vm ∧ U.heap = h0) (fun _ _ _ _ _ => True) (fun _ U o U' => ∃ v L, o = .returned v ∧ Q_rmEnB Z a1 q2 sz nn ar kk vs f ln h0 n0 v U'.heap L ∧ FrameEnd U o U' L ({ frames := 2, cells := 1, slots := 32, locals := 39 } : Room).cells ({ frames := 2, cells := 1, slots := 32, locals := 39 } : Room).slots) := by
 refine MetFree.of_bodySF (plainFor_of_name pn_com_example_morro_morro_index_TermPostings_EncodedNumbers) hisR ?_
 intro p e s m args below meth c s₁ Bd hml0 hP hK
 obtain ⟨rfl, hZ, hh⟩ := hP
 have hx := Bd.exec
 have hby := Bd.bytes
 have hml : c.maxLocals = 3 := hml0
 have hown : s.vm.findClass nm1 = some m.cls := findClass_of_methodNamed Bd.named
 have hnm := (name_of_methodNamed Bd.named Bd.method).1
 have X0 : Stand p l e ({ frames := 2, cells := 1, slots := 32, locals := 39 } : Room) s m #[(.ref a1), (.long q2)] below meth c s₁ [] 0 0 := Stand.of_body Bd
 have e0 : s₁.heap = h0 := by rw [← hh, Bd.state]; rfl
 have N0 := Fr.nil n0
 have pre0 : ∀ t, Steps p.tables e below (s₁.setTop (mkF m 0 #[.val (.ref a1), .val (.long q2), .second] [])) t → Steps p.tables e below (s₁.setTop (entryFrame m #[(.ref a1), (.long q2)] 3)) t := fun t k => castTop (ef_rmEnB m a1 q2) k
 have hs9 := own_sz9 (sz := sz) (by omega)
 have hrm := own_room hnn hsz hf
 obtain ⟨T1, X1, e1, st1⟩ := getF X0 hx hZ hown (host := "") (Or.inl (own_w hw 136 rfl)) Via.refl e0 F_size_a1 (g := (mkF m 1 #[.val (.ref a1), .val (.long q2), .second] [(.ref a1)])) rfl rfl (hb hby d16_1)
 obtain ⟨T2, X2, e2, st2⟩ := getF X1 hx hZ hown (host := "") (Or.inl (own_w hw 79 rfl)) Via.refl e1 F_bytes_a1 (g := (mkF m 8 #[.val (.ref a1), .val (.long q2), .second] [(.ref a1), (.int (sz + (9 : Int32)))])) rfl rfl (hb hby d16_8)
 obtain ⟨c3, Ac3, -, Sc3, Nc3, -, -⟩ := id V_ar
 have pre4 : ∀ t, Steps p.tables e below (T2.setTop (mkF m 12 #[.val (.ref a1), .val (.long q2), .second] [(.int nn), (.int (sz + (9 : Int32)))])) t → Steps p.tables e below (s₁.setTop (entryFrame m #[(.ref a1), (.long q2)] 3)) t := fun t kt => by
  refine pre0 t ?_
  show oS s₁ (mkF m 0 #[.val (.ref a1), .val (.long q2), .second] [])
  refine XS.aloadN X0.here hx rfl (hb hby d16_0) rfl rfl ?_
  show oS s₁ (mkF m 1 #[.val (.ref a1), .val (.long q2), .second] [(.ref a1)])
  refine st1 _ ?_
  show oS T1 (mkF m 4 #[.val (.ref a1), .val (.long q2), .second] [(.int sz)])
  refine XS.bipush X1.here hx rfl (hb hby d16_4) ?_
  show oS T1 (mkF m 6 #[.val (.ref a1), .val (.long q2), .second] [(.int 9), (.int sz)])
  refine XS.iadd X1.here hx rfl (hb hby d16_6) rfl ?_
  show oS T1 (mkF m 7 #[.val (.ref a1), .val (.long q2), .second] [(.int (sz + (9 : Int32)))])
  refine XS.aloadN X1.here hx rfl (hb hby d16_7) rfl rfl ?_
  show oS T1 (mkF m 8 #[.val (.ref a1), .val (.long q2), .second] [(.ref a1), (.int (sz + (9 : Int32)))])
  refine st2 _ ?_
  show oS T2 (mkF m 11 #[.val (.ref a1), .val (.long q2), .second] [(.ref ar), (.int (sz + (9 : Int32)))])
  refine X2.arraylength hx (by rw [e2]; exact Ac3.1) (State.isArrayOf_alike hZ.alike Ac3.2.1) (g := (mkF m 11 #[.val (.ref a1), .val (.long q2), .second] [(.ref ar), (.int (sz + (9 : Int32)))])) rfl rfl (hb hby d16_11) _ ?_
  rw [len_of Sc3 Nc3]
  exact kt
 by_cases hC : nn < (sz + (9 : Int32))
 ·obtain ⟨T5, X5, e5, st5⟩ := getF X2 hx hZ hown (host := "") (Or.inl (own_w hw 79 rfl)) Via.refl e2 F_bytes_a1 (g := (mkF m 17 #[.val (.ref a1), .val (.long q2), .second] [(.ref a1), (.ref a1)])) rfl rfl (hb hby d16_17)
  obtain ⟨T6, X6, e6, st6⟩ := getF X5 hx hZ hown (host := "") (Or.inl (own_w hw 79 rfl)) Via.refl e5 F_bytes_a1 (g := (mkF m 22 #[.val (.ref a1), .val (.long q2), .second] [(.ref a1), (.int 2), (.ref ar), (.ref a1)])) rfl rfl (hb hby d16_22)
  obtain ⟨c7, Ac7, -, Sc7, Nc7, -, -⟩ := id V_ar
  obtain ⟨T8, X8, e8, st8⟩ := getF X6 hx hZ hown (host := "") (Or.inl (own_w hw 136 rfl)) Via.refl e6 F_size_a1 (g := (mkF m 28 #[.val (.ref a1), .val (.long q2), .second] [(.ref a1), (.int ((2 : Int32) * nn)), (.ref ar), (.ref a1)])) rfl rfl (hb hby d16_28)
  obtain ⟨_, _, ⟨T9, L9, k9, n9⟩, -, X9, ⟨Lc9, hQ9, l9, y9, z9⟩, st9⟩ := Jvm.LawKit.callS X8 hx (y := mn3) hown (mvT hZ (own_w hw 138 rfl)) (mvT hZ (own_w hw 56 rfl)) (mvT hZ (own_w hw 57 rfl)) (mvT hZ (own_w hw 58 rfl)) (by decide) (backOf (W := 2) (rmMax l Z a0 hw [] ((2 : Int32) * nn) (sz + (9 : Int32)) h0 n0 Z0 ) hZ (own_w hw 58 rfl) (own_w hw 57 rfl) (by decide) (by decide)) (g := (mkF m 34 #[.val (.ref a1), .val (.long q2), .second] [(.int (sz + (9 : Int32))), (.int ((2 : Int32) * nn)), (.ref ar), (.ref a1)])) rfl (by rw [hml]; rfl) (argsL := [(.int ((2 : Int32) * nn)), (.int (sz + (9 : Int32)))]) (rest := [(.ref ar), (.ref a1)]) (lenOf pd__28II_29I rfl) rfl (by show 2 * 0 + _ ≤ _; exact Nat.le_of_eq rfl) (hb hby d16_34) (fun _ _ => ⟨rfl, e8, (by decide : 0 + 0 ≤ _), (by decide : 0 + 0 ≤ _)⟩)
  dsimp only [Pt.U, Pt.locs, Pt.cells, Pt.slots] at y9 z9 st9 hQ9
  change Stand p l e _ s m _ below meth c T9 L9 k9 n9 at X9
  change L9 = _ ++ Lc9 at l9
  subst y9 z9
  obtain ⟨rfl, N9q, e9⟩ := hQ9
  have N9 : Fr n0 L9 := l9 ▸ Fr.app N0 N9q
  have ecI : (own_max ((2 : Int32) * nn) (sz + (9 : Int32))).toInt = (own_cap nn sz).toInt := by rw [own_cap, if_pos hC]
  have hgr : nn.toInt < (own_cap nn sz).toInt := by rw [Int32.lt_iff_toInt_lt, hs9] at hC; exact own_grow hnn hsz hC
  obtain ⟨_, _, ⟨T10, L10, k10, n10⟩, -, X10, ⟨Lc10, hQ10, l10, y10, z10⟩, st10⟩ := Jvm.LawKit.callS X9 hx (y := mn22) hown (mvT hZ (own_w hw 139 rfl)) (mvT hZ (own_w hw 140 rfl)) (mvT hZ (own_w hw 141 rfl)) (mvT hZ (own_w hw 142 rfl)) (by decide) (backOf (W := 1) (rmCopy32 l Z a0 hw [] ar (own_max ((2 : Int32) * nn) (sz + (9 : Int32))) kk nn vs h0 n0 Z0 V_ar (by rw [ecI]; exact hgr) (by omega) (by rw [ecI]; exact hcap)) hZ (own_w hw 142 rfl) (own_w hw 141 rfl) (by decide) (by decide)) (g := (mkF m 37 #[.val (.ref a1), .val (.long q2), .second] [(.int (own_max ((2 : Int32) * nn) (sz + (9 : Int32)))), (.ref ar), (.ref a1)])) rfl (by rw [hml]; rfl) (argsL := [(.ref ar), (.int (own_max ((2 : Int32) * nn) (sz + (9 : Int32))))]) (rest := [(.ref a1)]) (lenOf pd__28_5bBI_29_5bB rfl) rfl (by show 2 * 0 + _ ≤ _; exact Nat.le_of_eq rfl) (hb hby d16_37) (fun _ _ => ⟨rfl, e9, (by decide : 0 + 1 ≤ _), (by decide : 0 + 32 ≤ _)⟩)
  dsimp only [Pt.U, Pt.locs, Pt.cells, Pt.slots] at y10 z10 st10 hQ10
  change Stand p l e _ s m _ below meth c T10 L10 k10 n10 at X10
  change L10 = _ ++ Lc10 at l10
  subst y10 z10
  obtain ⟨r_10, kr_10, vr_10, rfl, N10q, K10q, t10_0, t10_1, t10_2, t10_3⟩ := hQ10
  have N10 : Fr n0 L10 := l10 ▸ Fr.app N9 N10q
  have K10 : Keep h0 T10.heap [a1, ar] := (Keep.refl h0 [a1, ar]).trans K10q all0
  have ne_a1_r_10 : a1 ≠ r_10 := Nat.ne_of_lt (Nat.lt_of_lt_of_le E_a1.lt t10_0)
  have ne_ar_r_10 : ar ≠ r_10 := Nat.ne_of_lt (Nat.lt_of_lt_of_le V_ar.lt t10_0)
  have sz_r_10 : h0.size ≤ r_10 := Nat.le_trans (Keep.refl h0 [a1, ar]).1 t10_0
  have f11 := (F_bytes_a1.keep K10q nin0)
  have f12 := (E_a1.keep K10q)
  have f13 := (V_ar.keep K10q nin0)
  have na14 := (Exa.neArv f12 f13 (own_w hw 72 rfl)).symm
  obtain ⟨T15, h15, X15, e15, W15, st15⟩ := putF X10 hx hZ hown (host := "") (Or.inl (own_w hw 79 rfl)) Via.refl rfl f11 f12 (Or.inl (own_w hw 80 rfl)) (own_w hw 72 rfl) (ty := (.array .byte)) (by decide) rfl rfl (g := (mkF m 40 #[.val (.ref a1), .val (.long q2), .second] [(.ref r_10), (.ref a1)])) rfl rfl (hb hby d16_40)
  have K16 : Keep h0 h15 [a1, ar] := K10.wr W15 (Or.inl (List.mem_of_getElem? (i := 0) rfl))
  have N17 := Fr.snoc X15 N10 g_a1
  have Fw15 := f11.same W15
  obtain ⟨T18, X18, e18, st18⟩ := getF X15 hx hZ hown (host := "") (Or.inl (own_w hw 79 rfl)) Via.refl e15 Fw15 (g := (mkF m 46 #[.val (.ref a1), .val (.long q2), .second] [(.ref a1), (.long q2), (.ref a1)])) rfl rfl (hb hby d16_46)
  have f19 := ((F_size_a1.keep K10q nin0).other W15 (Or.inr (sn6 hw)))
  obtain ⟨T20, X20, e20, st20⟩ := getF X18 hx hZ hown (host := "") (Or.inl (own_w hw 136 rfl)) Via.refl e18 f19 (g := (mkF m 50 #[.val (.ref a1), .val (.long q2), .second] [(.ref a1), (.ref r_10), (.long q2), (.ref a1)])) rfl rfl (hb hby d16_50)
  have ec : own_max ((2 : Int32) * nn) (sz + (9 : Int32)) = own_cap nn sz := by rw [own_cap, if_pos hC]
  have f21 := (t10_2.other W15 (Ne.symm ne_a1_r_10))
  have Vq : Arv Z h15 r_10 kr_10 .byte (own_cap nn sz) vr_10 (.int 0) := ec ▸ f21
  have f23 := (f12.wr W15)
  have f24 := (f13.other W15 na14)
  obtain ⟨_, _, ⟨T22, L22, k22, n22⟩, -, X22, ⟨Lc22, hQ22, l22, y22, z22⟩, st22⟩ := Jvm.LawKit.callS X20 hx (y := mn21) hown (mvT hZ (own_w hw 150 rfl)) (mvT hZ (own_w hw 151 rfl)) (mvT hZ (own_w hw 152 rfl)) (mvT hZ (own_w hw 153 rfl)) (by decide) (backOf (W := 1) (rm19 l Z a0 hw [] q2 r_10 sz kr_10 (own_cap nn sz) vr_10 f ((own_cap nn sz).toNatClampNeg) ln h15 n0 (Nat.le_trans Z0 K16.1) Vq t10_1 (own_nat (by omega)) (by show (own_cap nn sz).toInt.toNat ≤ _; omega) (by rw [t10_3, ec]) hsz.1 (by rw [← own_nat (by omega)]; omega) hj hj2 hj3 hln) hZ (own_w hw 153 rfl) (own_w hw 152 rfl) (by decide) (by decide)) (g := (mkF m 53 #[.val (.ref a1), .val (.long q2), .second] [(.int sz), (.ref r_10), (.long q2), (.ref a1)])) rfl (by rw [hml]; rfl) (argsL := [(.long q2), (.ref r_10), (.int sz)]) (rest := [(.ref a1)]) (lenOf pd__28J_5bBI_29I rfl) rfl (by show 2 * 0 + _ ≤ _; exact Nat.le_of_eq rfl) (hb hby d16_53) (fun _ _ => ⟨rfl, e20, (by decide : 1 + 0 ≤ _), (by decide : 32 + 0 ≤ _)⟩)
  dsimp only [Pt.U, Pt.locs, Pt.cells, Pt.slots] at y22 z22 st22 hQ22
  change Stand p l e _ s m _ below meth c T22 L22 k22 n22 at X22
  change L22 = _ ++ Lc22 at l22
  subst y22 z22
  obtain ⟨rfl, N22q, K22q, t22_0⟩ := hQ22
  have N22 : Fr n0 L22 := l22 ▸ Fr.app N17 N22q
  have K22 : Keep h0 T22.heap [a1, ar] := K16.trans K22q (allS (P := fun xz => xz ∈ [a1, ar] ∨ h0.size ≤ xz) (Or.inr sz_r_10) all0)
  have f25 := (f19.keep K22q (ninS ne_a1_r_10 nin0))
  have f26 := (f23.keep K22q)
  obtain ⟨T27, h27, X27, e27, W27, st27⟩ := putF X22 hx hZ hown (host := "") (Or.inl (own_w hw 136 rfl)) Via.refl rfl f25 f26 (Or.inl (own_w hw 137 rfl)) (own_w hw 72 rfl) (ty := .int) (by decide) rfl rfl (g := (mkF m 56 #[.val (.ref a1), .val (.long q2), .second] [(.int (sz + ln)), (.ref a1)])) rfl rfl (hb hby d16_56)
  have K28 : Keep h0 h27 [a1, ar] := K22.wr W27 (Or.inl (List.mem_of_getElem? (i := 0) rfl))
  have N29 := Fr.snoc X27 N22 g_a1
  have Fw27 := f25.same W27
  have f30 := (f26.wr W27)
  have f31 := ((Fw15.keep K22q (ninS ne_a1_r_10 nin0)).other W27 (Or.inr (sn7 hw)))
  have f32 := (t22_0.other W27 (Ne.symm ne_a1_r_10))
  obtain ⟨fs, hr, hrun, hended, hW, hsame⟩ := X27.leave (v := none) (fun _ => rfl)
  refine ⟨_, _, pre4 _ ?_, hrun, hended, _, _, rfl, ?_, ⟨_, rfl⟩, hW, hsame.mono (by decide) (by decide)⟩
  ·show oS T2 (mkF m 12 #[.val (.ref a1), .val (.long q2), .second] [(.int nn), (.int (sz + (9 : Int32)))])
   refine XS.icmpNo X2.here hx rfl (hb hby d16_12) rfl (tlt hC).2.2.2 ?_
   show oS T2 (mkF m 15 #[.val (.ref a1), .val (.long q2), .second] [])
   refine XS.aloadN X2.here hx rfl (hb hby d16_15) rfl rfl ?_
   show oS T2 (mkF m 16 #[.val (.ref a1), .val (.long q2), .second] [(.ref a1)])
   refine XS.aloadN X2.here hx rfl (hb hby d16_16) rfl rfl ?_
   show oS T2 (mkF m 17 #[.val (.ref a1), .val (.long q2), .second] [(.ref a1), (.ref a1)])
   refine st5 _ ?_
   show oS T5 (mkF m 20 #[.val (.ref a1), .val (.long q2), .second] [(.ref ar), (.ref a1)])
   refine XS.iconst X5.here hx rfl (hb hby d16_20) ?_
   show oS T5 (mkF m 21 #[.val (.ref a1), .val (.long q2), .second] [(.int 2), (.ref ar), (.ref a1)])
   refine XS.aloadN X5.here hx rfl (hb hby d16_21) rfl rfl ?_
   show oS T5 (mkF m 22 #[.val (.ref a1), .val (.long q2), .second] [(.ref a1), (.int 2), (.ref ar), (.ref a1)])
   refine st6 _ ?_
   show oS T6 (mkF m 25 #[.val (.ref a1), .val (.long q2), .second] [(.ref ar), (.int 2), (.ref ar), (.ref a1)])
   refine X6.arraylength hx (by rw [e6]; exact Ac7.1) (State.isArrayOf_alike hZ.alike Ac7.2.1) (g := (mkF m 25 #[.val (.ref a1), .val (.long q2), .second] [(.ref ar), (.int 2), (.ref ar), (.ref a1)])) rfl rfl (hb hby d16_25) _ ?_
   rw [len_of Sc7 Nc7]
   show oS T6 (mkF m 26 #[.val (.ref a1), .val (.long q2), .second] [(.int nn), (.int 2), (.ref ar), (.ref a1)])
   refine XS.imul X6.here hx rfl (hb hby d16_26) rfl ?_
   show oS T6 (mkF m 27 #[.val (.ref a1), .val (.long q2), .second] [(.int ((2 : Int32) * nn)), (.ref ar), (.ref a1)])
   refine XS.aloadN X6.here hx rfl (hb hby d16_27) rfl rfl ?_
   show oS T6 (mkF m 28 #[.val (.ref a1), .val (.long q2), .second] [(.ref a1), (.int ((2 : Int32) * nn)), (.ref ar), (.ref a1)])
   refine st8 _ ?_
   show oS T8 (mkF m 31 #[.val (.ref a1), .val (.long q2), .second] [(.int sz), (.int ((2 : Int32) * nn)), (.ref ar), (.ref a1)])
   refine XS.bipush X8.here hx rfl (hb hby d16_31) ?_
   show oS T8 (mkF m 33 #[.val (.ref a1), .val (.long q2), .second] [(.int 9), (.int sz), (.int ((2 : Int32) * nn)), (.ref ar), (.ref a1)])
   refine XS.iadd X8.here hx rfl (hb hby d16_33) rfl ?_
   show oS T8 (mkF m 34 #[.val (.ref a1), .val (.long q2), .second] [(.int (sz + (9 : Int32))), (.int ((2 : Int32) * nn)), (.ref ar), (.ref a1)])
   refine st9 _ ?_
   show oS T9 (mkF m 37 #[.val (.ref a1), .val (.long q2), .second] [(.int (own_max ((2 : Int32) * nn) (sz + (9 : Int32)))), (.ref ar), (.ref a1)])
   refine st10 _ ?_
   show oS T10 (mkF m 40 #[.val (.ref a1), .val (.long q2), .second] [(.ref r_10), (.ref a1)])
   refine st15 _ ?_
   show oS T15 (mkF m 43 #[.val (.ref a1), .val (.long q2), .second] [])
   refine XS.aloadN X15.here hx rfl (hb hby d16_43) rfl rfl ?_
   show oS T15 (mkF m 44 #[.val (.ref a1), .val (.long q2), .second] [(.ref a1)])
   refine XS.lloadN X15.here hx rfl (hb hby d16_44) rfl ?_
   show oS T15 (mkF m 45 #[.val (.ref a1), .val (.long q2), .second] [(.long q2), (.ref a1)])
   refine XS.aloadN X15.here hx rfl (hb hby d16_45) rfl rfl ?_
   show oS T15 (mkF m 46 #[.val (.ref a1), .val (.long q2), .second] [(.ref a1), (.long q2), (.ref a1)])
   refine st18 _ ?_
   show oS T18 (mkF m 49 #[.val (.ref a1), .val (.long q2), .second] [(.ref r_10), (.long q2), (.ref a1)])
   refine XS.aloadN X18.here hx rfl (hb hby d16_49) rfl rfl ?_
   show oS T18 (mkF m 50 #[.val (.ref a1), .val (.long q2), .second] [(.ref a1), (.ref r_10), (.long q2), (.ref a1)])
   refine st20 _ ?_
   show oS T20 (mkF m 53 #[.val (.ref a1), .val (.long q2), .second] [(.int sz), (.ref r_10), (.long q2), (.ref a1)])
   refine st22 _ ?_
   show oS T22 (mkF m 56 #[.val (.ref a1), .val (.long q2), .second] [(.int (sz + ln)), (.ref a1)])
   refine st27 _ ?_
   show oS T27 (mkF m 59 #[.val (.ref a1), .val (.long q2), .second] [])
   exact X27.returnOut hx Bd.returns (hb hby d16_59) hr
  ·show Q_rmEnB Z a1 q2 sz nn ar kk vs f ln h0 n0 _ T27.heap _
   rw [e27]
   exact ⟨r_10, kr_10, ((own_pre f q2 sz.toNatClampNeg vr_10).set (sz.toNatClampNeg + f) (own_last (own_it f q2))), rfl, N29, K28, f30, f31, Fw27, f32, t10_1, (by rw [List.length_set, own_preLen]; exact (by rw [t10_3, ec])), (Or.inr sz_r_10)⟩
 ·obtain ⟨T33, X33, e33, st33⟩ := getF X2 hx hZ hown (host := "") (Or.inl (own_w hw 79 rfl)) Via.refl e2 F_bytes_a1 (g := (mkF m 46 #[.val (.ref a1), .val (.long q2), .second] [(.ref a1), (.long q2), (.ref a1)])) rfl rfl (hb hby d16_46)
  obtain ⟨T34, X34, e34, st34⟩ := getF X33 hx hZ hown (host := "") (Or.inl (own_w hw 136 rfl)) Via.refl e33 F_size_a1 (g := (mkF m 50 #[.val (.ref a1), .val (.long q2), .second] [(.ref a1), (.ref ar), (.long q2), (.ref a1)])) rfl rfl (hb hby d16_50)
  have ec : nn = own_cap nn sz := by rw [own_cap, if_neg hC]
  have Vq : Arv Z h0 ar kk .byte (own_cap nn sz) vs (.int 0) := ec ▸ V_ar
  have na36 := Exa.neArv E_a1 Vq (own_w hw 72 rfl)
  obtain ⟨_, _, ⟨T35, L35, k35, n35⟩, -, X35, ⟨Lc35, hQ35, l35, y35, z35⟩, st35⟩ := Jvm.LawKit.callS X34 hx (y := mn21) hown (mvT hZ (own_w hw 150 rfl)) (mvT hZ (own_w hw 151 rfl)) (mvT hZ (own_w hw 152 rfl)) (mvT hZ (own_w hw 153 rfl)) (by decide) (backOf (W := 1) (rm19 l Z a0 hw [] q2 ar sz kk (own_cap nn sz) vs f ((own_cap nn sz).toNatClampNeg) ln h0 n0 Z0 Vq g_ar (own_nat (by omega)) (by show (own_cap nn sz).toInt.toNat ≤ _; omega) (by rw [hl, ← ec]) hsz.1 (by rw [← own_nat (by omega)]; omega) hj hj2 hj3 hln) hZ (own_w hw 153 rfl) (own_w hw 152 rfl) (by decide) (by decide)) (g := (mkF m 53 #[.val (.ref a1), .val (.long q2), .second] [(.int sz), (.ref ar), (.long q2), (.ref a1)])) rfl (by rw [hml]; rfl) (argsL := [(.long q2), (.ref ar), (.int sz)]) (rest := [(.ref a1)]) (lenOf pd__28J_5bBI_29I rfl) rfl (by show 2 * 0 + _ ≤ _; exact Nat.le_of_eq rfl) (hb hby d16_53) (fun _ _ => ⟨rfl, e34, (by decide : 0 + 0 ≤ _), (by decide : 0 + 0 ≤ _)⟩)
  dsimp only [Pt.U, Pt.locs, Pt.cells, Pt.slots] at y35 z35 st35 hQ35
  change Stand p l e _ s m _ below meth c T35 L35 k35 n35 at X35
  change L35 = _ ++ Lc35 at l35
  subst y35 z35
  obtain ⟨rfl, N35q, K35q, t35_0⟩ := hQ35
  have N35 : Fr n0 L35 := l35 ▸ Fr.app N0 N35q
  have K35 : Keep h0 T35.heap [a1, ar] := (Keep.refl h0 [a1, ar]).trans K35q (allS (P := fun xz => xz ∈ [a1, ar] ∨ h0.size ≤ xz) (Or.inl (List.mem_of_getElem? (i := 1) rfl)) all0)
  have f37 := (F_size_a1.keep K35q (ninS na36 nin0))
  have f38 := (E_a1.keep K35q)
  obtain ⟨T39, h39, X39, e39, W39, st39⟩ := putF X35 hx hZ hown (host := "") (Or.inl (own_w hw 136 rfl)) Via.refl rfl f37 f38 (Or.inl (own_w hw 137 rfl)) (own_w hw 72 rfl) (ty := .int) (by decide) rfl rfl (g := (mkF m 56 #[.val (.ref a1), .val (.long q2), .second] [(.int (sz + ln)), (.ref a1)])) rfl rfl (hb hby d16_56)
  have K40 : Keep h0 h39 [a1, ar] := K35.wr W39 (Or.inl (List.mem_of_getElem? (i := 0) rfl))
  have N41 := Fr.snoc X39 N35 g_a1
  have Fw39 := f37.same W39
  have f42 := (f38.wr W39)
  have f43 := ((F_bytes_a1.keep K35q (ninS na36 nin0)).other W39 (Or.inr (sn7 hw)))
  have f44 := (t35_0.other W39 (Ne.symm na36))
  obtain ⟨fs, hr, hrun, hended, hW, hsame⟩ := X39.leave (v := none) (fun _ => rfl)
  refine ⟨_, _, pre4 _ ?_, hrun, hended, _, _, rfl, ?_, ⟨_, rfl⟩, hW, hsame.mono (by decide) (by decide)⟩
  ·show oS T2 (mkF m 12 #[.val (.ref a1), .val (.long q2), .second] [(.int nn), (.int (sz + (9 : Int32)))])
   refine XS.icmpYes X2.here hx rfl (pc0 := 12) (pc' := 43) rfl (hb hby d16_12) rfl (flt hC).2.2.2 (by decide) (by decide) ?_
   show oS T2 (mkF m 43 #[.val (.ref a1), .val (.long q2), .second] [])
   refine XS.aloadN X2.here hx rfl (hb hby d16_43) rfl rfl ?_
   show oS T2 (mkF m 44 #[.val (.ref a1), .val (.long q2), .second] [(.ref a1)])
   refine XS.lloadN X2.here hx rfl (hb hby d16_44) rfl ?_
   show oS T2 (mkF m 45 #[.val (.ref a1), .val (.long q2), .second] [(.long q2), (.ref a1)])
   refine XS.aloadN X2.here hx rfl (hb hby d16_45) rfl rfl ?_
   show oS T2 (mkF m 46 #[.val (.ref a1), .val (.long q2), .second] [(.ref a1), (.long q2), (.ref a1)])
   refine st33 _ ?_
   show oS T33 (mkF m 49 #[.val (.ref a1), .val (.long q2), .second] [(.ref ar), (.long q2), (.ref a1)])
   refine XS.aloadN X33.here hx rfl (hb hby d16_49) rfl rfl ?_
   show oS T33 (mkF m 50 #[.val (.ref a1), .val (.long q2), .second] [(.ref a1), (.ref ar), (.long q2), (.ref a1)])
   refine st34 _ ?_
   show oS T34 (mkF m 53 #[.val (.ref a1), .val (.long q2), .second] [(.int sz), (.ref ar), (.long q2), (.ref a1)])
   refine st35 _ ?_
   show oS T35 (mkF m 56 #[.val (.ref a1), .val (.long q2), .second] [(.int (sz + ln)), (.ref a1)])
   refine st39 _ ?_
   show oS T39 (mkF m 59 #[.val (.ref a1), .val (.long q2), .second] [])
   exact X39.returnOut hx Bd.returns (hb hby d16_59) hr
  ·show Q_rmEnB Z a1 q2 sz nn ar kk vs f ln h0 n0 _ T39.heap _
   rw [e39]
   exact ⟨ar, kk, ((own_pre f q2 sz.toNatClampNeg vs).set (sz.toNatClampNeg + f) (own_last (own_it f q2))), rfl, N41, K40, f42, f43, Fw39, f44, g_ar, (by rw [List.length_set, own_preLen]; exact (by rw [hl, ← ec])), (Or.inl rfl)⟩
theorem d12_0 : decode cd25 0 = .ok (.aload_n 0, 1) := by decide +kernel
theorem d12_1 : decode cd25 1 = .ok (.getfield 7, 3) := by decide +kernel
theorem d12_4 : decode cd25 4 = .ok (.arraylength, 1) := by decide +kernel
theorem d12_5 : decode cd25 5 = .ok (.ireturn, 1) := by decide +kernel
theorem pn_java_util_ImmutableCollections_ListN : plainName "java/util/ImmutableCollections$ListN" = true := by first | (simp [plainName, overriddenIn]; done) | decide +kernel
theorem ef_rm12 (m : MethodId) (a1 : Addr) : entryFrame m #[(.ref a1)] 1 = mkF m 0 #[.val (.ref a1)] [] := by first | (simp [entryFrame, mkF, argsToLocals, Value.category]; done) | rfl
def Q_rm12 (Z : State) (a1 : Addr) (we : Addr) (ke : ClassId) (ve : List Value) (h0 : Heap) (n0 : Nat) (v : Option Value) (h : Heap) (L : List Loc) : Prop := v = some (.int 4) ∧ Fr n0 L ∧ h = h0
set_option maxRecDepth 65536 in
set_option maxHeartbeats 40000000 in
theorem rm12 (l : Launch) (Z : State) (a0 : Array Value) (hw : own_Hw Z a0) (ws : List Jvm.Cond) (a1 : Addr) (we : Addr) (ke : ClassId) (ve : List Value) (h0 : Heap) (n0 : Nat) (Z0 : n0 ≤ h0.size) (F_elements_a1 : Fld Z h0 a1 "java/util/ImmutableCollections$ListN" "elements" nm9 (.ref we)) (V_we : Arv Z h0 we ke (.object nm7) (4 : Int32) ve .null) :
  MetFree l mn25 (head1 (Jvm.Cond.code mn25 cd25 1 (some .int) :: ws) ({ frames := 0, cells := 0, slots := 0, locals := 0 } : Room)) (fun a U => a = #[(.ref a1)] ∧ Z.Warmed39 U.vm ∧ U.heap = h0) (fun _ _ _ _ _ => True) (fun _ U o U' => ∃ v L, o = .returned v ∧ Q_rm12 Z a1 we ke ve h0 n0 v U'.heap L ∧ FrameEnd U o U' L ({ frames := 0, cells := 0, slots := 0, locals := 0 } : Room).cells ({ frames := 0, cells := 0, slots := 0, locals := 0 } : Room).slots) := by
 refine MetFree.of_bodySF (plainFor_of_name pn_java_util_ImmutableCollections_ListN) hisR ?_
 intro p e s m args below meth c s₁ Bd hml0 hP hK
 obtain ⟨rfl, hZ, hh⟩ := hP
 have hx := Bd.exec
 have hby := Bd.bytes
 have hml : c.maxLocals = 1 := hml0
 have hown : s.vm.findClass "java/util/ImmutableCollections$ListN" = some m.cls := findClass_of_methodNamed Bd.named
 have hnm := (name_of_methodNamed Bd.named Bd.method).1
 have X0 : Stand p l e ({ frames := 0, cells := 0, slots := 0, locals := 0 } : Room) s m #[(.ref a1)] below meth c s₁ [] 0 0 := Stand.of_body Bd
 have e0 : s₁.heap = h0 := by rw [← hh, Bd.state]; rfl
 have N0 := Fr.nil n0
 have pre0 : ∀ t, Steps p.tables e below (s₁.setTop (mkF m 0 #[.val (.ref a1)] [])) t → Steps p.tables e below (s₁.setTop (entryFrame m #[(.ref a1)] 1)) t := fun t k => castTop (ef_rm12 m a1) k
 obtain ⟨T1, X1, e1, st1⟩ := getF X0 hx hZ hown (host := "") (Or.inl (own_w hw 98 rfl)) Via.refl e0 F_elements_a1 (g := (mkF m 1 #[.val (.ref a1)] [(.ref a1)])) rfl rfl (hb hby d12_1)
 obtain ⟨c2, Ac2, -, Sc2, Nc2, -, -⟩ := id V_we
 obtain ⟨fs, hr, hrun, hended, hW, hsame⟩ := X1.leave (v := some (.int 4)) (fun h => by rw [Bd.returns] at h; cases h)
 refine ⟨_, _, pre0 _ ?_, hrun, hended, _, _, rfl, ?_, ⟨_, rfl⟩, hW, hsame.mono (by decide) (by decide)⟩
 ·show oS s₁ (mkF m 0 #[.val (.ref a1)] [])
  refine XS.aloadN X0.here hx rfl (hb hby d12_0) rfl rfl ?_
  show oS s₁ (mkF m 1 #[.val (.ref a1)] [(.ref a1)])
  refine st1 _ ?_
  show oS T1 (mkF m 4 #[.val (.ref a1)] [(.ref we)])
  refine X1.arraylength hx (by rw [e1]; exact Ac2.1) (State.isArrayOf_alike hZ.alike Ac2.2.1) (g := (mkF m 4 #[.val (.ref a1)] [(.ref we)])) rfl rfl (hb hby d12_4) _ ?_
  rw [len_of Sc2 Nc2]
  show oS T1 (mkF m 5 #[.val (.ref a1)] [(.int 4)])
  exact retI X1 hx Bd.returns (hb hby d12_5) hr
 ·show Q_rm12 Z a1 we ke ve h0 n0 _ T1.heap _
  rw [e1]
  exact ⟨rfl, N0, rfl⟩
theorem d10_0 : decode cd13 0 = .ok (.aload_n 0, 1) := by decide +kernel
theorem d10_1 : decode cd13 1 = .ok (.invokespecial 1, 3) := by decide +kernel
theorem d10_4 : decode cd13 4 = .ok (.aload_n 0, 1) := by decide +kernel
theorem d10_5 : decode cd13 5 = .ok (.new 7, 3) := by decide +kernel
theorem d10_8 : decode cd13 8 = .ok (.dup, 1) := by decide +kernel
theorem d10_9 : decode cd13 9 = .ok (.invokespecial 9, 3) := by decide +kernel
theorem d10_12 : decode cd13 12 = .ok (.putfield 10, 3) := by decide +kernel
theorem d10_15 : decode cd13 15 = .ok (.aload_n 0, 1) := by decide +kernel
theorem d10_16 : decode cd13 16 = .ok (.new 7, 3) := by decide +kernel
theorem d10_19 : decode cd13 19 = .ok (.dup, 1) := by decide +kernel
theorem d10_20 : decode cd13 20 = .ok (.invokespecial 9, 3) := by decide +kernel
theorem d10_23 : decode cd13 23 = .ok (.putfield 16, 3) := by decide +kernel
theorem sn8 {Z : State} {a0 : Array Value} (hw : own_Hw Z a0) : Jvm.RoadKit.slotOf Z nm0 "positions" nm2 ≠ Jvm.RoadKit.slotOf Z nm0 "postings" nm2 := slot_ne (Or.inr (own_w hw 84 rfl)) (Or.inr (own_w hw 82 rfl)) (by decide) (t := (.object nm1)) (t' := (.object nm1)) (by decide) (by decide)
theorem d10_26 : decode cd13 26 = .ok (.aload_n 0, 1) := by decide +kernel
theorem d10_27 : decode cd13 27 = .ok (.getstatic 19, 3) := by decide +kernel
theorem d10_30 : decode cd13 30 = .ok (.invokeinterface 25 1, 5) := by decide +kernel
theorem d10_35 : decode cd13 35 = .ok (.newarray .long, 2) := by decide +kernel
theorem d10_37 : decode cd13 37 = .ok (.putfield 31, 3) := by decide +kernel
theorem sn9 {Z : State} {a0 : Array Value} (hw : own_Hw Z a0) : Jvm.RoadKit.slotOf Z nm0 "shares" "[J" ≠ Jvm.RoadKit.slotOf Z nm0 "postings" nm2 := slot_ne (Or.inr (own_w hw 102 rfl)) (Or.inr (own_w hw 82 rfl)) (by decide) (t := (.array .long)) (t' := (.object nm1)) (by decide) (by decide)
theorem sn10 {Z : State} {a0 : Array Value} (hw : own_Hw Z a0) : Jvm.RoadKit.slotOf Z nm0 "shares" "[J" ≠ Jvm.RoadKit.slotOf Z nm0 "positions" nm2 := slot_ne (Or.inr (own_w hw 102 rfl)) (Or.inr (own_w hw 84 rfl)) (by decide) (t := (.array .long)) (t' := (.object nm1)) (by decide) (by decide)
theorem d10_40 : decode cd13 40 = .ok (.aload_n 0, 1) := by decide +kernel
theorem d10_41 : decode cd13 41 = .ok (.iconst (-1), 1) := by decide +kernel
theorem d10_42 : decode cd13 42 = .ok (.putfield 35, 3) := by decide +kernel
theorem sn11 {Z : State} {a0 : Array Value} (hw : own_Hw Z a0) : Jvm.RoadKit.slotOf Z nm0 nm19 "I" ≠ Jvm.RoadKit.slotOf Z nm0 "postings" nm2 := slot_ne (Or.inl (own_w hw 104 rfl)) (Or.inr (own_w hw 82 rfl)) (by decide) (t := .int) (t' := (.object nm1)) (by decide) (by decide)
theorem sn12 {Z : State} {a0 : Array Value} (hw : own_Hw Z a0) : Jvm.RoadKit.slotOf Z nm0 nm19 "I" ≠ Jvm.RoadKit.slotOf Z nm0 "positions" nm2 := slot_ne (Or.inl (own_w hw 104 rfl)) (Or.inr (own_w hw 84 rfl)) (by decide) (t := .int) (t' := (.object nm1)) (by decide) (by decide)
theorem sn13 {Z : State} {a0 : Array Value} (hw : own_Hw Z a0) : Jvm.RoadKit.slotOf Z nm0 nm19 "I" ≠ Jvm.RoadKit.slotOf Z nm0 "shares" "[J" := slot_ne (Or.inl (own_w hw 104 rfl)) (Or.inr (own_w hw 102 rfl)) (by decide) (t := .int) (t' := (.array .long)) (by decide) (by decide)
theorem d10_45 : decode cd13 45 = .ok (.aload_n 0, 1) := by decide +kernel
theorem d10_46 : decode cd13 46 = .ok (.iconst (-1), 1) := by decide +kernel
theorem d10_47 : decode cd13 47 = .ok (.putfield 39, 3) := by decide +kernel
theorem sn14 {Z : State} {a0 : Array Value} (hw : own_Hw Z a0) : Jvm.RoadKit.slotOf Z nm0 "lastDocument" "I" ≠ Jvm.RoadKit.slotOf Z nm0 "postings" nm2 := slot_ne (Or.inl (own_w hw 106 rfl)) (Or.inr (own_w hw 82 rfl)) (by decide) (t := .int) (t' := (.object nm1)) (by decide) (by decide)
theorem sn15 {Z : State} {a0 : Array Value} (hw : own_Hw Z a0) : Jvm.RoadKit.slotOf Z nm0 "lastDocument" "I" ≠ Jvm.RoadKit.slotOf Z nm0 "positions" nm2 := slot_ne (Or.inl (own_w hw 106 rfl)) (Or.inr (own_w hw 84 rfl)) (by decide) (t := .int) (t' := (.object nm1)) (by decide) (by decide)
theorem sn16 {Z : State} {a0 : Array Value} (hw : own_Hw Z a0) : Jvm.RoadKit.slotOf Z nm0 "lastDocument" "I" ≠ Jvm.RoadKit.slotOf Z nm0 "shares" "[J" := slot_ne (Or.inl (own_w hw 106 rfl)) (Or.inr (own_w hw 102 rfl)) (by decide) (t := .int) (t' := (.array .long)) (by decide) (by decide)
theorem sn17 {Z a0} (hw : own_Hw Z a0) : own_sO Z nm0 "lastDocument" "I" ≠ own_sO Z nm0 nm19 "I" := own_sn hw 106 104 rfl rfl (by decide) (by decide) (by decide)
theorem d10_50 : decode cd13 50 = .ok (.aload_n 0, 1) := by decide +kernel
theorem d10_51 : decode cd13 51 = .ok (.iconst (-1), 1) := by decide +kernel
theorem d10_52 : decode cd13 52 = .ok (.putfield 42, 3) := by decide +kernel
theorem sn18 {Z : State} {a0 : Array Value} (hw : own_Hw Z a0) : Jvm.RoadKit.slotOf Z nm0 "document" "I" ≠ Jvm.RoadKit.slotOf Z nm0 "postings" nm2 := slot_ne (Or.inl (own_w hw 108 rfl)) (Or.inr (own_w hw 82 rfl)) (by decide) (t := .int) (t' := (.object nm1)) (by decide) (by decide)
theorem sn19 {Z : State} {a0 : Array Value} (hw : own_Hw Z a0) : Jvm.RoadKit.slotOf Z nm0 "document" "I" ≠ Jvm.RoadKit.slotOf Z nm0 "positions" nm2 := slot_ne (Or.inl (own_w hw 108 rfl)) (Or.inr (own_w hw 84 rfl)) (by decide) (t := .int) (t' := (.object nm1)) (by decide) (by decide)
theorem sn20 {Z : State} {a0 : Array Value} (hw : own_Hw Z a0) : Jvm.RoadKit.slotOf Z nm0 "document" "I" ≠ Jvm.RoadKit.slotOf Z nm0 "shares" "[J" := slot_ne (Or.inl (own_w hw 108 rfl)) (Or.inr (own_w hw 102 rfl)) (by decide) (t := .int) (t' := (.array .long)) (by decide) (by decide)
theorem sn21 {Z a0} (hw : own_Hw Z a0) : own_sO Z nm0 "document" "I" ≠ own_sO Z nm0 nm19 "I" := own_sn hw 108 104 rfl rfl (by decide) (by decide) (by decide)
theorem sn22 {Z a0} (hw : own_Hw Z a0) : own_sO Z nm0 "document" "I" ≠ own_sO Z nm0 "lastDocument" "I" := own_sn hw 108 106 rfl rfl (by decide) (by decide) (by decide)
theorem d10_55 : decode cd13 55 = .ok (.return_, 1) := by decide +kernel
theorem sn23 {Z : State} {a0 : Array Value} (hw : own_Hw Z a0) : Jvm.RoadKit.slotOf Z nm0 "postings" nm2 ≠ Jvm.RoadKit.slotOf Z nm0 "positions" nm2 := slot_ne (Or.inr (own_w hw 82 rfl)) (Or.inr (own_w hw 84 rfl)) (by decide) (t := (.object nm1)) (t' := (.object nm1)) (by decide) (by decide)
theorem sn24 {Z : State} {a0 : Array Value} (hw : own_Hw Z a0) : Jvm.RoadKit.slotOf Z nm0 "postings" nm2 ≠ Jvm.RoadKit.slotOf Z nm0 "shares" "[J" := slot_ne (Or.inr (own_w hw 82 rfl)) (Or.inr (own_w hw 102 rfl)) (by decide) (t := (.object nm1)) (t' := (.array .long)) (by decide) (by decide)
theorem sn25 {Z : State} {a0 : Array Value} (hw : own_Hw Z a0) : Jvm.RoadKit.slotOf Z nm0 "postings" nm2 ≠ Jvm.RoadKit.slotOf Z nm0 nm19 "I" := slot_ne (Or.inr (own_w hw 82 rfl)) (Or.inl (own_w hw 104 rfl)) (by decide) (t := (.object nm1)) (t' := .int) (by decide) (by decide)
theorem sn26 {Z : State} {a0 : Array Value} (hw : own_Hw Z a0) : Jvm.RoadKit.slotOf Z nm0 "postings" nm2 ≠ Jvm.RoadKit.slotOf Z nm0 "lastDocument" "I" := slot_ne (Or.inr (own_w hw 82 rfl)) (Or.inl (own_w hw 106 rfl)) (by decide) (t := (.object nm1)) (t' := .int) (by decide) (by decide)
theorem sn27 {Z : State} {a0 : Array Value} (hw : own_Hw Z a0) : Jvm.RoadKit.slotOf Z nm0 "postings" nm2 ≠ Jvm.RoadKit.slotOf Z nm0 "document" "I" := slot_ne (Or.inr (own_w hw 82 rfl)) (Or.inl (own_w hw 108 rfl)) (by decide) (t := (.object nm1)) (t' := .int) (by decide) (by decide)
theorem sn28 {Z : State} {a0 : Array Value} (hw : own_Hw Z a0) : Jvm.RoadKit.slotOf Z nm0 "positions" nm2 ≠ Jvm.RoadKit.slotOf Z nm0 "shares" "[J" := slot_ne (Or.inr (own_w hw 84 rfl)) (Or.inr (own_w hw 102 rfl)) (by decide) (t := (.object nm1)) (t' := (.array .long)) (by decide) (by decide)
theorem sn29 {Z : State} {a0 : Array Value} (hw : own_Hw Z a0) : Jvm.RoadKit.slotOf Z nm0 "positions" nm2 ≠ Jvm.RoadKit.slotOf Z nm0 nm19 "I" := slot_ne (Or.inr (own_w hw 84 rfl)) (Or.inl (own_w hw 104 rfl)) (by decide) (t := (.object nm1)) (t' := .int) (by decide) (by decide)
theorem sn30 {Z : State} {a0 : Array Value} (hw : own_Hw Z a0) : Jvm.RoadKit.slotOf Z nm0 "positions" nm2 ≠ Jvm.RoadKit.slotOf Z nm0 "lastDocument" "I" := slot_ne (Or.inr (own_w hw 84 rfl)) (Or.inl (own_w hw 106 rfl)) (by decide) (t := (.object nm1)) (t' := .int) (by decide) (by decide)
theorem sn31 {Z : State} {a0 : Array Value} (hw : own_Hw Z a0) : Jvm.RoadKit.slotOf Z nm0 "positions" nm2 ≠ Jvm.RoadKit.slotOf Z nm0 "document" "I" := slot_ne (Or.inr (own_w hw 84 rfl)) (Or.inl (own_w hw 108 rfl)) (by decide) (t := (.object nm1)) (t' := .int) (by decide) (by decide)
theorem sn32 {Z : State} {a0 : Array Value} (hw : own_Hw Z a0) : Jvm.RoadKit.slotOf Z nm0 "shares" "[J" ≠ Jvm.RoadKit.slotOf Z nm0 nm19 "I" := slot_ne (Or.inr (own_w hw 102 rfl)) (Or.inl (own_w hw 104 rfl)) (by decide) (t := (.array .long)) (t' := .int) (by decide) (by decide)
theorem sn33 {Z : State} {a0 : Array Value} (hw : own_Hw Z a0) : Jvm.RoadKit.slotOf Z nm0 "shares" "[J" ≠ Jvm.RoadKit.slotOf Z nm0 "lastDocument" "I" := slot_ne (Or.inr (own_w hw 102 rfl)) (Or.inl (own_w hw 106 rfl)) (by decide) (t := (.array .long)) (t' := .int) (by decide) (by decide)
theorem sn34 {Z : State} {a0 : Array Value} (hw : own_Hw Z a0) : Jvm.RoadKit.slotOf Z nm0 "shares" "[J" ≠ Jvm.RoadKit.slotOf Z nm0 "document" "I" := slot_ne (Or.inr (own_w hw 102 rfl)) (Or.inl (own_w hw 108 rfl)) (by decide) (t := (.array .long)) (t' := .int) (by decide) (by decide)
theorem sn35 {Z a0} (hw : own_Hw Z a0) : own_sO Z nm0 nm19 "I" ≠ own_sO Z nm0 "lastDocument" "I" := own_sn hw 104 106 rfl rfl (by decide) (by decide) (by decide)
theorem sn36 {Z a0} (hw : own_Hw Z a0) : own_sO Z nm0 nm19 "I" ≠ own_sO Z nm0 "document" "I" := own_sn hw 104 108 rfl rfl (by decide) (by decide) (by decide)
theorem sn37 {Z a0} (hw : own_Hw Z a0) : own_sO Z nm0 "lastDocument" "I" ≠ own_sO Z nm0 "document" "I" := own_sn hw 106 108 rfl rfl (by decide) (by decide) (by decide)
theorem sn38 {Z : State} {a0 : Array Value} (hw : own_Hw Z a0) : Jvm.RoadKit.slotOf Z nm0 "sentence" "I" ≠ Jvm.RoadKit.slotOf Z nm0 "postings" nm2 := slot_ne (Or.inl (own_w hw 128 rfl)) (Or.inr (own_w hw 82 rfl)) (by decide) (t := .int) (t' := (.object nm1)) (by decide) (by decide)
theorem sn39 {Z : State} {a0 : Array Value} (hw : own_Hw Z a0) : Jvm.RoadKit.slotOf Z nm0 "sentence" "I" ≠ Jvm.RoadKit.slotOf Z nm0 "positions" nm2 := slot_ne (Or.inl (own_w hw 128 rfl)) (Or.inr (own_w hw 84 rfl)) (by decide) (t := .int) (t' := (.object nm1)) (by decide) (by decide)
theorem sn40 {Z : State} {a0 : Array Value} (hw : own_Hw Z a0) : Jvm.RoadKit.slotOf Z nm0 "sentence" "I" ≠ Jvm.RoadKit.slotOf Z nm0 "shares" "[J" := slot_ne (Or.inl (own_w hw 128 rfl)) (Or.inr (own_w hw 102 rfl)) (by decide) (t := .int) (t' := (.array .long)) (by decide) (by decide)
theorem sn41 {Z a0} (hw : own_Hw Z a0) : own_sO Z nm0 "sentence" "I" ≠ own_sO Z nm0 nm19 "I" := own_sn hw 128 104 rfl rfl (by decide) (by decide) (by decide)
theorem sn42 {Z a0} (hw : own_Hw Z a0) : own_sO Z nm0 "sentence" "I" ≠ own_sO Z nm0 "lastDocument" "I" := own_sn hw 128 106 rfl rfl (by decide) (by decide) (by decide)
theorem sn43 {Z a0} (hw : own_Hw Z a0) : own_sO Z nm0 "sentence" "I" ≠ own_sO Z nm0 "document" "I" := own_sn hw 128 108 rfl rfl (by decide) (by decide) (by decide)
theorem sn44 {Z : State} {a0 : Array Value} (hw : own_Hw Z a0) : Jvm.RoadKit.slotOf Z nm0 nm13 "I" ≠ Jvm.RoadKit.slotOf Z nm0 "postings" nm2 := slot_ne (Or.inl (own_w hw 130 rfl)) (Or.inr (own_w hw 82 rfl)) (by decide) (t := .int) (t' := (.object nm1)) (by decide) (by decide)
theorem sn45 {Z : State} {a0 : Array Value} (hw : own_Hw Z a0) : Jvm.RoadKit.slotOf Z nm0 nm13 "I" ≠ Jvm.RoadKit.slotOf Z nm0 "positions" nm2 := slot_ne (Or.inl (own_w hw 130 rfl)) (Or.inr (own_w hw 84 rfl)) (by decide) (t := .int) (t' := (.object nm1)) (by decide) (by decide)
theorem sn46 {Z : State} {a0 : Array Value} (hw : own_Hw Z a0) : Jvm.RoadKit.slotOf Z nm0 nm13 "I" ≠ Jvm.RoadKit.slotOf Z nm0 "shares" "[J" := slot_ne (Or.inl (own_w hw 130 rfl)) (Or.inr (own_w hw 102 rfl)) (by decide) (t := .int) (t' := (.array .long)) (by decide) (by decide)
theorem sn47 {Z a0} (hw : own_Hw Z a0) : own_sO Z nm0 nm13 "I" ≠ own_sO Z nm0 nm19 "I" := own_sn hw 130 104 rfl rfl (by decide) (by decide) (by decide)
theorem sn48 {Z a0} (hw : own_Hw Z a0) : own_sO Z nm0 nm13 "I" ≠ own_sO Z nm0 "lastDocument" "I" := own_sn hw 130 106 rfl rfl (by decide) (by decide) (by decide)
theorem sn49 {Z a0} (hw : own_Hw Z a0) : own_sO Z nm0 nm13 "I" ≠ own_sO Z nm0 "document" "I" := own_sn hw 130 108 rfl rfl (by decide) (by decide) (by decide)
theorem sn50 {Z : State} {a0 : Array Value} (hw : own_Hw Z a0) : Jvm.RoadKit.slotOf Z nm0 "frequency" "I" ≠ Jvm.RoadKit.slotOf Z nm0 "postings" nm2 := slot_ne (Or.inl (own_w hw 126 rfl)) (Or.inr (own_w hw 82 rfl)) (by decide) (t := .int) (t' := (.object nm1)) (by decide) (by decide)
theorem sn51 {Z : State} {a0 : Array Value} (hw : own_Hw Z a0) : Jvm.RoadKit.slotOf Z nm0 "frequency" "I" ≠ Jvm.RoadKit.slotOf Z nm0 "positions" nm2 := slot_ne (Or.inl (own_w hw 126 rfl)) (Or.inr (own_w hw 84 rfl)) (by decide) (t := .int) (t' := (.object nm1)) (by decide) (by decide)
theorem sn52 {Z : State} {a0 : Array Value} (hw : own_Hw Z a0) : Jvm.RoadKit.slotOf Z nm0 "frequency" "I" ≠ Jvm.RoadKit.slotOf Z nm0 "shares" "[J" := slot_ne (Or.inl (own_w hw 126 rfl)) (Or.inr (own_w hw 102 rfl)) (by decide) (t := .int) (t' := (.array .long)) (by decide) (by decide)
theorem sn53 {Z a0} (hw : own_Hw Z a0) : own_sO Z nm0 "frequency" "I" ≠ own_sO Z nm0 nm19 "I" := own_sn hw 126 104 rfl rfl (by decide) (by decide) (by decide)
theorem sn54 {Z a0} (hw : own_Hw Z a0) : own_sO Z nm0 "frequency" "I" ≠ own_sO Z nm0 "lastDocument" "I" := own_sn hw 126 106 rfl rfl (by decide) (by decide) (by decide)
theorem sn55 {Z a0} (hw : own_Hw Z a0) : own_sO Z nm0 "frequency" "I" ≠ own_sO Z nm0 "document" "I" := own_sn hw 126 108 rfl rfl (by decide) (by decide) (by decide)
theorem sn56 {Z : State} {a0 : Array Value} (hw : own_Hw Z a0) : Jvm.RoadKit.slotOf Z nm0 "windows" "J" ≠ Jvm.RoadKit.slotOf Z nm0 "postings" nm2 := slot_ne (Or.inl (own_w hw 194 rfl)) (Or.inr (own_w hw 82 rfl)) (by decide) (t := .long) (t' := (.object nm1)) (by decide) (by decide)
theorem sn57 {Z : State} {a0 : Array Value} (hw : own_Hw Z a0) : Jvm.RoadKit.slotOf Z nm0 "windows" "J" ≠ Jvm.RoadKit.slotOf Z nm0 "positions" nm2 := slot_ne (Or.inl (own_w hw 194 rfl)) (Or.inr (own_w hw 84 rfl)) (by decide) (t := .long) (t' := (.object nm1)) (by decide) (by decide)
theorem sn58 {Z : State} {a0 : Array Value} (hw : own_Hw Z a0) : Jvm.RoadKit.slotOf Z nm0 "windows" "J" ≠ Jvm.RoadKit.slotOf Z nm0 "shares" "[J" := slot_ne (Or.inl (own_w hw 194 rfl)) (Or.inr (own_w hw 102 rfl)) (by decide) (t := .long) (t' := (.array .long)) (by decide) (by decide)
theorem sn59 {Z a0} (hw : own_Hw Z a0) : own_sO Z nm0 "windows" "J" ≠ own_sO Z nm0 nm19 "I" := own_sn hw 194 104 rfl rfl (by decide) (by decide) (by decide)
theorem sn60 {Z a0} (hw : own_Hw Z a0) : own_sO Z nm0 "windows" "J" ≠ own_sO Z nm0 "lastDocument" "I" := own_sn hw 194 106 rfl rfl (by decide) (by decide) (by decide)
theorem sn61 {Z a0} (hw : own_Hw Z a0) : own_sO Z nm0 "windows" "J" ≠ own_sO Z nm0 "document" "I" := own_sn hw 194 108 rfl rfl (by decide) (by decide) (by decide)
theorem sn62 {Z : State} {a0 : Array Value} (hw : own_Hw Z a0) : Jvm.RoadKit.slotOf Z nm0 nm11 "J" ≠ Jvm.RoadKit.slotOf Z nm0 "postings" nm2 := slot_ne (Or.inl (own_w hw 220 rfl)) (Or.inr (own_w hw 82 rfl)) (by decide) (t := .long) (t' := (.object nm1)) (by decide) (by decide)
theorem sn63 {Z : State} {a0 : Array Value} (hw : own_Hw Z a0) : Jvm.RoadKit.slotOf Z nm0 nm11 "J" ≠ Jvm.RoadKit.slotOf Z nm0 "positions" nm2 := slot_ne (Or.inl (own_w hw 220 rfl)) (Or.inr (own_w hw 84 rfl)) (by decide) (t := .long) (t' := (.object nm1)) (by decide) (by decide)
theorem sn64 {Z : State} {a0 : Array Value} (hw : own_Hw Z a0) : Jvm.RoadKit.slotOf Z nm0 nm11 "J" ≠ Jvm.RoadKit.slotOf Z nm0 "shares" "[J" := slot_ne (Or.inl (own_w hw 220 rfl)) (Or.inr (own_w hw 102 rfl)) (by decide) (t := .long) (t' := (.array .long)) (by decide) (by decide)
theorem sn65 {Z a0} (hw : own_Hw Z a0) : own_sO Z nm0 nm11 "J" ≠ own_sO Z nm0 nm19 "I" := own_sn hw 220 104 rfl rfl (by decide) (by decide) (by decide)
theorem sn66 {Z a0} (hw : own_Hw Z a0) : own_sO Z nm0 nm11 "J" ≠ own_sO Z nm0 "lastDocument" "I" := own_sn hw 220 106 rfl rfl (by decide) (by decide) (by decide)
theorem sn67 {Z a0} (hw : own_Hw Z a0) : own_sO Z nm0 nm11 "J" ≠ own_sO Z nm0 "document" "I" := own_sn hw 220 108 rfl rfl (by decide) (by decide) (by decide)
theorem pn_com_example_morro_morro_index_TermPostings : plainName nm0 = true := by first | (simp [plainName, overriddenIn]; done) | decide +kernel
theorem ef_rm10 (m : MethodId) (a1 : Addr) : entryFrame m #[(.ref a1)] 1 = mkF m 0 #[.val (.ref a1)] [] := by first | (simp [entryFrame, mkF, argsToLocals, Value.category]; done) | rfl
def Q_rm10 (Z : State) (a1 : Addr) (u0 : Value) (u1 : Value) (u2 : Value) (u3 : Value) (u4 : Value) (u5 : Value) (u6 : Value) (u7 : Value) (u8 : Value) (u9 : Value) (u10 : Value) (wW : Addr) (we : Addr) (ke : ClassId) (ve : List Value) (h0 : Heap) (n0 : Nat) (v : Option Value) (h : Heap) (L : List Loc) : Prop := ∃ po : Addr, ∃ qo : Addr, ∃ ap : Addr, ∃ aq : Addr, ∃ sh : Addr, ∃ kp : ClassId, ∃ kq : ClassId, ∃ ks : ClassId, v = none ∧ Fr n0 L ∧ Keep h0 h [a1] ∧ h0.size ≤ po ∧ h0.size ≤ qo ∧ h0.size ≤ ap ∧ h0.size ≤ aq ∧ h0.size ≤ sh ∧ n0 ≤ po ∧ n0 ≤ qo ∧ n0 ≤ ap ∧ n0 ≤ aq ∧ n0 ≤ sh ∧ po ≠ qo ∧ ap ≠ aq ∧ Exa Z h a1 nm0 ∧ Fld Z h a1 nm0 "postings" nm2 (.ref po) ∧ Fld Z h a1 nm0 "positions" nm2 (.ref qo) ∧ Fld Z h a1 nm0 "shares" "[J" (.ref sh) ∧ Fld Z h a1 nm0 nm19 "I" (.int (-1)) ∧ Fld Z h a1 nm0 "lastDocument" "I" (.int (-1)) ∧ Fld Z h a1 nm0 "document" "I" (.int (-1)) ∧ Fld Z h a1 nm0 "sentence" "I" u6 ∧ Fld Z h a1 nm0 nm13 "I" u7 ∧ Fld Z h a1 nm0 "frequency" "I" u8 ∧ Fld Z h a1 nm0 "windows" "J" u9 ∧ Fld Z h a1 nm0 nm11 "J" u10 ∧ Exa Z h po nm1 ∧ Exa Z h qo nm1 ∧ Fld Z h po nm1 "bytes" "[B" (.ref ap) ∧ Fld Z h qo nm1 "bytes" "[B" (.ref aq) ∧ Fld Z h po nm1 "size" "I" (.int 0) ∧ Fld Z h qo nm1 "size" "I" (.int 0) ∧ Arv Z h ap kp .byte (8 : Int32) [(.int 0), (.int 0), (.int 0), (.int 0), (.int 0), (.int 0), (.int 0), (.int 0)] (.int 0) ∧ Arv Z h aq kq .byte (8 : Int32) [(.int 0), (.int 0), (.int 0), (.int 0), (.int 0), (.int 0), (.int 0), (.int 0)] (.int 0) ∧ Arv Z h sh ks .long (4 : Int32) [(.long 0), (.long 0), (.long 0), (.long 0)] (.long 0)
set_option maxRecDepth 65536 in
set_option maxHeartbeats 40000000 in
theorem rm10 (l : Launch) (Z : State) (a0 : Array Value) (hw : own_Hw Z a0) (ws : List Jvm.Cond) (a1 : Addr) (u0 : Value) (u1 : Value) (u2 : Value) (u3 : Value) (u4 : Value) (u5 : Value) (u6 : Value) (u7 : Value) (u8 : Value) (u9 : Value) (u10 : Value) (wW : Addr) (we : Addr) (ke : ClassId) (ve : List Value) (h0 : Heap) (n0 : Nat) (Z0 : n0 ≤ h0.size) (E_a1 : Exa Z h0 a1 nm0) (F_postings_a1 : Fld Z h0 a1 nm0 "postings" nm2 u0) (F_positions_a1 : Fld Z h0 a1 nm0 "positions" nm2 u1) (F_shares_a1 : Fld Z h0 a1 nm0 "shares" "[J" u2) (F_firstDocument_a1 : Fld Z h0 a1 nm0 nm19 "I" u3) (F_lastDocument_a1 : Fld Z h0 a1 nm0 "lastDocument" "I" u4) (F_document_a1 : Fld Z h0 a1 nm0 "document" "I" u5) (F_sentence_a1 : Fld Z h0 a1 nm0 "sentence" "I" u6) (F_documentFrequency_a1 : Fld Z h0 a1 nm0 nm13 "I" u7) (F_frequency_a1 : Fld Z h0 a1 nm0 "frequency" "I" u8) (F_windows_a1 : Fld Z h0 a1 nm0 "windows" "J" u9) (F_collectionFrequency_a1 : Fld Z h0 a1 nm0 nm11 "J" u10) (g_a1 : n0 ≤ a1) (S_WORD_CLASSES : Sta Z h0 "com/example/morro/morro/index/IndexFormat" "WORD_CLASSES" "Ljava/util/List;" (.ref wW)) (E_wW : Exa Z h0 wW "java/util/ImmutableCollections$ListN") (F_elements_wW : Fld Z h0 wW "java/util/ImmutableCollections$ListN" "elements" nm9 (.ref we)) (V_we : Arv Z h0 we ke (.object nm7) (4 : Int32) ve .null) (lt_wW : wW < n0) (lt_we : we < n0) :
  MetFree l mn26 (head1 (Jvm.Cond.code mn26 cd13 1 none :: ws) ({ frames := 2, cells := 5, slots := 24, locals := 26 } : Room)) (fun a U => a = #[(.ref a1)] ∧ Z.Warmed39 U.vm ∧ U.heap = h0) (fun _ _ _ _ _ => True) (fun _ U o U' => ∃ v L, o = .returned v ∧ Q_rm10 Z a1 u0 u1 u2 u3 u4 u5 u6 u7 u8 u9 u10 wW we ke ve h0 n0 v U'.heap L ∧ FrameEnd U o U' L ({ frames := 2, cells := 5, slots := 24, locals := 26 } : Room).cells ({ frames := 2, cells := 5, slots := 24, locals := 26 } : Room).slots) := by
 refine MetFree.of_bodySF (plainFor_of_name pn_com_example_morro_morro_index_TermPostings) hisR ?_
 intro p e s m args below meth c s₁ Bd hml0 hP hK
 obtain ⟨rfl, hZ, hh⟩ := hP
 have hx := Bd.exec
 have hby := Bd.bytes
 have hml : c.maxLocals = 1 := hml0
 have hown : s.vm.findClass nm0 = some m.cls := findClass_of_methodNamed Bd.named
 have hnm := (name_of_methodNamed Bd.named Bd.method).1
 have X0 : Stand p l e ({ frames := 2, cells := 5, slots := 24, locals := 26 } : Room) s m #[(.ref a1)] below meth c s₁ [] 0 0 := Stand.of_body Bd
 have e0 : s₁.heap = h0 := by rw [← hh, Bd.state]; rfl
 have N0 := Fr.nil n0
 have pre0 : ∀ t, Steps p.tables e below (s₁.setTop (mkF m 0 #[.val (.ref a1)] [])) t → Steps p.tables e below (s₁.setTop (entryFrame m #[(.ref a1)] 1)) t := fun t k => castTop (ef_rm10 m a1) k
 obtain ⟨T1, X1, e1, st1⟩ := initO X0 hx hZ hown (own_w hw 70 rfl) (own_w hw 21 rfl) (own_w hw 22 rfl) e0 (g := (mkF m 1 #[.val (.ref a1)] [(.ref a1)])) rfl (by rw [hml]; rfl) rfl (hb hby d10_1) (by decide) (W := 0) (by show 2 * 0 + _ ≤ _; exact Nat.le_of_eq rfl) (by decide)
 obtain ⟨T2, h2, X2, e2, E2, A2, D2, -, st2⟩ := newO X1 hx hZ hown (own_w hw 71 rfl) (own_w hw 72 rfl) (own_w hw 73 rfl) e1 (g := (mkF m 5 #[.val (.ref a1)] [(.ref a1)])) rfl (hb hby d10_5) (by decide) (by decide)
 obtain ⟨b2, g2⟩ : ∃ z, z = h0.size := ⟨_, rfl⟩
 rw [← g2] at A2 D2 st2
 have ne_a1_b2 : a1 ≠ b2 := Nat.ne_of_lt (Nat.lt_of_lt_of_le E_a1.lt (Nat.le_of_eq g2.symm))
 have ne_wW_b2 : wW ≠ b2 := Nat.ne_of_lt (Nat.lt_of_lt_of_le E_wW.lt (Nat.le_of_eq g2.symm))
 have ne_we_b2 : we ≠ b2 := Nat.ne_of_lt (Nat.lt_of_lt_of_le V_we.lt (Nat.le_of_eq g2.symm))
 have g_b2 : n0 ≤ b2 := Nat.le_trans Z0 (Nat.le_of_eq g2.symm)
 have sz_b2 : h0.size ≤ b2 := Nat.le_trans (Keep.refl h0 [a1]).1 (Nat.le_of_eq g2.symm)
 have K3 : Keep h0 h2 [a1] := (Keep.refl h0 [a1]).ext E2
 have F_bytes_b2 : Fld Z h2 b2 nm1 "bytes" "[B" .null := D2 (Or.inl (own_w hw 80 rfl)) (ty := (.array .byte)) (by decide)
 have F_size_b2 : Fld Z h2 b2 nm1 "size" "I" (.int 0) := D2 (Or.inl (own_w hw 137 rfl)) (ty := .int) (by decide)
 have f5 := (E_a1.ext E2)
 have f6 := (E_wW.ext E2)
 have f7 := (V_we.ext E2)
 obtain ⟨_, _, ⟨T4, L4, k4, n4⟩, -, X4, ⟨Lc4, hQ4, l4, y4, z4⟩, st4⟩ := own_specialRef X2 hx hZ (y := mn23) rfl hown (own_w hw 74 rfl) (own_w hw 75 rfl) (mvT hZ (own_w hw 75 rfl)) (mvT hZ (own_w hw 76 rfl)) (by decide) (backOf (W := 2) (rm11 l Z a0 hw [] b2 .null (.int 0) h2 n0 (Nat.le_trans Z0 K3.1) A2 F_bytes_b2 F_size_b2 g_b2) hZ (own_w hw 76 rfl) (own_w hw 73 rfl) (by decide) (by decide)) (g := (mkF m 9 #[.val (.ref a1)] [(.ref b2), (.ref b2), (.ref a1)])) rfl (by rw [hml]; rfl) (Steps.refl _) (a := b2) (argsL := []) (rest := [(.ref b2), (.ref a1)]) (lenOf pd__28_29V rfl) rfl (by show 2 * 0 + _ ≤ _; exact Nat.le_of_eq rfl) (hb hby d10_9) (fun _ _ => ⟨rfl, e2, (by decide : 1 + 1 ≤ _), (by decide : 2 + 8 ≤ _)⟩)
 dsimp only [Pt.U, Pt.locs, Pt.cells, Pt.slots] at y4 z4 st4 hQ4
 change Stand p l e _ s m _ below meth c T4 L4 k4 n4 at X4
 change L4 = _ ++ Lc4 at l4
 subst y4 z4
 obtain ⟨r_4, kr_4, rfl, N4q, K4q, t4_0, t4_1, t4_2, t4_3, t4_4, t4_5⟩ := hQ4
 have N4 : Fr n0 L4 := l4 ▸ Fr.app N0 N4q
 have K4 : Keep h0 T4.heap [a1] := K3.trans K4q (allS (P := fun xz => xz ∈ [a1] ∨ h0.size ≤ xz) (Or.inr sz_b2) all0)
 have ne_a1_r_4 : a1 ≠ r_4 := Nat.ne_of_lt (Nat.lt_of_lt_of_le f5.lt t4_0)
 have ne_b2_r_4 : b2 ≠ r_4 := Nat.ne_of_lt (Nat.lt_of_lt_of_le A2.lt t4_0)
 have ne_wW_r_4 : wW ≠ r_4 := Nat.ne_of_lt (Nat.lt_of_lt_of_le f6.lt t4_0)
 have ne_we_r_4 : we ≠ r_4 := Nat.ne_of_lt (Nat.lt_of_lt_of_le f7.lt t4_0)
 have sz_r_4 : h0.size ≤ r_4 := Nat.le_trans K3.1 t4_0
 have f8 := ((F_postings_a1.ext E2).keep K4q (ninS ne_a1_b2 nin0))
 have f9 := (f5.keep K4q)
 have na10 := Nat.ne_of_lt (Nat.lt_of_lt_of_le lt_wW g_a1)
 have na11 := Nat.ne_of_lt (Nat.lt_of_lt_of_le lt_we g_a1)
 obtain ⟨T12, h12, X12, e12, W12, st12⟩ := putF X4 hx hZ hown (host := "") (Or.inl (own_w hw 81 rfl)) Via.refl rfl f8 f9 (Or.inr ⟨(own_w hw 82 rfl), rfl, hnm⟩) (own_w hw 65 rfl) (ty := (.object nm1)) (by decide) rfl rfl (g := (mkF m 12 #[.val (.ref a1)] [(.ref b2), (.ref a1)])) rfl rfl (hb hby d10_12)
 have K13 : Keep h0 h12 [a1] := K4.wr W12 (Or.inl (List.mem_of_getElem? (i := 0) rfl))
 have N14 := Fr.snoc X12 N4 g_a1
 have Fw12 := f8.same W12
 have f15 := (f9.wr W12)
 have f16 := (t4_2.wr W12)
 have f17 := (t4_5.other W12 (Ne.symm ne_a1_r_4))
 have f18 := ((f6.keep K4q).wr W12)
 have f19 := ((f7.keep K4q (ninS ne_we_b2 nin0)).other W12 na11)
 obtain ⟨T20, h20, X20, e20, E20, A20, D20, -, st20⟩ := newO X12 hx hZ hown (own_w hw 71 rfl) (own_w hw 72 rfl) (own_w hw 73 rfl) e12 (g := (mkF m 16 #[.val (.ref a1)] [(.ref a1)])) rfl (hb hby d10_16) (by decide) (by decide)
 obtain ⟨b20, g20⟩ : ∃ z, z = h12.size := ⟨_, rfl⟩
 rw [← g20] at A20 D20 st20
 have ne_a1_b20 : a1 ≠ b20 := Nat.ne_of_lt (Nat.lt_of_lt_of_le f15.lt (Nat.le_of_eq g20.symm))
 have ne_b2_b20 : b2 ≠ b20 := Nat.ne_of_lt (Nat.lt_of_lt_of_le f16.lt (Nat.le_of_eq g20.symm))
 have ne_r_4_b20 : r_4 ≠ b20 := Nat.ne_of_lt (Nat.lt_of_lt_of_le f17.lt (Nat.le_of_eq g20.symm))
 have ne_wW_b20 : wW ≠ b20 := Nat.ne_of_lt (Nat.lt_of_lt_of_le f18.lt (Nat.le_of_eq g20.symm))
 have ne_we_b20 : we ≠ b20 := Nat.ne_of_lt (Nat.lt_of_lt_of_le f19.lt (Nat.le_of_eq g20.symm))
 have g_b20 : n0 ≤ b20 := Nat.le_trans (Nat.le_trans Z0 K13.1) (Nat.le_of_eq g20.symm)
 have sz_b20 : h0.size ≤ b20 := Nat.le_trans K13.1 (Nat.le_of_eq g20.symm)
 have K21 : Keep h0 h20 [a1] := K13.ext E20
 have F_bytes_b20 : Fld Z h20 b20 nm1 "bytes" "[B" .null := D20 (Or.inl (own_w hw 80 rfl)) (ty := (.array .byte)) (by decide)
 have F_size_b20 : Fld Z h20 b20 nm1 "size" "I" (.int 0) := D20 (Or.inl (own_w hw 137 rfl)) (ty := .int) (by decide)
 have f23 := (f15.ext E20)
 have f24 := (f16.ext E20)
 have f25 := (f17.ext E20)
 have f26 := (f18.ext E20)
 have f27 := (f19.ext E20)
 obtain ⟨_, _, ⟨T22, L22, k22, n22⟩, -, X22, ⟨Lc22, hQ22, l22, y22, z22⟩, st22⟩ := own_specialRef X20 hx hZ (y := mn23) rfl hown (own_w hw 74 rfl) (own_w hw 75 rfl) (mvT hZ (own_w hw 75 rfl)) (mvT hZ (own_w hw 76 rfl)) (by decide) (backOf (W := 2) (rm11 l Z a0 hw [] b20 .null (.int 0) h20 n0 (Nat.le_trans Z0 K21.1) A20 F_bytes_b20 F_size_b20 g_b20) hZ (own_w hw 76 rfl) (own_w hw 73 rfl) (by decide) (by decide)) (g := (mkF m 20 #[.val (.ref a1)] [(.ref b20), (.ref b20), (.ref a1)])) rfl (by rw [hml]; rfl) (Steps.refl _) (a := b20) (argsL := []) (rest := [(.ref b20), (.ref a1)]) (lenOf pd__28_29V rfl) rfl (by show 2 * 0 + _ ≤ _; exact Nat.le_of_eq rfl) (hb hby d10_20) (fun _ _ => ⟨rfl, e20, (by decide : 3 + 1 ≤ _), (by decide : 12 + 8 ≤ _)⟩)
 dsimp only [Pt.U, Pt.locs, Pt.cells, Pt.slots] at y22 z22 st22 hQ22
 change Stand p l e _ s m _ below meth c T22 L22 k22 n22 at X22
 change L22 = _ ++ Lc22 at l22
 subst y22 z22
 obtain ⟨r_22, kr_22, rfl, N22q, K22q, t22_0, t22_1, t22_2, t22_3, t22_4, t22_5⟩ := hQ22
 have N22 : Fr n0 L22 := l22 ▸ Fr.app N14 N22q
 have K22 : Keep h0 T22.heap [a1] := K21.trans K22q (allS (P := fun xz => xz ∈ [a1] ∨ h0.size ≤ xz) (Or.inr sz_b20) all0)
 have ne_a1_r_22 : a1 ≠ r_22 := Nat.ne_of_lt (Nat.lt_of_lt_of_le f23.lt t22_0)
 have ne_b2_r_22 : b2 ≠ r_22 := Nat.ne_of_lt (Nat.lt_of_lt_of_le f24.lt t22_0)
 have ne_b20_r_22 : b20 ≠ r_22 := Nat.ne_of_lt (Nat.lt_of_lt_of_le A20.lt t22_0)
 have ne_r_4_r_22 : r_4 ≠ r_22 := Nat.ne_of_lt (Nat.lt_of_lt_of_le f25.lt t22_0)
 have ne_wW_r_22 : wW ≠ r_22 := Nat.ne_of_lt (Nat.lt_of_lt_of_le f26.lt t22_0)
 have ne_we_r_22 : we ≠ r_22 := Nat.ne_of_lt (Nat.lt_of_lt_of_le f27.lt t22_0)
 have sz_r_22 : h0.size ≤ r_22 := Nat.le_trans K21.1 t22_0
 have f28 := (((((F_positions_a1.ext E2).keep K4q (ninS ne_a1_b2 nin0)).other W12 (Or.inr (sn8 hw))).ext E20).keep K22q (ninS ne_a1_b20 nin0))
 have f29 := (f23.keep K22q)
 obtain ⟨T30, h30, X30, e30, W30, st30⟩ := putF X22 hx hZ hown (host := "") (Or.inl (own_w hw 83 rfl)) Via.refl rfl f28 f29 (Or.inr ⟨(own_w hw 84 rfl), rfl, hnm⟩) (own_w hw 65 rfl) (ty := (.object nm1)) (by decide) rfl rfl (g := (mkF m 23 #[.val (.ref a1)] [(.ref b20), (.ref a1)])) rfl rfl (hb hby d10_23)
 have K31 : Keep h0 h30 [a1] := K22.wr W30 (Or.inl (List.mem_of_getElem? (i := 0) rfl))
 have N32 := Fr.snoc X30 N22 g_a1
 have Fw30 := f28.same W30
 have f33 := ((own_staKeep (((own_staKeep (S_WORD_CLASSES.ext E2) K4q (own_nsE A2 own_ns0)).wr W12).ext E20) K22q (own_nsE A20 own_ns0)).wr W30)
 obtain ⟨T34, X34, e34, st34⟩ := getS2 X30 hx hZ hown (host := "") (Or.inl (own_w hw 85 rfl)) Via.refl e30 f33 (g := (mkF m 27 #[.val (.ref a1)] [(.ref a1)])) rfl (hb hby d10_27)
 have f35 := ((((((F_elements_wW.ext E2).keep K4q (ninS ne_wW_b2 nin0)).other W12 (Or.inl na10)).ext E20).keep K22q (ninS ne_wW_b20 nin0)).other W30 (Or.inl na10))
 have f36 := ((f27.keep K22q (ninS ne_we_b20 nin0)).other W30 na11)
 have f38 := ((f26.keep K22q).wr W30)
 obtain ⟨cq37, kq37, q37a, q37b, q37c⟩ := isOf hZ e34 f38
 obtain ⟨_, _, ⟨T37, L37, k37, n37⟩, -, X37, ⟨Lc37, hQ37, l37, y37, z37⟩, st37⟩ := X34.interfaceBack hx (xi := mn18) (y := mn25) hown (mvT hZ (own_w hw 88 rfl)) (mvT hZ (own_w hw 89 rfl)) (mvT hZ (own_w hw 90 rfl)) (mvT hZ (own_w hw 91 rfl)) (mvT hZ (own_w hw 92 rfl)) (mvT hZ (own_w hw 93 rfl)) (mvT hZ (own_w hw 94 rfl)) (mvT hZ (own_w hw 95 rfl)) (by decide) (backOf (W := 1) (rm12 l Z a0 hw [] wW we ke ve h30 n0 (Nat.le_trans Z0 K31.1) f35 f36) hZ (own_w hw 97 rfl) (own_w hw 96 rfl) (by decide) (by decide)) q37a q37b q37c (g := (mkF m 30 #[.val (.ref a1)] [(.ref wW), (.ref a1)])) rfl (by rw [hml]; rfl) (Steps.refl _) (argsL := []) (rest := [(.ref a1)]) (lenOf pd__28_29I rfl) rfl (by show 2 * 0 + _ ≤ _; exact Nat.le_of_eq rfl) (hb hby d10_30) (fun _ _ => ⟨rfl, e34, (by decide : 4 + 0 ≤ _), (by decide : 20 + 0 ≤ _)⟩)
 dsimp only [Pt.U, Pt.locs, Pt.cells, Pt.slots] at y37 z37 st37 hQ37
 change Stand p l e _ s m _ below meth c T37 L37 k37 n37 at X37
 change L37 = _ ++ Lc37 at l37
 subst y37 z37
 obtain ⟨rfl, N37q, e37⟩ := hQ37
 have N37 : Fr n0 L37 := l37 ▸ Fr.app N32 N37q
 have f39 := (f29.wr W30)
 have f40 := ((f24.keep K22q).wr W30)
 have f41 := (t22_2.wr W30)
 have f42 := (t22_5.other W30 (Ne.symm ne_a1_r_22))
 have f43 := ((f25.keep K22q (ninS ne_r_4_b20 nin0)).other W30 (Ne.symm ne_a1_r_4))
 obtain ⟨T44, h44, k44, X44, e44, E44, A44, st44⟩ := newP X37 hx hZ (own_w hw 100 rfl) e37 (g := (mkF m 35 #[.val (.ref a1)] [(.int 4), (.ref a1)])) rfl (hb hby d10_35) rfl (by decide) (cap := 4) (by decide) (by decide) (by decide) (by decide)
 obtain ⟨b44, g44⟩ : ∃ z, z = h30.size := ⟨_, rfl⟩
 rw [← g44] at A44 st44
 have ne_a1_b44 : a1 ≠ b44 := Nat.ne_of_lt (Nat.lt_of_lt_of_le f39.lt (Nat.le_of_eq g44.symm))
 have ne_b2_b44 : b2 ≠ b44 := Nat.ne_of_lt (Nat.lt_of_lt_of_le f40.lt (Nat.le_of_eq g44.symm))
 have ne_b20_b44 : b20 ≠ b44 := Nat.ne_of_lt (Nat.lt_of_lt_of_le f41.lt (Nat.le_of_eq g44.symm))
 have ne_r_22_b44 : r_22 ≠ b44 := Nat.ne_of_lt (Nat.lt_of_lt_of_le f42.lt (Nat.le_of_eq g44.symm))
 have ne_r_4_b44 : r_4 ≠ b44 := Nat.ne_of_lt (Nat.lt_of_lt_of_le f43.lt (Nat.le_of_eq g44.symm))
 have ne_wW_b44 : wW ≠ b44 := Nat.ne_of_lt (Nat.lt_of_lt_of_le f38.lt (Nat.le_of_eq g44.symm))
 have ne_we_b44 : we ≠ b44 := Nat.ne_of_lt (Nat.lt_of_lt_of_le f36.lt (Nat.le_of_eq g44.symm))
 have g_b44 : n0 ≤ b44 := Nat.le_trans (Nat.le_trans Z0 K31.1) (Nat.le_of_eq g44.symm)
 have sz_b44 : h0.size ≤ b44 := Nat.le_trans K31.1 (Nat.le_of_eq g44.symm)
 have K45 : Keep h0 h44 [a1] := K31.ext E44
 have V_b44 : Arv Z h44 b44 k44 .long (4 : Int32) [(.long 0), (.long 0), (.long 0), (.long 0)] (.long 0) := (Arv.new A44 (by decide)).pad (pad_rep [] (.long 0) 4)
 have f46 := (((((((F_shares_a1.ext E2).keep K4q (ninS ne_a1_b2 nin0)).other W12 (Or.inr (sn9 hw))).ext E20).keep K22q (ninS ne_a1_b20 nin0)).other W30 (Or.inr (sn10 hw))).ext E44)
 have f47 := (f39.ext E44)
 obtain ⟨T48, h48, X48, e48, W48, st48⟩ := putF X44 hx hZ hown (host := "") (Or.inl (own_w hw 101 rfl)) Via.refl e44 f46 f47 (Or.inr ⟨(own_w hw 102 rfl), rfl, hnm⟩) (own_w hw 65 rfl) (ty := (.array .long)) (by decide) rfl rfl (g := (mkF m 37 #[.val (.ref a1)] [(.ref b44), (.ref a1)])) rfl rfl (hb hby d10_37)
 have K49 : Keep h0 h48 [a1] := K45.wr W48 (Or.inl (List.mem_of_getElem? (i := 0) rfl))
 have N50 := Fr.snoc X48 N37 g_a1
 have Fw48 := f46.same W48
 have f51 := ((((((((F_firstDocument_a1.ext E2).keep K4q (ninS ne_a1_b2 nin0)).other W12 (Or.inr (sn11 hw))).ext E20).keep K22q (ninS ne_a1_b20 nin0)).other W30 (Or.inr (sn12 hw))).ext E44).other W48 (Or.inr (sn13 hw)))
 have f52 := (f47.wr W48)
 obtain ⟨T53, h53, X53, e53, W53, st53⟩ := putF X48 hx hZ hown (host := "") (Or.inl (own_w hw 103 rfl)) Via.refl e48 f51 f52 (Or.inl (own_w hw 104 rfl)) (own_w hw 65 rfl) (ty := .int) (by decide) rfl rfl (g := (mkF m 42 #[.val (.ref a1)] [(.int (-1)), (.ref a1)])) rfl rfl (hb hby d10_42)
 have K54 : Keep h0 h53 [a1] := K49.wr W53 (Or.inl (List.mem_of_getElem? (i := 0) rfl))
 have N55 := Fr.snoc X53 N50 g_a1
 have Fw53 := f51.same W53
 have f56 := (((((((((F_lastDocument_a1.ext E2).keep K4q (ninS ne_a1_b2 nin0)).other W12 (Or.inr (sn14 hw))).ext E20).keep K22q (ninS ne_a1_b20 nin0)).other W30 (Or.inr (sn15 hw))).ext E44).other W48 (Or.inr (sn16 hw))).other W53 (Or.inr (sn17 hw)))
 have f57 := (f52.wr W53)
 obtain ⟨T58, h58, X58, e58, W58, st58⟩ := putF X53 hx hZ hown (host := "") (Or.inl (own_w hw 105 rfl)) Via.refl e53 f56 f57 (Or.inl (own_w hw 106 rfl)) (own_w hw 65 rfl) (ty := .int) (by decide) rfl rfl (g := (mkF m 47 #[.val (.ref a1)] [(.int (-1)), (.ref a1)])) rfl rfl (hb hby d10_47)
 have K59 : Keep h0 h58 [a1] := K54.wr W58 (Or.inl (List.mem_of_getElem? (i := 0) rfl))
 have N60 := Fr.snoc X58 N55 g_a1
 have Fw58 := f56.same W58
 have f61 := ((((((((((F_document_a1.ext E2).keep K4q (ninS ne_a1_b2 nin0)).other W12 (Or.inr (sn18 hw))).ext E20).keep K22q (ninS ne_a1_b20 nin0)).other W30 (Or.inr (sn19 hw))).ext E44).other W48 (Or.inr (sn20 hw))).other W53 (Or.inr (sn21 hw))).other W58 (Or.inr (sn22 hw)))
 have f62 := (f57.wr W58)
 obtain ⟨T63, h63, X63, e63, W63, st63⟩ := putF X58 hx hZ hown (host := "") (Or.inl (own_w hw 107 rfl)) Via.refl e58 f61 f62 (Or.inl (own_w hw 108 rfl)) (own_w hw 65 rfl) (ty := .int) (by decide) rfl rfl (g := (mkF m 52 #[.val (.ref a1)] [(.int (-1)), (.ref a1)])) rfl rfl (hb hby d10_52)
 have K64 : Keep h0 h63 [a1] := K59.wr W63 (Or.inl (List.mem_of_getElem? (i := 0) rfl))
 have N65 := Fr.snoc X63 N60 g_a1
 have Fw63 := f61.same W63
 have f66 := (f62.wr W63)
 have f67 := ((((((((Fw12.ext E20).keep K22q (ninS ne_a1_b20 nin0)).other W30 (Or.inr (sn23 hw))).ext E44).other W48 (Or.inr (sn24 hw))).other W53 (Or.inr (sn25 hw))).other W58 (Or.inr (sn26 hw))).other W63 (Or.inr (sn27 hw)))
 have f68 := (((((Fw30.ext E44).other W48 (Or.inr (sn28 hw))).other W53 (Or.inr (sn29 hw))).other W58 (Or.inr (sn30 hw))).other W63 (Or.inr (sn31 hw)))
 have f69 := (((Fw48.other W53 (Or.inr (sn32 hw))).other W58 (Or.inr (sn33 hw))).other W63 (Or.inr (sn34 hw)))
 have f70 := ((Fw53.other W58 (Or.inr (sn35 hw))).other W63 (Or.inr (sn36 hw)))
 have f71 := (Fw58.other W63 (Or.inr (sn37 hw)))
 have f72 := (((((((((((F_sentence_a1.ext E2).keep K4q (ninS ne_a1_b2 nin0)).other W12 (Or.inr (sn38 hw))).ext E20).keep K22q (ninS ne_a1_b20 nin0)).other W30 (Or.inr (sn39 hw))).ext E44).other W48 (Or.inr (sn40 hw))).other W53 (Or.inr (sn41 hw))).other W58 (Or.inr (sn42 hw))).other W63 (Or.inr (sn43 hw)))
 have f73 := (((((((((((F_documentFrequency_a1.ext E2).keep K4q (ninS ne_a1_b2 nin0)).other W12 (Or.inr (sn44 hw))).ext E20).keep K22q (ninS ne_a1_b20 nin0)).other W30 (Or.inr (sn45 hw))).ext E44).other W48 (Or.inr (sn46 hw))).other W53 (Or.inr (sn47 hw))).other W58 (Or.inr (sn48 hw))).other W63 (Or.inr (sn49 hw)))
 have f74 := (((((((((((F_frequency_a1.ext E2).keep K4q (ninS ne_a1_b2 nin0)).other W12 (Or.inr (sn50 hw))).ext E20).keep K22q (ninS ne_a1_b20 nin0)).other W30 (Or.inr (sn51 hw))).ext E44).other W48 (Or.inr (sn52 hw))).other W53 (Or.inr (sn53 hw))).other W58 (Or.inr (sn54 hw))).other W63 (Or.inr (sn55 hw)))
 have f75 := (((((((((((F_windows_a1.ext E2).keep K4q (ninS ne_a1_b2 nin0)).other W12 (Or.inr (sn56 hw))).ext E20).keep K22q (ninS ne_a1_b20 nin0)).other W30 (Or.inr (sn57 hw))).ext E44).other W48 (Or.inr (sn58 hw))).other W53 (Or.inr (sn59 hw))).other W58 (Or.inr (sn60 hw))).other W63 (Or.inr (sn61 hw)))
 have f76 := (((((((((((F_collectionFrequency_a1.ext E2).keep K4q (ninS ne_a1_b2 nin0)).other W12 (Or.inr (sn62 hw))).ext E20).keep K22q (ninS ne_a1_b20 nin0)).other W30 (Or.inr (sn63 hw))).ext E44).other W48 (Or.inr (sn64 hw))).other W53 (Or.inr (sn65 hw))).other W58 (Or.inr (sn66 hw))).other W63 (Or.inr (sn67 hw)))
 have f77 := (((((f40.ext E44).wr W48).wr W53).wr W58).wr W63)
 have f78 := (((((f41.ext E44).wr W48).wr W53).wr W58).wr W63)
 have f79 := (((((((((t4_3.other W12 (Or.inl (Ne.symm ne_a1_b2))).ext E20).keep K22q (ninS ne_b2_b20 nin0)).other W30 (Or.inl (Ne.symm ne_a1_b2))).ext E44).other W48 (Or.inl (Ne.symm ne_a1_b2))).other W53 (Or.inl (Ne.symm ne_a1_b2))).other W58 (Or.inl (Ne.symm ne_a1_b2))).other W63 (Or.inl (Ne.symm ne_a1_b2)))
 have f80 := ((((((t22_3.other W30 (Or.inl (Ne.symm ne_a1_b20))).ext E44).other W48 (Or.inl (Ne.symm ne_a1_b20))).other W53 (Or.inl (Ne.symm ne_a1_b20))).other W58 (Or.inl (Ne.symm ne_a1_b20))).other W63 (Or.inl (Ne.symm ne_a1_b20)))
 have f81 := (((((((((t4_4.other W12 (Or.inl (Ne.symm ne_a1_b2))).ext E20).keep K22q (ninS ne_b2_b20 nin0)).other W30 (Or.inl (Ne.symm ne_a1_b2))).ext E44).other W48 (Or.inl (Ne.symm ne_a1_b2))).other W53 (Or.inl (Ne.symm ne_a1_b2))).other W58 (Or.inl (Ne.symm ne_a1_b2))).other W63 (Or.inl (Ne.symm ne_a1_b2)))
 have f82 := ((((((t22_4.other W30 (Or.inl (Ne.symm ne_a1_b20))).ext E44).other W48 (Or.inl (Ne.symm ne_a1_b20))).other W53 (Or.inl (Ne.symm ne_a1_b20))).other W58 (Or.inl (Ne.symm ne_a1_b20))).other W63 (Or.inl (Ne.symm ne_a1_b20)))
 have f83 := (((((f43.ext E44).other W48 (Ne.symm ne_a1_r_4)).other W53 (Ne.symm ne_a1_r_4)).other W58 (Ne.symm ne_a1_r_4)).other W63 (Ne.symm ne_a1_r_4))
 have f84 := (((((f42.ext E44).other W48 (Ne.symm ne_a1_r_22)).other W53 (Ne.symm ne_a1_r_22)).other W58 (Ne.symm ne_a1_r_22)).other W63 (Ne.symm ne_a1_r_22))
 have f85 := ((((V_b44.other W48 (Ne.symm ne_a1_b44)).other W53 (Ne.symm ne_a1_b44)).other W58 (Ne.symm ne_a1_b44)).other W63 (Ne.symm ne_a1_b44))
 obtain ⟨fs, hr, hrun, hended, hW, hsame⟩ := X63.leave (v := none) (fun _ => rfl)
 refine ⟨_, _, pre0 _ ?_, hrun, hended, _, _, rfl, ?_, ⟨_, rfl⟩, hW, hsame.mono (by decide) (by decide)⟩
 ·show oS s₁ (mkF m 0 #[.val (.ref a1)] [])
  refine XS.aloadN X0.here hx rfl (hb hby d10_0) rfl rfl ?_
  show oS s₁ (mkF m 1 #[.val (.ref a1)] [(.ref a1)])
  refine st1 _ ?_
  show oS T1 (mkF m 4 #[.val (.ref a1)] [])
  refine XS.aloadN X1.here hx rfl (hb hby d10_4) rfl rfl ?_
  show oS T1 (mkF m 5 #[.val (.ref a1)] [(.ref a1)])
  refine st2 _ ?_
  show oS T2 (mkF m 8 #[.val (.ref a1)] [(.ref b2), (.ref a1)])
  refine XS.dup X2.here hx rfl (hb hby d10_8) rfl rfl ?_
  show oS T2 (mkF m 9 #[.val (.ref a1)] [(.ref b2), (.ref b2), (.ref a1)])
  refine st4.trans ?_
  show oS T4 (mkF m 12 #[.val (.ref a1)] [(.ref b2), (.ref a1)])
  refine st12 _ ?_
  show oS T12 (mkF m 15 #[.val (.ref a1)] [])
  refine XS.aloadN X12.here hx rfl (hb hby d10_15) rfl rfl ?_
  show oS T12 (mkF m 16 #[.val (.ref a1)] [(.ref a1)])
  refine st20 _ ?_
  show oS T20 (mkF m 19 #[.val (.ref a1)] [(.ref b20), (.ref a1)])
  refine XS.dup X20.here hx rfl (hb hby d10_19) rfl rfl ?_
  show oS T20 (mkF m 20 #[.val (.ref a1)] [(.ref b20), (.ref b20), (.ref a1)])
  refine st22.trans ?_
  show oS T22 (mkF m 23 #[.val (.ref a1)] [(.ref b20), (.ref a1)])
  refine st30 _ ?_
  show oS T30 (mkF m 26 #[.val (.ref a1)] [])
  refine XS.aloadN X30.here hx rfl (hb hby d10_26) rfl rfl ?_
  show oS T30 (mkF m 27 #[.val (.ref a1)] [(.ref a1)])
  refine st34 _ ?_
  show oS T34 (mkF m 30 #[.val (.ref a1)] [(.ref wW), (.ref a1)])
  refine st37.trans ?_
  show oS T37 (mkF m 35 #[.val (.ref a1)] [(.int 4), (.ref a1)])
  refine st44 _ ?_
  show oS T44 (mkF m 37 #[.val (.ref a1)] [(.ref b44), (.ref a1)])
  refine st48 _ ?_
  show oS T48 (mkF m 40 #[.val (.ref a1)] [])
  refine XS.aloadN X48.here hx rfl (hb hby d10_40) rfl rfl ?_
  show oS T48 (mkF m 41 #[.val (.ref a1)] [(.ref a1)])
  refine XS.iconst X48.here hx rfl (hb hby d10_41) ?_
  show oS T48 (mkF m 42 #[.val (.ref a1)] [(.int (-1)), (.ref a1)])
  refine st53 _ ?_
  show oS T53 (mkF m 45 #[.val (.ref a1)] [])
  refine XS.aloadN X53.here hx rfl (hb hby d10_45) rfl rfl ?_
  show oS T53 (mkF m 46 #[.val (.ref a1)] [(.ref a1)])
  refine XS.iconst X53.here hx rfl (hb hby d10_46) ?_
  show oS T53 (mkF m 47 #[.val (.ref a1)] [(.int (-1)), (.ref a1)])
  refine st58 _ ?_
  show oS T58 (mkF m 50 #[.val (.ref a1)] [])
  refine XS.aloadN X58.here hx rfl (hb hby d10_50) rfl rfl ?_
  show oS T58 (mkF m 51 #[.val (.ref a1)] [(.ref a1)])
  refine XS.iconst X58.here hx rfl (hb hby d10_51) ?_
  show oS T58 (mkF m 52 #[.val (.ref a1)] [(.int (-1)), (.ref a1)])
  refine st63 _ ?_
  show oS T63 (mkF m 55 #[.val (.ref a1)] [])
  exact X63.returnOut hx Bd.returns (hb hby d10_55) hr
 ·show Q_rm10 Z a1 u0 u1 u2 u3 u4 u5 u6 u7 u8 u9 u10 wW we ke ve h0 n0 _ T63.heap _
  rw [e63]
  exact ⟨b2, b20, r_4, r_22, b44, kr_4, kr_22, k44, rfl, N65, K64, sz_b2, sz_b20, sz_r_4, sz_r_22, sz_b44, g_b2, g_b20, t4_1, t22_1, g_b44, ne_b2_b20, ne_r_4_r_22, f66, f67, f68, f69, f70, f71, Fw63, f72, f73, f74, f75, f76, f77, f78, f79, f80, f81, f82, f83, f84, f85⟩
theorem d13_0 : decode cd14 0 = .ok (.sipush 192, 3) := by decide +kernel
theorem d13_3 : decode cd14 3 = .ok (.aload_n 0, 1) := by decide +kernel
theorem d13_4 : decode cd14 4 = .ok (.getfield 10, 3) := by decide +kernel
theorem d13_7 : decode cd14 7 = .ok (.getfield 83, 3) := by decide +kernel
theorem d13_10 : decode cd14 10 = .ok (.arraylength, 1) := by decide +kernel
theorem d13_11 : decode cd14 11 = .ok (.iadd, 1) := by decide +kernel
theorem d13_12 : decode cd14 12 = .ok (.aload_n 0, 1) := by decide +kernel
theorem d13_13 : decode cd14 13 = .ok (.getfield 16, 3) := by decide +kernel
theorem d13_16 : decode cd14 16 = .ok (.getfield 83, 3) := by decide +kernel
theorem d13_19 : decode cd14 19 = .ok (.arraylength, 1) := by decide +kernel
theorem d13_20 : decode cd14 20 = .ok (.iadd, 1) := by decide +kernel
theorem d13_21 : decode cd14 21 = .ok (.i2l, 1) := by decide +kernel
theorem d13_22 : decode cd14 22 = .ok (.lreturn, 1) := by decide +kernel
theorem ef_rm13 (m : MethodId) (a1 : Addr) : entryFrame m #[(.ref a1)] 1 = mkF m 0 #[.val (.ref a1)] [] := by first | (simp [entryFrame, mkF, argsToLocals, Value.category]; done) | rfl
def Q_rm13 (Z : State) (a1 : Addr) (po : Addr) (qo : Addr) (ap : Addr) (aq : Addr) (kp : ClassId) (kq : ClassId) (n1 : Int32) (n2 : Int32) (vp : List Value) (vq : List Value) (h0 : Heap) (n0 : Nat) (v : Option Value) (h : Heap) (L : List Loc) : Prop := v = some (.long ((((192 : Int32) + n1) + n2).toInt64)) ∧ Fr n0 L ∧ h = h0
set_option maxRecDepth 65536 in
set_option maxHeartbeats 40000000 in
theorem rm13 (l : Launch) (Z : State) (a0 : Array Value) (hw : own_Hw Z a0) (ws : List Jvm.Cond) (a1 : Addr) (po : Addr) (qo : Addr) (ap : Addr) (aq : Addr) (kp : ClassId) (kq : ClassId) (n1 : Int32) (n2 : Int32) (vp : List Value) (vq : List Value) (h0 : Heap) (n0 : Nat) (Z0 : n0 ≤ h0.size) (F_postings_a1 : Fld Z h0 a1 nm0 "postings" nm2 (.ref po)) (F_positions_a1 : Fld Z h0 a1 nm0 "positions" nm2 (.ref qo)) (F_bytes_po : Fld Z h0 po nm1 "bytes" "[B" (.ref ap)) (F_bytes_qo : Fld Z h0 qo nm1 "bytes" "[B" (.ref aq)) (V_ap : Arv Z h0 ap kp .byte n1 vp (.int 0)) (V_aq : Arv Z h0 aq kq .byte n2 vq (.int 0)) :
  MetFree l mn27 (head1 (Jvm.Cond.code mn27 cd14 1 (some .long) :: ws) ({ frames := 0, cells := 0, slots := 0, locals := 0 } : Room)) (fun a U => a = #[(.ref a1)] ∧ Z.Warmed39 U.vm ∧ U.heap = h0) (fun _ _ _ _ _ => True) (fun _ U o U' => ∃ v L, o = .returned v ∧ Q_rm13 Z a1 po qo ap aq kp kq n1 n2 vp vq h0 n0 v U'.heap L ∧ FrameEnd U o U' L ({ frames := 0, cells := 0, slots := 0, locals := 0 } : Room).cells ({ frames := 0, cells := 0, slots := 0, locals := 0 } : Room).slots) := by
 refine MetFree.of_bodySF (plainFor_of_name pn_com_example_morro_morro_index_TermPostings) hisR ?_
 intro p e s m args below meth c s₁ Bd hml0 hP hK
 obtain ⟨rfl, hZ, hh⟩ := hP
 have hx := Bd.exec
 have hby := Bd.bytes
 have hml : c.maxLocals = 1 := hml0
 have hown : s.vm.findClass nm0 = some m.cls := findClass_of_methodNamed Bd.named
 have hnm := (name_of_methodNamed Bd.named Bd.method).1
 have X0 : Stand p l e ({ frames := 0, cells := 0, slots := 0, locals := 0 } : Room) s m #[(.ref a1)] below meth c s₁ [] 0 0 := Stand.of_body Bd
 have e0 : s₁.heap = h0 := by rw [← hh, Bd.state]; rfl
 have N0 := Fr.nil n0
 have pre0 : ∀ t, Steps p.tables e below (s₁.setTop (mkF m 0 #[.val (.ref a1)] [])) t → Steps p.tables e below (s₁.setTop (entryFrame m #[(.ref a1)] 1)) t := fun t k => castTop (ef_rm13 m a1) k
 obtain ⟨T1, X1, e1, st1⟩ := getF X0 hx hZ hown (host := "") (Or.inl (own_w hw 81 rfl)) Via.refl e0 F_postings_a1 (g := (mkF m 4 #[.val (.ref a1)] [(.ref a1), (.int 192)])) rfl rfl (hb hby d13_4)
 obtain ⟨T2, X2, e2, st2⟩ := own_getFR X1 hx hZ hown (own_w hw 114 rfl) Via.refl e1 F_bytes_po (g := (mkF m 7 #[.val (.ref a1)] [(.ref po), (.int 192)])) rfl rfl (hb hby d13_7)
 obtain ⟨c3, Ac3, -, Sc3, Nc3, -, -⟩ := id V_ap
 obtain ⟨T4, X4, e4, st4⟩ := getF X2 hx hZ hown (host := "") (Or.inl (own_w hw 83 rfl)) Via.refl e2 F_positions_a1 (g := (mkF m 13 #[.val (.ref a1)] [(.ref a1), (.int ((192 : Int32) + n1))])) rfl rfl (hb hby d13_13)
 obtain ⟨T5, X5, e5, st5⟩ := own_getFR X4 hx hZ hown (own_w hw 114 rfl) Via.refl e4 F_bytes_qo (g := (mkF m 16 #[.val (.ref a1)] [(.ref qo), (.int ((192 : Int32) + n1))])) rfl rfl (hb hby d13_16)
 obtain ⟨c6, Ac6, -, Sc6, Nc6, -, -⟩ := id V_aq
 obtain ⟨fs, hr, hrun, hended, hW, hsame⟩ := X5.leave (v := some (.long ((((192 : Int32) + n1) + n2).toInt64))) (fun h => by rw [Bd.returns] at h; cases h)
 refine ⟨_, _, pre0 _ ?_, hrun, hended, _, _, rfl, ?_, ⟨_, rfl⟩, hW, hsame.mono (by decide) (by decide)⟩
 ·show oS s₁ (mkF m 0 #[.val (.ref a1)] [])
  refine XS.sipush X0.here hx rfl (hb hby d13_0) ?_
  show oS s₁ (mkF m 3 #[.val (.ref a1)] [(.int 192)])
  refine XS.aloadN X0.here hx rfl (hb hby d13_3) rfl rfl ?_
  show oS s₁ (mkF m 4 #[.val (.ref a1)] [(.ref a1), (.int 192)])
  refine st1 _ ?_
  show oS T1 (mkF m 7 #[.val (.ref a1)] [(.ref po), (.int 192)])
  refine st2 _ ?_
  show oS T2 (mkF m 10 #[.val (.ref a1)] [(.ref ap), (.int 192)])
  refine X2.arraylength hx (by rw [e2]; exact Ac3.1) (State.isArrayOf_alike hZ.alike Ac3.2.1) (g := (mkF m 10 #[.val (.ref a1)] [(.ref ap), (.int 192)])) rfl rfl (hb hby d13_10) _ ?_
  rw [len_of Sc3 Nc3]
  show oS T2 (mkF m 11 #[.val (.ref a1)] [(.int n1), (.int 192)])
  refine XS.iadd X2.here hx rfl (hb hby d13_11) rfl ?_
  show oS T2 (mkF m 12 #[.val (.ref a1)] [(.int ((192 : Int32) + n1))])
  refine XS.aloadN X2.here hx rfl (hb hby d13_12) rfl rfl ?_
  show oS T2 (mkF m 13 #[.val (.ref a1)] [(.ref a1), (.int ((192 : Int32) + n1))])
  refine st4 _ ?_
  show oS T4 (mkF m 16 #[.val (.ref a1)] [(.ref qo), (.int ((192 : Int32) + n1))])
  refine st5 _ ?_
  show oS T5 (mkF m 19 #[.val (.ref a1)] [(.ref aq), (.int ((192 : Int32) + n1))])
  refine X5.arraylength hx (by rw [e5]; exact Ac6.1) (State.isArrayOf_alike hZ.alike Ac6.2.1) (g := (mkF m 19 #[.val (.ref a1)] [(.ref aq), (.int ((192 : Int32) + n1))])) rfl rfl (hb hby d13_19) _ ?_
  rw [len_of Sc6 Nc6]
  show oS T5 (mkF m 20 #[.val (.ref a1)] [(.int n2), (.int ((192 : Int32) + n1))])
  refine XS.iadd X5.here hx rfl (hb hby d13_20) rfl ?_
  show oS T5 (mkF m 21 #[.val (.ref a1)] [(.int (((192 : Int32) + n1) + n2))])
  refine XS.i2l X5.here hx rfl (hb hby d13_21) rfl ?_
  show oS T5 (mkF m 22 #[.val (.ref a1)] [(.long ((((192 : Int32) + n1) + n2).toInt64))])
  jvm_step X5.here [X5.here.top, hx, (hb hby d13_22), X5.method', Bd.returns, narrow]
  first | (intro acts; rw [hr _ acts rfl rfl rfl]) | rw [hr _ _ rfl rfl rfl]
  exact Steps.refl _
 ·show Q_rm13 Z a1 po qo ap aq kp kq n1 n2 vp vq h0 n0 _ T5.heap _
  rw [e5]
  exact ⟨rfl, N0, rfl⟩
theorem own_neOr {h : Heap} {y r a : Addr} (o : r = a ∨ h.size ≤ r) (hn : y ≠ a) (hl : y < h.size) : y ≠ r := by
 rcases o with rfl | o
 ·exact hn
 ·exact Nat.ne_of_lt (Nat.lt_of_lt_of_le hl o)
theorem own_hor {h0 h : Heap} {r a b : Addr} (o : r = a ∨ h.size ≤ r) (p : a = b ∨ h0.size ≤ a) (hl : h0.size ≤ h.size) : r = b ∨ h0.size ≤ r := by
 rcases o with rfl | o
 ·exact p
 ·exact Or.inr (Nat.le_trans hl o)
theorem own_kor {h0 : Heap} {r b : Addr} {ks : List Addr} (o : r = b ∨ h0.size ≤ r) (m : b ∈ ks) : r ∈ ks ∨ h0.size ≤ r := o.elim (fun e => Or.inl (e ▸ m)) Or.inr
theorem own_c1 {nn sz : Int32} (h : nn.toInt = 16 ∨ nn.toInt = 32) (g : 0 ≤ sz.toInt ∧ sz.toInt ≤ 16) : (own_cap nn sz).toInt = 16 ∨ (own_cap nn sz).toInt = 32 := by
 rw [own_capI (by omega) g]; split <;> (try split) <;> omega
theorem own_capS {nn sz : Int32} (h : ¬ nn.toInt < sz.toInt + 9) (g : 0 ≤ sz.toInt ∧ sz.toInt ≤ 16) : own_cap nn sz = nn := by
 rw [own_cap, if_neg (by rw [Int32.lt_iff_toInt_lt, own_sz9 (by omega)]; exact h)]
theorem own_add {sz ln : Int32} {k : Nat} (g : 0 ≤ sz.toInt ∧ sz.toInt ≤ 16) (h : ln.toInt = k + 1) (hk : k ≤ 8) : (sz + ln).toInt = sz.toInt + k + 1 := by
 rw [Jvm.Kit.i32_add (by omega) (by omega), h]; omega
theorem own_1 : (1 : Int32).toInt = ((0 : Nat) : Int) + 1 := by decide
theorem own_f0 (x : Int64) : (0 : Nat) ≠ 0 → (2 : Int) ^ (7 * 0) ≤ x.toInt := fun h => absurd rfl h
theorem d15_0 : decode cd15 0 = .ok (.aload_n 0, 1) := by decide +kernel
theorem d15_1 : decode cd15 1 = .ok (.getfield 77, 3) := by decide +kernel
theorem d15_4 : decode cd15 4 = .ok (.ifCond .le 63, 3) := by decide +kernel
theorem d15_67 : decode cd15 67 = .ok (.return_, 1) := by decide +kernel
theorem ef_rmFin0 (m : MethodId) (a1 : Addr) : entryFrame m #[(.ref a1)] 1 = mkF m 0 #[.val (.ref a1)] [] := by first | (simp [entryFrame, mkF, argsToLocals, Value.category]; done) | rfl
def Q_rmFin0 (Z : State) (a1 : Addr) (h0 : Heap) (n0 : Nat) (v : Option Value) (h : Heap) (L : List Loc) : Prop := v = none ∧ Fr n0 L ∧ h = h0
set_option maxRecDepth 65536 in
set_option maxHeartbeats 40000000 in
theorem rmFin0 (l : Launch) (Z : State) (a0 : Array Value) (hw : own_Hw Z a0) (ws : List Jvm.Cond) (a1 : Addr) (h0 : Heap) (n0 : Nat) (Z0 : n0 ≤ h0.size) (F_frequency_a1 : Fld Z h0 a1 nm0 "frequency" "I" (.int 0)) :
  MetFree l mn28 (head1 (Jvm.Cond.code mn28 cd15 1 none :: ws) ({ frames := 0, cells := 0, slots := 0, locals := 0 } : Room)) (fun a U => a = #[(.ref a1)] ∧ Z.Warmed39 U.vm ∧ U.heap = h0) (fun _ _ _ _ _ => True) (fun _ U o U' => ∃ v L, o = .returned v ∧ Q_rmFin0 Z a1 h0 n0 v U'.heap L ∧ FrameEnd U o U' L ({ frames := 0, cells := 0, slots := 0, locals := 0 } : Room).cells ({ frames := 0, cells := 0, slots := 0, locals := 0 } : Room).slots) := by
 refine MetFree.of_bodySF (plainFor_of_name pn_com_example_morro_morro_index_TermPostings) hisR ?_
 intro p e s m args below meth c s₁ Bd hml0 hP hK
 obtain ⟨rfl, hZ, hh⟩ := hP
 have hx := Bd.exec
 have hby := Bd.bytes
 have hml : c.maxLocals = 1 := hml0
 have hown : s.vm.findClass nm0 = some m.cls := findClass_of_methodNamed Bd.named
 have hnm := (name_of_methodNamed Bd.named Bd.method).1
 have X0 : Stand p l e ({ frames := 0, cells := 0, slots := 0, locals := 0 } : Room) s m #[(.ref a1)] below meth c s₁ [] 0 0 := Stand.of_body Bd
 have e0 : s₁.heap = h0 := by rw [← hh, Bd.state]; rfl
 have N0 := Fr.nil n0
 have pre0 : ∀ t, Steps p.tables e below (s₁.setTop (mkF m 0 #[.val (.ref a1)] [])) t → Steps p.tables e below (s₁.setTop (entryFrame m #[(.ref a1)] 1)) t := fun t k => castTop (ef_rmFin0 m a1) k
 obtain ⟨T1, X1, e1, st1⟩ := getF X0 hx hZ hown (host := "") (Or.inl (own_w hw 125 rfl)) Via.refl e0 F_frequency_a1 (g := (mkF m 1 #[.val (.ref a1)] [(.ref a1)])) rfl rfl (hb hby d15_1)
 obtain ⟨fs, hr, hrun, hended, hW, hsame⟩ := X1.leave (v := none) (fun _ => rfl)
 refine ⟨_, _, pre0 _ ?_, hrun, hended, _, _, rfl, ?_, ⟨_, rfl⟩, hW, hsame.mono (by decide) (by decide)⟩
 ·show oS s₁ (mkF m 0 #[.val (.ref a1)] [])
  refine XS.aloadN X0.here hx rfl (hb hby d15_0) rfl rfl ?_
  show oS s₁ (mkF m 1 #[.val (.ref a1)] [(.ref a1)])
  refine st1 _ ?_
  show oS T1 (mkF m 4 #[.val (.ref a1)] [(.int 0)])
  refine XS.ifYes X1.here hx rfl (pc0 := 4) (pc' := 67) rfl (hb hby d15_4) rfl ((if0 _ _).trans (flt (by decide : ¬ ((0 : Int32) < (0 : Int32)))).2.2.2) (by decide) (by decide) ?_
  show oS T1 (mkF m 67 #[.val (.ref a1)] [])
  exact X1.returnOut hx Bd.returns (hb hby d15_67) hr
 ·show Q_rmFin0 Z a1 h0 n0 _ T1.heap _
  rw [e1]
  exact ⟨rfl, N0, rfl⟩
theorem d15_7 : decode cd15 7 = .ok (.aload_n 0, 1) := by decide +kernel
theorem d15_8 : decode cd15 8 = .ok (.getfield 39, 3) := by decide +kernel
theorem d15_11 : decode cd15 11 = .ok (.ifCond .ge 14, 3) := by decide +kernel
theorem d15_14 : decode cd15 14 = .ok (.aload_n 0, 1) := by decide +kernel
theorem d15_15 : decode cd15 15 = .ok (.aload_n 0, 1) := by decide +kernel
theorem d15_16 : decode cd15 16 = .ok (.getfield 42, 3) := by decide +kernel
theorem d15_19 : decode cd15 19 = .ok (.putfield 35, 3) := by decide +kernel
theorem d15_22 : decode cd15 22 = .ok (.goto 20, 3) := by decide +kernel
theorem d15_42 : decode cd15 42 = .ok (.aload_n 0, 1) := by decide +kernel
theorem d15_43 : decode cd15 43 = .ok (.getfield 10, 3) := by decide +kernel
theorem d15_46 : decode cd15 46 = .ok (.aload_n 0, 1) := by decide +kernel
theorem d15_47 : decode cd15 47 = .ok (.getfield 77, 3) := by decide +kernel
theorem d15_50 : decode cd15 50 = .ok (.i2l, 1) := by decide +kernel
theorem pd__28J_29V : parseMethodDescriptor "(J)V" = some ⟨[.long], none⟩ := by decide +kernel
theorem d15_51 : decode cd15 51 = .ok (.invokevirtual 54, 3) := by decide +kernel
theorem d15_54 : decode cd15 54 = .ok (.aload_n 0, 1) := by decide +kernel
theorem d15_55 : decode cd15 55 = .ok (.aload_n 0, 1) := by decide +kernel
theorem d15_56 : decode cd15 56 = .ok (.getfield 42, 3) := by decide +kernel
theorem d15_59 : decode cd15 59 = .ok (.putfield 39, 3) := by decide +kernel
theorem d15_62 : decode cd15 62 = .ok (.aload_n 0, 1) := by decide +kernel
theorem d15_63 : decode cd15 63 = .ok (.iconst 0, 1) := by decide +kernel
theorem d15_64 : decode cd15 64 = .ok (.putfield 77, 3) := by decide +kernel
theorem sn68 {Z : State} {a0 : Array Value} (hw : own_Hw Z a0) : Jvm.RoadKit.slotOf Z nm0 "postings" nm2 ≠ Jvm.RoadKit.slotOf Z nm0 "frequency" "I" := slot_ne (Or.inr (own_w hw 82 rfl)) (Or.inl (own_w hw 126 rfl)) (by decide) (t := (.object nm1)) (t' := .int) (by decide) (by decide)
theorem sn69 {Z : State} {a0 : Array Value} (hw : own_Hw Z a0) : Jvm.RoadKit.slotOf Z nm0 "positions" nm2 ≠ Jvm.RoadKit.slotOf Z nm0 "frequency" "I" := slot_ne (Or.inr (own_w hw 84 rfl)) (Or.inl (own_w hw 126 rfl)) (by decide) (t := (.object nm1)) (t' := .int) (by decide) (by decide)
theorem sn70 {Z : State} {a0 : Array Value} (hw : own_Hw Z a0) : Jvm.RoadKit.slotOf Z nm0 "shares" "[J" ≠ Jvm.RoadKit.slotOf Z nm0 "frequency" "I" := slot_ne (Or.inr (own_w hw 102 rfl)) (Or.inl (own_w hw 126 rfl)) (by decide) (t := (.array .long)) (t' := .int) (by decide) (by decide)
theorem sn71 {Z a0} (hw : own_Hw Z a0) : own_sO Z nm0 nm19 "I" ≠ own_sO Z nm0 "frequency" "I" := own_sn hw 104 126 rfl rfl (by decide) (by decide) (by decide)
theorem sn72 {Z a0} (hw : own_Hw Z a0) : own_sO Z nm0 "lastDocument" "I" ≠ own_sO Z nm0 "frequency" "I" := own_sn hw 106 126 rfl rfl (by decide) (by decide) (by decide)
theorem sn73 {Z a0} (hw : own_Hw Z a0) : own_sO Z nm0 "document" "I" ≠ own_sO Z nm0 "frequency" "I" := own_sn hw 108 126 rfl rfl (by decide) (by decide) (by decide)
theorem sn74 {Z a0} (hw : own_Hw Z a0) : own_sO Z nm0 "sentence" "I" ≠ own_sO Z nm0 "frequency" "I" := own_sn hw 128 126 rfl rfl (by decide) (by decide) (by decide)
theorem sn75 {Z a0} (hw : own_Hw Z a0) : own_sO Z nm0 nm13 "I" ≠ own_sO Z nm0 "frequency" "I" := own_sn hw 130 126 rfl rfl (by decide) (by decide) (by decide)
theorem sn76 {Z a0} (hw : own_Hw Z a0) : own_sO Z nm0 "windows" "J" ≠ own_sO Z nm0 "frequency" "I" := own_sn hw 194 126 rfl rfl (by decide) (by decide) (by decide)
theorem sn77 {Z a0} (hw : own_Hw Z a0) : own_sO Z nm0 nm11 "J" ≠ own_sO Z nm0 "frequency" "I" := own_sn hw 220 126 rfl rfl (by decide) (by decide) (by decide)
theorem ef_rmFinA (m : MethodId) (a1 : Addr) : entryFrame m #[(.ref a1)] 1 = mkF m 0 #[.val (.ref a1)] [] := by first | (simp [entryFrame, mkF, argsToLocals, Value.category]; done) | rfl
def Q_rmFinA (Z : State) (a1 : Addr) (u_positions : Value) (u_shares : Value) (u_firstDocument : Value) (u_sentence : Value) (u_documentFrequency : Value) (u_windows : Value) (u_collectionFrequency : Value) (po : Addr) (ap : Addr) (kp : ClassId) (vp : List Value) (dc : Int32) (fq : Int32) (h0 : Heap) (n0 : Nat) (v : Option Value) (h : Heap) (L : List Loc) : Prop := ∃ rp : Addr, ∃ kr : ClassId, ∃ vr : List Value, v = none ∧ Fr n0 L ∧ Keep h0 h [a1, po, ap] ∧ Exa Z h a1 nm0 ∧ Fld Z h a1 nm0 "postings" nm2 (.ref po) ∧ Fld Z h a1 nm0 "positions" nm2 u_positions ∧ Fld Z h a1 nm0 "shares" "[J" u_shares ∧ Fld Z h a1 nm0 nm19 "I" (.int dc) ∧ Fld Z h a1 nm0 "lastDocument" "I" (.int dc) ∧ Fld Z h a1 nm0 "document" "I" (.int dc) ∧ Fld Z h a1 nm0 "sentence" "I" u_sentence ∧ Fld Z h a1 nm0 nm13 "I" u_documentFrequency ∧ Fld Z h a1 nm0 "frequency" "I" (.int 0) ∧ Fld Z h a1 nm0 "windows" "J" u_windows ∧ Fld Z h a1 nm0 nm11 "J" u_collectionFrequency ∧ Exa Z h po nm1 ∧ Fld Z h po nm1 "bytes" "[B" (.ref rp) ∧ Fld Z h po nm1 "size" "I" (.int 1) ∧ Arv Z h rp kr .byte (16 : Int32) vr (.int 0) ∧ n0 ≤ rp ∧ vr.length = (16 : Int32).toNatClampNeg ∧ (rp = ap ∨ h0.size ≤ rp)
set_option maxRecDepth 65536 in
set_option maxHeartbeats 40000000 in
theorem rmFinA (l : Launch) (Z : State) (a0 : Array Value) (hw : own_Hw Z a0) (ws : List Jvm.Cond) (a1 : Addr) (u_positions : Value) (u_shares : Value) (u_firstDocument : Value) (u_sentence : Value) (u_documentFrequency : Value) (u_windows : Value) (u_collectionFrequency : Value) (po : Addr) (ap : Addr) (kp : ClassId) (vp : List Value) (dc : Int32) (fq : Int32) (h0 : Heap) (n0 : Nat) (Z0 : n0 ≤ h0.size) (E_a1 : Exa Z h0 a1 nm0) (F_postings_a1 : Fld Z h0 a1 nm0 "postings" nm2 (.ref po)) (F_positions_a1 : Fld Z h0 a1 nm0 "positions" nm2 u_positions) (F_shares_a1 : Fld Z h0 a1 nm0 "shares" "[J" u_shares) (F_firstDocument_a1 : Fld Z h0 a1 nm0 nm19 "I" u_firstDocument) (F_lastDocument_a1 : Fld Z h0 a1 nm0 "lastDocument" "I" (.int (-1))) (F_document_a1 : Fld Z h0 a1 nm0 "document" "I" (.int dc)) (F_sentence_a1 : Fld Z h0 a1 nm0 "sentence" "I" u_sentence) (F_documentFrequency_a1 : Fld Z h0 a1 nm0 nm13 "I" u_documentFrequency) (F_frequency_a1 : Fld Z h0 a1 nm0 "frequency" "I" (.int fq)) (F_windows_a1 : Fld Z h0 a1 nm0 "windows" "J" u_windows) (F_collectionFrequency_a1 : Fld Z h0 a1 nm0 nm11 "J" u_collectionFrequency) (g_a1 : n0 ≤ a1) (E_po : Exa Z h0 po nm1) (F_bytes_po : Fld Z h0 po nm1 "bytes" "[B" (.ref ap)) (F_size_po : Fld Z h0 po nm1 "size" "I" (.int 0)) (V_ap : Arv Z h0 ap kp .byte (8 : Int32) vp (.int 0)) (g_po : n0 ≤ po) (g_ap : n0 ≤ ap) (hvp : vp.length = (8 : Int32).toNatClampNeg) (hfq : 1 ≤ fq.toInt ∧ fq.toInt ≤ 100) :
  MetFree l mn28 (head1 (Jvm.Cond.code mn28 cd15 1 none :: ws) ({ frames := 3, cells := 1, slots := 16, locals := 53 } : Room)) (fun a U => a = #[(.ref a1)] ∧ Z.Warmed39 U.vm ∧ U.heap = h0) (fun _ _ _ _ _ => True) (fun _ U o U' => ∃ v L, o = .returned v ∧ Q_rmFinA Z a1 u_positions u_shares u_firstDocument u_sentence u_documentFrequency u_windows u_collectionFrequency po ap kp vp dc fq h0 n0 v U'.heap L ∧ FrameEnd U o U' L ({ frames := 3, cells := 1, slots := 16, locals := 53 } : Room).cells ({ frames := 3, cells := 1, slots := 16, locals := 53 } : Room).slots) := by
 refine MetFree.of_bodySF (plainFor_of_name pn_com_example_morro_morro_index_TermPostings) hisR ?_
 intro p e s m args below meth c s₁ Bd hml0 hP hK
 obtain ⟨rfl, hZ, hh⟩ := hP
 have hx := Bd.exec
 have hby := Bd.bytes
 have hml : c.maxLocals = 1 := hml0
 have hown : s.vm.findClass nm0 = some m.cls := findClass_of_methodNamed Bd.named
 have hnm := (name_of_methodNamed Bd.named Bd.method).1
 have X0 : Stand p l e ({ frames := 3, cells := 1, slots := 16, locals := 53 } : Room) s m #[(.ref a1)] below meth c s₁ [] 0 0 := Stand.of_body Bd
 have e0 : s₁.heap = h0 := by rw [← hh, Bd.state]; rfl
 have N0 := Fr.nil n0
 have pre0 : ∀ t, Steps p.tables e below (s₁.setTop (mkF m 0 #[.val (.ref a1)] [])) t → Steps p.tables e below (s₁.setTop (entryFrame m #[(.ref a1)] 1)) t := fun t k => castTop (ef_rmFinA m a1) k
 have hq : (fq.toInt64).toInt = fq.toInt := Jvm.Kit.i64_of_i32 fq
 obtain ⟨T1, X1, e1, st1⟩ := getF X0 hx hZ hown (host := "") (Or.inl (own_w hw 125 rfl)) Via.refl e0 F_frequency_a1 (g := (mkF m 1 #[.val (.ref a1)] [(.ref a1)])) rfl rfl (hb hby d15_1)
 obtain ⟨T2, X2, e2, st2⟩ := getF X1 hx hZ hown (host := "") (Or.inl (own_w hw 105 rfl)) Via.refl e1 F_lastDocument_a1 (g := (mkF m 8 #[.val (.ref a1)] [(.ref a1)])) rfl rfl (hb hby d15_8)
 obtain ⟨T3, X3, e3, st3⟩ := getF X2 hx hZ hown (host := "") (Or.inl (own_w hw 107 rfl)) Via.refl e2 F_document_a1 (g := (mkF m 16 #[.val (.ref a1)] [(.ref a1), (.ref a1)])) rfl rfl (hb hby d15_16)
 have na4 := (Exa.neArv E_a1 V_ap (own_w hw 65 rfl)).symm
 have na5 := Exa.ne E_po E_a1 (by decide)
 obtain ⟨T6, h6, X6, e6, W6, st6⟩ := putF X3 hx hZ hown (host := "") (Or.inl (own_w hw 103 rfl)) Via.refl e3 F_firstDocument_a1 E_a1 (Or.inl (own_w hw 104 rfl)) (own_w hw 65 rfl) (ty := .int) (by decide) rfl rfl (g := (mkF m 19 #[.val (.ref a1)] [(.int dc), (.ref a1)])) rfl rfl (hb hby d15_19)
 have K7 : Keep h0 h6 [a1, po, ap] := (Keep.refl h0 [a1, po, ap]).wr W6 (Or.inl (List.mem_of_getElem? (i := 0) rfl))
 have N8 := Fr.snoc X6 N0 g_a1
 have Fw6 := F_firstDocument_a1.same W6
 have f9 := (F_postings_a1.other W6 (Or.inr (sn25 hw)))
 obtain ⟨T10, X10, e10, st10⟩ := getF X6 hx hZ hown (host := "") (Or.inl (own_w hw 81 rfl)) Via.refl e6 f9 (g := (mkF m 43 #[.val (.ref a1)] [(.ref a1)])) rfl rfl (hb hby d15_43)
 have f11 := (F_frequency_a1.other W6 (Or.inr (sn53 hw)))
 obtain ⟨T12, X12, e12, st12⟩ := getF X10 hx hZ hown (host := "") (Or.inl (own_w hw 125 rfl)) Via.refl e10 f11 (g := (mkF m 47 #[.val (.ref a1)] [(.ref a1), (.ref po)])) rfl rfl (hb hby d15_47)
 have f13 := (E_po.wr W6)
 have f14 := (F_bytes_po.other W6 (Or.inl na5))
 have f15 := (F_size_po.other W6 (Or.inl na5))
 have f16 := (V_ap.other W6 na4)
 have na18 := (Exa.neArv f13 f16 (own_w hw 72 rfl)).symm
 have f19 := (E_a1.wr W6)
 obtain ⟨cq17, kq17, q17a, q17b, q17c⟩ := isOf hZ e12 f13
 obtain ⟨_, _, ⟨T17, L17, k17, n17⟩, -, X17, ⟨Lc17, hQ17, l17, y17, z17⟩, st17⟩ := X12.virtualBack hx (y := mn24) (z := mn24) hown (mvT hZ (own_w hw 131 rfl)) (mvT hZ (own_w hw 132 rfl)) (notFace_of_selects (args := #[]) (mvT hZ (own_w hw 134 rfl))) (mvT hZ (own_w hw 134 rfl)) (mvT hZ (own_w hw 133 rfl)) (by decide) (backOf (W := 0) (rmEnG l Z a0 hw [] po (fq.toInt64) (0 : Int32) (8 : Int32) ap kp vp 0 (1 : Int32) h6 n0 (Nat.le_trans Z0 K7.1) f13 f14 f15 f16 g_po g_ap hvp (by decide) (by decide) (by decide) (by rw [hq]; omega) (by show (fq.toInt64).toInt < 128; rw [hq]; omega) (own_f0 _) own_1 (by decide) (by decide)) hZ (own_w hw 135 rfl) (own_w hw 73 rfl) (by decide) (by decide)) q17a q17c (g := (mkF m 51 #[.val (.ref a1)] [(.long (fq.toInt64)), (.ref po)])) rfl (by rw [hml]; rfl) (Steps.refl _) (argsL := [(.long (fq.toInt64))]) (rest := []) (lenOf pd__28J_29V rfl) rfl (by show 2 * 0 + _ ≤ _; exact Nat.le_of_eq rfl) (hb hby d15_51) (fun _ _ => ⟨rfl, e12, (by decide : 0 + 1 ≤ _), (by decide : 0 + 16 ≤ _)⟩)
 dsimp only [Pt.U, Pt.locs, Pt.cells, Pt.slots] at y17 z17 st17 hQ17
 change Stand p l e _ s m _ below meth c T17 L17 k17 n17 at X17
 change L17 = _ ++ Lc17 at l17
 subst y17 z17
 obtain ⟨r_17, kr_17, vr_17, rfl, N17q, K17q, t17_0, t17_1, t17_2, t17_3, t17_4, t17_5, t17_6⟩ := hQ17
 have N17 : Fr n0 L17 := l17 ▸ Fr.app N8 N17q
 have K17 : Keep h0 T17.heap [a1, po, ap] := K7.trans K17q (allS (P := fun xz => xz ∈ [a1, po, ap] ∨ h0.size ≤ xz) (Or.inl (List.mem_of_getElem? (i := 1) rfl)) (allS (P := fun xz => xz ∈ [a1, po, ap] ∨ h0.size ≤ xz) (Or.inl (List.mem_of_getElem? (i := 2) rfl)) all0))
 have ho20 : r_17 = ap ∨ h0.size ≤ r_17 := own_hor t17_6 (Or.inl rfl) K7.1
 have e16 : own_cap (8 : Int32) (0 : Int32) = (16 : Int32) := by decide
 have Ve21 : Arv Z T17.heap r_17 kr_17 .byte (16 : Int32) vr_17 (.int 0) := e16 ▸ t17_3
 have Fz1 : Fld Z T17.heap po nm1 "size" "I" (.int 1) := t17_2
 have f22 := ((F_document_a1.other W6 (Or.inr (sn21 hw))).keep K17q (ninS (Ne.symm na5) (ninS (Ne.symm na4) nin0)))
 obtain ⟨T23, X23, e23, st23⟩ := getF X17 hx hZ hown (host := "") (Or.inl (own_w hw 107 rfl)) Via.refl rfl f22 (g := (mkF m 56 #[.val (.ref a1)] [(.ref a1), (.ref a1)])) rfl rfl (hb hby d15_56)
 have f24 := ((F_lastDocument_a1.other W6 (Or.inr (sn17 hw))).keep K17q (ninS (Ne.symm na5) (ninS (Ne.symm na4) nin0)))
 have f25 := (f19.keep K17q)
 have na26 := (Exa.neArv f25 Ve21 (own_w hw 65 rfl)).symm
 obtain ⟨T27, h27, X27, e27, W27, st27⟩ := putF X23 hx hZ hown (host := "") (Or.inl (own_w hw 105 rfl)) Via.refl e23 f24 f25 (Or.inl (own_w hw 106 rfl)) (own_w hw 65 rfl) (ty := .int) (by decide) rfl rfl (g := (mkF m 59 #[.val (.ref a1)] [(.int dc), (.ref a1)])) rfl rfl (hb hby d15_59)
 have K28 : Keep h0 h27 [a1, po, ap] := K17.wr W27 (Or.inl (List.mem_of_getElem? (i := 0) rfl))
 have N29 := Fr.snoc X27 N17 g_a1
 have Fw27 := f24.same W27
 have f30 := ((f11.keep K17q (ninS (Ne.symm na5) (ninS (Ne.symm na4) nin0))).other W27 (Or.inr (sn54 hw)))
 have f31 := (f25.wr W27)
 obtain ⟨T32, h32, X32, e32, W32, st32⟩ := putF X27 hx hZ hown (host := "") (Or.inl (own_w hw 125 rfl)) Via.refl e27 f30 f31 (Or.inl (own_w hw 126 rfl)) (own_w hw 65 rfl) (ty := .int) (by decide) rfl rfl (g := (mkF m 64 #[.val (.ref a1)] [(.int 0), (.ref a1)])) rfl rfl (hb hby d15_64)
 have K33 : Keep h0 h32 [a1, po, ap] := K28.wr W32 (Or.inl (List.mem_of_getElem? (i := 0) rfl))
 have N34 := Fr.snoc X32 N29 g_a1
 have Fw32 := f30.same W32
 have f35 := (f31.wr W32)
 have f36 := (((f9.keep K17q (ninS (Ne.symm na5) (ninS (Ne.symm na4) nin0))).other W27 (Or.inr (sn26 hw))).other W32 (Or.inr (sn68 hw)))
 have f37 := ((((F_positions_a1.other W6 (Or.inr (sn29 hw))).keep K17q (ninS (Ne.symm na5) (ninS (Ne.symm na4) nin0))).other W27 (Or.inr (sn30 hw))).other W32 (Or.inr (sn69 hw)))
 have f38 := ((((F_shares_a1.other W6 (Or.inr (sn32 hw))).keep K17q (ninS (Ne.symm na5) (ninS (Ne.symm na4) nin0))).other W27 (Or.inr (sn33 hw))).other W32 (Or.inr (sn70 hw)))
 have f39 := (((Fw6.keep K17q (ninS (Ne.symm na5) (ninS (Ne.symm na4) nin0))).other W27 (Or.inr (sn35 hw))).other W32 (Or.inr (sn71 hw)))
 have f40 := (Fw27.other W32 (Or.inr (sn72 hw)))
 have f41 := ((f22.other W27 (Or.inr (sn22 hw))).other W32 (Or.inr (sn73 hw)))
 have f42 := ((((F_sentence_a1.other W6 (Or.inr (sn41 hw))).keep K17q (ninS (Ne.symm na5) (ninS (Ne.symm na4) nin0))).other W27 (Or.inr (sn42 hw))).other W32 (Or.inr (sn74 hw)))
 have f43 := ((((F_documentFrequency_a1.other W6 (Or.inr (sn47 hw))).keep K17q (ninS (Ne.symm na5) (ninS (Ne.symm na4) nin0))).other W27 (Or.inr (sn48 hw))).other W32 (Or.inr (sn75 hw)))
 have f44 := ((((F_windows_a1.other W6 (Or.inr (sn59 hw))).keep K17q (ninS (Ne.symm na5) (ninS (Ne.symm na4) nin0))).other W27 (Or.inr (sn60 hw))).other W32 (Or.inr (sn76 hw)))
 have f45 := ((((F_collectionFrequency_a1.other W6 (Or.inr (sn65 hw))).keep K17q (ninS (Ne.symm na5) (ninS (Ne.symm na4) nin0))).other W27 (Or.inr (sn66 hw))).other W32 (Or.inr (sn77 hw)))
 have f46 := ((t17_0.wr W27).wr W32)
 have f47 := ((t17_1.other W27 (Or.inl na5)).other W32 (Or.inl na5))
 have f48 := ((Fz1.other W27 (Or.inl na5)).other W32 (Or.inl na5))
 have f49 := ((Ve21.other W27 na26).other W32 na26)
 obtain ⟨fs, hr, hrun, hended, hW, hsame⟩ := X32.leave (v := none) (fun _ => rfl)
 refine ⟨_, _, pre0 _ ?_, hrun, hended, _, _, rfl, ?_, ⟨_, rfl⟩, hW, hsame.mono (by decide) (by decide)⟩
 ·show oS s₁ (mkF m 0 #[.val (.ref a1)] [])
  refine XS.aloadN X0.here hx rfl (hb hby d15_0) rfl rfl ?_
  show oS s₁ (mkF m 1 #[.val (.ref a1)] [(.ref a1)])
  refine st1 _ ?_
  show oS T1 (mkF m 4 #[.val (.ref a1)] [(.int fq)])
  refine XS.ifNo X1.here hx rfl (hb hby d15_4) rfl ((if0 _ _).trans (tlt (by rw [Int32.lt_iff_toInt_lt, Int32.toInt_zero]; omega : (0 : Int32) < fq)).2.2.2) ?_
  show oS T1 (mkF m 7 #[.val (.ref a1)] [])
  refine XS.aloadN X1.here hx rfl (hb hby d15_7) rfl rfl ?_
  show oS T1 (mkF m 8 #[.val (.ref a1)] [(.ref a1)])
  refine st2 _ ?_
  show oS T2 (mkF m 11 #[.val (.ref a1)] [(.int (-1))])
  refine XS.ifNo X2.here hx rfl (hb hby d15_11) rfl ((if0 _ _).trans (tlt (by decide : (-1 : Int32) < (0 : Int32))).2.1) ?_
  show oS T2 (mkF m 14 #[.val (.ref a1)] [])
  refine XS.aloadN X2.here hx rfl (hb hby d15_14) rfl rfl ?_
  show oS T2 (mkF m 15 #[.val (.ref a1)] [(.ref a1)])
  refine XS.aloadN X2.here hx rfl (hb hby d15_15) rfl rfl ?_
  show oS T2 (mkF m 16 #[.val (.ref a1)] [(.ref a1), (.ref a1)])
  refine st3 _ ?_
  show oS T3 (mkF m 19 #[.val (.ref a1)] [(.int dc), (.ref a1)])
  refine st6 _ ?_
  show oS T6 (mkF m 22 #[.val (.ref a1)] [])
  refine XS.goto X6.here hx rfl (pc0 := 22) (pc' := 42) rfl (hb hby d15_22) (by decide) (by decide) ?_
  show oS T6 (mkF m 42 #[.val (.ref a1)] [])
  refine XS.aloadN X6.here hx rfl (hb hby d15_42) rfl rfl ?_
  show oS T6 (mkF m 43 #[.val (.ref a1)] [(.ref a1)])
  refine st10 _ ?_
  show oS T10 (mkF m 46 #[.val (.ref a1)] [(.ref po)])
  refine XS.aloadN X10.here hx rfl (hb hby d15_46) rfl rfl ?_
  show oS T10 (mkF m 47 #[.val (.ref a1)] [(.ref a1), (.ref po)])
  refine st12 _ ?_
  show oS T12 (mkF m 50 #[.val (.ref a1)] [(.int fq), (.ref po)])
  refine XS.i2l X12.here hx rfl (hb hby d15_50) rfl ?_
  show oS T12 (mkF m 51 #[.val (.ref a1)] [(.long (fq.toInt64)), (.ref po)])
  refine st17.trans ?_
  show oS T17 (mkF m 54 #[.val (.ref a1)] [])
  refine XS.aloadN X17.here hx rfl (hb hby d15_54) rfl rfl ?_
  show oS T17 (mkF m 55 #[.val (.ref a1)] [(.ref a1)])
  refine XS.aloadN X17.here hx rfl (hb hby d15_55) rfl rfl ?_
  show oS T17 (mkF m 56 #[.val (.ref a1)] [(.ref a1), (.ref a1)])
  refine st23 _ ?_
  show oS T23 (mkF m 59 #[.val (.ref a1)] [(.int dc), (.ref a1)])
  refine st27 _ ?_
  show oS T27 (mkF m 62 #[.val (.ref a1)] [])
  refine XS.aloadN X27.here hx rfl (hb hby d15_62) rfl rfl ?_
  show oS T27 (mkF m 63 #[.val (.ref a1)] [(.ref a1)])
  refine XS.iconst X27.here hx rfl (hb hby d15_63) ?_
  show oS T27 (mkF m 64 #[.val (.ref a1)] [(.int 0), (.ref a1)])
  refine st32 _ ?_
  show oS T32 (mkF m 67 #[.val (.ref a1)] [])
  exact X32.returnOut hx Bd.returns (hb hby d15_67) hr
 ·show Q_rmFinA Z a1 u_positions u_shares u_firstDocument u_sentence u_documentFrequency u_windows u_collectionFrequency po ap kp vp dc fq h0 n0 _ T32.heap _
  rw [e32]
  exact ⟨r_17, kr_17, vr_17, rfl, N34, K33, f35, f36, f37, f38, f39, f40, f41, f42, f43, Fw32, f44, f45, f46, f47, f48, f49, t17_4, (e16 ▸ t17_5), ho20⟩
theorem d15_25 : decode cd15 25 = .ok (.aload_n 0, 1) := by decide +kernel
theorem d15_26 : decode cd15 26 = .ok (.getfield 10, 3) := by decide +kernel
theorem d15_29 : decode cd15 29 = .ok (.aload_n 0, 1) := by decide +kernel
theorem d15_30 : decode cd15 30 = .ok (.getfield 42, 3) := by decide +kernel
theorem d15_33 : decode cd15 33 = .ok (.aload_n 0, 1) := by decide +kernel
theorem d15_34 : decode cd15 34 = .ok (.getfield 39, 3) := by decide +kernel
theorem d15_37 : decode cd15 37 = .ok (.isub, 1) := by decide +kernel
theorem d15_38 : decode cd15 38 = .ok (.i2l, 1) := by decide +kernel
theorem d15_39 : decode cd15 39 = .ok (.invokevirtual 54, 3) := by decide +kernel
theorem ef_rmFinB (m : MethodId) (a1 : Addr) : entryFrame m #[(.ref a1)] 1 = mkF m 0 #[.val (.ref a1)] [] := by first | (simp [entryFrame, mkF, argsToLocals, Value.category]; done) | rfl
def Q_rmFinB (Z : State) (a1 : Addr) (u_positions : Value) (u_shares : Value) (u_firstDocument : Value) (u_sentence : Value) (u_documentFrequency : Value) (u_windows : Value) (u_collectionFrequency : Value) (po : Addr) (ap : Addr) (kp : ClassId) (vp : List Value) (dc : Int32) (lt : Int32) (fq : Int32) (f : Nat) (ln : Int32) (h0 : Heap) (n0 : Nat) (v : Option Value) (h : Heap) (L : List Loc) : Prop := ∃ rp : Addr, ∃ kr : ClassId, ∃ vr : List Value, v = none ∧ Fr n0 L ∧ Keep h0 h [a1, po, ap] ∧ Exa Z h a1 nm0 ∧ Fld Z h a1 nm0 "postings" nm2 (.ref po) ∧ Fld Z h a1 nm0 "positions" nm2 u_positions ∧ Fld Z h a1 nm0 "shares" "[J" u_shares ∧ Fld Z h a1 nm0 nm19 "I" u_firstDocument ∧ Fld Z h a1 nm0 "lastDocument" "I" (.int dc) ∧ Fld Z h a1 nm0 "document" "I" (.int dc) ∧ Fld Z h a1 nm0 "sentence" "I" u_sentence ∧ Fld Z h a1 nm0 nm13 "I" u_documentFrequency ∧ Fld Z h a1 nm0 "frequency" "I" (.int 0) ∧ Fld Z h a1 nm0 "windows" "J" u_windows ∧ Fld Z h a1 nm0 nm11 "J" u_collectionFrequency ∧ Exa Z h po nm1 ∧ Fld Z h po nm1 "bytes" "[B" (.ref rp) ∧ Arv Z h rp kr .byte (16 : Int32) vr (.int 0)
set_option maxRecDepth 65536 in
set_option maxHeartbeats 40000000 in
theorem rmFinB (l : Launch) (Z : State) (a0 : Array Value) (hw : own_Hw Z a0) (ws : List Jvm.Cond) (a1 : Addr) (u_positions : Value) (u_shares : Value) (u_firstDocument : Value) (u_sentence : Value) (u_documentFrequency : Value) (u_windows : Value) (u_collectionFrequency : Value) (po : Addr) (ap : Addr) (kp : ClassId) (vp : List Value) (dc : Int32) (lt : Int32) (fq : Int32) (f : Nat) (ln : Int32) (h0 : Heap) (n0 : Nat) (Z0 : n0 ≤ h0.size) (E_a1 : Exa Z h0 a1 nm0) (F_postings_a1 : Fld Z h0 a1 nm0 "postings" nm2 (.ref po)) (F_positions_a1 : Fld Z h0 a1 nm0 "positions" nm2 u_positions) (F_shares_a1 : Fld Z h0 a1 nm0 "shares" "[J" u_shares) (F_firstDocument_a1 : Fld Z h0 a1 nm0 nm19 "I" u_firstDocument) (F_lastDocument_a1 : Fld Z h0 a1 nm0 "lastDocument" "I" (.int lt)) (F_document_a1 : Fld Z h0 a1 nm0 "document" "I" (.int dc)) (F_sentence_a1 : Fld Z h0 a1 nm0 "sentence" "I" u_sentence) (F_documentFrequency_a1 : Fld Z h0 a1 nm0 nm13 "I" u_documentFrequency) (F_frequency_a1 : Fld Z h0 a1 nm0 "frequency" "I" (.int fq)) (F_windows_a1 : Fld Z h0 a1 nm0 "windows" "J" u_windows) (F_collectionFrequency_a1 : Fld Z h0 a1 nm0 nm11 "J" u_collectionFrequency) (g_a1 : n0 ≤ a1) (E_po : Exa Z h0 po nm1) (F_bytes_po : Fld Z h0 po nm1 "bytes" "[B" (.ref ap)) (F_size_po : Fld Z h0 po nm1 "size" "I" (.int 1)) (V_ap : Arv Z h0 ap kp .byte (16 : Int32) vp (.int 0)) (g_po : n0 ≤ po) (g_ap : n0 ≤ ap) (hvp : vp.length = (16 : Int32).toNatClampNeg) (hfq : 1 ≤ fq.toInt ∧ fq.toInt ≤ 100) (hlt : ¬ (lt < (0 : Int32))) (hf : f ≤ 4) (hj : 0 ≤ ((dc - lt).toInt64).toInt) (hj2 : ((dc - lt).toInt64).toInt < 2 ^ (7 * (f + 1))) (hj3 : f ≠ 0 → 2 ^ (7 * f) ≤ ((dc - lt).toInt64).toInt) (hln : ln.toInt = f + 1) :
  MetFree l mn28 (head1 (Jvm.Cond.code mn28 cd15 1 none :: ws) ({ frames := 2, cells := 0, slots := 0, locals := 33 } : Room)) (fun a U => a = #[(.ref a1)] ∧ Z.Warmed39 U.vm ∧ U.heap = h0) (fun _ _ _ _ _ => True) (fun _ U o U' => ∃ v L, o = .returned v ∧ Q_rmFinB Z a1 u_positions u_shares u_firstDocument u_sentence u_documentFrequency u_windows u_collectionFrequency po ap kp vp dc lt fq f ln h0 n0 v U'.heap L ∧ FrameEnd U o U' L ({ frames := 2, cells := 0, slots := 0, locals := 33 } : Room).cells ({ frames := 2, cells := 0, slots := 0, locals := 33 } : Room).slots) := by
 refine MetFree.of_bodySF (plainFor_of_name pn_com_example_morro_morro_index_TermPostings) hisR ?_
 intro p e s m args below meth c s₁ Bd hml0 hP hK
 obtain ⟨rfl, hZ, hh⟩ := hP
 have hx := Bd.exec
 have hby := Bd.bytes
 have hml : c.maxLocals = 1 := hml0
 have hown : s.vm.findClass nm0 = some m.cls := findClass_of_methodNamed Bd.named
 have hnm := (name_of_methodNamed Bd.named Bd.method).1
 have X0 : Stand p l e ({ frames := 2, cells := 0, slots := 0, locals := 33 } : Room) s m #[(.ref a1)] below meth c s₁ [] 0 0 := Stand.of_body Bd
 have e0 : s₁.heap = h0 := by rw [← hh, Bd.state]; rfl
 have N0 := Fr.nil n0
 have pre0 : ∀ t, Steps p.tables e below (s₁.setTop (mkF m 0 #[.val (.ref a1)] [])) t → Steps p.tables e below (s₁.setTop (entryFrame m #[(.ref a1)] 1)) t := fun t k => castTop (ef_rmFinB m a1) k
 have hq : (fq.toInt64).toInt = fq.toInt := Jvm.Kit.i64_of_i32 fq
 have h1l : ((1 : Int32) + ln).toInt = (1 : Int32).toInt + f + 1 := own_add (by decide) hln (by omega)
 have o1 : (1 : Int32).toInt = 1 := by decide
 have o16 : (16 : Int32).toInt = 16 := by decide
 obtain ⟨T1, X1, e1, st1⟩ := getF X0 hx hZ hown (host := "") (Or.inl (own_w hw 125 rfl)) Via.refl e0 F_frequency_a1 (g := (mkF m 1 #[.val (.ref a1)] [(.ref a1)])) rfl rfl (hb hby d15_1)
 obtain ⟨T2, X2, e2, st2⟩ := getF X1 hx hZ hown (host := "") (Or.inl (own_w hw 105 rfl)) Via.refl e1 F_lastDocument_a1 (g := (mkF m 8 #[.val (.ref a1)] [(.ref a1)])) rfl rfl (hb hby d15_8)
 obtain ⟨T3, X3, e3, st3⟩ := getF X2 hx hZ hown (host := "") (Or.inl (own_w hw 81 rfl)) Via.refl e2 F_postings_a1 (g := (mkF m 26 #[.val (.ref a1)] [(.ref a1)])) rfl rfl (hb hby d15_26)
 obtain ⟨T4, X4, e4, st4⟩ := getF X3 hx hZ hown (host := "") (Or.inl (own_w hw 107 rfl)) Via.refl e3 F_document_a1 (g := (mkF m 30 #[.val (.ref a1)] [(.ref a1), (.ref po)])) rfl rfl (hb hby d15_30)
 obtain ⟨T5, X5, e5, st5⟩ := getF X4 hx hZ hown (host := "") (Or.inl (own_w hw 105 rfl)) Via.refl e4 F_lastDocument_a1 (g := (mkF m 34 #[.val (.ref a1)] [(.ref a1), (.int dc), (.ref po)])) rfl rfl (hb hby d15_34)
 have na7 := Exa.ne E_a1 E_po (by decide)
 have na8 := (Exa.neArv E_po V_ap (own_w hw 72 rfl)).symm
 have na9 := Exa.neArv E_a1 V_ap (own_w hw 65 rfl)
 obtain ⟨cq6, kq6, q6a, q6b, q6c⟩ := isOf hZ e5 E_po
 obtain ⟨_, _, ⟨T6, L6, k6, n6⟩, -, X6, ⟨Lc6, hQ6, l6, y6, z6⟩, st6⟩ := X5.virtualBack hx (y := mn24) (z := mn24) hown (mvT hZ (own_w hw 131 rfl)) (mvT hZ (own_w hw 132 rfl)) (notFace_of_selects (args := #[]) (mvT hZ (own_w hw 134 rfl))) (mvT hZ (own_w hw 134 rfl)) (mvT hZ (own_w hw 133 rfl)) (by decide) (backOf (W := 0) (rmEnS l Z a0 hw [] po ((dc - lt).toInt64) (1 : Int32) (16 : Int32) ap kp vp f ln h0 n0 Z0 E_po F_bytes_po F_size_po V_ap g_po g_ap hvp (by decide) (by decide) (by omega) hj hj2 hj3 hln (by decide)) hZ (own_w hw 135 rfl) (own_w hw 73 rfl) (by decide) (by decide)) q6a q6c (g := (mkF m 39 #[.val (.ref a1)] [(.long ((dc - lt).toInt64)), (.ref po)])) rfl (by rw [hml]; rfl) (Steps.refl _) (argsL := [(.long ((dc - lt).toInt64))]) (rest := []) (lenOf pd__28J_29V rfl) rfl (by show 2 * 0 + _ ≤ _; exact Nat.le_of_eq rfl) (hb hby d15_39) (fun _ _ => ⟨rfl, e5, (by decide : 0 + 0 ≤ _), (by decide : 0 + 0 ≤ _)⟩)
 dsimp only [Pt.U, Pt.locs, Pt.cells, Pt.slots] at y6 z6 st6 hQ6
 change Stand p l e _ s m _ below meth c T6 L6 k6 n6 at X6
 change L6 = _ ++ Lc6 at l6
 subst y6 z6
 obtain ⟨r_6, kr_6, vr_6, rfl, N6q, K6q, t6_0, t6_1, t6_2, t6_3, t6_4, t6_5, t6_6⟩ := hQ6
 have N6 : Fr n0 L6 := l6 ▸ Fr.app N0 N6q
 have K6 : Keep h0 T6.heap [a1, po, ap] := (Keep.refl h0 [a1, po, ap]).trans K6q (allS (P := fun xz => xz ∈ [a1, po, ap] ∨ h0.size ≤ xz) (Or.inl (List.mem_of_getElem? (i := 1) rfl)) (allS (P := fun xz => xz ∈ [a1, po, ap] ∨ h0.size ≤ xz) (Or.inl (List.mem_of_getElem? (i := 2) rfl)) all0))
 have ho10 : r_6 = ap ∨ h0.size ≤ r_6 := own_hor t6_6 (Or.inl rfl) (Nat.le_refl _)
 have eS : own_cap (16 : Int32) (1 : Int32) = (16 : Int32) := by decide
 have Ve11 : Arv Z T6.heap r_6 kr_6 .byte (16 : Int32) vr_6 (.int 0) := eS ▸ t6_3
 have hvS := eS ▸ t6_5
 have f12 := (F_postings_a1.keep K6q (ninS na7 (ninS na9 nin0)))
 obtain ⟨T13, X13, e13, st13⟩ := getF X6 hx hZ hown (host := "") (Or.inl (own_w hw 81 rfl)) Via.refl rfl f12 (g := (mkF m 43 #[.val (.ref a1)] [(.ref a1)])) rfl rfl (hb hby d15_43)
 have f14 := (F_frequency_a1.keep K6q (ninS na7 (ninS na9 nin0)))
 obtain ⟨T15, X15, e15, st15⟩ := getF X13 hx hZ hown (host := "") (Or.inl (own_w hw 125 rfl)) Via.refl e13 f14 (g := (mkF m 47 #[.val (.ref a1)] [(.ref a1), (.ref po)])) rfl rfl (hb hby d15_47)
 have na17 := (Exa.neArv t6_0 Ve11 (own_w hw 72 rfl)).symm
 have f18 := (E_a1.keep K6q)
 have na19 := Exa.neArv f18 Ve11 (own_w hw 65 rfl)
 obtain ⟨cq16, kq16, q16a, q16b, q16c⟩ := isOf hZ e15 t6_0
 obtain ⟨_, _, ⟨T16, L16, k16, n16⟩, -, X16, ⟨Lc16, hQ16, l16, y16, z16⟩, st16⟩ := X15.virtualBack hx (y := mn24) (z := mn24) hown (mvT hZ (own_w hw 131 rfl)) (mvT hZ (own_w hw 132 rfl)) (notFace_of_selects (args := #[]) (mvT hZ (own_w hw 134 rfl))) (mvT hZ (own_w hw 134 rfl)) (mvT hZ (own_w hw 133 rfl)) (by decide) (backOf (W := 0) (rmEnS l Z a0 hw [] po (fq.toInt64) ((1 : Int32) + ln) (16 : Int32) r_6 kr_6 vr_6 0 (1 : Int32) T6.heap n0 (Nat.le_trans Z0 K6.1) t6_0 t6_1 t6_2 Ve11 g_po t6_4 hvS (by decide) (by rw [h1l]; omega) (by decide) (by rw [hq]; omega) (by show (fq.toInt64).toInt < 128; rw [hq]; omega) (own_f0 _) own_1 (by rw [h1l]; omega)) hZ (own_w hw 135 rfl) (own_w hw 73 rfl) (by decide) (by decide)) q16a q16c (g := (mkF m 51 #[.val (.ref a1)] [(.long (fq.toInt64)), (.ref po)])) rfl (by rw [hml]; rfl) (Steps.refl _) (argsL := [(.long (fq.toInt64))]) (rest := []) (lenOf pd__28J_29V rfl) rfl (by show 2 * 0 + _ ≤ _; exact Nat.le_of_eq rfl) (hb hby d15_51) (fun _ _ => ⟨rfl, e15, (by decide : 0 + 0 ≤ _), (by decide : 0 + 0 ≤ _)⟩)
 dsimp only [Pt.U, Pt.locs, Pt.cells, Pt.slots] at y16 z16 st16 hQ16
 change Stand p l e _ s m _ below meth c T16 L16 k16 n16 at X16
 change L16 = _ ++ Lc16 at l16
 subst y16 z16
 obtain ⟨r_16, kr_16, vr_16, rfl, N16q, K16q, t16_0, t16_1, t16_2, t16_3, t16_4, t16_5, t16_6⟩ := hQ16
 have N16 : Fr n0 L16 := l16 ▸ Fr.app N6 N16q
 have K16 : Keep h0 T16.heap [a1, po, ap] := K6.trans K16q (allS (P := fun xz => xz ∈ [a1, po, ap] ∨ h0.size ≤ xz) (Or.inl (List.mem_of_getElem? (i := 1) rfl)) (allS (P := fun xz => xz ∈ [a1, po, ap] ∨ h0.size ≤ xz) (own_kor ho10 (List.mem_of_getElem? (i := 2) rfl)) all0))
 have ho20 : r_16 = ap ∨ h0.size ≤ r_16 := own_hor t16_6 ho10 K6.1
 have eT2 : own_cap (16 : Int32) ((1 : Int32) + ln) = (16 : Int32) := own_capS (by rw [h1l]; omega) (by rw [h1l]; omega)
 have Ve21 : Arv Z T16.heap r_16 kr_16 .byte (16 : Int32) vr_16 (.int 0) := eT2 ▸ t16_3
 have f22 := ((F_document_a1.keep K6q (ninS na7 (ninS na9 nin0))).keep K16q (ninS na7 (ninS na19 nin0)))
 obtain ⟨T23, X23, e23, st23⟩ := getF X16 hx hZ hown (host := "") (Or.inl (own_w hw 107 rfl)) Via.refl rfl f22 (g := (mkF m 56 #[.val (.ref a1)] [(.ref a1), (.ref a1)])) rfl rfl (hb hby d15_56)
 have f24 := ((F_lastDocument_a1.keep K6q (ninS na7 (ninS na9 nin0))).keep K16q (ninS na7 (ninS na19 nin0)))
 have f25 := (f18.keep K16q)
 have na26 := (Exa.neArv f25 Ve21 (own_w hw 65 rfl)).symm
 obtain ⟨T27, h27, X27, e27, W27, st27⟩ := putF X23 hx hZ hown (host := "") (Or.inl (own_w hw 105 rfl)) Via.refl e23 f24 f25 (Or.inl (own_w hw 106 rfl)) (own_w hw 65 rfl) (ty := .int) (by decide) rfl rfl (g := (mkF m 59 #[.val (.ref a1)] [(.int dc), (.ref a1)])) rfl rfl (hb hby d15_59)
 have K28 : Keep h0 h27 [a1, po, ap] := K16.wr W27 (Or.inl (List.mem_of_getElem? (i := 0) rfl))
 have N29 := Fr.snoc X27 N16 g_a1
 have Fw27 := f24.same W27
 have f30 := ((f14.keep K16q (ninS na7 (ninS na19 nin0))).other W27 (Or.inr (sn54 hw)))
 have f31 := (f25.wr W27)
 obtain ⟨T32, h32, X32, e32, W32, st32⟩ := putF X27 hx hZ hown (host := "") (Or.inl (own_w hw 125 rfl)) Via.refl e27 f30 f31 (Or.inl (own_w hw 126 rfl)) (own_w hw 65 rfl) (ty := .int) (by decide) rfl rfl (g := (mkF m 64 #[.val (.ref a1)] [(.int 0), (.ref a1)])) rfl rfl (hb hby d15_64)
 have K33 : Keep h0 h32 [a1, po, ap] := K28.wr W32 (Or.inl (List.mem_of_getElem? (i := 0) rfl))
 have N34 := Fr.snoc X32 N29 g_a1
 have Fw32 := f30.same W32
 have f35 := (f31.wr W32)
 have f36 := (((f12.keep K16q (ninS na7 (ninS na19 nin0))).other W27 (Or.inr (sn26 hw))).other W32 (Or.inr (sn68 hw)))
 have f37 := ((((F_positions_a1.keep K6q (ninS na7 (ninS na9 nin0))).keep K16q (ninS na7 (ninS na19 nin0))).other W27 (Or.inr (sn30 hw))).other W32 (Or.inr (sn69 hw)))
 have f38 := ((((F_shares_a1.keep K6q (ninS na7 (ninS na9 nin0))).keep K16q (ninS na7 (ninS na19 nin0))).other W27 (Or.inr (sn33 hw))).other W32 (Or.inr (sn70 hw)))
 have f39 := ((((F_firstDocument_a1.keep K6q (ninS na7 (ninS na9 nin0))).keep K16q (ninS na7 (ninS na19 nin0))).other W27 (Or.inr (sn35 hw))).other W32 (Or.inr (sn71 hw)))
 have f40 := (Fw27.other W32 (Or.inr (sn72 hw)))
 have f41 := ((f22.other W27 (Or.inr (sn22 hw))).other W32 (Or.inr (sn73 hw)))
 have f42 := ((((F_sentence_a1.keep K6q (ninS na7 (ninS na9 nin0))).keep K16q (ninS na7 (ninS na19 nin0))).other W27 (Or.inr (sn42 hw))).other W32 (Or.inr (sn74 hw)))
 have f43 := ((((F_documentFrequency_a1.keep K6q (ninS na7 (ninS na9 nin0))).keep K16q (ninS na7 (ninS na19 nin0))).other W27 (Or.inr (sn48 hw))).other W32 (Or.inr (sn75 hw)))
 have f44 := ((((F_windows_a1.keep K6q (ninS na7 (ninS na9 nin0))).keep K16q (ninS na7 (ninS na19 nin0))).other W27 (Or.inr (sn60 hw))).other W32 (Or.inr (sn76 hw)))
 have f45 := ((((F_collectionFrequency_a1.keep K6q (ninS na7 (ninS na9 nin0))).keep K16q (ninS na7 (ninS na19 nin0))).other W27 (Or.inr (sn66 hw))).other W32 (Or.inr (sn77 hw)))
 have f46 := ((t16_0.wr W27).wr W32)
 have f47 := ((t16_1.other W27 (Or.inl (Ne.symm na7))).other W32 (Or.inl (Ne.symm na7)))
 have f48 := ((Ve21.other W27 na26).other W32 na26)
 obtain ⟨fs, hr, hrun, hended, hW, hsame⟩ := X32.leave (v := none) (fun _ => rfl)
 refine ⟨_, _, pre0 _ ?_, hrun, hended, _, _, rfl, ?_, ⟨_, rfl⟩, hW, hsame.mono (by decide) (by decide)⟩
 ·show oS s₁ (mkF m 0 #[.val (.ref a1)] [])
  refine XS.aloadN X0.here hx rfl (hb hby d15_0) rfl rfl ?_
  show oS s₁ (mkF m 1 #[.val (.ref a1)] [(.ref a1)])
  refine st1 _ ?_
  show oS T1 (mkF m 4 #[.val (.ref a1)] [(.int fq)])
  refine XS.ifNo X1.here hx rfl (hb hby d15_4) rfl ((if0 _ _).trans (tlt (by rw [Int32.lt_iff_toInt_lt, Int32.toInt_zero]; omega : (0 : Int32) < fq)).2.2.2) ?_
  show oS T1 (mkF m 7 #[.val (.ref a1)] [])
  refine XS.aloadN X1.here hx rfl (hb hby d15_7) rfl rfl ?_
  show oS T1 (mkF m 8 #[.val (.ref a1)] [(.ref a1)])
  refine st2 _ ?_
  show oS T2 (mkF m 11 #[.val (.ref a1)] [(.int lt)])
  refine XS.ifYes X2.here hx rfl (pc0 := 11) (pc' := 25) rfl (hb hby d15_11) rfl ((if0 _ _).trans (flt hlt).2.1) (by decide) (by decide) ?_
  show oS T2 (mkF m 25 #[.val (.ref a1)] [])
  refine XS.aloadN X2.here hx rfl (hb hby d15_25) rfl rfl ?_
  show oS T2 (mkF m 26 #[.val (.ref a1)] [(.ref a1)])
  refine st3 _ ?_
  show oS T3 (mkF m 29 #[.val (.ref a1)] [(.ref po)])
  refine XS.aloadN X3.here hx rfl (hb hby d15_29) rfl rfl ?_
  show oS T3 (mkF m 30 #[.val (.ref a1)] [(.ref a1), (.ref po)])
  refine st4 _ ?_
  show oS T4 (mkF m 33 #[.val (.ref a1)] [(.int dc), (.ref po)])
  refine XS.aloadN X4.here hx rfl (hb hby d15_33) rfl rfl ?_
  show oS T4 (mkF m 34 #[.val (.ref a1)] [(.ref a1), (.int dc), (.ref po)])
  refine st5 _ ?_
  show oS T5 (mkF m 37 #[.val (.ref a1)] [(.int lt), (.int dc), (.ref po)])
  refine XS.isub X5.here hx rfl (hb hby d15_37) rfl ?_
  show oS T5 (mkF m 38 #[.val (.ref a1)] [(.int (dc - lt)), (.ref po)])
  refine XS.i2l X5.here hx rfl (hb hby d15_38) rfl ?_
  show oS T5 (mkF m 39 #[.val (.ref a1)] [(.long ((dc - lt).toInt64)), (.ref po)])
  refine st6.trans ?_
  show oS T6 (mkF m 42 #[.val (.ref a1)] [])
  refine XS.aloadN X6.here hx rfl (hb hby d15_42) rfl rfl ?_
  show oS T6 (mkF m 43 #[.val (.ref a1)] [(.ref a1)])
  refine st13 _ ?_
  show oS T13 (mkF m 46 #[.val (.ref a1)] [(.ref po)])
  refine XS.aloadN X13.here hx rfl (hb hby d15_46) rfl rfl ?_
  show oS T13 (mkF m 47 #[.val (.ref a1)] [(.ref a1), (.ref po)])
  refine st15 _ ?_
  show oS T15 (mkF m 50 #[.val (.ref a1)] [(.int fq), (.ref po)])
  refine XS.i2l X15.here hx rfl (hb hby d15_50) rfl ?_
  show oS T15 (mkF m 51 #[.val (.ref a1)] [(.long (fq.toInt64)), (.ref po)])
  refine st16.trans ?_
  show oS T16 (mkF m 54 #[.val (.ref a1)] [])
  refine XS.aloadN X16.here hx rfl (hb hby d15_54) rfl rfl ?_
  show oS T16 (mkF m 55 #[.val (.ref a1)] [(.ref a1)])
  refine XS.aloadN X16.here hx rfl (hb hby d15_55) rfl rfl ?_
  show oS T16 (mkF m 56 #[.val (.ref a1)] [(.ref a1), (.ref a1)])
  refine st23 _ ?_
  show oS T23 (mkF m 59 #[.val (.ref a1)] [(.int dc), (.ref a1)])
  refine st27 _ ?_
  show oS T27 (mkF m 62 #[.val (.ref a1)] [])
  refine XS.aloadN X27.here hx rfl (hb hby d15_62) rfl rfl ?_
  show oS T27 (mkF m 63 #[.val (.ref a1)] [(.ref a1)])
  refine XS.iconst X27.here hx rfl (hb hby d15_63) ?_
  show oS T27 (mkF m 64 #[.val (.ref a1)] [(.int 0), (.ref a1)])
  refine st32 _ ?_
  show oS T32 (mkF m 67 #[.val (.ref a1)] [])
  exact X32.returnOut hx Bd.returns (hb hby d15_67) hr
 ·show Q_rmFinB Z a1 u_positions u_shares u_firstDocument u_sentence u_documentFrequency u_windows u_collectionFrequency po ap kp vp dc lt fq f ln h0 n0 _ T32.heap _
  rw [e32]
  exact ⟨r_16, kr_16, vr_16, rfl, N34, K33, f35, f36, f37, f38, f39, f40, f41, f42, f43, Fw32, f44, f45, f46, f47, f48⟩
theorem d14_0 : decode cd16 0 = .ok (.iload_n 1, 1) := by decide +kernel
theorem d14_1 : decode cd16 1 = .ok (.aload_n 0, 1) := by decide +kernel
theorem d14_2 : decode cd16 2 = .ok (.getfield 42, 3) := by decide +kernel
theorem d14_5 : decode cd16 5 = .ok (.if_icmp .eq 27, 3) := by decide +kernel
theorem d14_8 : decode cd16 8 = .ok (.aload_n 0, 1) := by decide +kernel
theorem d14_9 : decode cd16 9 = .ok (.invokevirtual 45, 3) := by decide +kernel
theorem d14_12 : decode cd16 12 = .ok (.aload_n 0, 1) := by decide +kernel
theorem d14_13 : decode cd16 13 = .ok (.iload_n 1, 1) := by decide +kernel
theorem d14_14 : decode cd16 14 = .ok (.putfield 42, 3) := by decide +kernel
theorem d14_17 : decode cd16 17 = .ok (.aload_n 0, 1) := by decide +kernel
theorem d14_18 : decode cd16 18 = .ok (.iconst (-1), 1) := by decide +kernel
theorem d14_19 : decode cd16 19 = .ok (.putfield 48, 3) := by decide +kernel
theorem d14_22 : decode cd16 22 = .ok (.aload_n 0, 1) := by decide +kernel
theorem d14_23 : decode cd16 23 = .ok (.dup, 1) := by decide +kernel
theorem d14_24 : decode cd16 24 = .ok (.getfield 51, 3) := by decide +kernel
theorem sn78 {Z a0} (hw : own_Hw Z a0) : own_sO Z nm0 nm13 "I" ≠ own_sO Z nm0 "sentence" "I" := own_sn hw 130 128 rfl rfl (by decide) (by decide) (by decide)
theorem d14_27 : decode cd16 27 = .ok (.iconst 1, 1) := by decide +kernel
theorem d14_28 : decode cd16 28 = .ok (.iadd, 1) := by decide +kernel
theorem d14_29 : decode cd16 29 = .ok (.putfield 51, 3) := by decide +kernel
theorem d14_32 : decode cd16 32 = .ok (.iload_n 2, 1) := by decide +kernel
theorem d14_33 : decode cd16 33 = .ok (.aload_n 0, 1) := by decide +kernel
theorem d14_34 : decode cd16 34 = .ok (.getfield 48, 3) := by decide +kernel
theorem sn79 {Z a0} (hw : own_Hw Z a0) : own_sO Z nm0 "sentence" "I" ≠ own_sO Z nm0 nm13 "I" := own_sn hw 128 130 rfl rfl (by decide) (by decide) (by decide)
theorem d14_37 : decode cd16 37 = .ok (.isub, 1) := by decide +kernel
theorem d14_38 : decode cd16 38 = .ok (.istore 5, 2) := by decide +kernel
theorem d14_40 : decode cd16 40 = .ok (.aload_n 0, 1) := by decide +kernel
theorem d14_41 : decode cd16 41 = .ok (.getfield 16, 3) := by decide +kernel
theorem sn80 {Z : State} {a0 : Array Value} (hw : own_Hw Z a0) : Jvm.RoadKit.slotOf Z nm0 "positions" nm2 ≠ Jvm.RoadKit.slotOf Z nm0 "sentence" "I" := slot_ne (Or.inr (own_w hw 84 rfl)) (Or.inl (own_w hw 128 rfl)) (by decide) (t := (.object nm1)) (t' := .int) (by decide) (by decide)
theorem sn81 {Z : State} {a0 : Array Value} (hw : own_Hw Z a0) : Jvm.RoadKit.slotOf Z nm0 "positions" nm2 ≠ Jvm.RoadKit.slotOf Z nm0 nm13 "I" := slot_ne (Or.inr (own_w hw 84 rfl)) (Or.inl (own_w hw 130 rfl)) (by decide) (t := (.object nm1)) (t' := .int) (by decide) (by decide)
theorem d14_44 : decode cd16 44 = .ok (.iload 5, 2) := by decide +kernel
theorem d14_46 : decode cd16 46 = .ok (.i2l, 1) := by decide +kernel
theorem d14_47 : decode cd16 47 = .ok (.invokevirtual 54, 3) := by decide +kernel
theorem d14_50 : decode cd16 50 = .ok (.iload 5, 2) := by decide +kernel
theorem d14_52 : decode cd16 52 = .ok (.ifCond .le 18, 3) := by decide +kernel
theorem d14_55 : decode cd16 55 = .ok (.aload_n 0, 1) := by decide +kernel
theorem d14_56 : decode cd16 56 = .ok (.getfield 16, 3) := by decide +kernel
theorem d14_59 : decode cd16 59 = .ok (.aload 4, 2) := by decide +kernel
theorem d14_61 : decode cd16 61 = .ok (.invokeinterface 25 1, 5) := by decide +kernel
theorem d14_66 : decode cd16 66 = .ok (.i2l, 1) := by decide +kernel
theorem d14_67 : decode cd16 67 = .ok (.invokevirtual 54, 3) := by decide +kernel
theorem d14_70 : decode cd16 70 = .ok (.aload_n 0, 1) := by decide +kernel
theorem d14_71 : decode cd16 71 = .ok (.getfield 16, 3) := by decide +kernel
theorem d14_74 : decode cd16 74 = .ok (.iload_n 3, 1) := by decide +kernel
theorem d14_75 : decode cd16 75 = .ok (.i2l, 1) := by decide +kernel
theorem d14_76 : decode cd16 76 = .ok (.invokevirtual 54, 3) := by decide +kernel
theorem d14_79 : decode cd16 79 = .ok (.aload_n 0, 1) := by decide +kernel
theorem d14_80 : decode cd16 80 = .ok (.getfield 16, 3) := by decide +kernel
theorem d14_83 : decode cd16 83 = .ok (.aload 4, 2) := by decide +kernel
theorem d14_85 : decode cd16 85 = .ok (.iload_n 3, 1) := by decide +kernel
theorem d14_86 : decode cd16 86 = .ok (.invokeinterface 58 2, 5) := by decide +kernel
theorem d14_91 : decode cd16 91 = .ok (.checkcast 62, 3) := by decide +kernel
theorem d14_94 : decode cd16 94 = .ok (.invokevirtual 64, 3) := by decide +kernel
theorem d14_97 : decode cd16 97 = .ok (.i2l, 1) := by decide +kernel
theorem d14_98 : decode cd16 98 = .ok (.invokevirtual 54, 3) := by decide +kernel
theorem d14_101 : decode cd16 101 = .ok (.aload_n 0, 1) := by decide +kernel
theorem d14_102 : decode cd16 102 = .ok (.dup, 1) := by decide +kernel
theorem d14_103 : decode cd16 103 = .ok (.getfield 67, 3) := by decide +kernel
theorem sn82 {Z a0} (hw : own_Hw Z a0) : own_sO Z nm0 "windows" "J" ≠ own_sO Z nm0 "sentence" "I" := own_sn hw 194 128 rfl rfl (by decide) (by decide) (by decide)
theorem sn83 {Z a0} (hw : own_Hw Z a0) : own_sO Z nm0 "windows" "J" ≠ own_sO Z nm0 nm13 "I" := own_sn hw 194 130 rfl rfl (by decide) (by decide) (by decide)
theorem d14_106 : decode cd16 106 = .ok (.aload 4, 2) := by decide +kernel
theorem d14_108 : decode cd16 108 = .ok (.iload_n 3, 1) := by decide +kernel
theorem d14_109 : decode cd16 109 = .ok (.aload_n 0, 1) := by decide +kernel
theorem d14_110 : decode cd16 110 = .ok (.getfield 31, 3) := by decide +kernel
theorem sn84 {Z : State} {a0 : Array Value} (hw : own_Hw Z a0) : Jvm.RoadKit.slotOf Z nm0 "shares" "[J" ≠ Jvm.RoadKit.slotOf Z nm0 "sentence" "I" := slot_ne (Or.inr (own_w hw 102 rfl)) (Or.inl (own_w hw 128 rfl)) (by decide) (t := (.array .long)) (t' := .int) (by decide) (by decide)
theorem sn85 {Z : State} {a0 : Array Value} (hw : own_Hw Z a0) : Jvm.RoadKit.slotOf Z nm0 "shares" "[J" ≠ Jvm.RoadKit.slotOf Z nm0 nm13 "I" := slot_ne (Or.inr (own_w hw 102 rfl)) (Or.inl (own_w hw 130 rfl)) (by decide) (t := (.array .long)) (t' := .int) (by decide) (by decide)
theorem pd__28Ljava_2futil_2fList_3bI_5bJ_29I : parseMethodDescriptor "(Ljava/util/List;I[J)I" = some ⟨[(.object "java/util/List"), .int, (.array .long)], some .int⟩ := by decide +kernel
theorem d14_113 : decode cd16 113 = .ok (.invokestatic 71, 3) := by decide +kernel
theorem d14_116 : decode cd16 116 = .ok (.i2l, 1) := by decide +kernel
theorem d14_117 : decode cd16 117 = .ok (.ladd, 1) := by decide +kernel
theorem d14_118 : decode cd16 118 = .ok (.putfield 67, 3) := by decide +kernel
theorem d14_121 : decode cd16 121 = .ok (.aload_n 0, 1) := by decide +kernel
theorem d14_122 : decode cd16 122 = .ok (.iload_n 2, 1) := by decide +kernel
theorem d14_123 : decode cd16 123 = .ok (.putfield 48, 3) := by decide +kernel
theorem sn86 {Z a0} (hw : own_Hw Z a0) : own_sO Z nm0 "sentence" "I" ≠ own_sO Z nm0 "windows" "J" := own_sn hw 128 194 rfl rfl (by decide) (by decide) (by decide)
theorem d14_126 : decode cd16 126 = .ok (.aload_n 0, 1) := by decide +kernel
theorem d14_127 : decode cd16 127 = .ok (.dup, 1) := by decide +kernel
theorem d14_128 : decode cd16 128 = .ok (.getfield 77, 3) := by decide +kernel
theorem sn87 {Z a0} (hw : own_Hw Z a0) : own_sO Z nm0 "frequency" "I" ≠ own_sO Z nm0 "sentence" "I" := own_sn hw 126 128 rfl rfl (by decide) (by decide) (by decide)
theorem sn88 {Z a0} (hw : own_Hw Z a0) : own_sO Z nm0 "frequency" "I" ≠ own_sO Z nm0 nm13 "I" := own_sn hw 126 130 rfl rfl (by decide) (by decide) (by decide)
theorem sn89 {Z a0} (hw : own_Hw Z a0) : own_sO Z nm0 "frequency" "I" ≠ own_sO Z nm0 "windows" "J" := own_sn hw 126 194 rfl rfl (by decide) (by decide) (by decide)
theorem d14_131 : decode cd16 131 = .ok (.iconst 1, 1) := by decide +kernel
theorem d14_132 : decode cd16 132 = .ok (.iadd, 1) := by decide +kernel
theorem d14_133 : decode cd16 133 = .ok (.putfield 77, 3) := by decide +kernel
theorem d14_136 : decode cd16 136 = .ok (.aload_n 0, 1) := by decide +kernel
theorem d14_137 : decode cd16 137 = .ok (.dup, 1) := by decide +kernel
theorem d14_138 : decode cd16 138 = .ok (.getfield 80, 3) := by decide +kernel
theorem sn90 {Z a0} (hw : own_Hw Z a0) : own_sO Z nm0 nm11 "J" ≠ own_sO Z nm0 "sentence" "I" := own_sn hw 220 128 rfl rfl (by decide) (by decide) (by decide)
theorem sn91 {Z a0} (hw : own_Hw Z a0) : own_sO Z nm0 nm11 "J" ≠ own_sO Z nm0 nm13 "I" := own_sn hw 220 130 rfl rfl (by decide) (by decide) (by decide)
theorem sn92 {Z a0} (hw : own_Hw Z a0) : own_sO Z nm0 nm11 "J" ≠ own_sO Z nm0 "windows" "J" := own_sn hw 220 194 rfl rfl (by decide) (by decide) (by decide)
theorem d14_141 : decode cd16 141 = .ok (.lconst 1, 1) := by decide +kernel
theorem d14_142 : decode cd16 142 = .ok (.ladd, 1) := by decide +kernel
theorem d14_143 : decode cd16 143 = .ok (.putfield 80, 3) := by decide +kernel
theorem d14_146 : decode cd16 146 = .ok (.return_, 1) := by decide +kernel
theorem sn93 {Z : State} {a0 : Array Value} (hw : own_Hw Z a0) : Jvm.RoadKit.slotOf Z nm0 "postings" nm2 ≠ Jvm.RoadKit.slotOf Z nm0 "sentence" "I" := slot_ne (Or.inr (own_w hw 82 rfl)) (Or.inl (own_w hw 128 rfl)) (by decide) (t := (.object nm1)) (t' := .int) (by decide) (by decide)
theorem sn94 {Z : State} {a0 : Array Value} (hw : own_Hw Z a0) : Jvm.RoadKit.slotOf Z nm0 "postings" nm2 ≠ Jvm.RoadKit.slotOf Z nm0 nm13 "I" := slot_ne (Or.inr (own_w hw 82 rfl)) (Or.inl (own_w hw 130 rfl)) (by decide) (t := (.object nm1)) (t' := .int) (by decide) (by decide)
theorem sn95 {Z : State} {a0 : Array Value} (hw : own_Hw Z a0) : Jvm.RoadKit.slotOf Z nm0 "postings" nm2 ≠ Jvm.RoadKit.slotOf Z nm0 "windows" "J" := slot_ne (Or.inr (own_w hw 82 rfl)) (Or.inl (own_w hw 194 rfl)) (by decide) (t := (.object nm1)) (t' := .long) (by decide) (by decide)
theorem sn96 {Z : State} {a0 : Array Value} (hw : own_Hw Z a0) : Jvm.RoadKit.slotOf Z nm0 "postings" nm2 ≠ Jvm.RoadKit.slotOf Z nm0 nm11 "J" := slot_ne (Or.inr (own_w hw 82 rfl)) (Or.inl (own_w hw 220 rfl)) (by decide) (t := (.object nm1)) (t' := .long) (by decide) (by decide)
theorem sn97 {Z : State} {a0 : Array Value} (hw : own_Hw Z a0) : Jvm.RoadKit.slotOf Z nm0 "positions" nm2 ≠ Jvm.RoadKit.slotOf Z nm0 "windows" "J" := slot_ne (Or.inr (own_w hw 84 rfl)) (Or.inl (own_w hw 194 rfl)) (by decide) (t := (.object nm1)) (t' := .long) (by decide) (by decide)
theorem sn98 {Z : State} {a0 : Array Value} (hw : own_Hw Z a0) : Jvm.RoadKit.slotOf Z nm0 "positions" nm2 ≠ Jvm.RoadKit.slotOf Z nm0 nm11 "J" := slot_ne (Or.inr (own_w hw 84 rfl)) (Or.inl (own_w hw 220 rfl)) (by decide) (t := (.object nm1)) (t' := .long) (by decide) (by decide)
theorem sn99 {Z : State} {a0 : Array Value} (hw : own_Hw Z a0) : Jvm.RoadKit.slotOf Z nm0 "shares" "[J" ≠ Jvm.RoadKit.slotOf Z nm0 "windows" "J" := slot_ne (Or.inr (own_w hw 102 rfl)) (Or.inl (own_w hw 194 rfl)) (by decide) (t := (.array .long)) (t' := .long) (by decide) (by decide)
theorem sn100 {Z : State} {a0 : Array Value} (hw : own_Hw Z a0) : Jvm.RoadKit.slotOf Z nm0 "shares" "[J" ≠ Jvm.RoadKit.slotOf Z nm0 nm11 "J" := slot_ne (Or.inr (own_w hw 102 rfl)) (Or.inl (own_w hw 220 rfl)) (by decide) (t := (.array .long)) (t' := .long) (by decide) (by decide)
theorem sn101 {Z a0} (hw : own_Hw Z a0) : own_sO Z nm0 nm19 "I" ≠ own_sO Z nm0 "sentence" "I" := own_sn hw 104 128 rfl rfl (by decide) (by decide) (by decide)
theorem sn102 {Z a0} (hw : own_Hw Z a0) : own_sO Z nm0 nm19 "I" ≠ own_sO Z nm0 nm13 "I" := own_sn hw 104 130 rfl rfl (by decide) (by decide) (by decide)
theorem sn103 {Z a0} (hw : own_Hw Z a0) : own_sO Z nm0 nm19 "I" ≠ own_sO Z nm0 "windows" "J" := own_sn hw 104 194 rfl rfl (by decide) (by decide) (by decide)
theorem sn104 {Z a0} (hw : own_Hw Z a0) : own_sO Z nm0 nm19 "I" ≠ own_sO Z nm0 nm11 "J" := own_sn hw 104 220 rfl rfl (by decide) (by decide) (by decide)
theorem sn105 {Z a0} (hw : own_Hw Z a0) : own_sO Z nm0 "lastDocument" "I" ≠ own_sO Z nm0 "sentence" "I" := own_sn hw 106 128 rfl rfl (by decide) (by decide) (by decide)
theorem sn106 {Z a0} (hw : own_Hw Z a0) : own_sO Z nm0 "lastDocument" "I" ≠ own_sO Z nm0 nm13 "I" := own_sn hw 106 130 rfl rfl (by decide) (by decide) (by decide)
theorem sn107 {Z a0} (hw : own_Hw Z a0) : own_sO Z nm0 "lastDocument" "I" ≠ own_sO Z nm0 "windows" "J" := own_sn hw 106 194 rfl rfl (by decide) (by decide) (by decide)
theorem sn108 {Z a0} (hw : own_Hw Z a0) : own_sO Z nm0 "lastDocument" "I" ≠ own_sO Z nm0 nm11 "J" := own_sn hw 106 220 rfl rfl (by decide) (by decide) (by decide)
theorem sn109 {Z a0} (hw : own_Hw Z a0) : own_sO Z nm0 "document" "I" ≠ own_sO Z nm0 "sentence" "I" := own_sn hw 108 128 rfl rfl (by decide) (by decide) (by decide)
theorem sn110 {Z a0} (hw : own_Hw Z a0) : own_sO Z nm0 "document" "I" ≠ own_sO Z nm0 nm13 "I" := own_sn hw 108 130 rfl rfl (by decide) (by decide) (by decide)
theorem sn111 {Z a0} (hw : own_Hw Z a0) : own_sO Z nm0 "document" "I" ≠ own_sO Z nm0 "windows" "J" := own_sn hw 108 194 rfl rfl (by decide) (by decide) (by decide)
theorem sn112 {Z a0} (hw : own_Hw Z a0) : own_sO Z nm0 "document" "I" ≠ own_sO Z nm0 nm11 "J" := own_sn hw 108 220 rfl rfl (by decide) (by decide) (by decide)
theorem sn113 {Z a0} (hw : own_Hw Z a0) : own_sO Z nm0 "sentence" "I" ≠ own_sO Z nm0 nm11 "J" := own_sn hw 128 220 rfl rfl (by decide) (by decide) (by decide)
theorem sn114 {Z a0} (hw : own_Hw Z a0) : own_sO Z nm0 nm13 "I" ≠ own_sO Z nm0 "windows" "J" := own_sn hw 130 194 rfl rfl (by decide) (by decide) (by decide)
theorem sn115 {Z a0} (hw : own_Hw Z a0) : own_sO Z nm0 nm13 "I" ≠ own_sO Z nm0 nm11 "J" := own_sn hw 130 220 rfl rfl (by decide) (by decide) (by decide)
theorem sn116 {Z a0} (hw : own_Hw Z a0) : own_sO Z nm0 "frequency" "I" ≠ own_sO Z nm0 nm11 "J" := own_sn hw 126 220 rfl rfl (by decide) (by decide) (by decide)
theorem sn117 {Z a0} (hw : own_Hw Z a0) : own_sO Z nm0 "windows" "J" ≠ own_sO Z nm0 nm11 "J" := own_sn hw 194 220 rfl rfl (by decide) (by decide) (by decide)
theorem ef_rmAdd_first_pos (m : MethodId) (a1 : Addr) (p2 : Int32) (p3 : Int32) (p4 : Int32) (tg : Addr) : entryFrame m #[(.ref a1), (.int p2), (.int p3), (.int p4), (.ref tg)] 6 = mkF m 0 #[.val (.ref a1), .val (.int p2), .val (.int p3), .val (.int p4), .val (.ref tg), .unset] [] := by first | (simp [entryFrame, mkF, argsToLocals, Value.category]; done) | rfl
def Q_rmAdd_first_pos (Z : State) (a1 : Addr) (p2 : Int32) (p3 : Int32) (p4 : Int32) (tg : Addr) (u_firstDocument : Value) (u_lastDocument : Value) (u_sentence : Value) (po : Addr) (qo : Addr) (ap : Addr) (aq : Addr) (sh : Addr) (kp : ClassId) (kq : ClassId) (ks : ClassId) (vp : List Value) (vq : List Value) (df : Int32) (wn : Int64) (cf : Int64) (f : Nat) (ln : Int32) (n1 : Int32) (y0 : Int64) (y1 : Int64) (y2 : Int64) (y3 : Int64) (a3 : Addr) (x1 : Addr) (x2 : Addr) (kr : ClassId) (wNo : Addr) (wOt : Addr) (h0 : Heap) (n0 : Nat) (v : Option Value) (h : Heap) (L : List Loc) : Prop := ∃ rq : Addr, ∃ kq2 : ClassId, ∃ vq2 : List Value, v = none ∧ Fr n0 L ∧ Keep h0 h [a1, qo, aq, sh] ∧ Exa Z h a1 nm0 ∧ Fld Z h a1 nm0 "postings" nm2 (.ref po) ∧ Fld Z h a1 nm0 "positions" nm2 (.ref qo) ∧ Fld Z h a1 nm0 "shares" "[J" (.ref sh) ∧ Fld Z h a1 nm0 nm19 "I" u_firstDocument ∧ Fld Z h a1 nm0 "lastDocument" "I" u_lastDocument ∧ Fld Z h a1 nm0 "document" "I" (.int p2) ∧ Fld Z h a1 nm0 "sentence" "I" (.int p3) ∧ Fld Z h a1 nm0 nm13 "I" (.int (df + (1 : Int32))) ∧ Fld Z h a1 nm0 "frequency" "I" (.int 1) ∧ Fld Z h a1 nm0 "windows" "J" (.long (wn + ((1 : Int32).toInt64))) ∧ Fld Z h a1 nm0 nm11 "J" (.long (cf + (1 : Int64))) ∧ Exa Z h qo nm1 ∧ Fld Z h qo nm1 "bytes" "[B" (.ref rq) ∧ Fld Z h qo nm1 "size" "I" (.int (((((0 : Int32) + ln) + (1 : Int32)) + (1 : Int32)) + (1 : Int32))) ∧ Arv Z h rq kq2 .byte (own_cap (own_cap (own_cap (own_cap (8 : Int32) (0 : Int32)) ((0 : Int32) + ln)) (((0 : Int32) + ln) + (1 : Int32))) ((((0 : Int32) + ln) + (1 : Int32)) + (1 : Int32))) vq2 (.int 0) ∧ n0 ≤ rq ∧ ap ≠ rq ∧ Arv Z h sh ks .long (4 : Int32) [(.long (y0 + ((6 : Int32).toInt64))), (.long y1), (.long y2), (.long (y3 + ((6 : Int32).toInt64)))] (.long 0) ∧ vq2.length = (own_cap (own_cap (own_cap (own_cap (8 : Int32) (0 : Int32)) ((0 : Int32) + ln)) (((0 : Int32) + ln) + (1 : Int32))) ((((0 : Int32) + ln) + (1 : Int32)) + (1 : Int32))).toNatClampNeg ∧ ((own_cap (own_cap (own_cap (own_cap (8 : Int32) (0 : Int32)) ((0 : Int32) + ln)) (((0 : Int32) + ln) + (1 : Int32))) ((((0 : Int32) + ln) + (1 : Int32)) + (1 : Int32))).toInt = 16 ∨ (own_cap (own_cap (own_cap (own_cap (8 : Int32) (0 : Int32)) ((0 : Int32) + ln)) (((0 : Int32) + ln) + (1 : Int32))) ((((0 : Int32) + ln) + (1 : Int32)) + (1 : Int32))).toInt = 32) ∧ (0 ≤ (((((0 : Int32) + ln) + (1 : Int32)) + (1 : Int32)) + (1 : Int32)).toInt ∧ (((((0 : Int32) + ln) + (1 : Int32)) + (1 : Int32)) + (1 : Int32)).toInt ≤ 8) ∧ (rq = aq ∨ h0.size ≤ rq)
set_option maxRecDepth 65536 in
set_option maxHeartbeats 40000000 in
theorem rmAdd_first_pos (l : Launch) (Z : State) (a0 : Array Value) (hw : own_Hw Z a0) (ws : List Jvm.Cond) (a1 : Addr) (p2 : Int32) (p3 : Int32) (p4 : Int32) (tg : Addr) (u_firstDocument : Value) (u_lastDocument : Value) (u_sentence : Value) (po : Addr) (qo : Addr) (ap : Addr) (aq : Addr) (sh : Addr) (kp : ClassId) (kq : ClassId) (ks : ClassId) (vp : List Value) (vq : List Value) (df : Int32) (wn : Int64) (cf : Int64) (f : Nat) (ln : Int32) (n1 : Int32) (y0 : Int64) (y1 : Int64) (y2 : Int64) (y3 : Int64) (a3 : Addr) (x1 : Addr) (x2 : Addr) (kr : ClassId) (wNo : Addr) (wOt : Addr) (h0 : Heap) (n0 : Nat) (Z0 : n0 ≤ h0.size) (E_a1 : Exa Z h0 a1 nm0) (F_postings_a1 : Fld Z h0 a1 nm0 "postings" nm2 (.ref po)) (F_positions_a1 : Fld Z h0 a1 nm0 "positions" nm2 (.ref qo)) (F_shares_a1 : Fld Z h0 a1 nm0 "shares" "[J" (.ref sh)) (F_firstDocument_a1 : Fld Z h0 a1 nm0 nm19 "I" u_firstDocument) (F_lastDocument_a1 : Fld Z h0 a1 nm0 "lastDocument" "I" u_lastDocument) (F_document_a1 : Fld Z h0 a1 nm0 "document" "I" (.int (-1))) (F_sentence_a1 : Fld Z h0 a1 nm0 "sentence" "I" u_sentence) (F_documentFrequency_a1 : Fld Z h0 a1 nm0 nm13 "I" (.int df)) (F_frequency_a1 : Fld Z h0 a1 nm0 "frequency" "I" (.int 0)) (F_windows_a1 : Fld Z h0 a1 nm0 "windows" "J" (.long wn)) (F_collectionFrequency_a1 : Fld Z h0 a1 nm0 nm11 "J" (.long cf)) (g_a1 : n0 ≤ a1) (E_po : Exa Z h0 po nm1) (E_qo : Exa Z h0 qo nm1) (F_bytes_po : Fld Z h0 po nm1 "bytes" "[B" (.ref ap)) (F_bytes_qo : Fld Z h0 qo nm1 "bytes" "[B" (.ref aq)) (F_size_qo : Fld Z h0 qo nm1 "size" "I" (.int 0)) (V_ap : Arv Z h0 ap kp .byte n1 vp (.int 0)) (V_aq : Arv Z h0 aq kq .byte (8 : Int32) vq (.int 0)) (g_po : n0 ≤ po) (g_qo : n0 ≤ qo) (g_ap : n0 ≤ ap) (g_aq : n0 ≤ aq) (g_sh : n0 ≤ sh) (ne_po_qo : po ≠ qo) (ne_ap_aq : ap ≠ aq) (V_sh : Arv Z h0 sh ks .long (4 : Int32) [(.long y0), (.long y1), (.long y2), (.long y3)] (.long 0)) (E_tg : Exa Z h0 tg nm3) (F_size_tg : Fld Z h0 tg nm3 "size" "I" (.int 2)) (F_elementData_tg : Fld Z h0 tg nm3 nm18 nm9 (.ref a3)) (V_a3 : Arv Z h0 a3 kr (.object nm7) (10 : Int32) [(.ref x1), (.ref x2), .null, .null, .null, .null, .null, .null, .null, .null] .null) (E_x1 : Exa Z h0 x1 nm5) (E_x2 : Exa Z h0 x2 nm5) (F_ordinal_x1 : Fld Z h0 x1 nm8 "ordinal" "I" (.int 11)) (F_ordinal_x2 : Fld Z h0 x2 nm8 "ordinal" "I" (.int 44)) (lt_x1 : x1 < n0) (lt_x2 : x2 < n0) (S_NOUN : Sta Z h0 nm6 "NOUN" nm10 (.ref wNo)) (S_OTHER : Sta Z h0 nm6 "OTHER" nm10 (.ref wOt)) (E_wNo : Exa Z h0 wNo nm6) (E_wOt : Exa Z h0 wOt nm6) (F_ordinal_wNo : Fld Z h0 wNo nm8 "ordinal" "I" (.int 0)) (F_ordinal_wOt : Fld Z h0 wOt nm8 "ordinal" "I" (.int 3)) (lt_wNo : wNo < n0) (lt_wOt : wOt < n0) (hvq : vq.length = (8 : Int32).toNatClampNeg) (hf : f ≤ 4) (hj : 0 ≤ ((p3 - (-1 : Int32)).toInt64).toInt) (hj2 : ((p3 - (-1 : Int32)).toInt64).toInt < 2 ^ (7 * (f + 1))) (hj3 : f ≠ 0 → 2 ^ (7 * f) ≤ ((p3 - (-1 : Int32)).toInt64).toInt) (hln : ln.toInt = f + 1) (hgap : (0 : Int32) < (p3 - (-1 : Int32))) (hp : p4 = (0 : Int32) ∨ p4 = (1 : Int32)) (hdoc : ¬ (p2 = (-1 : Int32))) :
  MetFree l mn29 (head1 (Jvm.Cond.code mn29 cd16 6 none :: ws) ({ frames := 4, cells := 1, slots := 16, locals := 64 } : Room)) (fun a U => a = #[(.ref a1), (.int p2), (.int p3), (.int p4), (.ref tg)] ∧ Z.Warmed39 U.vm ∧ U.heap = h0) (fun _ _ _ _ _ => True) (fun _ U o U' => ∃ v L, o = .returned v ∧ Q_rmAdd_first_pos Z a1 p2 p3 p4 tg u_firstDocument u_lastDocument u_sentence po qo ap aq sh kp kq ks vp vq df wn cf f ln n1 y0 y1 y2 y3 a3 x1 x2 kr wNo wOt h0 n0 v U'.heap L ∧ FrameEnd U o U' L ({ frames := 4, cells := 1, slots := 16, locals := 64 } : Room).cells ({ frames := 4, cells := 1, slots := 16, locals := 64 } : Room).slots) := by
 refine MetFree.of_bodySF (plainFor_of_name pn_com_example_morro_morro_index_TermPostings) hisR ?_
 intro p e s m args below meth c s₁ Bd hml0 hP hK
 obtain ⟨rfl, hZ, hh⟩ := hP
 have hx := Bd.exec
 have hby := Bd.bytes
 have hml : c.maxLocals = 6 := hml0
 have hown : s.vm.findClass nm0 = some m.cls := findClass_of_methodNamed Bd.named
 have hnm := (name_of_methodNamed Bd.named Bd.method).1
 have X0 : Stand p l e ({ frames := 4, cells := 1, slots := 16, locals := 64 } : Room) s m #[(.ref a1), (.int p2), (.int p3), (.int p4), (.ref tg)] below meth c s₁ [] 0 0 := Stand.of_body Bd
 have e0 : s₁.heap = h0 := by rw [← hh, Bd.state]; rfl
 have N0 := Fr.nil n0
 have pre0 : ∀ t, Steps p.tables e below (s₁.setTop (mkF m 0 #[.val (.ref a1), .val (.int p2), .val (.int p3), .val (.int p4), .val (.ref tg), .unset] [])) t → Steps p.tables e below (s₁.setTop (entryFrame m #[(.ref a1), (.int p2), (.int p3), (.int p4), (.ref tg)] 6)) t := fun t k => castTop (ef_rmAdd_first_pos m a1 p2 p3 p4 tg) k
 let lc1 : Array Slot := #[.val (.ref a1), .val (.int p2), .val (.int p3), .val (.int p4), .val (.ref tg), .unset]
 obtain ⟨T2, X2, e2, st2⟩ := getF X0 hx hZ hown (host := "") (Or.inl (own_w hw 107 rfl)) Via.refl e0 F_document_a1 (g := (mkF m 2 lc1 [(.ref a1), (.int p2)])) rfl rfl (hb hby d14_2)
 obtain ⟨cq3, kq3, q3a, q3b, q3c⟩ := isOf hZ e2 E_a1
 obtain ⟨_, _, ⟨T3, L3, k3, n3⟩, -, X3, ⟨Lc3, hQ3, l3, y3, z3⟩, st3⟩ := X2.virtualBack hx (y := mn28) (z := mn28) hown (mvT hZ (own_w hw 120 rfl)) (mvT hZ (own_w hw 121 rfl)) (notFace_of_selects (args := #[]) (mvT hZ (own_w hw 123 rfl))) (mvT hZ (own_w hw 123 rfl)) (mvT hZ (own_w hw 122 rfl)) (by decide) (backOf (W := 0) (rmFin0 l Z a0 hw [] a1 h0 n0 Z0 F_frequency_a1) hZ (own_w hw 124 rfl) (own_w hw 66 rfl) (by decide) (by decide)) q3a q3c (g := (mkF m 9 lc1 [(.ref a1)])) rfl (by rw [hml]; rfl) (Steps.refl _) (argsL := []) (rest := []) (lenOf pd__28_29V rfl) rfl (by show 2 * 0 + _ ≤ _; exact Nat.le_of_eq rfl) (hb hby d14_9) (fun _ _ => ⟨rfl, e2, (by decide : 0 + 0 ≤ _), (by decide : 0 + 0 ≤ _)⟩)
 dsimp only [Pt.U, Pt.locs, Pt.cells, Pt.slots] at y3 z3 st3 hQ3
 change Stand p l e _ s m _ below meth c T3 L3 k3 n3 at X3
 change L3 = _ ++ Lc3 at l3
 subst y3 z3
 obtain ⟨rfl, N3q, e3⟩ := hQ3
 have N3 : Fr n0 L3 := l3 ▸ Fr.app N0 N3q
 have na4 := (Exa.neArv E_a1 V_a3 (own_w hw 65 rfl)).symm
 have na5 := (Exa.neArv E_a1 V_ap (own_w hw 65 rfl)).symm
 have na6 := (Exa.neArv E_a1 V_aq (own_w hw 65 rfl)).symm
 have na7 := Exa.ne E_po E_a1 (by decide)
 have na8 := Exa.ne E_qo E_a1 (by decide)
 have na9 := (Exa.neArv E_a1 V_sh (own_w hw 65 rfl)).symm
 have na10 := Exa.ne E_tg E_a1 (by decide)
 have na11 := Nat.ne_of_lt (Nat.lt_of_lt_of_le lt_wNo g_a1)
 have na12 := Nat.ne_of_lt (Nat.lt_of_lt_of_le lt_wOt g_a1)
 have na13 := Nat.ne_of_lt (Nat.lt_of_lt_of_le lt_x1 g_a1)
 have na14 := Nat.ne_of_lt (Nat.lt_of_lt_of_le lt_x2 g_a1)
 obtain ⟨T15, h15, X15, e15, W15, st15⟩ := putF X3 hx hZ hown (host := "") (Or.inl (own_w hw 107 rfl)) Via.refl e3 F_document_a1 E_a1 (Or.inl (own_w hw 108 rfl)) (own_w hw 65 rfl) (ty := .int) (by decide) rfl rfl (g := (mkF m 14 lc1 [(.int p2), (.ref a1)])) rfl rfl (hb hby d14_14)
 have K16 : Keep h0 h15 [a1, qo, aq, sh] := (Keep.refl h0 [a1, qo, aq, sh]).wr W15 (Or.inl (List.mem_of_getElem? (i := 0) rfl))
 have N17 := Fr.snoc X15 N3 g_a1
 have Fw15 := F_document_a1.same W15
 have f18 := (F_sentence_a1.other W15 (Or.inr (sn43 hw)))
 have f19 := (E_a1.wr W15)
 obtain ⟨T20, h20, X20, e20, W20, st20⟩ := putF X15 hx hZ hown (host := "") (Or.inl (own_w hw 127 rfl)) Via.refl e15 f18 f19 (Or.inl (own_w hw 128 rfl)) (own_w hw 65 rfl) (ty := .int) (by decide) rfl rfl (g := (mkF m 19 lc1 [(.int (-1)), (.ref a1)])) rfl rfl (hb hby d14_19)
 have K21 : Keep h0 h20 [a1, qo, aq, sh] := K16.wr W20 (Or.inl (List.mem_of_getElem? (i := 0) rfl))
 have N22 := Fr.snoc X20 N17 g_a1
 have Fw20 := f18.same W20
 have f23 := ((F_documentFrequency_a1.other W15 (Or.inr (sn49 hw))).other W20 (Or.inr (sn78 hw)))
 obtain ⟨T24, X24, e24, st24⟩ := getF X20 hx hZ hown (host := "") (Or.inl (own_w hw 129 rfl)) Via.refl e20 f23 (g := (mkF m 24 lc1 [(.ref a1), (.ref a1)])) rfl rfl (hb hby d14_24)
 have f25 := (f19.wr W20)
 obtain ⟨T26, h26, X26, e26, W26, st26⟩ := putF X24 hx hZ hown (host := "") (Or.inl (own_w hw 129 rfl)) Via.refl e24 f23 f25 (Or.inl (own_w hw 130 rfl)) (own_w hw 65 rfl) (ty := .int) (by decide) rfl rfl (g := (mkF m 29 lc1 [(.int (df + (1 : Int32))), (.ref a1)])) rfl rfl (hb hby d14_29)
 have K27 : Keep h0 h26 [a1, qo, aq, sh] := K21.wr W26 (Or.inl (List.mem_of_getElem? (i := 0) rfl))
 have N28 := Fr.snoc X26 N22 g_a1
 have Fw26 := f23.same W26
 have f29 := (Fw20.other W26 (Or.inr (sn79 hw)))
 obtain ⟨T30, X30, e30, st30⟩ := getF X26 hx hZ hown (host := "") (Or.inl (own_w hw 127 rfl)) Via.refl e26 f29 (g := (mkF m 34 lc1 [(.ref a1), (.int p3)])) rfl rfl (hb hby d14_34)
 let lc31 : Array Slot := #[.val (.ref a1), .val (.int p2), .val (.int p3), .val (.int p4), .val (.ref tg), .val (.int (p3 - (-1 : Int32)))]
 have f32 := (((F_positions_a1.other W15 (Or.inr (sn31 hw))).other W20 (Or.inr (sn80 hw))).other W26 (Or.inr (sn81 hw)))
 obtain ⟨T33, X33, e33, st33⟩ := getF X30 hx hZ hown (host := "") (Or.inl (own_w hw 83 rfl)) Via.refl e30 f32 (g := (mkF m 41 lc31 [(.ref a1)])) rfl rfl (hb hby d14_41)
 have cS0 : 0 ≤ (0 : Int32).toInt ∧ (0 : Int32).toInt ≤ 16 := by decide
 have cz0 : (0 : Int32).toInt = 0 := by decide
 have hp4 : (p4.toInt64).toInt = p4.toInt := Jvm.Kit.i64_of_i32 p4
 have hp5 : 0 ≤ p4.toInt ∧ p4.toInt ≤ 1 := by rcases hp with rfl | rfl <;> decide
 have f34 := (((V_ap.other W15 na5).other W20 na5).other W26 na5)
 have f35 := (((E_qo.wr W15).wr W20).wr W26)
 have f36 := (((F_bytes_qo.other W15 (Or.inl na8)).other W20 (Or.inl na8)).other W26 (Or.inl na8))
 have f37 := (((F_size_qo.other W15 (Or.inl na8)).other W20 (Or.inl na8)).other W26 (Or.inl na8))
 have f38 := (((V_aq.other W15 na6).other W20 na6).other W26 na6)
 have f40 := (((V_a3.other W15 na4).other W20 na4).other W26 na4)
 have na41 := (Exa.neArv f35 f40 (own_w hw 72 rfl)).symm
 have na42 := (Exa.neArv f35 f34 (own_w hw 72 rfl)).symm
 have na43 := (Exa.neArv f35 f38 (own_w hw 72 rfl)).symm
 have f44 := (((V_sh.other W15 na9).other W20 na9).other W26 na9)
 have na45 := (Exa.neArv f35 f44 (own_w hw 72 rfl)).symm
 have f46 := (((E_tg.wr W15).wr W20).wr W26)
 have na47 := Exa.ne f46 f35 (by decide)
 have na48 := Nat.ne_of_lt (Nat.lt_of_lt_of_le lt_wNo g_qo)
 have na49 := Nat.ne_of_lt (Nat.lt_of_lt_of_le lt_wOt g_qo)
 have na50 := Nat.ne_of_lt (Nat.lt_of_lt_of_le lt_x1 g_qo)
 have na51 := Nat.ne_of_lt (Nat.lt_of_lt_of_le lt_x2 g_qo)
 have na52 := own_neVV f40 f38 (by decide)
 have f53 := (((E_po.wr W15).wr W20).wr W26)
 have na54 := Exa.neArv f53 f38 (own_w hw 72 rfl)
 have na55 := own_neVV f44 f38 (by decide)
 have na56 := Exa.neArv f46 f38 (own_w hw 3 rfl)
 have na57 := Nat.ne_of_lt (Nat.lt_of_lt_of_le lt_wNo g_aq)
 have na58 := Nat.ne_of_lt (Nat.lt_of_lt_of_le lt_wOt g_aq)
 have na59 := Nat.ne_of_lt (Nat.lt_of_lt_of_le lt_x1 g_aq)
 have na60 := Nat.ne_of_lt (Nat.lt_of_lt_of_le lt_x2 g_aq)
 have f61 := (f25.wr W26)
 have f62 := (((E_wNo.wr W15).wr W20).wr W26)
 have f63 := (((E_wOt.wr W15).wr W20).wr W26)
 have f64 := (((E_x1.wr W15).wr W20).wr W26)
 have f65 := (((E_x2.wr W15).wr W20).wr W26)
 obtain ⟨cq39, kq39, q39a, q39b, q39c⟩ := isOf hZ e33 f35
 obtain ⟨_, _, ⟨T39, L39, k39, n39⟩, -, X39, ⟨Lc39, hQ39, l39, y39, z39⟩, st39⟩ := X33.virtualBack hx (y := mn24) (z := mn24) hown (mvT hZ (own_w hw 131 rfl)) (mvT hZ (own_w hw 132 rfl)) (notFace_of_selects (args := #[]) (mvT hZ (own_w hw 134 rfl))) (mvT hZ (own_w hw 134 rfl)) (mvT hZ (own_w hw 133 rfl)) (by decide) (backOf (W := 0) (rmEnG l Z a0 hw [] qo ((p3 - (-1 : Int32)).toInt64) (0 : Int32) (8 : Int32) aq kq vq f ln h26 n0 (Nat.le_trans Z0 K27.1) f35 f36 f37 f38 g_qo g_aq hvq (by decide) cS0 (by omega) hj hj2 hj3 hln (by decide) (by decide)) hZ (own_w hw 135 rfl) (own_w hw 73 rfl) (by decide) (by decide)) q39a q39c (g := (mkF m 47 lc31 [(.long ((p3 - (-1 : Int32)).toInt64)), (.ref qo)])) rfl (by rw [hml]; rfl) (Steps.refl _) (argsL := [(.long ((p3 - (-1 : Int32)).toInt64))]) (rest := []) (lenOf pd__28J_29V rfl) rfl (by show 2 * 0 + _ ≤ _; exact Nat.le_of_eq rfl) (hb hby d14_47) (fun _ _ => ⟨rfl, e33, (by decide : 0 + 1 ≤ _), (by decide : 0 + 16 ≤ _)⟩)
 dsimp only [Pt.U, Pt.locs, Pt.cells, Pt.slots] at y39 z39 st39 hQ39
 change Stand p l e _ s m _ below meth c T39 L39 k39 n39 at X39
 change L39 = _ ++ Lc39 at l39
 subst y39 z39
 obtain ⟨r_39, kr_39, vr_39, rfl, N39q, K39q, t39_0, t39_1, t39_2, t39_3, t39_4, t39_5, t39_6⟩ := hQ39
 have N39 : Fr n0 L39 := l39 ▸ Fr.app N28 N39q
 have K39 : Keep h0 T39.heap [a1, qo, aq, sh] := K27.trans K39q (allS (P := fun xz => xz ∈ [a1, qo, aq, sh] ∨ h0.size ≤ xz) (Or.inl (List.mem_of_getElem? (i := 1) rfl)) (allS (P := fun xz => xz ∈ [a1, qo, aq, sh] ∨ h0.size ≤ xz) (Or.inl (List.mem_of_getElem? (i := 2) rfl)) all0))
 have nb66 : ap ≠ r_39 := own_neOr t39_6 ne_ap_aq f34.lt
 have ho67 : r_39 = aq ∨ h0.size ≤ r_39 := own_hor t39_6 (Or.inl rfl) K27.1
 have cA1 : ((0 : Int32) + ln).toInt = (0 : Int32).toInt + f + 1 := own_add cS0 hln (by omega)
 have cS1 : 0 ≤ ((0 : Int32) + ln).toInt ∧ ((0 : Int32) + ln).toInt ≤ 16 := by omega
 have cQ1 : (own_cap (8 : Int32) (0 : Int32)).toInt = 16 := by decide
 have f68 := (f32.keep K39q (ninS (Ne.symm na8) (ninS (Ne.symm na6) nin0)))
 obtain ⟨T69, X69, e69, st69⟩ := getF X39 hx hZ hown (host := "") (Or.inl (own_w hw 83 rfl)) Via.refl rfl f68 (g := (mkF m 56 lc31 [(.ref a1)])) rfl rfl (hb hby d14_56)
 have f70 := ((((F_size_tg.other W15 (Or.inl na10)).other W20 (Or.inl na10)).other W26 (Or.inl na10)).keep K39q (ninS na47 (ninS na56 nin0)))
 have f72 := (f46.keep K39q)
 obtain ⟨cq71, kq71, q71a, q71b, q71c⟩ := isOf hZ e69 f72
 obtain ⟨_, _, ⟨T71, L71, k71, n71⟩, -, X71, ⟨Lc71, hQ71, l71, y71, z71⟩, st71⟩ := X69.interfaceBack hx (xi := mn18) (y := mn8) hown (mvT hZ (own_w hw 88 rfl)) (mvT hZ (own_w hw 89 rfl)) (mvT hZ (own_w hw 90 rfl)) (mvT hZ (own_w hw 155 rfl)) (mvT hZ (own_w hw 156 rfl)) (mvT hZ (own_w hw 157 rfl)) (mvT hZ (own_w hw 158 rfl)) (mvT hZ (own_w hw 159 rfl)) (by decide) (backOf (W := 1) (rm20 l Z a0 hw [] tg (2 : Int32) T39.heap n0 (Nat.le_trans Z0 K39.1) f70) hZ (own_w hw 160 rfl) (own_w hw 4 rfl) (by decide) (by decide)) q71a q71b q71c (g := (mkF m 61 lc31 [(.ref tg), (.ref qo)])) rfl (by rw [hml]; rfl) (Steps.refl _) (argsL := []) (rest := [(.ref qo)]) (lenOf pd__28_29I rfl) rfl (by show 2 * 0 + _ ≤ _; exact Nat.le_of_eq rfl) (hb hby d14_61) (fun _ _ => ⟨rfl, e69, (by decide : 1 + 0 ≤ _), (by decide : 16 + 0 ≤ _)⟩)
 dsimp only [Pt.U, Pt.locs, Pt.cells, Pt.slots] at y71 z71 st71 hQ71
 change Stand p l e _ s m _ below meth c T71 L71 k71 n71 at X71
 change L71 = _ ++ Lc71 at l71
 subst y71 z71
 obtain ⟨rfl, N71q, e71⟩ := hQ71
 have N71 : Fr n0 L71 := l71 ▸ Fr.app N39 N71q
 have f73 := (f34.keep K39q (ninS na42 (ninS ne_ap_aq nin0)))
 have na75 := (Exa.neArv t39_0 t39_3 (own_w hw 72 rfl)).symm
 have f76 := (f61.keep K39q)
 have na77 := Exa.neArv f76 t39_3 (own_w hw 65 rfl)
 have f78 := (f40.keep K39q (ninS na41 (ninS na52 nin0)))
 have na79 := own_neVV f78 t39_3 (by decide)
 have f80 := (f53.keep K39q)
 have na81 := Exa.neArv f80 t39_3 (own_w hw 72 rfl)
 have f82 := (f44.keep K39q (ninS na45 (ninS na55 nin0)))
 have na83 := own_neVV f82 t39_3 (by decide)
 have na84 := Exa.neArv f72 t39_3 (own_w hw 3 rfl)
 have na85 := Nat.ne_of_lt (Nat.lt_of_lt_of_le lt_wNo t39_4)
 have na86 := Nat.ne_of_lt (Nat.lt_of_lt_of_le lt_wOt t39_4)
 have na87 := Nat.ne_of_lt (Nat.lt_of_lt_of_le lt_x1 t39_4)
 have na88 := Nat.ne_of_lt (Nat.lt_of_lt_of_le lt_x2 t39_4)
 have f89 := (f62.keep K39q)
 have f90 := (f63.keep K39q)
 have f91 := (f64.keep K39q)
 have f92 := (f65.keep K39q)
 obtain ⟨cq74, kq74, q74a, q74b, q74c⟩ := isOf hZ e71 t39_0
 obtain ⟨_, _, ⟨T74, L74, k74, n74⟩, -, X74, ⟨Lc74, hQ74, l74, y74, z74⟩, st74⟩ := X71.virtualBack hx (y := mn24) (z := mn24) hown (mvT hZ (own_w hw 131 rfl)) (mvT hZ (own_w hw 132 rfl)) (notFace_of_selects (args := #[]) (mvT hZ (own_w hw 134 rfl))) (mvT hZ (own_w hw 134 rfl)) (mvT hZ (own_w hw 133 rfl)) (by decide) (backOf (W := 0) (rmEnS l Z a0 hw [] qo ((2 : Int32).toInt64) ((0 : Int32) + ln) (own_cap (8 : Int32) (0 : Int32)) r_39 kr_39 vr_39 0 (1 : Int32) T39.heap n0 (Nat.le_trans Z0 K39.1) t39_0 t39_1 t39_2 t39_3 g_qo t39_4 t39_5 (by omega) cS1 (by decide) (by decide) (by decide) (own_f0 _) own_1 (by omega)) hZ (own_w hw 135 rfl) (own_w hw 73 rfl) (by decide) (by decide)) q74a q74c (g := (mkF m 67 lc31 [(.long ((2 : Int32).toInt64)), (.ref qo)])) rfl (by rw [hml]; rfl) (Steps.refl _) (argsL := [(.long ((2 : Int32).toInt64))]) (rest := []) (lenOf pd__28J_29V rfl) rfl (by show 2 * 0 + _ ≤ _; exact Nat.le_of_eq rfl) (hb hby d14_67) (fun _ _ => ⟨rfl, e71, (by decide : 1 + 0 ≤ _), (by decide : 16 + 0 ≤ _)⟩)
 dsimp only [Pt.U, Pt.locs, Pt.cells, Pt.slots] at y74 z74 st74 hQ74
 change Stand p l e _ s m _ below meth c T74 L74 k74 n74 at X74
 change L74 = _ ++ Lc74 at l74
 subst y74 z74
 obtain ⟨r_74, kr_74, vr_74, rfl, N74q, K74q, t74_0, t74_1, t74_2, t74_3, t74_4, t74_5, t74_6⟩ := hQ74
 have N74 : Fr n0 L74 := l74 ▸ Fr.app N71 N74q
 have K74 : Keep h0 T74.heap [a1, qo, aq, sh] := K39.trans K74q (allS (P := fun xz => xz ∈ [a1, qo, aq, sh] ∨ h0.size ≤ xz) (Or.inl (List.mem_of_getElem? (i := 1) rfl)) (allS (P := fun xz => xz ∈ [a1, qo, aq, sh] ∨ h0.size ≤ xz) (own_kor ho67 (List.mem_of_getElem? (i := 2) rfl)) all0))
 have nb93 : ap ≠ r_74 := own_neOr t74_6 nb66 f73.lt
 have ho94 : r_74 = aq ∨ h0.size ≤ r_74 := own_hor t74_6 ho67 K39.1
 have cA2 : (((0 : Int32) + ln) + (1 : Int32)).toInt = ((0 : Int32) + ln).toInt + ((0 : Nat) : Int) + 1 := own_add cS1 own_1 (by omega)
 have cS2 : 0 ≤ (((0 : Int32) + ln) + (1 : Int32)).toInt ∧ (((0 : Int32) + ln) + (1 : Int32)).toInt ≤ 16 := by omega
 have cQ2 : (own_cap (own_cap (8 : Int32) (0 : Int32)) ((0 : Int32) + ln)).toInt = 16 := by rw [own_capI (by omega) cS1, if_neg (by omega)]; exact cQ1
 have pre95 : ∀ t, Steps p.tables e below (T74.setTop (mkF m 70 lc31 [])) t → Steps p.tables e below (s₁.setTop (entryFrame m #[(.ref a1), (.int p2), (.int p3), (.int p4), (.ref tg)] 6)) t := fun t kt => by
  refine pre0 t ?_
  show oS s₁ (mkF m 0 lc1 [])
  refine XS.iloadN X0.here hx rfl (hb hby d14_0) rfl ?_
  show oS s₁ (mkF m 1 lc1 [(.int p2)])
  refine XS.aloadN X0.here hx rfl (hb hby d14_1) rfl rfl ?_
  show oS s₁ (mkF m 2 lc1 [(.ref a1), (.int p2)])
  refine st2 _ ?_
  show oS T2 (mkF m 5 lc1 [(.int (-1)), (.int p2)])
  refine XS.icmpNo X2.here hx rfl (hb hby d14_5) rfl (feq hdoc).1 ?_
  show oS T2 (mkF m 8 lc1 [])
  refine XS.aloadN X2.here hx rfl (hb hby d14_8) rfl rfl ?_
  show oS T2 (mkF m 9 lc1 [(.ref a1)])
  refine st3.trans ?_
  show oS T3 (mkF m 12 lc1 [])
  refine XS.aloadN X3.here hx rfl (hb hby d14_12) rfl rfl ?_
  show oS T3 (mkF m 13 lc1 [(.ref a1)])
  refine XS.iloadN X3.here hx rfl (hb hby d14_13) rfl ?_
  show oS T3 (mkF m 14 lc1 [(.int p2), (.ref a1)])
  refine st15 _ ?_
  show oS T15 (mkF m 17 lc1 [])
  refine XS.aloadN X15.here hx rfl (hb hby d14_17) rfl rfl ?_
  show oS T15 (mkF m 18 lc1 [(.ref a1)])
  refine XS.iconst X15.here hx rfl (hb hby d14_18) ?_
  show oS T15 (mkF m 19 lc1 [(.int (-1)), (.ref a1)])
  refine st20 _ ?_
  show oS T20 (mkF m 22 lc1 [])
  refine XS.aloadN X20.here hx rfl (hb hby d14_22) rfl rfl ?_
  show oS T20 (mkF m 23 lc1 [(.ref a1)])
  refine XS.dup X20.here hx rfl (hb hby d14_23) rfl rfl ?_
  show oS T20 (mkF m 24 lc1 [(.ref a1), (.ref a1)])
  refine st24 _ ?_
  show oS T24 (mkF m 27 lc1 [(.int df), (.ref a1)])
  refine XS.iconst X24.here hx rfl (hb hby d14_27) ?_
  show oS T24 (mkF m 28 lc1 [(.int 1), (.int df), (.ref a1)])
  refine XS.iadd X24.here hx rfl (hb hby d14_28) rfl ?_
  show oS T24 (mkF m 29 lc1 [(.int (df + (1 : Int32))), (.ref a1)])
  refine st26 _ ?_
  show oS T26 (mkF m 32 lc1 [])
  refine XS.iloadN X26.here hx rfl (hb hby d14_32) rfl ?_
  show oS T26 (mkF m 33 lc1 [(.int p3)])
  refine XS.aloadN X26.here hx rfl (hb hby d14_33) rfl rfl ?_
  show oS T26 (mkF m 34 lc1 [(.ref a1), (.int p3)])
  refine st30 _ ?_
  show oS T30 (mkF m 37 lc1 [(.int (-1)), (.int p3)])
  refine XS.isub X30.here hx rfl (hb hby d14_37) rfl ?_
  show oS T30 (mkF m 38 lc1 [(.int (p3 - (-1 : Int32)))])
  refine XS.istore X30.here hx rfl (hb hby d14_38) rfl (l' := lc31) rfl ?_
  show oS T30 (mkF m 40 lc31 [])
  refine XS.aloadN X30.here hx rfl (hb hby d14_40) rfl rfl ?_
  show oS T30 (mkF m 41 lc31 [(.ref a1)])
  refine st33 _ ?_
  show oS T33 (mkF m 44 lc31 [(.ref qo)])
  refine XS.iload X33.here hx rfl (hb hby d14_44) rfl ?_
  show oS T33 (mkF m 46 lc31 [(.int (p3 - (-1 : Int32))), (.ref qo)])
  refine XS.i2l X33.here hx rfl (hb hby d14_46) rfl ?_
  show oS T33 (mkF m 47 lc31 [(.long ((p3 - (-1 : Int32)).toInt64)), (.ref qo)])
  refine st39.trans ?_
  show oS T39 (mkF m 50 lc31 [])
  refine XS.iload X39.here hx rfl (hb hby d14_50) rfl ?_
  show oS T39 (mkF m 52 lc31 [(.int (p3 - (-1 : Int32)))])
  refine XS.ifNo X39.here hx rfl (hb hby d14_52) rfl ((if0 _ _).trans (tlt hgap).2.2.2) ?_
  show oS T39 (mkF m 55 lc31 [])
  refine XS.aloadN X39.here hx rfl (hb hby d14_55) rfl rfl ?_
  show oS T39 (mkF m 56 lc31 [(.ref a1)])
  refine st69 _ ?_
  show oS T69 (mkF m 59 lc31 [(.ref qo)])
  refine XS.aload X69.here hx rfl (hb hby d14_59) rfl rfl ?_
  show oS T69 (mkF m 61 lc31 [(.ref tg), (.ref qo)])
  refine st71.trans ?_
  show oS T71 (mkF m 66 lc31 [(.int 2), (.ref qo)])
  refine XS.i2l X71.here hx rfl (hb hby d14_66) rfl ?_
  show oS T71 (mkF m 67 lc31 [(.long ((2 : Int32).toInt64)), (.ref qo)])
  refine st74.trans ?_
  exact kt
 have f96 := (f68.keep K74q (ninS (Ne.symm na8) (ninS na77 nin0)))
 obtain ⟨T97, X97, e97, st97⟩ := getF X74 hx hZ hown (host := "") (Or.inl (own_w hw 83 rfl)) Via.refl rfl f96 (g := (mkF m 71 lc31 [(.ref a1)])) rfl rfl (hb hby d14_71)
 have f98 := (f73.keep K74q (ninS na42 (ninS nb66 nin0)))
 have na100 := (Exa.neArv t74_0 t74_3 (own_w hw 72 rfl)).symm
 have f101 := (f76.keep K74q)
 have na102 := Exa.neArv f101 t74_3 (own_w hw 65 rfl)
 have f103 := (f78.keep K74q (ninS na41 (ninS na79 nin0)))
 have na104 := own_neVV f103 t74_3 (by decide)
 have f105 := (f80.keep K74q)
 have na106 := Exa.neArv f105 t74_3 (own_w hw 72 rfl)
 have f107 := (f82.keep K74q (ninS na45 (ninS na83 nin0)))
 have na108 := own_neVV f107 t74_3 (by decide)
 have f109 := (f72.keep K74q)
 have na110 := Exa.neArv f109 t74_3 (own_w hw 3 rfl)
 have na111 := Nat.ne_of_lt (Nat.lt_of_lt_of_le lt_wNo t74_4)
 have na112 := Nat.ne_of_lt (Nat.lt_of_lt_of_le lt_wOt t74_4)
 have na113 := Nat.ne_of_lt (Nat.lt_of_lt_of_le lt_x1 t74_4)
 have na114 := Nat.ne_of_lt (Nat.lt_of_lt_of_le lt_x2 t74_4)
 have f115 := (f89.keep K74q)
 have f116 := (f90.keep K74q)
 have f117 := (f91.keep K74q)
 have f118 := (f92.keep K74q)
 obtain ⟨cq99, kq99, q99a, q99b, q99c⟩ := isOf hZ e97 t74_0
 obtain ⟨_, _, ⟨T99, L99, k99, n99⟩, -, X99, ⟨Lc99, hQ99, l99, y99, z99⟩, st99⟩ := X97.virtualBack hx (y := mn24) (z := mn24) hown (mvT hZ (own_w hw 131 rfl)) (mvT hZ (own_w hw 132 rfl)) (notFace_of_selects (args := #[]) (mvT hZ (own_w hw 134 rfl))) (mvT hZ (own_w hw 134 rfl)) (mvT hZ (own_w hw 133 rfl)) (by decide) (backOf (W := 0) (rmEnS l Z a0 hw [] qo (p4.toInt64) (((0 : Int32) + ln) + (1 : Int32)) (own_cap (own_cap (8 : Int32) (0 : Int32)) ((0 : Int32) + ln)) r_74 kr_74 vr_74 0 (1 : Int32) T74.heap n0 (Nat.le_trans Z0 K74.1) t74_0 t74_1 t74_2 t74_3 g_qo t74_4 t74_5 (by omega) cS2 (by decide) (by rw [hp4]; omega) (by show (p4.toInt64).toInt < 128; rw [hp4]; omega) (own_f0 _) own_1 (by omega)) hZ (own_w hw 135 rfl) (own_w hw 73 rfl) (by decide) (by decide)) q99a q99c (g := (mkF m 76 lc31 [(.long (p4.toInt64)), (.ref qo)])) rfl (by rw [hml]; rfl) (Steps.refl _) (argsL := [(.long (p4.toInt64))]) (rest := []) (lenOf pd__28J_29V rfl) rfl (by show 2 * 0 + _ ≤ _; exact Nat.le_of_eq rfl) (hb hby d14_76) (fun _ _ => ⟨rfl, e97, (by decide : 1 + 0 ≤ _), (by decide : 16 + 0 ≤ _)⟩)
 dsimp only [Pt.U, Pt.locs, Pt.cells, Pt.slots] at y99 z99 st99 hQ99
 change Stand p l e _ s m _ below meth c T99 L99 k99 n99 at X99
 change L99 = _ ++ Lc99 at l99
 subst y99 z99
 obtain ⟨r_99, kr_99, vr_99, rfl, N99q, K99q, t99_0, t99_1, t99_2, t99_3, t99_4, t99_5, t99_6⟩ := hQ99
 have N99 : Fr n0 L99 := l99 ▸ Fr.app N74 N99q
 have K99 : Keep h0 T99.heap [a1, qo, aq, sh] := K74.trans K99q (allS (P := fun xz => xz ∈ [a1, qo, aq, sh] ∨ h0.size ≤ xz) (Or.inl (List.mem_of_getElem? (i := 1) rfl)) (allS (P := fun xz => xz ∈ [a1, qo, aq, sh] ∨ h0.size ≤ xz) (own_kor ho94 (List.mem_of_getElem? (i := 2) rfl)) all0))
 have nb119 : ap ≠ r_99 := own_neOr t99_6 nb93 f98.lt
 have ho120 : r_99 = aq ∨ h0.size ≤ r_99 := own_hor t99_6 ho94 K74.1
 have cA3 : ((((0 : Int32) + ln) + (1 : Int32)) + (1 : Int32)).toInt = (((0 : Int32) + ln) + (1 : Int32)).toInt + ((0 : Nat) : Int) + 1 := own_add cS2 own_1 (by omega)
 have cS3 : 0 ≤ ((((0 : Int32) + ln) + (1 : Int32)) + (1 : Int32)).toInt ∧ ((((0 : Int32) + ln) + (1 : Int32)) + (1 : Int32)).toInt ≤ 16 := by omega
 have cQ3 : (own_cap (own_cap (own_cap (8 : Int32) (0 : Int32)) ((0 : Int32) + ln)) (((0 : Int32) + ln) + (1 : Int32))).toInt = 16 := by rw [own_capI (by omega) cS2, if_neg (by omega)]; exact cQ2
 have f121 := (f96.keep K99q (ninS (Ne.symm na8) (ninS na102 nin0)))
 obtain ⟨T122, X122, e122, st122⟩ := getF X99 hx hZ hown (host := "") (Or.inl (own_w hw 83 rfl)) Via.refl rfl f121 (g := (mkF m 80 lc31 [(.ref a1)])) rfl rfl (hb hby d14_80)
 have f123 := (f109.keep K99q)
 have f124 := ((f70.keep K74q (ninS na47 (ninS na84 nin0))).keep K99q (ninS na47 (ninS na110 nin0)))
 have f125 := ((((((F_elementData_tg.other W15 (Or.inl na10)).other W20 (Or.inl na10)).other W26 (Or.inl na10)).keep K39q (ninS na47 (ninS na56 nin0))).keep K74q (ninS na47 (ninS na84 nin0))).keep K99q (ninS na47 (ninS na110 nin0)))
 have f126 := (f103.keep K99q (ninS na41 (ninS na104 nin0)))
 have f127 := (f117.keep K99q)
 have f128 := (f118.keep K99q)
 have f129 := ((((((F_ordinal_x1.other W15 (Or.inl na13)).other W20 (Or.inl na13)).other W26 (Or.inl na13)).keep K39q (ninS na50 (ninS na59 nin0))).keep K74q (ninS na50 (ninS na87 nin0))).keep K99q (ninS na50 (ninS na113 nin0)))
 have f130 := ((((((F_ordinal_x2.other W15 (Or.inl na14)).other W20 (Or.inl na14)).other W26 (Or.inl na14)).keep K39q (ninS na51 (ninS na60 nin0))).keep K74q (ninS na51 (ninS na88 nin0))).keep K99q (ninS na51 (ninS na114 nin0)))
 have f132 := (f101.keep K99q)
 have f133 := (f98.keep K99q (ninS na42 (ninS nb93 nin0)))
 have f134 := (f105.keep K99q)
 have f135 := (f107.keep K99q (ninS na45 (ninS na108 nin0)))
 have f136 := (f115.keep K99q)
 have f137 := (f116.keep K99q)
 obtain ⟨cq131, kq131, q131a, q131b, q131c⟩ := isOf hZ e122 f123
 obtain ⟨_, _, ⟨T131, L131, k131, n131⟩, -, X131, ⟨Lc131, hQ131, l131, y131, z131⟩, st131⟩ := X122.interfaceBack hx (xi := mn19) (y := mn12) hown (mvT hZ (own_w hw 161 rfl)) (mvT hZ (own_w hw 162 rfl)) (mvT hZ (own_w hw 163 rfl)) (mvT hZ (own_w hw 164 rfl)) (mvT hZ (own_w hw 165 rfl)) (mvT hZ (own_w hw 166 rfl)) (mvT hZ (own_w hw 167 rfl)) (mvT hZ (own_w hw 159 rfl)) (by decide) (backOf (W := 1) (rmGetP l Z a0 hw [] tg p4 a3 x1 x2 kr T99.heap n0 (Nat.le_trans Z0 K99.1) f123 f124 f125 f126 f127 f128 f129 f130 lt_x1 lt_x2 hp) hZ (own_w hw 168 rfl) (own_w hw 4 rfl) (by decide) (by decide)) q131a q131b q131c (g := (mkF m 86 lc31 [(.int p4), (.ref tg), (.ref qo)])) rfl (by rw [hml]; rfl) (Steps.refl _) (argsL := [(.int p4)]) (rest := [(.ref qo)]) (lenOf pd__28I_29Ljava_2flang_2fObject_3b rfl) rfl (by show 2 * 0 + _ ≤ _; exact Nat.le_of_eq rfl) (hb hby d14_86) (fun _ _ => ⟨rfl, e122, (by decide : 1 + 0 ≤ _), (by decide : 16 + 0 ≤ _)⟩)
 dsimp only [Pt.U, Pt.locs, Pt.cells, Pt.slots] at y131 z131 st131 hQ131
 change Stand p l e _ s m _ below meth c T131 L131 k131 n131 at X131
 change L131 = _ ++ Lc131 at l131
 subst y131 z131
 obtain ⟨xo_131, ko_131, rfl, N131q, e131, t131_0, t131_1, t131_2, t131_3⟩ := hQ131
 have N131 : Fr n0 L131 := l131 ▸ Fr.app N99 N131q
 rw [e131] at t131_0 t131_1
 obtain ⟨T138, X138, e138, st138⟩ := castY X131 hx hZ hown (own_w hw 182 rfl) e131 (Ins.self t131_0) (g := (mkF m 91 lc31 [(.ref xo_131), (.ref qo)])) rfl rfl (hb hby d14_91)
 obtain ⟨cq139, kq139, q139a, q139b, q139c⟩ := isOf hZ e138 t131_0
 obtain ⟨_, _, ⟨T139, L139, k139, n139⟩, -, X139, ⟨Lc139, hQ139, l139, y139, z139⟩, st139⟩ := X138.virtualBackUp hx (x := mn15) (y := mn13) (owner := nm8) hown (mvT hZ (own_w hw 184 rfl)) (mvT hZ (own_w hw 185 rfl)) (mvT hZ (own_w hw 186 rfl)) (by decide) (mvT hZ (own_w hw 188 rfl)) (mvT hZ (own_w hw 187 rfl)) (backOf (W := 1) (rm25 l Z a0 hw [] xo_131 ko_131 T99.heap n0 (Nat.le_trans Z0 K99.1) t131_1) hZ (own_w hw 190 rfl) (own_w hw 189 rfl) (by decide) (by decide)) q139a q139c (g := (mkF m 94 lc31 [(.ref xo_131), (.ref qo)])) rfl (by rw [hml]; rfl) (Steps.refl _) (argsL := []) (rest := [(.ref qo)]) (lenOf pd__28_29I rfl) rfl (by show 2 * 0 + _ ≤ _; exact Nat.le_of_eq rfl) (hb hby d14_94) (fun _ _ => ⟨rfl, e138, (by decide : 1 + 0 ≤ _), (by decide : 16 + 0 ≤ _)⟩)
 dsimp only [Pt.U, Pt.locs, Pt.cells, Pt.slots] at y139 z139 st139 hQ139
 change Stand p l e _ s m _ below meth c T139 L139 k139 n139 at X139
 change L139 = _ ++ Lc139 at l139
 subst y139 z139
 obtain ⟨rfl, N139q, e139⟩ := hQ139
 have N139 : Fr n0 L139 := l139 ▸ Fr.app N131 N139q
 have na141 := (Exa.neArv t99_0 t99_3 (own_w hw 72 rfl)).symm
 have na142 := Nat.ne_of_lt (Nat.lt_of_lt_of_le t131_3 g_qo)
 have na143 := Exa.neArv f132 t99_3 (own_w hw 65 rfl)
 have na144 := own_neVV f126 t99_3 (by decide)
 have na145 := Exa.neArv f134 t99_3 (own_w hw 72 rfl)
 have na146 := own_neVV f135 t99_3 (by decide)
 have na147 := Exa.neArv f123 t99_3 (own_w hw 3 rfl)
 have na148 := Nat.ne_of_lt (Nat.lt_of_lt_of_le lt_wNo t99_4)
 have na149 := Nat.ne_of_lt (Nat.lt_of_lt_of_le lt_wOt t99_4)
 have na150 := Nat.ne_of_lt (Nat.lt_of_lt_of_le lt_x1 t99_4)
 have na151 := Nat.ne_of_lt (Nat.lt_of_lt_of_le lt_x2 t99_4)
 have na152 := Nat.ne_of_lt (Nat.lt_of_lt_of_le t131_3 t99_4)
 obtain ⟨cq140, kq140, q140a, q140b, q140c⟩ := isOf hZ e139 t99_0
 obtain ⟨_, _, ⟨T140, L140, k140, n140⟩, -, X140, ⟨Lc140, hQ140, l140, y140, z140⟩, st140⟩ := X139.virtualBack hx (y := mn24) (z := mn24) hown (mvT hZ (own_w hw 131 rfl)) (mvT hZ (own_w hw 132 rfl)) (notFace_of_selects (args := #[]) (mvT hZ (own_w hw 134 rfl))) (mvT hZ (own_w hw 134 rfl)) (mvT hZ (own_w hw 133 rfl)) (by decide) (backOf (W := 0) (rmEnS l Z a0 hw [] qo (ko_131.toInt64) ((((0 : Int32) + ln) + (1 : Int32)) + (1 : Int32)) (own_cap (own_cap (own_cap (8 : Int32) (0 : Int32)) ((0 : Int32) + ln)) (((0 : Int32) + ln) + (1 : Int32))) r_99 kr_99 vr_99 0 (1 : Int32) T99.heap n0 (Nat.le_trans Z0 K99.1) t99_0 t99_1 t99_2 t99_3 g_qo t99_4 t99_5 (by omega) cS3 (by decide) (by rw [Jvm.Kit.i64_of_i32]; omega) (by show (ko_131.toInt64).toInt < 128; rw [Jvm.Kit.i64_of_i32]; omega) (own_f0 _) own_1 (by omega)) hZ (own_w hw 135 rfl) (own_w hw 73 rfl) (by decide) (by decide)) q140a q140c (g := (mkF m 98 lc31 [(.long (ko_131.toInt64)), (.ref qo)])) rfl (by rw [hml]; rfl) (Steps.refl _) (argsL := [(.long (ko_131.toInt64))]) (rest := []) (lenOf pd__28J_29V rfl) rfl (by show 2 * 0 + _ ≤ _; exact Nat.le_of_eq rfl) (hb hby d14_98) (fun _ _ => ⟨rfl, e139, (by decide : 1 + 0 ≤ _), (by decide : 16 + 0 ≤ _)⟩)
 dsimp only [Pt.U, Pt.locs, Pt.cells, Pt.slots] at y140 z140 st140 hQ140
 change Stand p l e _ s m _ below meth c T140 L140 k140 n140 at X140
 change L140 = _ ++ Lc140 at l140
 subst y140 z140
 obtain ⟨r_140, kr_140, vr_140, rfl, N140q, K140q, t140_0, t140_1, t140_2, t140_3, t140_4, t140_5, t140_6⟩ := hQ140
 have N140 : Fr n0 L140 := l140 ▸ Fr.app N139 N140q
 have K140 : Keep h0 T140.heap [a1, qo, aq, sh] := K99.trans K140q (allS (P := fun xz => xz ∈ [a1, qo, aq, sh] ∨ h0.size ≤ xz) (Or.inl (List.mem_of_getElem? (i := 1) rfl)) (allS (P := fun xz => xz ∈ [a1, qo, aq, sh] ∨ h0.size ≤ xz) (own_kor ho120 (List.mem_of_getElem? (i := 2) rfl)) all0))
 have nb153 : ap ≠ r_140 := own_neOr t140_6 nb119 f133.lt
 have ho154 : r_140 = aq ∨ h0.size ≤ r_140 := own_hor t140_6 ho120 K99.1
 have cA4 : (((((0 : Int32) + ln) + (1 : Int32)) + (1 : Int32)) + (1 : Int32)).toInt = ((((0 : Int32) + ln) + (1 : Int32)) + (1 : Int32)).toInt + ((0 : Nat) : Int) + 1 := own_add cS3 own_1 (by omega)
 have cS4 : 0 ≤ (((((0 : Int32) + ln) + (1 : Int32)) + (1 : Int32)) + (1 : Int32)).toInt ∧ (((((0 : Int32) + ln) + (1 : Int32)) + (1 : Int32)) + (1 : Int32)).toInt ≤ 16 := by omega
 have cQ4 : (own_cap (own_cap (own_cap (own_cap (8 : Int32) (0 : Int32)) ((0 : Int32) + ln)) (((0 : Int32) + ln) + (1 : Int32))) ((((0 : Int32) + ln) + (1 : Int32)) + (1 : Int32))).toInt = 16 := by rw [own_capI (by omega) cS3, if_neg (by omega)]; exact cQ3
 have f155 := (((((((F_windows_a1.other W15 (Or.inr (sn61 hw))).other W20 (Or.inr (sn82 hw))).other W26 (Or.inr (sn83 hw))).keep K39q (ninS (Ne.symm na8) (ninS (Ne.symm na6) nin0))).keep K74q (ninS (Ne.symm na8) (ninS na77 nin0))).keep K99q (ninS (Ne.symm na8) (ninS na102 nin0))).keep K140q (ninS (Ne.symm na8) (ninS na143 nin0)))
 obtain ⟨T156, X156, e156, st156⟩ := getF X140 hx hZ hown (host := "") (Or.inl (own_w hw 193 rfl)) Via.refl rfl f155 (g := (mkF m 103 lc31 [(.ref a1), (.ref a1)])) rfl rfl (hb hby d14_103)
 have f157 := (((((((F_shares_a1.other W15 (Or.inr (sn34 hw))).other W20 (Or.inr (sn84 hw))).other W26 (Or.inr (sn85 hw))).keep K39q (ninS (Ne.symm na8) (ninS (Ne.symm na6) nin0))).keep K74q (ninS (Ne.symm na8) (ninS na77 nin0))).keep K99q (ninS (Ne.symm na8) (ninS na102 nin0))).keep K140q (ninS (Ne.symm na8) (ninS na143 nin0)))
 obtain ⟨T158, X158, e158, st158⟩ := getF X156 hx hZ hown (host := "") (Or.inl (own_w hw 101 rfl)) Via.refl e156 f157 (g := (mkF m 110 lc31 [(.ref a1), (.int p4), (.ref tg), (.long wn), (.ref a1)])) rfl rfl (hb hby d14_110)
 have f159 := (f123.keep K140q)
 have f160 := (f124.keep K140q (ninS na47 (ninS na147 nin0)))
 have f161 := (f125.keep K140q (ninS na47 (ninS na147 nin0)))
 have f162 := (f126.keep K140q (ninS na41 (ninS na144 nin0)))
 have f163 := (f127.keep K140q)
 have f164 := (f128.keep K140q)
 have f165 := (f129.keep K140q (ninS na50 (ninS na150 nin0)))
 have f166 := (f130.keep K140q (ninS na51 (ninS na151 nin0)))
 have f167 := (own_staKeep (own_staKeep (own_staKeep (own_staKeep (((S_NOUN.wr W15).wr W20).wr W26) K39q (own_nsE f35 (own_nsV f38 own_ns0))) K74q (own_nsE t39_0 (own_nsV t39_3 own_ns0))) K99q (own_nsE t74_0 (own_nsV t74_3 own_ns0))) K140q (own_nsE t99_0 (own_nsV t99_3 own_ns0)))
 have f168 := (own_staKeep (own_staKeep (own_staKeep (own_staKeep (((S_OTHER.wr W15).wr W20).wr W26) K39q (own_nsE f35 (own_nsV f38 own_ns0))) K74q (own_nsE t39_0 (own_nsV t39_3 own_ns0))) K99q (own_nsE t74_0 (own_nsV t74_3 own_ns0))) K140q (own_nsE t99_0 (own_nsV t99_3 own_ns0)))
 have f169 := (f136.keep K140q)
 have f170 := (f137.keep K140q)
 have f171 := (((((((F_ordinal_wNo.other W15 (Or.inl na11)).other W20 (Or.inl na11)).other W26 (Or.inl na11)).keep K39q (ninS na48 (ninS na57 nin0))).keep K74q (ninS na48 (ninS na85 nin0))).keep K99q (ninS na48 (ninS na111 nin0))).keep K140q (ninS na48 (ninS na148 nin0)))
 have f172 := (((((((F_ordinal_wOt.other W15 (Or.inl na12)).other W20 (Or.inl na12)).other W26 (Or.inl na12)).keep K39q (ninS na49 (ninS na58 nin0))).keep K74q (ninS na49 (ninS na86 nin0))).keep K99q (ninS na49 (ninS na112 nin0))).keep K140q (ninS na49 (ninS na149 nin0)))
 have f173 := (f135.keep K140q (ninS na45 (ninS na146 nin0)))
 have na175 := own_neVV f162 f173 (by decide)
 have f176 := (f133.keep K140q (ninS na42 (ninS nb119 nin0)))
 have na177 := own_neVV f176 f173 (by decide)
 have f178 := (f134.keep K140q)
 have na179 := Exa.neArv f178 f173 (own_w hw 72 rfl)
 have na180 := own_neVV t140_3 f173 (by decide)
 have na181 := Exa.neArv f159 f173 (own_w hw 3 rfl)
 have na182 := Nat.ne_of_lt (Nat.lt_of_lt_of_le lt_wNo g_sh)
 have na183 := Nat.ne_of_lt (Nat.lt_of_lt_of_le lt_wOt g_sh)
 have na184 := Nat.ne_of_lt (Nat.lt_of_lt_of_le lt_x1 g_sh)
 have na185 := Nat.ne_of_lt (Nat.lt_of_lt_of_le lt_x2 g_sh)
 have na186 := Nat.ne_of_lt (Nat.lt_of_lt_of_le t131_3 g_sh)
 have f187 := (f132.keep K140q)
 have f188 := (t131_0.keep K140q)
 obtain ⟨_, _, ⟨T174, L174, k174, n174⟩, -, X174, ⟨Lc174, hQ174, l174, y174, z174⟩, st174⟩ := Jvm.LawKit.callS X158 hx (y := mn17) hown (mvT hZ (own_w hw 195 rfl)) (mvT hZ (own_w hw 196 rfl)) (mvT hZ (own_w hw 197 rfl)) (mvT hZ (own_w hw 198 rfl)) (by decide) (backOf (W := 3) (rmCntP l Z a0 hw [] tg p4 sh a3 x1 x2 kr wNo wOt ks y0 y1 y2 y3 T140.heap n0 (Nat.le_trans Z0 K140.1) f159 f160 f161 f162 f163 f164 f165 f166 lt_x1 lt_x2 f167 f168 f169 f170 f171 f172 lt_wNo lt_wOt f173 g_sh hp) hZ (own_w hw 198 rfl) (own_w hw 197 rfl) (by decide) (by decide)) (g := (mkF m 113 lc31 [(.ref sh), (.int p4), (.ref tg), (.long wn), (.ref a1)])) rfl (by rw [hml]; rfl) (argsL := [(.ref tg), (.int p4), (.ref sh)]) (rest := [(.long wn), (.ref a1)]) (lenOf pd__28Ljava_2futil_2fList_3bI_5bJ_29I rfl) rfl (by show 2 * 0 + _ ≤ _; exact Nat.le_of_eq rfl) (hb hby d14_113) (fun _ _ => ⟨rfl, e158, (by decide : 1 + 0 ≤ _), (by decide : 16 + 0 ≤ _)⟩)
 dsimp only [Pt.U, Pt.locs, Pt.cells, Pt.slots] at y174 z174 st174 hQ174
 change Stand p l e _ s m _ below meth c T174 L174 k174 n174 at X174
 change L174 = _ ++ Lc174 at l174
 subst y174 z174
 obtain ⟨rfl, N174q, K174q, t174_0⟩ := hQ174
 have N174 : Fr n0 L174 := l174 ▸ Fr.app N140 N174q
 have K174 : Keep h0 T174.heap [a1, qo, aq, sh] := K140.trans K174q (allS (P := fun xz => xz ∈ [a1, qo, aq, sh] ∨ h0.size ≤ xz) (Or.inl (List.mem_of_getElem? (i := 3) rfl)) all0)
 have f189 := (f155.keep K174q (ninS (Ne.symm na9) nin0))
 have f190 := (f187.keep K174q)
 have f191 := (t140_3.keep K174q (ninS na180 nin0))
 have na192 := (Exa.neArv f190 f191 (own_w hw 65 rfl)).symm
 have na193 := Nat.ne_of_lt (Nat.lt_of_lt_of_le t131_3 g_a1)
 obtain ⟨T194, h194, X194, e194, W194, st194⟩ := putF X174 hx hZ hown (host := "") (Or.inl (own_w hw 193 rfl)) Via.refl rfl f189 f190 (Or.inl (own_w hw 194 rfl)) (own_w hw 65 rfl) (ty := .long) (by decide) rfl rfl (g := (mkF m 118 lc31 [(.long (wn + ((1 : Int32).toInt64))), (.ref a1)])) rfl rfl (hb hby d14_118)
 have K195 : Keep h0 h194 [a1, qo, aq, sh] := K174.wr W194 (Or.inl (List.mem_of_getElem? (i := 0) rfl))
 have N196 := Fr.snoc X194 N174 g_a1
 have Fw194 := f189.same W194
 have f197 := ((((((f29.keep K39q (ninS (Ne.symm na8) (ninS (Ne.symm na6) nin0))).keep K74q (ninS (Ne.symm na8) (ninS na77 nin0))).keep K99q (ninS (Ne.symm na8) (ninS na102 nin0))).keep K140q (ninS (Ne.symm na8) (ninS na143 nin0))).keep K174q (ninS (Ne.symm na9) nin0)).other W194 (Or.inr (sn86 hw)))
 have f198 := (f190.wr W194)
 obtain ⟨T199, h199, X199, e199, W199, st199⟩ := putF X194 hx hZ hown (host := "") (Or.inl (own_w hw 127 rfl)) Via.refl e194 f197 f198 (Or.inl (own_w hw 128 rfl)) (own_w hw 65 rfl) (ty := .int) (by decide) rfl rfl (g := (mkF m 123 lc31 [(.int p3), (.ref a1)])) rfl rfl (hb hby d14_123)
 have K200 : Keep h0 h199 [a1, qo, aq, sh] := K195.wr W199 (Or.inl (List.mem_of_getElem? (i := 0) rfl))
 have N201 := Fr.snoc X199 N196 g_a1
 have Fw199 := f197.same W199
 have f202 := ((((((((((F_frequency_a1.other W15 (Or.inr (sn55 hw))).other W20 (Or.inr (sn87 hw))).other W26 (Or.inr (sn88 hw))).keep K39q (ninS (Ne.symm na8) (ninS (Ne.symm na6) nin0))).keep K74q (ninS (Ne.symm na8) (ninS na77 nin0))).keep K99q (ninS (Ne.symm na8) (ninS na102 nin0))).keep K140q (ninS (Ne.symm na8) (ninS na143 nin0))).keep K174q (ninS (Ne.symm na9) nin0)).other W194 (Or.inr (sn89 hw))).other W199 (Or.inr (sn87 hw)))
 obtain ⟨T203, X203, e203, st203⟩ := getF X199 hx hZ hown (host := "") (Or.inl (own_w hw 125 rfl)) Via.refl e199 f202 (g := (mkF m 128 lc31 [(.ref a1), (.ref a1)])) rfl rfl (hb hby d14_128)
 have f204 := (f198.wr W199)
 obtain ⟨T205, h205, X205, e205, W205, st205⟩ := putF X203 hx hZ hown (host := "") (Or.inl (own_w hw 125 rfl)) Via.refl e203 f202 f204 (Or.inl (own_w hw 126 rfl)) (own_w hw 65 rfl) (ty := .int) (by decide) rfl rfl (g := (mkF m 133 lc31 [(.int 1), (.ref a1)])) rfl rfl (hb hby d14_133)
 have K206 : Keep h0 h205 [a1, qo, aq, sh] := K200.wr W205 (Or.inl (List.mem_of_getElem? (i := 0) rfl))
 have N207 := Fr.snoc X205 N201 g_a1
 have Fw205 := f202.same W205
 have pre208 : ∀ t, Steps p.tables e below (T205.setTop (mkF m 138 lc31 [(.ref a1), (.ref a1)])) t → Steps p.tables e below (s₁.setTop (entryFrame m #[(.ref a1), (.int p2), (.int p3), (.int p4), (.ref tg)] 6)) t := fun t kt => by
  refine pre95 t ?_
  show oS T74 (mkF m 70 lc31 [])
  refine XS.aloadN X74.here hx rfl (hb hby d14_70) rfl rfl ?_
  show oS T74 (mkF m 71 lc31 [(.ref a1)])
  refine st97 _ ?_
  show oS T97 (mkF m 74 lc31 [(.ref qo)])
  refine XS.iloadN X97.here hx rfl (hb hby d14_74) rfl ?_
  show oS T97 (mkF m 75 lc31 [(.int p4), (.ref qo)])
  refine XS.i2l X97.here hx rfl (hb hby d14_75) rfl ?_
  show oS T97 (mkF m 76 lc31 [(.long (p4.toInt64)), (.ref qo)])
  refine st99.trans ?_
  show oS T99 (mkF m 79 lc31 [])
  refine XS.aloadN X99.here hx rfl (hb hby d14_79) rfl rfl ?_
  show oS T99 (mkF m 80 lc31 [(.ref a1)])
  refine st122 _ ?_
  show oS T122 (mkF m 83 lc31 [(.ref qo)])
  refine XS.aload X122.here hx rfl (hb hby d14_83) rfl rfl ?_
  show oS T122 (mkF m 85 lc31 [(.ref tg), (.ref qo)])
  refine XS.iloadN X122.here hx rfl (hb hby d14_85) rfl ?_
  show oS T122 (mkF m 86 lc31 [(.int p4), (.ref tg), (.ref qo)])
  refine st131.trans ?_
  show oS T131 (mkF m 91 lc31 [(.ref xo_131), (.ref qo)])
  refine st138 _ ?_
  show oS T138 (mkF m 94 lc31 [(.ref xo_131), (.ref qo)])
  refine st139.trans ?_
  show oS T139 (mkF m 97 lc31 [(.int ko_131), (.ref qo)])
  refine XS.i2l X139.here hx rfl (hb hby d14_97) rfl ?_
  show oS T139 (mkF m 98 lc31 [(.long (ko_131.toInt64)), (.ref qo)])
  refine st140.trans ?_
  show oS T140 (mkF m 101 lc31 [])
  refine XS.aloadN X140.here hx rfl (hb hby d14_101) rfl rfl ?_
  show oS T140 (mkF m 102 lc31 [(.ref a1)])
  refine XS.dup X140.here hx rfl (hb hby d14_102) rfl rfl ?_
  show oS T140 (mkF m 103 lc31 [(.ref a1), (.ref a1)])
  refine st156 _ ?_
  show oS T156 (mkF m 106 lc31 [(.long wn), (.ref a1)])
  refine XS.aload X156.here hx rfl (hb hby d14_106) rfl rfl ?_
  show oS T156 (mkF m 108 lc31 [(.ref tg), (.long wn), (.ref a1)])
  refine XS.iloadN X156.here hx rfl (hb hby d14_108) rfl ?_
  show oS T156 (mkF m 109 lc31 [(.int p4), (.ref tg), (.long wn), (.ref a1)])
  refine XS.aloadN X156.here hx rfl (hb hby d14_109) rfl rfl ?_
  show oS T156 (mkF m 110 lc31 [(.ref a1), (.int p4), (.ref tg), (.long wn), (.ref a1)])
  refine st158 _ ?_
  show oS T158 (mkF m 113 lc31 [(.ref sh), (.int p4), (.ref tg), (.long wn), (.ref a1)])
  refine st174 _ ?_
  show oS T174 (mkF m 116 lc31 [(.int 1), (.long wn), (.ref a1)])
  refine XS.i2l X174.here hx rfl (hb hby d14_116) rfl ?_
  show oS T174 (mkF m 117 lc31 [(.long ((1 : Int32).toInt64)), (.long wn), (.ref a1)])
  refine XS.ladd X174.here hx rfl (hb hby d14_117) rfl ?_
  show oS T174 (mkF m 118 lc31 [(.long (wn + ((1 : Int32).toInt64))), (.ref a1)])
  refine st194 _ ?_
  show oS T194 (mkF m 121 lc31 [])
  refine XS.aloadN X194.here hx rfl (hb hby d14_121) rfl rfl ?_
  show oS T194 (mkF m 122 lc31 [(.ref a1)])
  refine XS.iloadN X194.here hx rfl (hb hby d14_122) rfl ?_
  show oS T194 (mkF m 123 lc31 [(.int p3), (.ref a1)])
  refine st199 _ ?_
  show oS T199 (mkF m 126 lc31 [])
  refine XS.aloadN X199.here hx rfl (hb hby d14_126) rfl rfl ?_
  show oS T199 (mkF m 127 lc31 [(.ref a1)])
  refine XS.dup X199.here hx rfl (hb hby d14_127) rfl rfl ?_
  show oS T199 (mkF m 128 lc31 [(.ref a1), (.ref a1)])
  refine st203 _ ?_
  show oS T203 (mkF m 131 lc31 [(.int 0), (.ref a1)])
  refine XS.iconst X203.here hx rfl (hb hby d14_131) ?_
  show oS T203 (mkF m 132 lc31 [(.int 1), (.int 0), (.ref a1)])
  refine XS.iadd X203.here hx rfl (hb hby d14_132) rfl ?_
  show oS T203 (mkF m 133 lc31 [(.int 1), (.ref a1)])
  refine st205 _ ?_
  show oS T205 (mkF m 136 lc31 [])
  refine XS.aloadN X205.here hx rfl (hb hby d14_136) rfl rfl ?_
  show oS T205 (mkF m 137 lc31 [(.ref a1)])
  refine XS.dup X205.here hx rfl (hb hby d14_137) rfl rfl ?_
  exact kt
 have f209 := (((((((((((F_collectionFrequency_a1.other W15 (Or.inr (sn67 hw))).other W20 (Or.inr (sn90 hw))).other W26 (Or.inr (sn91 hw))).keep K39q (ninS (Ne.symm na8) (ninS (Ne.symm na6) nin0))).keep K74q (ninS (Ne.symm na8) (ninS na77 nin0))).keep K99q (ninS (Ne.symm na8) (ninS na102 nin0))).keep K140q (ninS (Ne.symm na8) (ninS na143 nin0))).keep K174q (ninS (Ne.symm na9) nin0)).other W194 (Or.inr (sn92 hw))).other W199 (Or.inr (sn90 hw))).other W205 (Or.inr (sn77 hw)))
 obtain ⟨T210, X210, e210, st210⟩ := getF X205 hx hZ hown (host := "") (Or.inl (own_w hw 219 rfl)) Via.refl e205 f209 (g := (mkF m 138 lc31 [(.ref a1), (.ref a1)])) rfl rfl (hb hby d14_138)
 have f211 := (f204.wr W205)
 obtain ⟨T212, h212, X212, e212, W212, st212⟩ := putF X210 hx hZ hown (host := "") (Or.inl (own_w hw 219 rfl)) Via.refl e210 f209 f211 (Or.inl (own_w hw 220 rfl)) (own_w hw 65 rfl) (ty := .long) (by decide) rfl rfl (g := (mkF m 143 lc31 [(.long (cf + (1 : Int64))), (.ref a1)])) rfl rfl (hb hby d14_143)
 have K213 : Keep h0 h212 [a1, qo, aq, sh] := K206.wr W212 (Or.inl (List.mem_of_getElem? (i := 0) rfl))
 have N214 := Fr.snoc X212 N207 g_a1
 have Fw212 := f209.same W212
 have f215 := (f211.wr W212)
 have f216 := ((((((((((((F_postings_a1.other W15 (Or.inr (sn27 hw))).other W20 (Or.inr (sn93 hw))).other W26 (Or.inr (sn94 hw))).keep K39q (ninS (Ne.symm na8) (ninS (Ne.symm na6) nin0))).keep K74q (ninS (Ne.symm na8) (ninS na77 nin0))).keep K99q (ninS (Ne.symm na8) (ninS na102 nin0))).keep K140q (ninS (Ne.symm na8) (ninS na143 nin0))).keep K174q (ninS (Ne.symm na9) nin0)).other W194 (Or.inr (sn95 hw))).other W199 (Or.inr (sn93 hw))).other W205 (Or.inr (sn68 hw))).other W212 (Or.inr (sn96 hw)))
 have f217 := ((((((f121.keep K140q (ninS (Ne.symm na8) (ninS na143 nin0))).keep K174q (ninS (Ne.symm na9) nin0)).other W194 (Or.inr (sn97 hw))).other W199 (Or.inr (sn80 hw))).other W205 (Or.inr (sn69 hw))).other W212 (Or.inr (sn98 hw)))
 have f218 := (((((f157.keep K174q (ninS (Ne.symm na9) nin0)).other W194 (Or.inr (sn99 hw))).other W199 (Or.inr (sn84 hw))).other W205 (Or.inr (sn70 hw))).other W212 (Or.inr (sn100 hw)))
 have f219 := ((((((((((((F_firstDocument_a1.other W15 (Or.inr (sn36 hw))).other W20 (Or.inr (sn101 hw))).other W26 (Or.inr (sn102 hw))).keep K39q (ninS (Ne.symm na8) (ninS (Ne.symm na6) nin0))).keep K74q (ninS (Ne.symm na8) (ninS na77 nin0))).keep K99q (ninS (Ne.symm na8) (ninS na102 nin0))).keep K140q (ninS (Ne.symm na8) (ninS na143 nin0))).keep K174q (ninS (Ne.symm na9) nin0)).other W194 (Or.inr (sn103 hw))).other W199 (Or.inr (sn101 hw))).other W205 (Or.inr (sn71 hw))).other W212 (Or.inr (sn104 hw)))
 have f220 := ((((((((((((F_lastDocument_a1.other W15 (Or.inr (sn37 hw))).other W20 (Or.inr (sn105 hw))).other W26 (Or.inr (sn106 hw))).keep K39q (ninS (Ne.symm na8) (ninS (Ne.symm na6) nin0))).keep K74q (ninS (Ne.symm na8) (ninS na77 nin0))).keep K99q (ninS (Ne.symm na8) (ninS na102 nin0))).keep K140q (ninS (Ne.symm na8) (ninS na143 nin0))).keep K174q (ninS (Ne.symm na9) nin0)).other W194 (Or.inr (sn107 hw))).other W199 (Or.inr (sn105 hw))).other W205 (Or.inr (sn72 hw))).other W212 (Or.inr (sn108 hw)))
 have f221 := (((((((((((Fw15.other W20 (Or.inr (sn109 hw))).other W26 (Or.inr (sn110 hw))).keep K39q (ninS (Ne.symm na8) (ninS (Ne.symm na6) nin0))).keep K74q (ninS (Ne.symm na8) (ninS na77 nin0))).keep K99q (ninS (Ne.symm na8) (ninS na102 nin0))).keep K140q (ninS (Ne.symm na8) (ninS na143 nin0))).keep K174q (ninS (Ne.symm na9) nin0)).other W194 (Or.inr (sn111 hw))).other W199 (Or.inr (sn109 hw))).other W205 (Or.inr (sn73 hw))).other W212 (Or.inr (sn112 hw)))
 have f222 := ((Fw199.other W205 (Or.inr (sn74 hw))).other W212 (Or.inr (sn113 hw)))
 have f223 := (((((((((Fw26.keep K39q (ninS (Ne.symm na8) (ninS (Ne.symm na6) nin0))).keep K74q (ninS (Ne.symm na8) (ninS na77 nin0))).keep K99q (ninS (Ne.symm na8) (ninS na102 nin0))).keep K140q (ninS (Ne.symm na8) (ninS na143 nin0))).keep K174q (ninS (Ne.symm na9) nin0)).other W194 (Or.inr (sn114 hw))).other W199 (Or.inr (sn78 hw))).other W205 (Or.inr (sn75 hw))).other W212 (Or.inr (sn115 hw)))
 have f224 := (Fw205.other W212 (Or.inr (sn116 hw)))
 have f225 := (((Fw194.other W199 (Or.inr (sn82 hw))).other W205 (Or.inr (sn76 hw))).other W212 (Or.inr (sn117 hw)))
 have f226 := (((((t140_0.keep K174q).wr W194).wr W199).wr W205).wr W212)
 have f227 := (((((t140_1.keep K174q (ninS (Ne.symm na45) nin0)).other W194 (Or.inl na8)).other W199 (Or.inl na8)).other W205 (Or.inl na8)).other W212 (Or.inl na8))
 have f228 := (((((t140_2.keep K174q (ninS (Ne.symm na45) nin0)).other W194 (Or.inl na8)).other W199 (Or.inl na8)).other W205 (Or.inl na8)).other W212 (Or.inl na8))
 have f229 := ((((f191.other W194 na192).other W199 na192).other W205 na192).other W212 na192)
 have f230 := ((((t174_0.other W194 na9).other W199 na9).other W205 na9).other W212 na9)
 obtain ⟨fs, hr, hrun, hended, hW, hsame⟩ := X212.leave (v := none) (fun _ => rfl)
 refine ⟨_, _, pre208 _ ?_, hrun, hended, _, _, rfl, ?_, ⟨_, rfl⟩, hW, hsame.mono (by decide) (by decide)⟩
 ·show oS T205 (mkF m 138 lc31 [(.ref a1), (.ref a1)])
  refine st210 _ ?_
  show oS T210 (mkF m 141 lc31 [(.long cf), (.ref a1)])
  refine XS.lconst X210.here hx rfl (hb hby d14_141) ?_
  show oS T210 (mkF m 142 lc31 [(.long 1), (.long cf), (.ref a1)])
  refine XS.ladd X210.here hx rfl (hb hby d14_142) rfl ?_
  show oS T210 (mkF m 143 lc31 [(.long (cf + (1 : Int64))), (.ref a1)])
  refine st212 _ ?_
  show oS T212 (mkF m 146 lc31 [])
  exact X212.returnOut hx Bd.returns (hb hby d14_146) hr
 ·show Q_rmAdd_first_pos Z a1 p2 p3 p4 tg u_firstDocument u_lastDocument u_sentence po qo ap aq sh kp kq ks vp vq df wn cf f ln n1 y0 y1 y2 y3 a3 x1 x2 kr wNo wOt h0 n0 _ T212.heap _
  rw [e212]
  exact ⟨r_140, kr_140, vr_140, rfl, N214, K213, f215, f216, f217, f218, f219, f220, f221, f222, f223, f224, f225, Fw212, f226, f227, f228, f229, t140_4, nb153, f230, t140_5, (Or.inl cQ4), (by omega), ho154⟩
theorem ef_rmAdd_new_pos (m : MethodId) (a1 : Addr) (p2 : Int32) (p3 : Int32) (p4 : Int32) (tg : Addr) : entryFrame m #[(.ref a1), (.int p2), (.int p3), (.int p4), (.ref tg)] 6 = mkF m 0 #[.val (.ref a1), .val (.int p2), .val (.int p3), .val (.int p4), .val (.ref tg), .unset] [] := by first | (simp [entryFrame, mkF, argsToLocals, Value.category]; done) | rfl
def Q_rmAdd_new_pos (Z : State) (a1 : Addr) (p2 : Int32) (p3 : Int32) (p4 : Int32) (tg : Addr) (u_firstDocument : Value) (po : Addr) (qo : Addr) (ap : Addr) (aq : Addr) (sh : Addr) (kp : ClassId) (kq : ClassId) (ks : ClassId) (vp : List Value) (vq : List Value) (df : Int32) (wn : Int64) (cf : Int64) (f : Nat) (ln : Int32) (nn : Int32) (sz : Int32) (dc : Int32) (sn : Int32) (y0 : Int64) (y1 : Int64) (y2 : Int64) (y3 : Int64) (a3 : Addr) (x1 : Addr) (x2 : Addr) (kr : ClassId) (wNo : Addr) (wOt : Addr) (h0 : Heap) (n0 : Nat) (v : Option Value) (h : Heap) (L : List Loc) : Prop := ∃ rp : Addr, ∃ kp2 : ClassId, ∃ vp2 : List Value, ∃ rq : Addr, ∃ kq2 : ClassId, ∃ vq2 : List Value, v = none ∧ Fr n0 L ∧ Keep h0 h [a1, po, ap, qo, aq, sh] ∧ Exa Z h a1 nm0 ∧ Fld Z h a1 nm0 "postings" nm2 (.ref po) ∧ Fld Z h a1 nm0 "positions" nm2 (.ref qo) ∧ Fld Z h a1 nm0 "shares" "[J" (.ref sh) ∧ Fld Z h a1 nm0 nm19 "I" (.int dc) ∧ Fld Z h a1 nm0 "lastDocument" "I" (.int dc) ∧ Fld Z h a1 nm0 "document" "I" (.int p2) ∧ Fld Z h a1 nm0 "sentence" "I" (.int p3) ∧ Fld Z h a1 nm0 nm13 "I" (.int (df + (1 : Int32))) ∧ Fld Z h a1 nm0 "frequency" "I" (.int 1) ∧ Fld Z h a1 nm0 "windows" "J" (.long (wn + ((1 : Int32).toInt64))) ∧ Fld Z h a1 nm0 nm11 "J" (.long (cf + (1 : Int64))) ∧ Exa Z h qo nm1 ∧ Fld Z h qo nm1 "bytes" "[B" (.ref rq) ∧ Fld Z h qo nm1 "size" "I" (.int ((((sz + ln) + (1 : Int32)) + (1 : Int32)) + (1 : Int32))) ∧ Arv Z h rq kq2 .byte (own_cap (own_cap (own_cap (own_cap nn sz) (sz + ln)) ((sz + ln) + (1 : Int32))) (((sz + ln) + (1 : Int32)) + (1 : Int32))) vq2 (.int 0) ∧ n0 ≤ rq ∧ rp ≠ rq ∧ Arv Z h sh ks .long (4 : Int32) [(.long (y0 + ((6 : Int32).toInt64))), (.long y1), (.long y2), (.long (y3 + ((6 : Int32).toInt64)))] (.long 0) ∧ Exa Z h po nm1 ∧ Fld Z h po nm1 "bytes" "[B" (.ref rp) ∧ Fld Z h po nm1 "size" "I" (.int 1) ∧ Arv Z h rp kp2 .byte (16 : Int32) vp2 (.int 0) ∧ n0 ≤ rp ∧ vp2.length = (16 : Int32).toNatClampNeg ∧ vq2.length = (own_cap (own_cap (own_cap (own_cap nn sz) (sz + ln)) ((sz + ln) + (1 : Int32))) (((sz + ln) + (1 : Int32)) + (1 : Int32))).toNatClampNeg ∧ ((own_cap (own_cap (own_cap (own_cap nn sz) (sz + ln)) ((sz + ln) + (1 : Int32))) (((sz + ln) + (1 : Int32)) + (1 : Int32))).toInt = 16 ∨ (own_cap (own_cap (own_cap (own_cap nn sz) (sz + ln)) ((sz + ln) + (1 : Int32))) (((sz + ln) + (1 : Int32)) + (1 : Int32))).toInt = 32) ∧ (rq = aq ∨ h0.size ≤ rq) ∧ (rp = ap ∨ h0.size ≤ rp)
set_option maxRecDepth 65536 in
set_option maxHeartbeats 40000000 in
theorem rmAdd_new_pos (l : Launch) (Z : State) (a0 : Array Value) (hw : own_Hw Z a0) (ws : List Jvm.Cond) (a1 : Addr) (p2 : Int32) (p3 : Int32) (p4 : Int32) (tg : Addr) (u_firstDocument : Value) (po : Addr) (qo : Addr) (ap : Addr) (aq : Addr) (sh : Addr) (kp : ClassId) (kq : ClassId) (ks : ClassId) (vp : List Value) (vq : List Value) (df : Int32) (wn : Int64) (cf : Int64) (f : Nat) (ln : Int32) (nn : Int32) (sz : Int32) (dc : Int32) (sn : Int32) (y0 : Int64) (y1 : Int64) (y2 : Int64) (y3 : Int64) (a3 : Addr) (x1 : Addr) (x2 : Addr) (kr : ClassId) (wNo : Addr) (wOt : Addr) (h0 : Heap) (n0 : Nat) (Z0 : n0 ≤ h0.size) (E_a1 : Exa Z h0 a1 nm0) (F_postings_a1 : Fld Z h0 a1 nm0 "postings" nm2 (.ref po)) (F_positions_a1 : Fld Z h0 a1 nm0 "positions" nm2 (.ref qo)) (F_shares_a1 : Fld Z h0 a1 nm0 "shares" "[J" (.ref sh)) (F_firstDocument_a1 : Fld Z h0 a1 nm0 nm19 "I" u_firstDocument) (F_lastDocument_a1 : Fld Z h0 a1 nm0 "lastDocument" "I" (.int (-1))) (F_document_a1 : Fld Z h0 a1 nm0 "document" "I" (.int dc)) (F_sentence_a1 : Fld Z h0 a1 nm0 "sentence" "I" (.int sn)) (F_documentFrequency_a1 : Fld Z h0 a1 nm0 nm13 "I" (.int df)) (F_frequency_a1 : Fld Z h0 a1 nm0 "frequency" "I" (.int 1)) (F_windows_a1 : Fld Z h0 a1 nm0 "windows" "J" (.long wn)) (F_collectionFrequency_a1 : Fld Z h0 a1 nm0 nm11 "J" (.long cf)) (g_a1 : n0 ≤ a1) (E_po : Exa Z h0 po nm1) (E_qo : Exa Z h0 qo nm1) (F_bytes_po : Fld Z h0 po nm1 "bytes" "[B" (.ref ap)) (F_bytes_qo : Fld Z h0 qo nm1 "bytes" "[B" (.ref aq)) (F_size_qo : Fld Z h0 qo nm1 "size" "I" (.int sz)) (V_ap : Arv Z h0 ap kp .byte (8 : Int32) vp (.int 0)) (V_aq : Arv Z h0 aq kq .byte nn vq (.int 0)) (g_po : n0 ≤ po) (g_qo : n0 ≤ qo) (g_ap : n0 ≤ ap) (g_aq : n0 ≤ aq) (g_sh : n0 ≤ sh) (ne_po_qo : po ≠ qo) (ne_ap_aq : ap ≠ aq) (V_sh : Arv Z h0 sh ks .long (4 : Int32) [(.long y0), (.long y1), (.long y2), (.long y3)] (.long 0)) (F_size_po : Fld Z h0 po nm1 "size" "I" (.int 0)) (E_tg : Exa Z h0 tg nm3) (F_size_tg : Fld Z h0 tg nm3 "size" "I" (.int 2)) (F_elementData_tg : Fld Z h0 tg nm3 nm18 nm9 (.ref a3)) (V_a3 : Arv Z h0 a3 kr (.object nm7) (10 : Int32) [(.ref x1), (.ref x2), .null, .null, .null, .null, .null, .null, .null, .null] .null) (E_x1 : Exa Z h0 x1 nm5) (E_x2 : Exa Z h0 x2 nm5) (F_ordinal_x1 : Fld Z h0 x1 nm8 "ordinal" "I" (.int 11)) (F_ordinal_x2 : Fld Z h0 x2 nm8 "ordinal" "I" (.int 44)) (lt_x1 : x1 < n0) (lt_x2 : x2 < n0) (S_NOUN : Sta Z h0 nm6 "NOUN" nm10 (.ref wNo)) (S_OTHER : Sta Z h0 nm6 "OTHER" nm10 (.ref wOt)) (E_wNo : Exa Z h0 wNo nm6) (E_wOt : Exa Z h0 wOt nm6) (F_ordinal_wNo : Fld Z h0 wNo nm8 "ordinal" "I" (.int 0)) (F_ordinal_wOt : Fld Z h0 wOt nm8 "ordinal" "I" (.int 3)) (lt_wNo : wNo < n0) (lt_wOt : wOt < n0) (hvq : vq.length = nn.toNatClampNeg) (hf : f ≤ 4) (hj : 0 ≤ ((p3 - (-1 : Int32)).toInt64).toInt) (hj2 : ((p3 - (-1 : Int32)).toInt64).toInt < 2 ^ (7 * (f + 1))) (hj3 : f ≠ 0 → 2 ^ (7 * f) ≤ ((p3 - (-1 : Int32)).toInt64).toInt) (hln : ln.toInt = f + 1) (hgap : (0 : Int32) < (p3 - (-1 : Int32))) (hp : p4 = (0 : Int32) ∨ p4 = (1 : Int32)) (hnn : nn.toInt = 16 ∨ nn.toInt = 32) (hsz : 0 ≤ sz.toInt ∧ sz.toInt ≤ 8) (hdoc : ¬ (p2 = dc)) (hvp : vp.length = (8 : Int32).toNatClampNeg) :
  MetFree l mn29 (head1 (Jvm.Cond.code mn29 cd16 6 none :: ws) ({ frames := 4, cells := 5, slots := 144, locals := 65 } : Room)) (fun a U => a = #[(.ref a1), (.int p2), (.int p3), (.int p4), (.ref tg)] ∧ Z.Warmed39 U.vm ∧ U.heap = h0) (fun _ _ _ _ _ => True) (fun _ U o U' => ∃ v L, o = .returned v ∧ Q_rmAdd_new_pos Z a1 p2 p3 p4 tg u_firstDocument po qo ap aq sh kp kq ks vp vq df wn cf f ln nn sz dc sn y0 y1 y2 y3 a3 x1 x2 kr wNo wOt h0 n0 v U'.heap L ∧ FrameEnd U o U' L ({ frames := 4, cells := 5, slots := 144, locals := 65 } : Room).cells ({ frames := 4, cells := 5, slots := 144, locals := 65 } : Room).slots) := by
 refine MetFree.of_bodySF (plainFor_of_name pn_com_example_morro_morro_index_TermPostings) hisR ?_
 intro p e s m args below meth c s₁ Bd hml0 hP hK
 obtain ⟨rfl, hZ, hh⟩ := hP
 have hx := Bd.exec
 have hby := Bd.bytes
 have hml : c.maxLocals = 6 := hml0
 have hown : s.vm.findClass nm0 = some m.cls := findClass_of_methodNamed Bd.named
 have hnm := (name_of_methodNamed Bd.named Bd.method).1
 have X0 : Stand p l e ({ frames := 4, cells := 5, slots := 144, locals := 65 } : Room) s m #[(.ref a1), (.int p2), (.int p3), (.int p4), (.ref tg)] below meth c s₁ [] 0 0 := Stand.of_body Bd
 have e0 : s₁.heap = h0 := by rw [← hh, Bd.state]; rfl
 have N0 := Fr.nil n0
 have pre0 : ∀ t, Steps p.tables e below (s₁.setTop (mkF m 0 #[.val (.ref a1), .val (.int p2), .val (.int p3), .val (.int p4), .val (.ref tg), .unset] [])) t → Steps p.tables e below (s₁.setTop (entryFrame m #[(.ref a1), (.int p2), (.int p3), (.int p4), (.ref tg)] 6)) t := fun t k => castTop (ef_rmAdd_new_pos m a1 p2 p3 p4 tg) k
 let lc1 : Array Slot := #[.val (.ref a1), .val (.int p2), .val (.int p3), .val (.int p4), .val (.ref tg), .unset]
 obtain ⟨T2, X2, e2, st2⟩ := getF X0 hx hZ hown (host := "") (Or.inl (own_w hw 107 rfl)) Via.refl e0 F_document_a1 (g := (mkF m 2 lc1 [(.ref a1), (.int p2)])) rfl rfl (hb hby d14_2)
 have na4 := (Exa.neArv E_a1 V_a3 (own_w hw 65 rfl)).symm
 have na5 := (Exa.neArv E_a1 V_ap (own_w hw 65 rfl)).symm
 have na6 := (Exa.neArv E_a1 V_aq (own_w hw 65 rfl)).symm
 have na7 := Exa.ne E_po E_a1 (by decide)
 have na8 := Exa.ne E_qo E_a1 (by decide)
 have na9 := (Exa.neArv E_a1 V_sh (own_w hw 65 rfl)).symm
 have na10 := Exa.ne E_tg E_a1 (by decide)
 have na11 := Nat.ne_of_lt (Nat.lt_of_lt_of_le lt_wNo g_a1)
 have na12 := Nat.ne_of_lt (Nat.lt_of_lt_of_le lt_wOt g_a1)
 have na13 := Nat.ne_of_lt (Nat.lt_of_lt_of_le lt_x1 g_a1)
 have na14 := Nat.ne_of_lt (Nat.lt_of_lt_of_le lt_x2 g_a1)
 have na15 := (Exa.neArv E_po V_a3 (own_w hw 72 rfl)).symm
 have na16 := (Exa.neArv E_po V_ap (own_w hw 72 rfl)).symm
 have na17 := (Exa.neArv E_po V_aq (own_w hw 72 rfl)).symm
 have na18 := (Exa.neArv E_po V_sh (own_w hw 72 rfl)).symm
 have na19 := Exa.ne E_tg E_po (by decide)
 have na20 := Nat.ne_of_lt (Nat.lt_of_lt_of_le lt_wNo g_po)
 have na21 := Nat.ne_of_lt (Nat.lt_of_lt_of_le lt_wOt g_po)
 have na22 := Nat.ne_of_lt (Nat.lt_of_lt_of_le lt_x1 g_po)
 have na23 := Nat.ne_of_lt (Nat.lt_of_lt_of_le lt_x2 g_po)
 have na24 := own_neVV V_a3 V_ap (by decide)
 have na25 := Exa.neArv E_qo V_ap (own_w hw 72 rfl)
 have na26 := own_neVV V_sh V_ap (by decide)
 have na27 := Exa.neArv E_tg V_ap (own_w hw 3 rfl)
 have na28 := Nat.ne_of_lt (Nat.lt_of_lt_of_le lt_wNo g_ap)
 have na29 := Nat.ne_of_lt (Nat.lt_of_lt_of_le lt_wOt g_ap)
 have na30 := Nat.ne_of_lt (Nat.lt_of_lt_of_le lt_x1 g_ap)
 have na31 := Nat.ne_of_lt (Nat.lt_of_lt_of_le lt_x2 g_ap)
 obtain ⟨cq3, kq3, q3a, q3b, q3c⟩ := isOf hZ e2 E_a1
 obtain ⟨_, _, ⟨T3, L3, k3, n3⟩, -, X3, ⟨Lc3, hQ3, l3, y3, z3⟩, st3⟩ := X2.virtualBack hx (y := mn28) (z := mn28) hown (mvT hZ (own_w hw 120 rfl)) (mvT hZ (own_w hw 121 rfl)) (notFace_of_selects (args := #[]) (mvT hZ (own_w hw 123 rfl))) (mvT hZ (own_w hw 123 rfl)) (mvT hZ (own_w hw 122 rfl)) (by decide) (backOf (W := 0) (rmFinA l Z a0 hw [] a1 (.ref qo) (.ref sh) u_firstDocument (.int sn) (.int df) (.long wn) (.long cf) po ap kp vp dc (1 : Int32) h0 n0 Z0 E_a1 F_postings_a1 F_positions_a1 F_shares_a1 F_firstDocument_a1 F_lastDocument_a1 F_document_a1 F_sentence_a1 F_documentFrequency_a1 F_frequency_a1 F_windows_a1 F_collectionFrequency_a1 g_a1 E_po F_bytes_po F_size_po V_ap g_po g_ap hvp (by decide)) hZ (own_w hw 124 rfl) (own_w hw 66 rfl) (by decide) (by decide)) q3a q3c (g := (mkF m 9 lc1 [(.ref a1)])) rfl (by rw [hml]; rfl) (Steps.refl _) (argsL := []) (rest := []) (lenOf pd__28_29V rfl) rfl (by show 2 * 0 + _ ≤ _; exact Nat.le_of_eq rfl) (hb hby d14_9) (fun _ _ => ⟨rfl, e2, (by decide : 0 + 1 ≤ _), (by decide : 0 + 16 ≤ _)⟩)
 dsimp only [Pt.U, Pt.locs, Pt.cells, Pt.slots] at y3 z3 st3 hQ3
 change Stand p l e _ s m _ below meth c T3 L3 k3 n3 at X3
 change L3 = _ ++ Lc3 at l3
 subst y3 z3
 obtain ⟨rp_3, kr_3, vr_3, rfl, N3q, K3q, t3_0, t3_1, t3_2, t3_3, t3_4, t3_5, t3_6, t3_7, t3_8, t3_9, t3_10, t3_11, t3_12, t3_13, t3_14, t3_15, t3_16, t3_17, t3_18⟩ := hQ3
 have N3 : Fr n0 L3 := l3 ▸ Fr.app N0 N3q
 have K3 : Keep h0 T3.heap [a1, po, ap, qo, aq, sh] := (Keep.refl h0 [a1, po, ap, qo, aq, sh]).trans K3q (allS (P := fun xz => xz ∈ [a1, po, ap, qo, aq, sh] ∨ h0.size ≤ xz) (Or.inl (List.mem_of_getElem? (i := 0) rfl)) (allS (P := fun xz => xz ∈ [a1, po, ap, qo, aq, sh] ∨ h0.size ≤ xz) (Or.inl (List.mem_of_getElem? (i := 1) rfl)) (allS (P := fun xz => xz ∈ [a1, po, ap, qo, aq, sh] ∨ h0.size ≤ xz) (Or.inl (List.mem_of_getElem? (i := 2) rfl)) all0)))
 have nb32 : aq ≠ rp_3 := own_neOr t3_18 (Ne.symm ne_ap_aq) V_aq.lt
 have na33 := (Exa.neArv t3_0 t3_15 (own_w hw 65 rfl)).symm
 obtain ⟨T34, h34, X34, e34, W34, st34⟩ := putF X3 hx hZ hown (host := "") (Or.inl (own_w hw 107 rfl)) Via.refl rfl t3_6 t3_0 (Or.inl (own_w hw 108 rfl)) (own_w hw 65 rfl) (ty := .int) (by decide) rfl rfl (g := (mkF m 14 lc1 [(.int p2), (.ref a1)])) rfl rfl (hb hby d14_14)
 have K35 : Keep h0 h34 [a1, po, ap, qo, aq, sh] := K3.wr W34 (Or.inl (List.mem_of_getElem? (i := 0) rfl))
 have N36 := Fr.snoc X34 N3 g_a1
 have Fw34 := t3_6.same W34
 have f37 := (t3_7.other W34 (Or.inr (sn43 hw)))
 have f38 := (t3_0.wr W34)
 obtain ⟨T39, h39, X39, e39, W39, st39⟩ := putF X34 hx hZ hown (host := "") (Or.inl (own_w hw 127 rfl)) Via.refl e34 f37 f38 (Or.inl (own_w hw 128 rfl)) (own_w hw 65 rfl) (ty := .int) (by decide) rfl rfl (g := (mkF m 19 lc1 [(.int (-1)), (.ref a1)])) rfl rfl (hb hby d14_19)
 have K40 : Keep h0 h39 [a1, po, ap, qo, aq, sh] := K35.wr W39 (Or.inl (List.mem_of_getElem? (i := 0) rfl))
 have N41 := Fr.snoc X39 N36 g_a1
 have Fw39 := f37.same W39
 have f42 := ((t3_8.other W34 (Or.inr (sn49 hw))).other W39 (Or.inr (sn78 hw)))
 obtain ⟨T43, X43, e43, st43⟩ := getF X39 hx hZ hown (host := "") (Or.inl (own_w hw 129 rfl)) Via.refl e39 f42 (g := (mkF m 24 lc1 [(.ref a1), (.ref a1)])) rfl rfl (hb hby d14_24)
 have f44 := (f38.wr W39)
 obtain ⟨T45, h45, X45, e45, W45, st45⟩ := putF X43 hx hZ hown (host := "") (Or.inl (own_w hw 129 rfl)) Via.refl e43 f42 f44 (Or.inl (own_w hw 130 rfl)) (own_w hw 65 rfl) (ty := .int) (by decide) rfl rfl (g := (mkF m 29 lc1 [(.int (df + (1 : Int32))), (.ref a1)])) rfl rfl (hb hby d14_29)
 have K46 : Keep h0 h45 [a1, po, ap, qo, aq, sh] := K40.wr W45 (Or.inl (List.mem_of_getElem? (i := 0) rfl))
 have N47 := Fr.snoc X45 N41 g_a1
 have Fw45 := f42.same W45
 have f48 := (Fw39.other W45 (Or.inr (sn79 hw)))
 obtain ⟨T49, X49, e49, st49⟩ := getF X45 hx hZ hown (host := "") (Or.inl (own_w hw 127 rfl)) Via.refl e45 f48 (g := (mkF m 34 lc1 [(.ref a1), (.int p3)])) rfl rfl (hb hby d14_34)
 let lc50 : Array Slot := #[.val (.ref a1), .val (.int p2), .val (.int p3), .val (.int p4), .val (.ref tg), .val (.int (p3 - (-1 : Int32)))]
 have f51 := (((t3_2.other W34 (Or.inr (sn31 hw))).other W39 (Or.inr (sn80 hw))).other W45 (Or.inr (sn81 hw)))
 obtain ⟨T52, X52, e52, st52⟩ := getF X49 hx hZ hown (host := "") (Or.inl (own_w hw 83 rfl)) Via.refl e49 f51 (g := (mkF m 41 lc50 [(.ref a1)])) rfl rfl (hb hby d14_41)
 have cS0 : 0 ≤ sz.toInt ∧ sz.toInt ≤ 16 := by omega
 have cN0 := hnn
 have hp4 : (p4.toInt64).toInt = p4.toInt := Jvm.Kit.i64_of_i32 p4
 have hp5 : 0 ≤ p4.toInt ∧ p4.toInt ≤ 1 := by rcases hp with rfl | rfl <;> decide
 have f53 := (((t3_15.other W34 na33).other W39 na33).other W45 na33)
 have f54 := ((((E_qo.keep K3q).wr W34).wr W39).wr W45)
 have f55 := ((((F_bytes_qo.keep K3q (ninS na8 (ninS (Ne.symm ne_po_qo) (ninS na25 nin0)))).other W34 (Or.inl na8)).other W39 (Or.inl na8)).other W45 (Or.inl na8))
 have f56 := ((((F_size_qo.keep K3q (ninS na8 (ninS (Ne.symm ne_po_qo) (ninS na25 nin0)))).other W34 (Or.inl na8)).other W39 (Or.inl na8)).other W45 (Or.inl na8))
 have f57 := ((((V_aq.keep K3q (ninS na6 (ninS na17 (ninS (Ne.symm ne_ap_aq) nin0)))).other W34 na6).other W39 na6).other W45 na6)
 have f59 := ((((V_a3.keep K3q (ninS na4 (ninS na15 (ninS na24 nin0)))).other W34 na4).other W39 na4).other W45 na4)
 have na60 := (Exa.neArv f54 f59 (own_w hw 72 rfl)).symm
 have na61 := (Exa.neArv f54 f57 (own_w hw 72 rfl)).symm
 have na62 := (Exa.neArv f54 f53 (own_w hw 72 rfl)).symm
 have f63 := ((((V_sh.keep K3q (ninS na9 (ninS na18 (ninS na26 nin0)))).other W34 na9).other W39 na9).other W45 na9)
 have na64 := (Exa.neArv f54 f63 (own_w hw 72 rfl)).symm
 have f65 := ((((E_tg.keep K3q).wr W34).wr W39).wr W45)
 have na66 := Exa.ne f65 f54 (by decide)
 have na67 := Nat.ne_of_lt (Nat.lt_of_lt_of_le lt_wNo g_qo)
 have na68 := Nat.ne_of_lt (Nat.lt_of_lt_of_le lt_wOt g_qo)
 have na69 := Nat.ne_of_lt (Nat.lt_of_lt_of_le lt_x1 g_qo)
 have na70 := Nat.ne_of_lt (Nat.lt_of_lt_of_le lt_x2 g_qo)
 have na71 := own_neVV f59 f57 (by decide)
 have na72 := own_neVV f63 f57 (by decide)
 have na73 := Exa.neArv f65 f57 (own_w hw 3 rfl)
 have na74 := Nat.ne_of_lt (Nat.lt_of_lt_of_le lt_wNo g_aq)
 have na75 := Nat.ne_of_lt (Nat.lt_of_lt_of_le lt_wOt g_aq)
 have na76 := Nat.ne_of_lt (Nat.lt_of_lt_of_le lt_x1 g_aq)
 have na77 := Nat.ne_of_lt (Nat.lt_of_lt_of_le lt_x2 g_aq)
 have f78 := (f44.wr W45)
 have f79 := (((t3_12.wr W34).wr W39).wr W45)
 have f80 := ((((E_wNo.keep K3q).wr W34).wr W39).wr W45)
 have f81 := ((((E_wOt.keep K3q).wr W34).wr W39).wr W45)
 have f82 := ((((E_x1.keep K3q).wr W34).wr W39).wr W45)
 have f83 := ((((E_x2.keep K3q).wr W34).wr W39).wr W45)
 obtain ⟨cq58, kq58, q58a, q58b, q58c⟩ := isOf hZ e52 f54
 obtain ⟨_, _, ⟨T58, L58, k58, n58⟩, -, X58, ⟨Lc58, hQ58, l58, y58, z58⟩, st58⟩ := X52.virtualBack hx (y := mn24) (z := mn24) hown (mvT hZ (own_w hw 131 rfl)) (mvT hZ (own_w hw 132 rfl)) (notFace_of_selects (args := #[]) (mvT hZ (own_w hw 134 rfl))) (mvT hZ (own_w hw 134 rfl)) (mvT hZ (own_w hw 133 rfl)) (by decide) (backOf (W := 0) (rmEnB l Z a0 hw [] qo ((p3 - (-1 : Int32)).toInt64) sz nn aq kq vq f ln h45 n0 (Nat.le_trans Z0 K46.1) f54 f55 f56 f57 g_qo g_aq hvq (by omega) cS0 (by omega) hj hj2 hj3 hln (by have := own_c1 cN0 cS0; omega)) hZ (own_w hw 135 rfl) (own_w hw 73 rfl) (by decide) (by decide)) q58a q58c (g := (mkF m 47 lc50 [(.long ((p3 - (-1 : Int32)).toInt64)), (.ref qo)])) rfl (by rw [hml]; rfl) (Steps.refl _) (argsL := [(.long ((p3 - (-1 : Int32)).toInt64))]) (rest := []) (lenOf pd__28J_29V rfl) rfl (by show 2 * 0 + _ ≤ _; exact Nat.le_of_eq rfl) (hb hby d14_47) (fun _ _ => ⟨rfl, e52, (by decide : 1 + 1 ≤ _), (by decide : 16 + 32 ≤ _)⟩)
 dsimp only [Pt.U, Pt.locs, Pt.cells, Pt.slots] at y58 z58 st58 hQ58
 change Stand p l e _ s m _ below meth c T58 L58 k58 n58 at X58
 change L58 = _ ++ Lc58 at l58
 subst y58 z58
 obtain ⟨r_58, kr_58, vr_58, rfl, N58q, K58q, t58_0, t58_1, t58_2, t58_3, t58_4, t58_5, t58_6⟩ := hQ58
 have N58 : Fr n0 L58 := l58 ▸ Fr.app N47 N58q
 have K58 : Keep h0 T58.heap [a1, po, ap, qo, aq, sh] := K46.trans K58q (allS (P := fun xz => xz ∈ [a1, po, ap, qo, aq, sh] ∨ h0.size ≤ xz) (Or.inl (List.mem_of_getElem? (i := 3) rfl)) (allS (P := fun xz => xz ∈ [a1, po, ap, qo, aq, sh] ∨ h0.size ≤ xz) (Or.inl (List.mem_of_getElem? (i := 4) rfl)) all0))
 have nb84 : rp_3 ≠ r_58 := own_neOr t58_6 (Ne.symm nb32) f53.lt
 have ho85 : r_58 = aq ∨ h0.size ≤ r_58 := own_hor t58_6 (Or.inl rfl) K46.1
 have cA1 : (sz + ln).toInt = sz.toInt + f + 1 := own_add cS0 hln (by omega)
 have cS1 : 0 ≤ (sz + ln).toInt ∧ (sz + ln).toInt ≤ 16 := by omega
 have cN1 := own_c1 cN0 cS0
 have f86 := (f51.keep K58q (ninS (Ne.symm na8) (ninS (Ne.symm na6) nin0)))
 obtain ⟨T87, X87, e87, st87⟩ := getF X58 hx hZ hown (host := "") (Or.inl (own_w hw 83 rfl)) Via.refl rfl f86 (g := (mkF m 56 lc50 [(.ref a1)])) rfl rfl (hb hby d14_56)
 have f88 := (((((F_size_tg.keep K3q (ninS na10 (ninS na19 (ninS na27 nin0)))).other W34 (Or.inl na10)).other W39 (Or.inl na10)).other W45 (Or.inl na10)).keep K58q (ninS na66 (ninS na73 nin0)))
 have f90 := (f65.keep K58q)
 obtain ⟨cq89, kq89, q89a, q89b, q89c⟩ := isOf hZ e87 f90
 obtain ⟨_, _, ⟨T89, L89, k89, n89⟩, -, X89, ⟨Lc89, hQ89, l89, y89, z89⟩, st89⟩ := X87.interfaceBack hx (xi := mn18) (y := mn8) hown (mvT hZ (own_w hw 88 rfl)) (mvT hZ (own_w hw 89 rfl)) (mvT hZ (own_w hw 90 rfl)) (mvT hZ (own_w hw 155 rfl)) (mvT hZ (own_w hw 156 rfl)) (mvT hZ (own_w hw 157 rfl)) (mvT hZ (own_w hw 158 rfl)) (mvT hZ (own_w hw 159 rfl)) (by decide) (backOf (W := 1) (rm20 l Z a0 hw [] tg (2 : Int32) T58.heap n0 (Nat.le_trans Z0 K58.1) f88) hZ (own_w hw 160 rfl) (own_w hw 4 rfl) (by decide) (by decide)) q89a q89b q89c (g := (mkF m 61 lc50 [(.ref tg), (.ref qo)])) rfl (by rw [hml]; rfl) (Steps.refl _) (argsL := []) (rest := [(.ref qo)]) (lenOf pd__28_29I rfl) rfl (by show 2 * 0 + _ ≤ _; exact Nat.le_of_eq rfl) (hb hby d14_61) (fun _ _ => ⟨rfl, e87, (by decide : 2 + 0 ≤ _), (by decide : 48 + 0 ≤ _)⟩)
 dsimp only [Pt.U, Pt.locs, Pt.cells, Pt.slots] at y89 z89 st89 hQ89
 change Stand p l e _ s m _ below meth c T89 L89 k89 n89 at X89
 change L89 = _ ++ Lc89 at l89
 subst y89 z89
 obtain ⟨rfl, N89q, e89⟩ := hQ89
 have N89 : Fr n0 L89 := l89 ▸ Fr.app N58 N89q
 have f91 := (f53.keep K58q (ninS na62 (ninS (Ne.symm nb32) nin0)))
 have na93 := (Exa.neArv t58_0 t58_3 (own_w hw 72 rfl)).symm
 have f94 := (f78.keep K58q)
 have na95 := Exa.neArv f94 t58_3 (own_w hw 65 rfl)
 have f96 := (f59.keep K58q (ninS na60 (ninS na71 nin0)))
 have na97 := own_neVV f96 t58_3 (by decide)
 have f98 := (f79.keep K58q)
 have na99 := Exa.neArv f98 t58_3 (own_w hw 72 rfl)
 have f100 := (f63.keep K58q (ninS na64 (ninS na72 nin0)))
 have na101 := own_neVV f100 t58_3 (by decide)
 have na102 := Exa.neArv f90 t58_3 (own_w hw 3 rfl)
 have na103 := Nat.ne_of_lt (Nat.lt_of_lt_of_le lt_wNo t58_4)
 have na104 := Nat.ne_of_lt (Nat.lt_of_lt_of_le lt_wOt t58_4)
 have na105 := Nat.ne_of_lt (Nat.lt_of_lt_of_le lt_x1 t58_4)
 have na106 := Nat.ne_of_lt (Nat.lt_of_lt_of_le lt_x2 t58_4)
 have f107 := (f80.keep K58q)
 have f108 := (f81.keep K58q)
 have f109 := (f82.keep K58q)
 have f110 := (f83.keep K58q)
 obtain ⟨cq92, kq92, q92a, q92b, q92c⟩ := isOf hZ e89 t58_0
 obtain ⟨_, _, ⟨T92, L92, k92, n92⟩, -, X92, ⟨Lc92, hQ92, l92, y92, z92⟩, st92⟩ := X89.virtualBack hx (y := mn24) (z := mn24) hown (mvT hZ (own_w hw 131 rfl)) (mvT hZ (own_w hw 132 rfl)) (notFace_of_selects (args := #[]) (mvT hZ (own_w hw 134 rfl))) (mvT hZ (own_w hw 134 rfl)) (mvT hZ (own_w hw 133 rfl)) (by decide) (backOf (W := 0) (rmEnB l Z a0 hw [] qo ((2 : Int32).toInt64) (sz + ln) (own_cap nn sz) r_58 kr_58 vr_58 0 (1 : Int32) T58.heap n0 (Nat.le_trans Z0 K58.1) t58_0 t58_1 t58_2 t58_3 g_qo t58_4 t58_5 (by omega) cS1 (by decide) (by decide) (by decide) (own_f0 _) own_1 (by have := own_c1 cN1 cS1; omega)) hZ (own_w hw 135 rfl) (own_w hw 73 rfl) (by decide) (by decide)) q92a q92c (g := (mkF m 67 lc50 [(.long ((2 : Int32).toInt64)), (.ref qo)])) rfl (by rw [hml]; rfl) (Steps.refl _) (argsL := [(.long ((2 : Int32).toInt64))]) (rest := []) (lenOf pd__28J_29V rfl) rfl (by show 2 * 0 + _ ≤ _; exact Nat.le_of_eq rfl) (hb hby d14_67) (fun _ _ => ⟨rfl, e89, (by decide : 2 + 1 ≤ _), (by decide : 48 + 32 ≤ _)⟩)
 dsimp only [Pt.U, Pt.locs, Pt.cells, Pt.slots] at y92 z92 st92 hQ92
 change Stand p l e _ s m _ below meth c T92 L92 k92 n92 at X92
 change L92 = _ ++ Lc92 at l92
 subst y92 z92
 obtain ⟨r_92, kr_92, vr_92, rfl, N92q, K92q, t92_0, t92_1, t92_2, t92_3, t92_4, t92_5, t92_6⟩ := hQ92
 have N92 : Fr n0 L92 := l92 ▸ Fr.app N89 N92q
 have K92 : Keep h0 T92.heap [a1, po, ap, qo, aq, sh] := K58.trans K92q (allS (P := fun xz => xz ∈ [a1, po, ap, qo, aq, sh] ∨ h0.size ≤ xz) (Or.inl (List.mem_of_getElem? (i := 3) rfl)) (allS (P := fun xz => xz ∈ [a1, po, ap, qo, aq, sh] ∨ h0.size ≤ xz) (own_kor ho85 (List.mem_of_getElem? (i := 4) rfl)) all0))
 have nb111 : rp_3 ≠ r_92 := own_neOr t92_6 nb84 f91.lt
 have ho112 : r_92 = aq ∨ h0.size ≤ r_92 := own_hor t92_6 ho85 K58.1
 have cA2 : ((sz + ln) + (1 : Int32)).toInt = (sz + ln).toInt + ((0 : Nat) : Int) + 1 := own_add cS1 own_1 (by omega)
 have cS2 : 0 ≤ ((sz + ln) + (1 : Int32)).toInt ∧ ((sz + ln) + (1 : Int32)).toInt ≤ 16 := by omega
 have cN2 := own_c1 cN1 cS1
 have pre113 : ∀ t, Steps p.tables e below (T92.setTop (mkF m 70 lc50 [])) t → Steps p.tables e below (s₁.setTop (entryFrame m #[(.ref a1), (.int p2), (.int p3), (.int p4), (.ref tg)] 6)) t := fun t kt => by
  refine pre0 t ?_
  show oS s₁ (mkF m 0 lc1 [])
  refine XS.iloadN X0.here hx rfl (hb hby d14_0) rfl ?_
  show oS s₁ (mkF m 1 lc1 [(.int p2)])
  refine XS.aloadN X0.here hx rfl (hb hby d14_1) rfl rfl ?_
  show oS s₁ (mkF m 2 lc1 [(.ref a1), (.int p2)])
  refine st2 _ ?_
  show oS T2 (mkF m 5 lc1 [(.int dc), (.int p2)])
  refine XS.icmpNo X2.here hx rfl (hb hby d14_5) rfl (feq hdoc).1 ?_
  show oS T2 (mkF m 8 lc1 [])
  refine XS.aloadN X2.here hx rfl (hb hby d14_8) rfl rfl ?_
  show oS T2 (mkF m 9 lc1 [(.ref a1)])
  refine st3.trans ?_
  show oS T3 (mkF m 12 lc1 [])
  refine XS.aloadN X3.here hx rfl (hb hby d14_12) rfl rfl ?_
  show oS T3 (mkF m 13 lc1 [(.ref a1)])
  refine XS.iloadN X3.here hx rfl (hb hby d14_13) rfl ?_
  show oS T3 (mkF m 14 lc1 [(.int p2), (.ref a1)])
  refine st34 _ ?_
  show oS T34 (mkF m 17 lc1 [])
  refine XS.aloadN X34.here hx rfl (hb hby d14_17) rfl rfl ?_
  show oS T34 (mkF m 18 lc1 [(.ref a1)])
  refine XS.iconst X34.here hx rfl (hb hby d14_18) ?_
  show oS T34 (mkF m 19 lc1 [(.int (-1)), (.ref a1)])
  refine st39 _ ?_
  show oS T39 (mkF m 22 lc1 [])
  refine XS.aloadN X39.here hx rfl (hb hby d14_22) rfl rfl ?_
  show oS T39 (mkF m 23 lc1 [(.ref a1)])
  refine XS.dup X39.here hx rfl (hb hby d14_23) rfl rfl ?_
  show oS T39 (mkF m 24 lc1 [(.ref a1), (.ref a1)])
  refine st43 _ ?_
  show oS T43 (mkF m 27 lc1 [(.int df), (.ref a1)])
  refine XS.iconst X43.here hx rfl (hb hby d14_27) ?_
  show oS T43 (mkF m 28 lc1 [(.int 1), (.int df), (.ref a1)])
  refine XS.iadd X43.here hx rfl (hb hby d14_28) rfl ?_
  show oS T43 (mkF m 29 lc1 [(.int (df + (1 : Int32))), (.ref a1)])
  refine st45 _ ?_
  show oS T45 (mkF m 32 lc1 [])
  refine XS.iloadN X45.here hx rfl (hb hby d14_32) rfl ?_
  show oS T45 (mkF m 33 lc1 [(.int p3)])
  refine XS.aloadN X45.here hx rfl (hb hby d14_33) rfl rfl ?_
  show oS T45 (mkF m 34 lc1 [(.ref a1), (.int p3)])
  refine st49 _ ?_
  show oS T49 (mkF m 37 lc1 [(.int (-1)), (.int p3)])
  refine XS.isub X49.here hx rfl (hb hby d14_37) rfl ?_
  show oS T49 (mkF m 38 lc1 [(.int (p3 - (-1 : Int32)))])
  refine XS.istore X49.here hx rfl (hb hby d14_38) rfl (l' := lc50) rfl ?_
  show oS T49 (mkF m 40 lc50 [])
  refine XS.aloadN X49.here hx rfl (hb hby d14_40) rfl rfl ?_
  show oS T49 (mkF m 41 lc50 [(.ref a1)])
  refine st52 _ ?_
  show oS T52 (mkF m 44 lc50 [(.ref qo)])
  refine XS.iload X52.here hx rfl (hb hby d14_44) rfl ?_
  show oS T52 (mkF m 46 lc50 [(.int (p3 - (-1 : Int32))), (.ref qo)])
  refine XS.i2l X52.here hx rfl (hb hby d14_46) rfl ?_
  show oS T52 (mkF m 47 lc50 [(.long ((p3 - (-1 : Int32)).toInt64)), (.ref qo)])
  refine st58.trans ?_
  show oS T58 (mkF m 50 lc50 [])
  refine XS.iload X58.here hx rfl (hb hby d14_50) rfl ?_
  show oS T58 (mkF m 52 lc50 [(.int (p3 - (-1 : Int32)))])
  refine XS.ifNo X58.here hx rfl (hb hby d14_52) rfl ((if0 _ _).trans (tlt hgap).2.2.2) ?_
  show oS T58 (mkF m 55 lc50 [])
  refine XS.aloadN X58.here hx rfl (hb hby d14_55) rfl rfl ?_
  show oS T58 (mkF m 56 lc50 [(.ref a1)])
  refine st87 _ ?_
  show oS T87 (mkF m 59 lc50 [(.ref qo)])
  refine XS.aload X87.here hx rfl (hb hby d14_59) rfl rfl ?_
  show oS T87 (mkF m 61 lc50 [(.ref tg), (.ref qo)])
  refine st89.trans ?_
  show oS T89 (mkF m 66 lc50 [(.int 2), (.ref qo)])
  refine XS.i2l X89.here hx rfl (hb hby d14_66) rfl ?_
  show oS T89 (mkF m 67 lc50 [(.long ((2 : Int32).toInt64)), (.ref qo)])
  refine st92.trans ?_
  exact kt
 have f114 := (f86.keep K92q (ninS (Ne.symm na8) (ninS na95 nin0)))
 obtain ⟨T115, X115, e115, st115⟩ := getF X92 hx hZ hown (host := "") (Or.inl (own_w hw 83 rfl)) Via.refl rfl f114 (g := (mkF m 71 lc50 [(.ref a1)])) rfl rfl (hb hby d14_71)
 have f116 := (f91.keep K92q (ninS na62 (ninS nb84 nin0)))
 have na118 := (Exa.neArv t92_0 t92_3 (own_w hw 72 rfl)).symm
 have f119 := (f94.keep K92q)
 have na120 := Exa.neArv f119 t92_3 (own_w hw 65 rfl)
 have f121 := (f96.keep K92q (ninS na60 (ninS na97 nin0)))
 have na122 := own_neVV f121 t92_3 (by decide)
 have f123 := (f98.keep K92q)
 have na124 := Exa.neArv f123 t92_3 (own_w hw 72 rfl)
 have f125 := (f100.keep K92q (ninS na64 (ninS na101 nin0)))
 have na126 := own_neVV f125 t92_3 (by decide)
 have f127 := (f90.keep K92q)
 have na128 := Exa.neArv f127 t92_3 (own_w hw 3 rfl)
 have na129 := Nat.ne_of_lt (Nat.lt_of_lt_of_le lt_wNo t92_4)
 have na130 := Nat.ne_of_lt (Nat.lt_of_lt_of_le lt_wOt t92_4)
 have na131 := Nat.ne_of_lt (Nat.lt_of_lt_of_le lt_x1 t92_4)
 have na132 := Nat.ne_of_lt (Nat.lt_of_lt_of_le lt_x2 t92_4)
 have f133 := (f107.keep K92q)
 have f134 := (f108.keep K92q)
 have f135 := (f109.keep K92q)
 have f136 := (f110.keep K92q)
 obtain ⟨cq117, kq117, q117a, q117b, q117c⟩ := isOf hZ e115 t92_0
 obtain ⟨_, _, ⟨T117, L117, k117, n117⟩, -, X117, ⟨Lc117, hQ117, l117, y117, z117⟩, st117⟩ := X115.virtualBack hx (y := mn24) (z := mn24) hown (mvT hZ (own_w hw 131 rfl)) (mvT hZ (own_w hw 132 rfl)) (notFace_of_selects (args := #[]) (mvT hZ (own_w hw 134 rfl))) (mvT hZ (own_w hw 134 rfl)) (mvT hZ (own_w hw 133 rfl)) (by decide) (backOf (W := 0) (rmEnB l Z a0 hw [] qo (p4.toInt64) ((sz + ln) + (1 : Int32)) (own_cap (own_cap nn sz) (sz + ln)) r_92 kr_92 vr_92 0 (1 : Int32) T92.heap n0 (Nat.le_trans Z0 K92.1) t92_0 t92_1 t92_2 t92_3 g_qo t92_4 t92_5 (by omega) cS2 (by decide) (by rw [hp4]; omega) (by show (p4.toInt64).toInt < 128; rw [hp4]; omega) (own_f0 _) own_1 (by have := own_c1 cN2 cS2; omega)) hZ (own_w hw 135 rfl) (own_w hw 73 rfl) (by decide) (by decide)) q117a q117c (g := (mkF m 76 lc50 [(.long (p4.toInt64)), (.ref qo)])) rfl (by rw [hml]; rfl) (Steps.refl _) (argsL := [(.long (p4.toInt64))]) (rest := []) (lenOf pd__28J_29V rfl) rfl (by show 2 * 0 + _ ≤ _; exact Nat.le_of_eq rfl) (hb hby d14_76) (fun _ _ => ⟨rfl, e115, (by decide : 3 + 1 ≤ _), (by decide : 80 + 32 ≤ _)⟩)
 dsimp only [Pt.U, Pt.locs, Pt.cells, Pt.slots] at y117 z117 st117 hQ117
 change Stand p l e _ s m _ below meth c T117 L117 k117 n117 at X117
 change L117 = _ ++ Lc117 at l117
 subst y117 z117
 obtain ⟨r_117, kr_117, vr_117, rfl, N117q, K117q, t117_0, t117_1, t117_2, t117_3, t117_4, t117_5, t117_6⟩ := hQ117
 have N117 : Fr n0 L117 := l117 ▸ Fr.app N92 N117q
 have K117 : Keep h0 T117.heap [a1, po, ap, qo, aq, sh] := K92.trans K117q (allS (P := fun xz => xz ∈ [a1, po, ap, qo, aq, sh] ∨ h0.size ≤ xz) (Or.inl (List.mem_of_getElem? (i := 3) rfl)) (allS (P := fun xz => xz ∈ [a1, po, ap, qo, aq, sh] ∨ h0.size ≤ xz) (own_kor ho112 (List.mem_of_getElem? (i := 4) rfl)) all0))
 have nb137 : rp_3 ≠ r_117 := own_neOr t117_6 nb111 f116.lt
 have ho138 : r_117 = aq ∨ h0.size ≤ r_117 := own_hor t117_6 ho112 K92.1
 have cA3 : (((sz + ln) + (1 : Int32)) + (1 : Int32)).toInt = ((sz + ln) + (1 : Int32)).toInt + ((0 : Nat) : Int) + 1 := own_add cS2 own_1 (by omega)
 have cS3 : 0 ≤ (((sz + ln) + (1 : Int32)) + (1 : Int32)).toInt ∧ (((sz + ln) + (1 : Int32)) + (1 : Int32)).toInt ≤ 16 := by omega
 have cN3 := own_c1 cN2 cS2
 have f139 := (f114.keep K117q (ninS (Ne.symm na8) (ninS na120 nin0)))
 obtain ⟨T140, X140, e140, st140⟩ := getF X117 hx hZ hown (host := "") (Or.inl (own_w hw 83 rfl)) Via.refl rfl f139 (g := (mkF m 80 lc50 [(.ref a1)])) rfl rfl (hb hby d14_80)
 have f141 := (f127.keep K117q)
 have f142 := ((f88.keep K92q (ninS na66 (ninS na102 nin0))).keep K117q (ninS na66 (ninS na128 nin0)))
 have f143 := (((((((F_elementData_tg.keep K3q (ninS na10 (ninS na19 (ninS na27 nin0)))).other W34 (Or.inl na10)).other W39 (Or.inl na10)).other W45 (Or.inl na10)).keep K58q (ninS na66 (ninS na73 nin0))).keep K92q (ninS na66 (ninS na102 nin0))).keep K117q (ninS na66 (ninS na128 nin0)))
 have f144 := (f121.keep K117q (ninS na60 (ninS na122 nin0)))
 have f145 := (f135.keep K117q)
 have f146 := (f136.keep K117q)
 have f147 := (((((((F_ordinal_x1.keep K3q (ninS na13 (ninS na22 (ninS na30 nin0)))).other W34 (Or.inl na13)).other W39 (Or.inl na13)).other W45 (Or.inl na13)).keep K58q (ninS na69 (ninS na76 nin0))).keep K92q (ninS na69 (ninS na105 nin0))).keep K117q (ninS na69 (ninS na131 nin0)))
 have f148 := (((((((F_ordinal_x2.keep K3q (ninS na14 (ninS na23 (ninS na31 nin0)))).other W34 (Or.inl na14)).other W39 (Or.inl na14)).other W45 (Or.inl na14)).keep K58q (ninS na70 (ninS na77 nin0))).keep K92q (ninS na70 (ninS na106 nin0))).keep K117q (ninS na70 (ninS na132 nin0)))
 have f150 := (f119.keep K117q)
 have f151 := (f123.keep K117q)
 have f152 := (f116.keep K117q (ninS na62 (ninS nb111 nin0)))
 have f153 := (f125.keep K117q (ninS na64 (ninS na126 nin0)))
 have f154 := (f133.keep K117q)
 have f155 := (f134.keep K117q)
 obtain ⟨cq149, kq149, q149a, q149b, q149c⟩ := isOf hZ e140 f141
 obtain ⟨_, _, ⟨T149, L149, k149, n149⟩, -, X149, ⟨Lc149, hQ149, l149, y149, z149⟩, st149⟩ := X140.interfaceBack hx (xi := mn19) (y := mn12) hown (mvT hZ (own_w hw 161 rfl)) (mvT hZ (own_w hw 162 rfl)) (mvT hZ (own_w hw 163 rfl)) (mvT hZ (own_w hw 164 rfl)) (mvT hZ (own_w hw 165 rfl)) (mvT hZ (own_w hw 166 rfl)) (mvT hZ (own_w hw 167 rfl)) (mvT hZ (own_w hw 159 rfl)) (by decide) (backOf (W := 1) (rmGetP l Z a0 hw [] tg p4 a3 x1 x2 kr T117.heap n0 (Nat.le_trans Z0 K117.1) f141 f142 f143 f144 f145 f146 f147 f148 lt_x1 lt_x2 hp) hZ (own_w hw 168 rfl) (own_w hw 4 rfl) (by decide) (by decide)) q149a q149b q149c (g := (mkF m 86 lc50 [(.int p4), (.ref tg), (.ref qo)])) rfl (by rw [hml]; rfl) (Steps.refl _) (argsL := [(.int p4)]) (rest := [(.ref qo)]) (lenOf pd__28I_29Ljava_2flang_2fObject_3b rfl) rfl (by show 2 * 0 + _ ≤ _; exact Nat.le_of_eq rfl) (hb hby d14_86) (fun _ _ => ⟨rfl, e140, (by decide : 4 + 0 ≤ _), (by decide : 112 + 0 ≤ _)⟩)
 dsimp only [Pt.U, Pt.locs, Pt.cells, Pt.slots] at y149 z149 st149 hQ149
 change Stand p l e _ s m _ below meth c T149 L149 k149 n149 at X149
 change L149 = _ ++ Lc149 at l149
 subst y149 z149
 obtain ⟨xo_149, ko_149, rfl, N149q, e149, t149_0, t149_1, t149_2, t149_3⟩ := hQ149
 have N149 : Fr n0 L149 := l149 ▸ Fr.app N117 N149q
 rw [e149] at t149_0 t149_1
 obtain ⟨T156, X156, e156, st156⟩ := castY X149 hx hZ hown (own_w hw 182 rfl) e149 (Ins.self t149_0) (g := (mkF m 91 lc50 [(.ref xo_149), (.ref qo)])) rfl rfl (hb hby d14_91)
 obtain ⟨cq157, kq157, q157a, q157b, q157c⟩ := isOf hZ e156 t149_0
 obtain ⟨_, _, ⟨T157, L157, k157, n157⟩, -, X157, ⟨Lc157, hQ157, l157, y157, z157⟩, st157⟩ := X156.virtualBackUp hx (x := mn15) (y := mn13) (owner := nm8) hown (mvT hZ (own_w hw 184 rfl)) (mvT hZ (own_w hw 185 rfl)) (mvT hZ (own_w hw 186 rfl)) (by decide) (mvT hZ (own_w hw 188 rfl)) (mvT hZ (own_w hw 187 rfl)) (backOf (W := 1) (rm25 l Z a0 hw [] xo_149 ko_149 T117.heap n0 (Nat.le_trans Z0 K117.1) t149_1) hZ (own_w hw 190 rfl) (own_w hw 189 rfl) (by decide) (by decide)) q157a q157c (g := (mkF m 94 lc50 [(.ref xo_149), (.ref qo)])) rfl (by rw [hml]; rfl) (Steps.refl _) (argsL := []) (rest := [(.ref qo)]) (lenOf pd__28_29I rfl) rfl (by show 2 * 0 + _ ≤ _; exact Nat.le_of_eq rfl) (hb hby d14_94) (fun _ _ => ⟨rfl, e156, (by decide : 4 + 0 ≤ _), (by decide : 112 + 0 ≤ _)⟩)
 dsimp only [Pt.U, Pt.locs, Pt.cells, Pt.slots] at y157 z157 st157 hQ157
 change Stand p l e _ s m _ below meth c T157 L157 k157 n157 at X157
 change L157 = _ ++ Lc157 at l157
 subst y157 z157
 obtain ⟨rfl, N157q, e157⟩ := hQ157
 have N157 : Fr n0 L157 := l157 ▸ Fr.app N149 N157q
 have na159 := (Exa.neArv t117_0 t117_3 (own_w hw 72 rfl)).symm
 have na160 := Nat.ne_of_lt (Nat.lt_of_lt_of_le t149_3 g_qo)
 have na161 := Exa.neArv f150 t117_3 (own_w hw 65 rfl)
 have na162 := own_neVV f144 t117_3 (by decide)
 have na163 := Exa.neArv f151 t117_3 (own_w hw 72 rfl)
 have na164 := own_neVV f153 t117_3 (by decide)
 have na165 := Exa.neArv f141 t117_3 (own_w hw 3 rfl)
 have na166 := Nat.ne_of_lt (Nat.lt_of_lt_of_le lt_wNo t117_4)
 have na167 := Nat.ne_of_lt (Nat.lt_of_lt_of_le lt_wOt t117_4)
 have na168 := Nat.ne_of_lt (Nat.lt_of_lt_of_le lt_x1 t117_4)
 have na169 := Nat.ne_of_lt (Nat.lt_of_lt_of_le lt_x2 t117_4)
 have na170 := Nat.ne_of_lt (Nat.lt_of_lt_of_le t149_3 t117_4)
 obtain ⟨cq158, kq158, q158a, q158b, q158c⟩ := isOf hZ e157 t117_0
 obtain ⟨_, _, ⟨T158, L158, k158, n158⟩, -, X158, ⟨Lc158, hQ158, l158, y158, z158⟩, st158⟩ := X157.virtualBack hx (y := mn24) (z := mn24) hown (mvT hZ (own_w hw 131 rfl)) (mvT hZ (own_w hw 132 rfl)) (notFace_of_selects (args := #[]) (mvT hZ (own_w hw 134 rfl))) (mvT hZ (own_w hw 134 rfl)) (mvT hZ (own_w hw 133 rfl)) (by decide) (backOf (W := 0) (rmEnB l Z a0 hw [] qo (ko_149.toInt64) (((sz + ln) + (1 : Int32)) + (1 : Int32)) (own_cap (own_cap (own_cap nn sz) (sz + ln)) ((sz + ln) + (1 : Int32))) r_117 kr_117 vr_117 0 (1 : Int32) T117.heap n0 (Nat.le_trans Z0 K117.1) t117_0 t117_1 t117_2 t117_3 g_qo t117_4 t117_5 (by omega) cS3 (by decide) (by rw [Jvm.Kit.i64_of_i32]; omega) (by show (ko_149.toInt64).toInt < 128; rw [Jvm.Kit.i64_of_i32]; omega) (own_f0 _) own_1 (by have := own_c1 cN3 cS3; omega)) hZ (own_w hw 135 rfl) (own_w hw 73 rfl) (by decide) (by decide)) q158a q158c (g := (mkF m 98 lc50 [(.long (ko_149.toInt64)), (.ref qo)])) rfl (by rw [hml]; rfl) (Steps.refl _) (argsL := [(.long (ko_149.toInt64))]) (rest := []) (lenOf pd__28J_29V rfl) rfl (by show 2 * 0 + _ ≤ _; exact Nat.le_of_eq rfl) (hb hby d14_98) (fun _ _ => ⟨rfl, e157, (by decide : 4 + 1 ≤ _), (by decide : 112 + 32 ≤ _)⟩)
 dsimp only [Pt.U, Pt.locs, Pt.cells, Pt.slots] at y158 z158 st158 hQ158
 change Stand p l e _ s m _ below meth c T158 L158 k158 n158 at X158
 change L158 = _ ++ Lc158 at l158
 subst y158 z158
 obtain ⟨r_158, kr_158, vr_158, rfl, N158q, K158q, t158_0, t158_1, t158_2, t158_3, t158_4, t158_5, t158_6⟩ := hQ158
 have N158 : Fr n0 L158 := l158 ▸ Fr.app N157 N158q
 have K158 : Keep h0 T158.heap [a1, po, ap, qo, aq, sh] := K117.trans K158q (allS (P := fun xz => xz ∈ [a1, po, ap, qo, aq, sh] ∨ h0.size ≤ xz) (Or.inl (List.mem_of_getElem? (i := 3) rfl)) (allS (P := fun xz => xz ∈ [a1, po, ap, qo, aq, sh] ∨ h0.size ≤ xz) (own_kor ho138 (List.mem_of_getElem? (i := 4) rfl)) all0))
 have nb171 : rp_3 ≠ r_158 := own_neOr t158_6 nb137 f152.lt
 have ho172 : r_158 = aq ∨ h0.size ≤ r_158 := own_hor t158_6 ho138 K117.1
 have cA4 : ((((sz + ln) + (1 : Int32)) + (1 : Int32)) + (1 : Int32)).toInt = (((sz + ln) + (1 : Int32)) + (1 : Int32)).toInt + ((0 : Nat) : Int) + 1 := own_add cS3 own_1 (by omega)
 have cS4 : 0 ≤ ((((sz + ln) + (1 : Int32)) + (1 : Int32)) + (1 : Int32)).toInt ∧ ((((sz + ln) + (1 : Int32)) + (1 : Int32)) + (1 : Int32)).toInt ≤ 16 := by omega
 have cN4 := own_c1 cN3 cS3
 have f173 := (((((((t3_10.other W34 (Or.inr (sn61 hw))).other W39 (Or.inr (sn82 hw))).other W45 (Or.inr (sn83 hw))).keep K58q (ninS (Ne.symm na8) (ninS (Ne.symm na6) nin0))).keep K92q (ninS (Ne.symm na8) (ninS na95 nin0))).keep K117q (ninS (Ne.symm na8) (ninS na120 nin0))).keep K158q (ninS (Ne.symm na8) (ninS na161 nin0)))
 obtain ⟨T174, X174, e174, st174⟩ := getF X158 hx hZ hown (host := "") (Or.inl (own_w hw 193 rfl)) Via.refl rfl f173 (g := (mkF m 103 lc50 [(.ref a1), (.ref a1)])) rfl rfl (hb hby d14_103)
 have f175 := (((((((t3_3.other W34 (Or.inr (sn34 hw))).other W39 (Or.inr (sn84 hw))).other W45 (Or.inr (sn85 hw))).keep K58q (ninS (Ne.symm na8) (ninS (Ne.symm na6) nin0))).keep K92q (ninS (Ne.symm na8) (ninS na95 nin0))).keep K117q (ninS (Ne.symm na8) (ninS na120 nin0))).keep K158q (ninS (Ne.symm na8) (ninS na161 nin0)))
 obtain ⟨T176, X176, e176, st176⟩ := getF X174 hx hZ hown (host := "") (Or.inl (own_w hw 101 rfl)) Via.refl e174 f175 (g := (mkF m 110 lc50 [(.ref a1), (.int p4), (.ref tg), (.long wn), (.ref a1)])) rfl rfl (hb hby d14_110)
 have f177 := (f141.keep K158q)
 have f178 := (f142.keep K158q (ninS na66 (ninS na165 nin0)))
 have f179 := (f143.keep K158q (ninS na66 (ninS na165 nin0)))
 have f180 := (f144.keep K158q (ninS na60 (ninS na162 nin0)))
 have f181 := (f145.keep K158q)
 have f182 := (f146.keep K158q)
 have f183 := (f147.keep K158q (ninS na69 (ninS na168 nin0)))
 have f184 := (f148.keep K158q (ninS na70 (ninS na169 nin0)))
 have f185 := (own_staKeep (own_staKeep (own_staKeep (own_staKeep ((((own_staKeep S_NOUN K3q (own_nsE E_a1 (own_nsE E_po (own_nsV V_ap own_ns0)))).wr W34).wr W39).wr W45) K58q (own_nsE f54 (own_nsV f57 own_ns0))) K92q (own_nsE t58_0 (own_nsV t58_3 own_ns0))) K117q (own_nsE t92_0 (own_nsV t92_3 own_ns0))) K158q (own_nsE t117_0 (own_nsV t117_3 own_ns0)))
 have f186 := (own_staKeep (own_staKeep (own_staKeep (own_staKeep ((((own_staKeep S_OTHER K3q (own_nsE E_a1 (own_nsE E_po (own_nsV V_ap own_ns0)))).wr W34).wr W39).wr W45) K58q (own_nsE f54 (own_nsV f57 own_ns0))) K92q (own_nsE t58_0 (own_nsV t58_3 own_ns0))) K117q (own_nsE t92_0 (own_nsV t92_3 own_ns0))) K158q (own_nsE t117_0 (own_nsV t117_3 own_ns0)))
 have f187 := (f154.keep K158q)
 have f188 := (f155.keep K158q)
 have f189 := ((((((((F_ordinal_wNo.keep K3q (ninS na11 (ninS na20 (ninS na28 nin0)))).other W34 (Or.inl na11)).other W39 (Or.inl na11)).other W45 (Or.inl na11)).keep K58q (ninS na67 (ninS na74 nin0))).keep K92q (ninS na67 (ninS na103 nin0))).keep K117q (ninS na67 (ninS na129 nin0))).keep K158q (ninS na67 (ninS na166 nin0)))
 have f190 := ((((((((F_ordinal_wOt.keep K3q (ninS na12 (ninS na21 (ninS na29 nin0)))).other W34 (Or.inl na12)).other W39 (Or.inl na12)).other W45 (Or.inl na12)).keep K58q (ninS na68 (ninS na75 nin0))).keep K92q (ninS na68 (ninS na104 nin0))).keep K117q (ninS na68 (ninS na130 nin0))).keep K158q (ninS na68 (ninS na167 nin0)))
 have f191 := (f153.keep K158q (ninS na64 (ninS na164 nin0)))
 have na193 := own_neVV f180 f191 (by decide)
 have na194 := own_neVV t158_3 f191 (by decide)
 have f195 := (f152.keep K158q (ninS na62 (ninS nb137 nin0)))
 have na196 := own_neVV f195 f191 (by decide)
 have na197 := Exa.neArv f177 f191 (own_w hw 3 rfl)
 have na198 := Nat.ne_of_lt (Nat.lt_of_lt_of_le lt_wNo g_sh)
 have na199 := Nat.ne_of_lt (Nat.lt_of_lt_of_le lt_wOt g_sh)
 have na200 := Nat.ne_of_lt (Nat.lt_of_lt_of_le lt_x1 g_sh)
 have na201 := Nat.ne_of_lt (Nat.lt_of_lt_of_le lt_x2 g_sh)
 have na202 := Nat.ne_of_lt (Nat.lt_of_lt_of_le t149_3 g_sh)
 have f203 := (f150.keep K158q)
 have f204 := (f151.keep K158q)
 have f205 := (t149_0.keep K158q)
 obtain ⟨_, _, ⟨T192, L192, k192, n192⟩, -, X192, ⟨Lc192, hQ192, l192, y192, z192⟩, st192⟩ := Jvm.LawKit.callS X176 hx (y := mn17) hown (mvT hZ (own_w hw 195 rfl)) (mvT hZ (own_w hw 196 rfl)) (mvT hZ (own_w hw 197 rfl)) (mvT hZ (own_w hw 198 rfl)) (by decide) (backOf (W := 3) (rmCntP l Z a0 hw [] tg p4 sh a3 x1 x2 kr wNo wOt ks y0 y1 y2 y3 T158.heap n0 (Nat.le_trans Z0 K158.1) f177 f178 f179 f180 f181 f182 f183 f184 lt_x1 lt_x2 f185 f186 f187 f188 f189 f190 lt_wNo lt_wOt f191 g_sh hp) hZ (own_w hw 198 rfl) (own_w hw 197 rfl) (by decide) (by decide)) (g := (mkF m 113 lc50 [(.ref sh), (.int p4), (.ref tg), (.long wn), (.ref a1)])) rfl (by rw [hml]; rfl) (argsL := [(.ref tg), (.int p4), (.ref sh)]) (rest := [(.long wn), (.ref a1)]) (lenOf pd__28Ljava_2futil_2fList_3bI_5bJ_29I rfl) rfl (by show 2 * 0 + _ ≤ _; exact Nat.le_of_eq rfl) (hb hby d14_113) (fun _ _ => ⟨rfl, e176, (by decide : 5 + 0 ≤ _), (by decide : 144 + 0 ≤ _)⟩)
 dsimp only [Pt.U, Pt.locs, Pt.cells, Pt.slots] at y192 z192 st192 hQ192
 change Stand p l e _ s m _ below meth c T192 L192 k192 n192 at X192
 change L192 = _ ++ Lc192 at l192
 subst y192 z192
 obtain ⟨rfl, N192q, K192q, t192_0⟩ := hQ192
 have N192 : Fr n0 L192 := l192 ▸ Fr.app N158 N192q
 have K192 : Keep h0 T192.heap [a1, po, ap, qo, aq, sh] := K158.trans K192q (allS (P := fun xz => xz ∈ [a1, po, ap, qo, aq, sh] ∨ h0.size ≤ xz) (Or.inl (List.mem_of_getElem? (i := 5) rfl)) all0)
 have f206 := (f173.keep K192q (ninS (Ne.symm na9) nin0))
 have f207 := (f203.keep K192q)
 have f208 := (t158_3.keep K192q (ninS na194 nin0))
 have na209 := (Exa.neArv f207 f208 (own_w hw 65 rfl)).symm
 have na210 := Nat.ne_of_lt (Nat.lt_of_lt_of_le t149_3 g_a1)
 obtain ⟨T211, h211, X211, e211, W211, st211⟩ := putF X192 hx hZ hown (host := "") (Or.inl (own_w hw 193 rfl)) Via.refl rfl f206 f207 (Or.inl (own_w hw 194 rfl)) (own_w hw 65 rfl) (ty := .long) (by decide) rfl rfl (g := (mkF m 118 lc50 [(.long (wn + ((1 : Int32).toInt64))), (.ref a1)])) rfl rfl (hb hby d14_118)
 have K212 : Keep h0 h211 [a1, po, ap, qo, aq, sh] := K192.wr W211 (Or.inl (List.mem_of_getElem? (i := 0) rfl))
 have N213 := Fr.snoc X211 N192 g_a1
 have Fw211 := f206.same W211
 have f214 := ((((((f48.keep K58q (ninS (Ne.symm na8) (ninS (Ne.symm na6) nin0))).keep K92q (ninS (Ne.symm na8) (ninS na95 nin0))).keep K117q (ninS (Ne.symm na8) (ninS na120 nin0))).keep K158q (ninS (Ne.symm na8) (ninS na161 nin0))).keep K192q (ninS (Ne.symm na9) nin0)).other W211 (Or.inr (sn86 hw)))
 have f215 := (f207.wr W211)
 obtain ⟨T216, h216, X216, e216, W216, st216⟩ := putF X211 hx hZ hown (host := "") (Or.inl (own_w hw 127 rfl)) Via.refl e211 f214 f215 (Or.inl (own_w hw 128 rfl)) (own_w hw 65 rfl) (ty := .int) (by decide) rfl rfl (g := (mkF m 123 lc50 [(.int p3), (.ref a1)])) rfl rfl (hb hby d14_123)
 have K217 : Keep h0 h216 [a1, po, ap, qo, aq, sh] := K212.wr W216 (Or.inl (List.mem_of_getElem? (i := 0) rfl))
 have N218 := Fr.snoc X216 N213 g_a1
 have Fw216 := f214.same W216
 have f219 := ((((((((((t3_9.other W34 (Or.inr (sn55 hw))).other W39 (Or.inr (sn87 hw))).other W45 (Or.inr (sn88 hw))).keep K58q (ninS (Ne.symm na8) (ninS (Ne.symm na6) nin0))).keep K92q (ninS (Ne.symm na8) (ninS na95 nin0))).keep K117q (ninS (Ne.symm na8) (ninS na120 nin0))).keep K158q (ninS (Ne.symm na8) (ninS na161 nin0))).keep K192q (ninS (Ne.symm na9) nin0)).other W211 (Or.inr (sn89 hw))).other W216 (Or.inr (sn87 hw)))
 obtain ⟨T220, X220, e220, st220⟩ := getF X216 hx hZ hown (host := "") (Or.inl (own_w hw 125 rfl)) Via.refl e216 f219 (g := (mkF m 128 lc50 [(.ref a1), (.ref a1)])) rfl rfl (hb hby d14_128)
 have f221 := (f215.wr W216)
 obtain ⟨T222, h222, X222, e222, W222, st222⟩ := putF X220 hx hZ hown (host := "") (Or.inl (own_w hw 125 rfl)) Via.refl e220 f219 f221 (Or.inl (own_w hw 126 rfl)) (own_w hw 65 rfl) (ty := .int) (by decide) rfl rfl (g := (mkF m 133 lc50 [(.int 1), (.ref a1)])) rfl rfl (hb hby d14_133)
 have K223 : Keep h0 h222 [a1, po, ap, qo, aq, sh] := K217.wr W222 (Or.inl (List.mem_of_getElem? (i := 0) rfl))
 have N224 := Fr.snoc X222 N218 g_a1
 have Fw222 := f219.same W222
 have pre225 : ∀ t, Steps p.tables e below (T222.setTop (mkF m 138 lc50 [(.ref a1), (.ref a1)])) t → Steps p.tables e below (s₁.setTop (entryFrame m #[(.ref a1), (.int p2), (.int p3), (.int p4), (.ref tg)] 6)) t := fun t kt => by
  refine pre113 t ?_
  show oS T92 (mkF m 70 lc50 [])
  refine XS.aloadN X92.here hx rfl (hb hby d14_70) rfl rfl ?_
  show oS T92 (mkF m 71 lc50 [(.ref a1)])
  refine st115 _ ?_
  show oS T115 (mkF m 74 lc50 [(.ref qo)])
  refine XS.iloadN X115.here hx rfl (hb hby d14_74) rfl ?_
  show oS T115 (mkF m 75 lc50 [(.int p4), (.ref qo)])
  refine XS.i2l X115.here hx rfl (hb hby d14_75) rfl ?_
  show oS T115 (mkF m 76 lc50 [(.long (p4.toInt64)), (.ref qo)])
  refine st117.trans ?_
  show oS T117 (mkF m 79 lc50 [])
  refine XS.aloadN X117.here hx rfl (hb hby d14_79) rfl rfl ?_
  show oS T117 (mkF m 80 lc50 [(.ref a1)])
  refine st140 _ ?_
  show oS T140 (mkF m 83 lc50 [(.ref qo)])
  refine XS.aload X140.here hx rfl (hb hby d14_83) rfl rfl ?_
  show oS T140 (mkF m 85 lc50 [(.ref tg), (.ref qo)])
  refine XS.iloadN X140.here hx rfl (hb hby d14_85) rfl ?_
  show oS T140 (mkF m 86 lc50 [(.int p4), (.ref tg), (.ref qo)])
  refine st149.trans ?_
  show oS T149 (mkF m 91 lc50 [(.ref xo_149), (.ref qo)])
  refine st156 _ ?_
  show oS T156 (mkF m 94 lc50 [(.ref xo_149), (.ref qo)])
  refine st157.trans ?_
  show oS T157 (mkF m 97 lc50 [(.int ko_149), (.ref qo)])
  refine XS.i2l X157.here hx rfl (hb hby d14_97) rfl ?_
  show oS T157 (mkF m 98 lc50 [(.long (ko_149.toInt64)), (.ref qo)])
  refine st158.trans ?_
  show oS T158 (mkF m 101 lc50 [])
  refine XS.aloadN X158.here hx rfl (hb hby d14_101) rfl rfl ?_
  show oS T158 (mkF m 102 lc50 [(.ref a1)])
  refine XS.dup X158.here hx rfl (hb hby d14_102) rfl rfl ?_
  show oS T158 (mkF m 103 lc50 [(.ref a1), (.ref a1)])
  refine st174 _ ?_
  show oS T174 (mkF m 106 lc50 [(.long wn), (.ref a1)])
  refine XS.aload X174.here hx rfl (hb hby d14_106) rfl rfl ?_
  show oS T174 (mkF m 108 lc50 [(.ref tg), (.long wn), (.ref a1)])
  refine XS.iloadN X174.here hx rfl (hb hby d14_108) rfl ?_
  show oS T174 (mkF m 109 lc50 [(.int p4), (.ref tg), (.long wn), (.ref a1)])
  refine XS.aloadN X174.here hx rfl (hb hby d14_109) rfl rfl ?_
  show oS T174 (mkF m 110 lc50 [(.ref a1), (.int p4), (.ref tg), (.long wn), (.ref a1)])
  refine st176 _ ?_
  show oS T176 (mkF m 113 lc50 [(.ref sh), (.int p4), (.ref tg), (.long wn), (.ref a1)])
  refine st192 _ ?_
  show oS T192 (mkF m 116 lc50 [(.int 1), (.long wn), (.ref a1)])
  refine XS.i2l X192.here hx rfl (hb hby d14_116) rfl ?_
  show oS T192 (mkF m 117 lc50 [(.long ((1 : Int32).toInt64)), (.long wn), (.ref a1)])
  refine XS.ladd X192.here hx rfl (hb hby d14_117) rfl ?_
  show oS T192 (mkF m 118 lc50 [(.long (wn + ((1 : Int32).toInt64))), (.ref a1)])
  refine st211 _ ?_
  show oS T211 (mkF m 121 lc50 [])
  refine XS.aloadN X211.here hx rfl (hb hby d14_121) rfl rfl ?_
  show oS T211 (mkF m 122 lc50 [(.ref a1)])
  refine XS.iloadN X211.here hx rfl (hb hby d14_122) rfl ?_
  show oS T211 (mkF m 123 lc50 [(.int p3), (.ref a1)])
  refine st216 _ ?_
  show oS T216 (mkF m 126 lc50 [])
  refine XS.aloadN X216.here hx rfl (hb hby d14_126) rfl rfl ?_
  show oS T216 (mkF m 127 lc50 [(.ref a1)])
  refine XS.dup X216.here hx rfl (hb hby d14_127) rfl rfl ?_
  show oS T216 (mkF m 128 lc50 [(.ref a1), (.ref a1)])
  refine st220 _ ?_
  show oS T220 (mkF m 131 lc50 [(.int 0), (.ref a1)])
  refine XS.iconst X220.here hx rfl (hb hby d14_131) ?_
  show oS T220 (mkF m 132 lc50 [(.int 1), (.int 0), (.ref a1)])
  refine XS.iadd X220.here hx rfl (hb hby d14_132) rfl ?_
  show oS T220 (mkF m 133 lc50 [(.int 1), (.ref a1)])
  refine st222 _ ?_
  show oS T222 (mkF m 136 lc50 [])
  refine XS.aloadN X222.here hx rfl (hb hby d14_136) rfl rfl ?_
  show oS T222 (mkF m 137 lc50 [(.ref a1)])
  refine XS.dup X222.here hx rfl (hb hby d14_137) rfl rfl ?_
  exact kt
 have f226 := (((((((((((t3_11.other W34 (Or.inr (sn67 hw))).other W39 (Or.inr (sn90 hw))).other W45 (Or.inr (sn91 hw))).keep K58q (ninS (Ne.symm na8) (ninS (Ne.symm na6) nin0))).keep K92q (ninS (Ne.symm na8) (ninS na95 nin0))).keep K117q (ninS (Ne.symm na8) (ninS na120 nin0))).keep K158q (ninS (Ne.symm na8) (ninS na161 nin0))).keep K192q (ninS (Ne.symm na9) nin0)).other W211 (Or.inr (sn92 hw))).other W216 (Or.inr (sn90 hw))).other W222 (Or.inr (sn77 hw)))
 obtain ⟨T227, X227, e227, st227⟩ := getF X222 hx hZ hown (host := "") (Or.inl (own_w hw 219 rfl)) Via.refl e222 f226 (g := (mkF m 138 lc50 [(.ref a1), (.ref a1)])) rfl rfl (hb hby d14_138)
 have f228 := (f221.wr W222)
 obtain ⟨T229, h229, X229, e229, W229, st229⟩ := putF X227 hx hZ hown (host := "") (Or.inl (own_w hw 219 rfl)) Via.refl e227 f226 f228 (Or.inl (own_w hw 220 rfl)) (own_w hw 65 rfl) (ty := .long) (by decide) rfl rfl (g := (mkF m 143 lc50 [(.long (cf + (1 : Int64))), (.ref a1)])) rfl rfl (hb hby d14_143)
 have K230 : Keep h0 h229 [a1, po, ap, qo, aq, sh] := K223.wr W229 (Or.inl (List.mem_of_getElem? (i := 0) rfl))
 have N231 := Fr.snoc X229 N224 g_a1
 have Fw229 := f226.same W229
 have f232 := (f228.wr W229)
 have f233 := ((((((((((((t3_1.other W34 (Or.inr (sn27 hw))).other W39 (Or.inr (sn93 hw))).other W45 (Or.inr (sn94 hw))).keep K58q (ninS (Ne.symm na8) (ninS (Ne.symm na6) nin0))).keep K92q (ninS (Ne.symm na8) (ninS na95 nin0))).keep K117q (ninS (Ne.symm na8) (ninS na120 nin0))).keep K158q (ninS (Ne.symm na8) (ninS na161 nin0))).keep K192q (ninS (Ne.symm na9) nin0)).other W211 (Or.inr (sn95 hw))).other W216 (Or.inr (sn93 hw))).other W222 (Or.inr (sn68 hw))).other W229 (Or.inr (sn96 hw)))
 have f234 := ((((((f139.keep K158q (ninS (Ne.symm na8) (ninS na161 nin0))).keep K192q (ninS (Ne.symm na9) nin0)).other W211 (Or.inr (sn97 hw))).other W216 (Or.inr (sn80 hw))).other W222 (Or.inr (sn69 hw))).other W229 (Or.inr (sn98 hw)))
 have f235 := (((((f175.keep K192q (ninS (Ne.symm na9) nin0)).other W211 (Or.inr (sn99 hw))).other W216 (Or.inr (sn84 hw))).other W222 (Or.inr (sn70 hw))).other W229 (Or.inr (sn100 hw)))
 have f236 := ((((((((((((t3_4.other W34 (Or.inr (sn36 hw))).other W39 (Or.inr (sn101 hw))).other W45 (Or.inr (sn102 hw))).keep K58q (ninS (Ne.symm na8) (ninS (Ne.symm na6) nin0))).keep K92q (ninS (Ne.symm na8) (ninS na95 nin0))).keep K117q (ninS (Ne.symm na8) (ninS na120 nin0))).keep K158q (ninS (Ne.symm na8) (ninS na161 nin0))).keep K192q (ninS (Ne.symm na9) nin0)).other W211 (Or.inr (sn103 hw))).other W216 (Or.inr (sn101 hw))).other W222 (Or.inr (sn71 hw))).other W229 (Or.inr (sn104 hw)))
 have f237 := ((((((((((((t3_5.other W34 (Or.inr (sn37 hw))).other W39 (Or.inr (sn105 hw))).other W45 (Or.inr (sn106 hw))).keep K58q (ninS (Ne.symm na8) (ninS (Ne.symm na6) nin0))).keep K92q (ninS (Ne.symm na8) (ninS na95 nin0))).keep K117q (ninS (Ne.symm na8) (ninS na120 nin0))).keep K158q (ninS (Ne.symm na8) (ninS na161 nin0))).keep K192q (ninS (Ne.symm na9) nin0)).other W211 (Or.inr (sn107 hw))).other W216 (Or.inr (sn105 hw))).other W222 (Or.inr (sn72 hw))).other W229 (Or.inr (sn108 hw)))
 have f238 := (((((((((((Fw34.other W39 (Or.inr (sn109 hw))).other W45 (Or.inr (sn110 hw))).keep K58q (ninS (Ne.symm na8) (ninS (Ne.symm na6) nin0))).keep K92q (ninS (Ne.symm na8) (ninS na95 nin0))).keep K117q (ninS (Ne.symm na8) (ninS na120 nin0))).keep K158q (ninS (Ne.symm na8) (ninS na161 nin0))).keep K192q (ninS (Ne.symm na9) nin0)).other W211 (Or.inr (sn111 hw))).other W216 (Or.inr (sn109 hw))).other W222 (Or.inr (sn73 hw))).other W229 (Or.inr (sn112 hw)))
 have f239 := ((Fw216.other W222 (Or.inr (sn74 hw))).other W229 (Or.inr (sn113 hw)))
 have f240 := (((((((((Fw45.keep K58q (ninS (Ne.symm na8) (ninS (Ne.symm na6) nin0))).keep K92q (ninS (Ne.symm na8) (ninS na95 nin0))).keep K117q (ninS (Ne.symm na8) (ninS na120 nin0))).keep K158q (ninS (Ne.symm na8) (ninS na161 nin0))).keep K192q (ninS (Ne.symm na9) nin0)).other W211 (Or.inr (sn114 hw))).other W216 (Or.inr (sn78 hw))).other W222 (Or.inr (sn75 hw))).other W229 (Or.inr (sn115 hw)))
 have f241 := (Fw222.other W229 (Or.inr (sn116 hw)))
 have f242 := (((Fw211.other W216 (Or.inr (sn82 hw))).other W222 (Or.inr (sn76 hw))).other W229 (Or.inr (sn117 hw)))
 have f243 := (((((t158_0.keep K192q).wr W211).wr W216).wr W222).wr W229)
 have f244 := (((((t158_1.keep K192q (ninS (Ne.symm na64) nin0)).other W211 (Or.inl na8)).other W216 (Or.inl na8)).other W222 (Or.inl na8)).other W229 (Or.inl na8))
 have f245 := (((((t158_2.keep K192q (ninS (Ne.symm na64) nin0)).other W211 (Or.inl na8)).other W216 (Or.inl na8)).other W222 (Or.inl na8)).other W229 (Or.inl na8))
 have f246 := ((((f208.other W211 na209).other W216 na209).other W222 na209).other W229 na209)
 have f247 := ((((t192_0.other W211 na9).other W216 na9).other W222 na9).other W229 na9)
 have f248 := (((((f204.keep K192q).wr W211).wr W216).wr W222).wr W229)
 have f249 := ((((((((((((t3_13.other W34 (Or.inl na7)).other W39 (Or.inl na7)).other W45 (Or.inl na7)).keep K58q (ninS ne_po_qo (ninS (Ne.symm na17) nin0))).keep K92q (ninS ne_po_qo (ninS na99 nin0))).keep K117q (ninS ne_po_qo (ninS na124 nin0))).keep K158q (ninS ne_po_qo (ninS na163 nin0))).keep K192q (ninS (Ne.symm na18) nin0)).other W211 (Or.inl na7)).other W216 (Or.inl na7)).other W222 (Or.inl na7)).other W229 (Or.inl na7))
 have f250 := ((((((((((((t3_14.other W34 (Or.inl na7)).other W39 (Or.inl na7)).other W45 (Or.inl na7)).keep K58q (ninS ne_po_qo (ninS (Ne.symm na17) nin0))).keep K92q (ninS ne_po_qo (ninS na99 nin0))).keep K117q (ninS ne_po_qo (ninS na124 nin0))).keep K158q (ninS ne_po_qo (ninS na163 nin0))).keep K192q (ninS (Ne.symm na18) nin0)).other W211 (Or.inl na7)).other W216 (Or.inl na7)).other W222 (Or.inl na7)).other W229 (Or.inl na7))
 have f251 := (((((f195.keep K192q (ninS na196 nin0)).other W211 na33).other W216 na33).other W222 na33).other W229 na33)
 obtain ⟨fs, hr, hrun, hended, hW, hsame⟩ := X229.leave (v := none) (fun _ => rfl)
 refine ⟨_, _, pre225 _ ?_, hrun, hended, _, _, rfl, ?_, ⟨_, rfl⟩, hW, hsame.mono (by decide) (by decide)⟩
 ·show oS T222 (mkF m 138 lc50 [(.ref a1), (.ref a1)])
  refine st227 _ ?_
  show oS T227 (mkF m 141 lc50 [(.long cf), (.ref a1)])
  refine XS.lconst X227.here hx rfl (hb hby d14_141) ?_
  show oS T227 (mkF m 142 lc50 [(.long 1), (.long cf), (.ref a1)])
  refine XS.ladd X227.here hx rfl (hb hby d14_142) rfl ?_
  show oS T227 (mkF m 143 lc50 [(.long (cf + (1 : Int64))), (.ref a1)])
  refine st229 _ ?_
  show oS T229 (mkF m 146 lc50 [])
  exact X229.returnOut hx Bd.returns (hb hby d14_146) hr
 ·show Q_rmAdd_new_pos Z a1 p2 p3 p4 tg u_firstDocument po qo ap aq sh kp kq ks vp vq df wn cf f ln nn sz dc sn y0 y1 y2 y3 a3 x1 x2 kr wNo wOt h0 n0 _ T229.heap _
  rw [e229]
  exact ⟨rp_3, kr_3, vr_3, r_158, kr_158, vr_158, rfl, N231, K230, f232, f233, f234, f235, f236, f237, f238, f239, f240, f241, f242, Fw229, f243, f244, f245, f246, t158_4, nb171, f247, f248, f249, f250, f251, t3_16, t3_17, t158_5, cN4, ho172, t3_18⟩
theorem ef_rmAdd_same_pos (m : MethodId) (a1 : Addr) (p2 : Int32) (p3 : Int32) (p4 : Int32) (tg : Addr) : entryFrame m #[(.ref a1), (.int p2), (.int p3), (.int p4), (.ref tg)] 6 = mkF m 0 #[.val (.ref a1), .val (.int p2), .val (.int p3), .val (.int p4), .val (.ref tg), .unset] [] := by first | (simp [entryFrame, mkF, argsToLocals, Value.category]; done) | rfl
def Q_rmAdd_same_pos (Z : State) (a1 : Addr) (p2 : Int32) (p3 : Int32) (p4 : Int32) (tg : Addr) (u_firstDocument : Value) (u_lastDocument : Value) (po : Addr) (qo : Addr) (ap : Addr) (aq : Addr) (sh : Addr) (kp : ClassId) (kq : ClassId) (ks : ClassId) (vp : List Value) (vq : List Value) (df : Int32) (wn : Int64) (cf : Int64) (f : Nat) (ln : Int32) (nn : Int32) (sz : Int32) (dc : Int32) (sn : Int32) (n1 : Int32) (y0 : Int64) (y1 : Int64) (y2 : Int64) (y3 : Int64) (a3 : Addr) (x1 : Addr) (x2 : Addr) (kr : ClassId) (wNo : Addr) (wOt : Addr) (h0 : Heap) (n0 : Nat) (v : Option Value) (h : Heap) (L : List Loc) : Prop := ∃ rq : Addr, ∃ kq2 : ClassId, ∃ vq2 : List Value, v = none ∧ Fr n0 L ∧ Keep h0 h [a1, qo, aq, sh] ∧ Exa Z h a1 nm0 ∧ Fld Z h a1 nm0 "postings" nm2 (.ref po) ∧ Fld Z h a1 nm0 "positions" nm2 (.ref qo) ∧ Fld Z h a1 nm0 "shares" "[J" (.ref sh) ∧ Fld Z h a1 nm0 nm19 "I" u_firstDocument ∧ Fld Z h a1 nm0 "lastDocument" "I" u_lastDocument ∧ Fld Z h a1 nm0 "document" "I" (.int dc) ∧ Fld Z h a1 nm0 "sentence" "I" (.int p3) ∧ Fld Z h a1 nm0 nm13 "I" (.int df) ∧ Fld Z h a1 nm0 "frequency" "I" (.int 2) ∧ Fld Z h a1 nm0 "windows" "J" (.long (wn + ((1 : Int32).toInt64))) ∧ Fld Z h a1 nm0 nm11 "J" (.long (cf + (1 : Int64))) ∧ Exa Z h qo nm1 ∧ Fld Z h qo nm1 "bytes" "[B" (.ref rq) ∧ Fld Z h qo nm1 "size" "I" (.int ((((sz + ln) + (1 : Int32)) + (1 : Int32)) + (1 : Int32))) ∧ Arv Z h rq kq2 .byte (own_cap (own_cap (own_cap (own_cap nn sz) (sz + ln)) ((sz + ln) + (1 : Int32))) (((sz + ln) + (1 : Int32)) + (1 : Int32))) vq2 (.int 0) ∧ n0 ≤ rq ∧ ap ≠ rq ∧ Arv Z h sh ks .long (4 : Int32) [(.long (y0 + ((6 : Int32).toInt64))), (.long y1), (.long y2), (.long (y3 + ((6 : Int32).toInt64)))] (.long 0) ∧ vq2.length = (own_cap (own_cap (own_cap (own_cap nn sz) (sz + ln)) ((sz + ln) + (1 : Int32))) (((sz + ln) + (1 : Int32)) + (1 : Int32))).toNatClampNeg ∧ ((own_cap (own_cap (own_cap (own_cap nn sz) (sz + ln)) ((sz + ln) + (1 : Int32))) (((sz + ln) + (1 : Int32)) + (1 : Int32))).toInt = 16 ∨ (own_cap (own_cap (own_cap (own_cap nn sz) (sz + ln)) ((sz + ln) + (1 : Int32))) (((sz + ln) + (1 : Int32)) + (1 : Int32))).toInt = 32) ∧ (rq = aq ∨ h0.size ≤ rq)
set_option maxRecDepth 65536 in
set_option maxHeartbeats 40000000 in
theorem rmAdd_same_pos (l : Launch) (Z : State) (a0 : Array Value) (hw : own_Hw Z a0) (ws : List Jvm.Cond) (a1 : Addr) (p2 : Int32) (p3 : Int32) (p4 : Int32) (tg : Addr) (u_firstDocument : Value) (u_lastDocument : Value) (po : Addr) (qo : Addr) (ap : Addr) (aq : Addr) (sh : Addr) (kp : ClassId) (kq : ClassId) (ks : ClassId) (vp : List Value) (vq : List Value) (df : Int32) (wn : Int64) (cf : Int64) (f : Nat) (ln : Int32) (nn : Int32) (sz : Int32) (dc : Int32) (sn : Int32) (n1 : Int32) (y0 : Int64) (y1 : Int64) (y2 : Int64) (y3 : Int64) (a3 : Addr) (x1 : Addr) (x2 : Addr) (kr : ClassId) (wNo : Addr) (wOt : Addr) (h0 : Heap) (n0 : Nat) (Z0 : n0 ≤ h0.size) (E_a1 : Exa Z h0 a1 nm0) (F_postings_a1 : Fld Z h0 a1 nm0 "postings" nm2 (.ref po)) (F_positions_a1 : Fld Z h0 a1 nm0 "positions" nm2 (.ref qo)) (F_shares_a1 : Fld Z h0 a1 nm0 "shares" "[J" (.ref sh)) (F_firstDocument_a1 : Fld Z h0 a1 nm0 nm19 "I" u_firstDocument) (F_lastDocument_a1 : Fld Z h0 a1 nm0 "lastDocument" "I" u_lastDocument) (F_document_a1 : Fld Z h0 a1 nm0 "document" "I" (.int dc)) (F_sentence_a1 : Fld Z h0 a1 nm0 "sentence" "I" (.int sn)) (F_documentFrequency_a1 : Fld Z h0 a1 nm0 nm13 "I" (.int df)) (F_frequency_a1 : Fld Z h0 a1 nm0 "frequency" "I" (.int 1)) (F_windows_a1 : Fld Z h0 a1 nm0 "windows" "J" (.long wn)) (F_collectionFrequency_a1 : Fld Z h0 a1 nm0 nm11 "J" (.long cf)) (g_a1 : n0 ≤ a1) (E_po : Exa Z h0 po nm1) (E_qo : Exa Z h0 qo nm1) (F_bytes_po : Fld Z h0 po nm1 "bytes" "[B" (.ref ap)) (F_bytes_qo : Fld Z h0 qo nm1 "bytes" "[B" (.ref aq)) (F_size_qo : Fld Z h0 qo nm1 "size" "I" (.int sz)) (V_ap : Arv Z h0 ap kp .byte n1 vp (.int 0)) (V_aq : Arv Z h0 aq kq .byte nn vq (.int 0)) (g_po : n0 ≤ po) (g_qo : n0 ≤ qo) (g_ap : n0 ≤ ap) (g_aq : n0 ≤ aq) (g_sh : n0 ≤ sh) (ne_po_qo : po ≠ qo) (ne_ap_aq : ap ≠ aq) (V_sh : Arv Z h0 sh ks .long (4 : Int32) [(.long y0), (.long y1), (.long y2), (.long y3)] (.long 0)) (E_tg : Exa Z h0 tg nm3) (F_size_tg : Fld Z h0 tg nm3 "size" "I" (.int 2)) (F_elementData_tg : Fld Z h0 tg nm3 nm18 nm9 (.ref a3)) (V_a3 : Arv Z h0 a3 kr (.object nm7) (10 : Int32) [(.ref x1), (.ref x2), .null, .null, .null, .null, .null, .null, .null, .null] .null) (E_x1 : Exa Z h0 x1 nm5) (E_x2 : Exa Z h0 x2 nm5) (F_ordinal_x1 : Fld Z h0 x1 nm8 "ordinal" "I" (.int 11)) (F_ordinal_x2 : Fld Z h0 x2 nm8 "ordinal" "I" (.int 44)) (lt_x1 : x1 < n0) (lt_x2 : x2 < n0) (S_NOUN : Sta Z h0 nm6 "NOUN" nm10 (.ref wNo)) (S_OTHER : Sta Z h0 nm6 "OTHER" nm10 (.ref wOt)) (E_wNo : Exa Z h0 wNo nm6) (E_wOt : Exa Z h0 wOt nm6) (F_ordinal_wNo : Fld Z h0 wNo nm8 "ordinal" "I" (.int 0)) (F_ordinal_wOt : Fld Z h0 wOt nm8 "ordinal" "I" (.int 3)) (lt_wNo : wNo < n0) (lt_wOt : wOt < n0) (hvq : vq.length = nn.toNatClampNeg) (hf : f ≤ 4) (hj : 0 ≤ ((p3 - sn).toInt64).toInt) (hj2 : ((p3 - sn).toInt64).toInt < 2 ^ (7 * (f + 1))) (hj3 : f ≠ 0 → 2 ^ (7 * f) ≤ ((p3 - sn).toInt64).toInt) (hln : ln.toInt = f + 1) (hgap : (0 : Int32) < (p3 - sn)) (hp : p4 = (0 : Int32) ∨ p4 = (1 : Int32)) (hnn : nn.toInt = 16 ∨ nn.toInt = 32) (hsz : 0 ≤ sz.toInt ∧ sz.toInt ≤ 8) (hdoc : p2 = dc) :
  MetFree l mn29 (head1 (Jvm.Cond.code mn29 cd16 6 none :: ws) ({ frames := 4, cells := 4, slots := 128, locals := 64 } : Room)) (fun a U => a = #[(.ref a1), (.int p2), (.int p3), (.int p4), (.ref tg)] ∧ Z.Warmed39 U.vm ∧ U.heap = h0) (fun _ _ _ _ _ => True) (fun _ U o U' => ∃ v L, o = .returned v ∧ Q_rmAdd_same_pos Z a1 p2 p3 p4 tg u_firstDocument u_lastDocument po qo ap aq sh kp kq ks vp vq df wn cf f ln nn sz dc sn n1 y0 y1 y2 y3 a3 x1 x2 kr wNo wOt h0 n0 v U'.heap L ∧ FrameEnd U o U' L ({ frames := 4, cells := 4, slots := 128, locals := 64 } : Room).cells ({ frames := 4, cells := 4, slots := 128, locals := 64 } : Room).slots) := by
 refine MetFree.of_bodySF (plainFor_of_name pn_com_example_morro_morro_index_TermPostings) hisR ?_
 intro p e s m args below meth c s₁ Bd hml0 hP hK
 obtain ⟨rfl, hZ, hh⟩ := hP
 have hx := Bd.exec
 have hby := Bd.bytes
 have hml : c.maxLocals = 6 := hml0
 have hown : s.vm.findClass nm0 = some m.cls := findClass_of_methodNamed Bd.named
 have hnm := (name_of_methodNamed Bd.named Bd.method).1
 have X0 : Stand p l e ({ frames := 4, cells := 4, slots := 128, locals := 64 } : Room) s m #[(.ref a1), (.int p2), (.int p3), (.int p4), (.ref tg)] below meth c s₁ [] 0 0 := Stand.of_body Bd
 have e0 : s₁.heap = h0 := by rw [← hh, Bd.state]; rfl
 have N0 := Fr.nil n0
 have pre0 : ∀ t, Steps p.tables e below (s₁.setTop (mkF m 0 #[.val (.ref a1), .val (.int p2), .val (.int p3), .val (.int p4), .val (.ref tg), .unset] [])) t → Steps p.tables e below (s₁.setTop (entryFrame m #[(.ref a1), (.int p2), (.int p3), (.int p4), (.ref tg)] 6)) t := fun t k => castTop (ef_rmAdd_same_pos m a1 p2 p3 p4 tg) k
 let lc1 : Array Slot := #[.val (.ref a1), .val (.int p2), .val (.int p3), .val (.int p4), .val (.ref tg), .unset]
 obtain ⟨T2, X2, e2, st2⟩ := getF X0 hx hZ hown (host := "") (Or.inl (own_w hw 107 rfl)) Via.refl e0 F_document_a1 (g := (mkF m 2 lc1 [(.ref a1), (.int p2)])) rfl rfl (hb hby d14_2)
 obtain ⟨T3, X3, e3, st3⟩ := getF X2 hx hZ hown (host := "") (Or.inl (own_w hw 127 rfl)) Via.refl e2 F_sentence_a1 (g := (mkF m 34 lc1 [(.ref a1), (.int p3)])) rfl rfl (hb hby d14_34)
 let lc4 : Array Slot := #[.val (.ref a1), .val (.int p2), .val (.int p3), .val (.int p4), .val (.ref tg), .val (.int (p3 - sn))]
 obtain ⟨T5, X5, e5, st5⟩ := getF X3 hx hZ hown (host := "") (Or.inl (own_w hw 83 rfl)) Via.refl e3 F_positions_a1 (g := (mkF m 41 lc4 [(.ref a1)])) rfl rfl (hb hby d14_41)
 have cS0 : 0 ≤ sz.toInt ∧ sz.toInt ≤ 16 := by omega
 have cN0 := hnn
 have hp4 : (p4.toInt64).toInt = p4.toInt := Jvm.Kit.i64_of_i32 p4
 have hp5 : 0 ≤ p4.toInt ∧ p4.toInt ≤ 1 := by rcases hp with rfl | rfl <;> decide
 have na7 := Exa.ne E_a1 E_qo (by decide)
 have na8 := (Exa.neArv E_qo V_a3 (own_w hw 72 rfl)).symm
 have na9 := (Exa.neArv E_qo V_ap (own_w hw 72 rfl)).symm
 have na10 := (Exa.neArv E_qo V_aq (own_w hw 72 rfl)).symm
 have na11 := (Exa.neArv E_qo V_sh (own_w hw 72 rfl)).symm
 have na12 := Exa.ne E_tg E_qo (by decide)
 have na13 := Nat.ne_of_lt (Nat.lt_of_lt_of_le lt_wNo g_qo)
 have na14 := Nat.ne_of_lt (Nat.lt_of_lt_of_le lt_wOt g_qo)
 have na15 := Nat.ne_of_lt (Nat.lt_of_lt_of_le lt_x1 g_qo)
 have na16 := Nat.ne_of_lt (Nat.lt_of_lt_of_le lt_x2 g_qo)
 have na17 := Exa.neArv E_a1 V_aq (own_w hw 65 rfl)
 have na18 := own_neVV V_a3 V_aq (by decide)
 have na19 := Exa.neArv E_po V_aq (own_w hw 72 rfl)
 have na20 := own_neVV V_sh V_aq (by decide)
 have na21 := Exa.neArv E_tg V_aq (own_w hw 3 rfl)
 have na22 := Nat.ne_of_lt (Nat.lt_of_lt_of_le lt_wNo g_aq)
 have na23 := Nat.ne_of_lt (Nat.lt_of_lt_of_le lt_wOt g_aq)
 have na24 := Nat.ne_of_lt (Nat.lt_of_lt_of_le lt_x1 g_aq)
 have na25 := Nat.ne_of_lt (Nat.lt_of_lt_of_le lt_x2 g_aq)
 obtain ⟨cq6, kq6, q6a, q6b, q6c⟩ := isOf hZ e5 E_qo
 obtain ⟨_, _, ⟨T6, L6, k6, n6⟩, -, X6, ⟨Lc6, hQ6, l6, y6, z6⟩, st6⟩ := X5.virtualBack hx (y := mn24) (z := mn24) hown (mvT hZ (own_w hw 131 rfl)) (mvT hZ (own_w hw 132 rfl)) (notFace_of_selects (args := #[]) (mvT hZ (own_w hw 134 rfl))) (mvT hZ (own_w hw 134 rfl)) (mvT hZ (own_w hw 133 rfl)) (by decide) (backOf (W := 0) (rmEnB l Z a0 hw [] qo ((p3 - sn).toInt64) sz nn aq kq vq f ln h0 n0 Z0 E_qo F_bytes_qo F_size_qo V_aq g_qo g_aq hvq (by omega) cS0 (by omega) hj hj2 hj3 hln (by have := own_c1 cN0 cS0; omega)) hZ (own_w hw 135 rfl) (own_w hw 73 rfl) (by decide) (by decide)) q6a q6c (g := (mkF m 47 lc4 [(.long ((p3 - sn).toInt64)), (.ref qo)])) rfl (by rw [hml]; rfl) (Steps.refl _) (argsL := [(.long ((p3 - sn).toInt64))]) (rest := []) (lenOf pd__28J_29V rfl) rfl (by show 2 * 0 + _ ≤ _; exact Nat.le_of_eq rfl) (hb hby d14_47) (fun _ _ => ⟨rfl, e5, (by decide : 0 + 1 ≤ _), (by decide : 0 + 32 ≤ _)⟩)
 dsimp only [Pt.U, Pt.locs, Pt.cells, Pt.slots] at y6 z6 st6 hQ6
 change Stand p l e _ s m _ below meth c T6 L6 k6 n6 at X6
 change L6 = _ ++ Lc6 at l6
 subst y6 z6
 obtain ⟨r_6, kr_6, vr_6, rfl, N6q, K6q, t6_0, t6_1, t6_2, t6_3, t6_4, t6_5, t6_6⟩ := hQ6
 have N6 : Fr n0 L6 := l6 ▸ Fr.app N0 N6q
 have K6 : Keep h0 T6.heap [a1, qo, aq, sh] := (Keep.refl h0 [a1, qo, aq, sh]).trans K6q (allS (P := fun xz => xz ∈ [a1, qo, aq, sh] ∨ h0.size ≤ xz) (Or.inl (List.mem_of_getElem? (i := 1) rfl)) (allS (P := fun xz => xz ∈ [a1, qo, aq, sh] ∨ h0.size ≤ xz) (Or.inl (List.mem_of_getElem? (i := 2) rfl)) all0))
 have nb26 : ap ≠ r_6 := own_neOr t6_6 ne_ap_aq V_ap.lt
 have ho27 : r_6 = aq ∨ h0.size ≤ r_6 := own_hor t6_6 (Or.inl rfl) (Nat.le_refl _)
 have cA1 : (sz + ln).toInt = sz.toInt + f + 1 := own_add cS0 hln (by omega)
 have cS1 : 0 ≤ (sz + ln).toInt ∧ (sz + ln).toInt ≤ 16 := by omega
 have cN1 := own_c1 cN0 cS0
 have f28 := (F_positions_a1.keep K6q (ninS na7 (ninS na17 nin0)))
 obtain ⟨T29, X29, e29, st29⟩ := getF X6 hx hZ hown (host := "") (Or.inl (own_w hw 83 rfl)) Via.refl rfl f28 (g := (mkF m 56 lc4 [(.ref a1)])) rfl rfl (hb hby d14_56)
 have f30 := (F_size_tg.keep K6q (ninS na12 (ninS na21 nin0)))
 have f32 := (E_tg.keep K6q)
 obtain ⟨cq31, kq31, q31a, q31b, q31c⟩ := isOf hZ e29 f32
 obtain ⟨_, _, ⟨T31, L31, k31, n31⟩, -, X31, ⟨Lc31, hQ31, l31, y31, z31⟩, st31⟩ := X29.interfaceBack hx (xi := mn18) (y := mn8) hown (mvT hZ (own_w hw 88 rfl)) (mvT hZ (own_w hw 89 rfl)) (mvT hZ (own_w hw 90 rfl)) (mvT hZ (own_w hw 155 rfl)) (mvT hZ (own_w hw 156 rfl)) (mvT hZ (own_w hw 157 rfl)) (mvT hZ (own_w hw 158 rfl)) (mvT hZ (own_w hw 159 rfl)) (by decide) (backOf (W := 1) (rm20 l Z a0 hw [] tg (2 : Int32) T6.heap n0 (Nat.le_trans Z0 K6.1) f30) hZ (own_w hw 160 rfl) (own_w hw 4 rfl) (by decide) (by decide)) q31a q31b q31c (g := (mkF m 61 lc4 [(.ref tg), (.ref qo)])) rfl (by rw [hml]; rfl) (Steps.refl _) (argsL := []) (rest := [(.ref qo)]) (lenOf pd__28_29I rfl) rfl (by show 2 * 0 + _ ≤ _; exact Nat.le_of_eq rfl) (hb hby d14_61) (fun _ _ => ⟨rfl, e29, (by decide : 1 + 0 ≤ _), (by decide : 32 + 0 ≤ _)⟩)
 dsimp only [Pt.U, Pt.locs, Pt.cells, Pt.slots] at y31 z31 st31 hQ31
 change Stand p l e _ s m _ below meth c T31 L31 k31 n31 at X31
 change L31 = _ ++ Lc31 at l31
 subst y31 z31
 obtain ⟨rfl, N31q, e31⟩ := hQ31
 have N31 : Fr n0 L31 := l31 ▸ Fr.app N6 N31q
 have f33 := (V_ap.keep K6q (ninS na9 (ninS ne_ap_aq nin0)))
 have na35 := (Exa.neArv t6_0 t6_3 (own_w hw 72 rfl)).symm
 have f36 := (E_a1.keep K6q)
 have na37 := Exa.neArv f36 t6_3 (own_w hw 65 rfl)
 have f38 := (V_a3.keep K6q (ninS na8 (ninS na18 nin0)))
 have na39 := own_neVV f38 t6_3 (by decide)
 have f40 := (E_po.keep K6q)
 have na41 := Exa.neArv f40 t6_3 (own_w hw 72 rfl)
 have f42 := (V_sh.keep K6q (ninS na11 (ninS na20 nin0)))
 have na43 := own_neVV f42 t6_3 (by decide)
 have na44 := Exa.neArv f32 t6_3 (own_w hw 3 rfl)
 have na45 := Nat.ne_of_lt (Nat.lt_of_lt_of_le lt_wNo t6_4)
 have na46 := Nat.ne_of_lt (Nat.lt_of_lt_of_le lt_wOt t6_4)
 have na47 := Nat.ne_of_lt (Nat.lt_of_lt_of_le lt_x1 t6_4)
 have na48 := Nat.ne_of_lt (Nat.lt_of_lt_of_le lt_x2 t6_4)
 have f49 := (E_wNo.keep K6q)
 have f50 := (E_wOt.keep K6q)
 have f51 := (E_x1.keep K6q)
 have f52 := (E_x2.keep K6q)
 obtain ⟨cq34, kq34, q34a, q34b, q34c⟩ := isOf hZ e31 t6_0
 obtain ⟨_, _, ⟨T34, L34, k34, n34⟩, -, X34, ⟨Lc34, hQ34, l34, y34, z34⟩, st34⟩ := X31.virtualBack hx (y := mn24) (z := mn24) hown (mvT hZ (own_w hw 131 rfl)) (mvT hZ (own_w hw 132 rfl)) (notFace_of_selects (args := #[]) (mvT hZ (own_w hw 134 rfl))) (mvT hZ (own_w hw 134 rfl)) (mvT hZ (own_w hw 133 rfl)) (by decide) (backOf (W := 0) (rmEnB l Z a0 hw [] qo ((2 : Int32).toInt64) (sz + ln) (own_cap nn sz) r_6 kr_6 vr_6 0 (1 : Int32) T6.heap n0 (Nat.le_trans Z0 K6.1) t6_0 t6_1 t6_2 t6_3 g_qo t6_4 t6_5 (by omega) cS1 (by decide) (by decide) (by decide) (own_f0 _) own_1 (by have := own_c1 cN1 cS1; omega)) hZ (own_w hw 135 rfl) (own_w hw 73 rfl) (by decide) (by decide)) q34a q34c (g := (mkF m 67 lc4 [(.long ((2 : Int32).toInt64)), (.ref qo)])) rfl (by rw [hml]; rfl) (Steps.refl _) (argsL := [(.long ((2 : Int32).toInt64))]) (rest := []) (lenOf pd__28J_29V rfl) rfl (by show 2 * 0 + _ ≤ _; exact Nat.le_of_eq rfl) (hb hby d14_67) (fun _ _ => ⟨rfl, e31, (by decide : 1 + 1 ≤ _), (by decide : 32 + 32 ≤ _)⟩)
 dsimp only [Pt.U, Pt.locs, Pt.cells, Pt.slots] at y34 z34 st34 hQ34
 change Stand p l e _ s m _ below meth c T34 L34 k34 n34 at X34
 change L34 = _ ++ Lc34 at l34
 subst y34 z34
 obtain ⟨r_34, kr_34, vr_34, rfl, N34q, K34q, t34_0, t34_1, t34_2, t34_3, t34_4, t34_5, t34_6⟩ := hQ34
 have N34 : Fr n0 L34 := l34 ▸ Fr.app N31 N34q
 have K34 : Keep h0 T34.heap [a1, qo, aq, sh] := K6.trans K34q (allS (P := fun xz => xz ∈ [a1, qo, aq, sh] ∨ h0.size ≤ xz) (Or.inl (List.mem_of_getElem? (i := 1) rfl)) (allS (P := fun xz => xz ∈ [a1, qo, aq, sh] ∨ h0.size ≤ xz) (own_kor ho27 (List.mem_of_getElem? (i := 2) rfl)) all0))
 have nb53 : ap ≠ r_34 := own_neOr t34_6 nb26 f33.lt
 have ho54 : r_34 = aq ∨ h0.size ≤ r_34 := own_hor t34_6 ho27 K6.1
 have cA2 : ((sz + ln) + (1 : Int32)).toInt = (sz + ln).toInt + ((0 : Nat) : Int) + 1 := own_add cS1 own_1 (by omega)
 have cS2 : 0 ≤ ((sz + ln) + (1 : Int32)).toInt ∧ ((sz + ln) + (1 : Int32)).toInt ≤ 16 := by omega
 have cN2 := own_c1 cN1 cS1
 have f55 := (f28.keep K34q (ninS na7 (ninS na37 nin0)))
 obtain ⟨T56, X56, e56, st56⟩ := getF X34 hx hZ hown (host := "") (Or.inl (own_w hw 83 rfl)) Via.refl rfl f55 (g := (mkF m 71 lc4 [(.ref a1)])) rfl rfl (hb hby d14_71)
 have f57 := (f33.keep K34q (ninS na9 (ninS nb26 nin0)))
 have na59 := (Exa.neArv t34_0 t34_3 (own_w hw 72 rfl)).symm
 have f60 := (f36.keep K34q)
 have na61 := Exa.neArv f60 t34_3 (own_w hw 65 rfl)
 have f62 := (f38.keep K34q (ninS na8 (ninS na39 nin0)))
 have na63 := own_neVV f62 t34_3 (by decide)
 have f64 := (f40.keep K34q)
 have na65 := Exa.neArv f64 t34_3 (own_w hw 72 rfl)
 have f66 := (f42.keep K34q (ninS na11 (ninS na43 nin0)))
 have na67 := own_neVV f66 t34_3 (by decide)
 have f68 := (f32.keep K34q)
 have na69 := Exa.neArv f68 t34_3 (own_w hw 3 rfl)
 have na70 := Nat.ne_of_lt (Nat.lt_of_lt_of_le lt_wNo t34_4)
 have na71 := Nat.ne_of_lt (Nat.lt_of_lt_of_le lt_wOt t34_4)
 have na72 := Nat.ne_of_lt (Nat.lt_of_lt_of_le lt_x1 t34_4)
 have na73 := Nat.ne_of_lt (Nat.lt_of_lt_of_le lt_x2 t34_4)
 have f74 := (f49.keep K34q)
 have f75 := (f50.keep K34q)
 have f76 := (f51.keep K34q)
 have f77 := (f52.keep K34q)
 obtain ⟨cq58, kq58, q58a, q58b, q58c⟩ := isOf hZ e56 t34_0
 obtain ⟨_, _, ⟨T58, L58, k58, n58⟩, -, X58, ⟨Lc58, hQ58, l58, y58, z58⟩, st58⟩ := X56.virtualBack hx (y := mn24) (z := mn24) hown (mvT hZ (own_w hw 131 rfl)) (mvT hZ (own_w hw 132 rfl)) (notFace_of_selects (args := #[]) (mvT hZ (own_w hw 134 rfl))) (mvT hZ (own_w hw 134 rfl)) (mvT hZ (own_w hw 133 rfl)) (by decide) (backOf (W := 0) (rmEnB l Z a0 hw [] qo (p4.toInt64) ((sz + ln) + (1 : Int32)) (own_cap (own_cap nn sz) (sz + ln)) r_34 kr_34 vr_34 0 (1 : Int32) T34.heap n0 (Nat.le_trans Z0 K34.1) t34_0 t34_1 t34_2 t34_3 g_qo t34_4 t34_5 (by omega) cS2 (by decide) (by rw [hp4]; omega) (by show (p4.toInt64).toInt < 128; rw [hp4]; omega) (own_f0 _) own_1 (by have := own_c1 cN2 cS2; omega)) hZ (own_w hw 135 rfl) (own_w hw 73 rfl) (by decide) (by decide)) q58a q58c (g := (mkF m 76 lc4 [(.long (p4.toInt64)), (.ref qo)])) rfl (by rw [hml]; rfl) (Steps.refl _) (argsL := [(.long (p4.toInt64))]) (rest := []) (lenOf pd__28J_29V rfl) rfl (by show 2 * 0 + _ ≤ _; exact Nat.le_of_eq rfl) (hb hby d14_76) (fun _ _ => ⟨rfl, e56, (by decide : 2 + 1 ≤ _), (by decide : 64 + 32 ≤ _)⟩)
 dsimp only [Pt.U, Pt.locs, Pt.cells, Pt.slots] at y58 z58 st58 hQ58
 change Stand p l e _ s m _ below meth c T58 L58 k58 n58 at X58
 change L58 = _ ++ Lc58 at l58
 subst y58 z58
 obtain ⟨r_58, kr_58, vr_58, rfl, N58q, K58q, t58_0, t58_1, t58_2, t58_3, t58_4, t58_5, t58_6⟩ := hQ58
 have N58 : Fr n0 L58 := l58 ▸ Fr.app N34 N58q
 have K58 : Keep h0 T58.heap [a1, qo, aq, sh] := K34.trans K58q (allS (P := fun xz => xz ∈ [a1, qo, aq, sh] ∨ h0.size ≤ xz) (Or.inl (List.mem_of_getElem? (i := 1) rfl)) (allS (P := fun xz => xz ∈ [a1, qo, aq, sh] ∨ h0.size ≤ xz) (own_kor ho54 (List.mem_of_getElem? (i := 2) rfl)) all0))
 have nb78 : ap ≠ r_58 := own_neOr t58_6 nb53 f57.lt
 have ho79 : r_58 = aq ∨ h0.size ≤ r_58 := own_hor t58_6 ho54 K34.1
 have cA3 : (((sz + ln) + (1 : Int32)) + (1 : Int32)).toInt = ((sz + ln) + (1 : Int32)).toInt + ((0 : Nat) : Int) + 1 := own_add cS2 own_1 (by omega)
 have cS3 : 0 ≤ (((sz + ln) + (1 : Int32)) + (1 : Int32)).toInt ∧ (((sz + ln) + (1 : Int32)) + (1 : Int32)).toInt ≤ 16 := by omega
 have cN3 := own_c1 cN2 cS2
 have f80 := (f55.keep K58q (ninS na7 (ninS na61 nin0)))
 obtain ⟨T81, X81, e81, st81⟩ := getF X58 hx hZ hown (host := "") (Or.inl (own_w hw 83 rfl)) Via.refl rfl f80 (g := (mkF m 80 lc4 [(.ref a1)])) rfl rfl (hb hby d14_80)
 have f82 := (f68.keep K58q)
 have f83 := ((f30.keep K34q (ninS na12 (ninS na44 nin0))).keep K58q (ninS na12 (ninS na69 nin0)))
 have f84 := (((F_elementData_tg.keep K6q (ninS na12 (ninS na21 nin0))).keep K34q (ninS na12 (ninS na44 nin0))).keep K58q (ninS na12 (ninS na69 nin0)))
 have f85 := (f62.keep K58q (ninS na8 (ninS na63 nin0)))
 have f86 := (f76.keep K58q)
 have f87 := (f77.keep K58q)
 have f88 := (((F_ordinal_x1.keep K6q (ninS na15 (ninS na24 nin0))).keep K34q (ninS na15 (ninS na47 nin0))).keep K58q (ninS na15 (ninS na72 nin0)))
 have f89 := (((F_ordinal_x2.keep K6q (ninS na16 (ninS na25 nin0))).keep K34q (ninS na16 (ninS na48 nin0))).keep K58q (ninS na16 (ninS na73 nin0)))
 have f91 := (f60.keep K58q)
 have f92 := (f57.keep K58q (ninS na9 (ninS nb53 nin0)))
 have f93 := (f64.keep K58q)
 have f94 := (f66.keep K58q (ninS na11 (ninS na67 nin0)))
 have f95 := (f74.keep K58q)
 have f96 := (f75.keep K58q)
 obtain ⟨cq90, kq90, q90a, q90b, q90c⟩ := isOf hZ e81 f82
 obtain ⟨_, _, ⟨T90, L90, k90, n90⟩, -, X90, ⟨Lc90, hQ90, l90, y90, z90⟩, st90⟩ := X81.interfaceBack hx (xi := mn19) (y := mn12) hown (mvT hZ (own_w hw 161 rfl)) (mvT hZ (own_w hw 162 rfl)) (mvT hZ (own_w hw 163 rfl)) (mvT hZ (own_w hw 164 rfl)) (mvT hZ (own_w hw 165 rfl)) (mvT hZ (own_w hw 166 rfl)) (mvT hZ (own_w hw 167 rfl)) (mvT hZ (own_w hw 159 rfl)) (by decide) (backOf (W := 1) (rmGetP l Z a0 hw [] tg p4 a3 x1 x2 kr T58.heap n0 (Nat.le_trans Z0 K58.1) f82 f83 f84 f85 f86 f87 f88 f89 lt_x1 lt_x2 hp) hZ (own_w hw 168 rfl) (own_w hw 4 rfl) (by decide) (by decide)) q90a q90b q90c (g := (mkF m 86 lc4 [(.int p4), (.ref tg), (.ref qo)])) rfl (by rw [hml]; rfl) (Steps.refl _) (argsL := [(.int p4)]) (rest := [(.ref qo)]) (lenOf pd__28I_29Ljava_2flang_2fObject_3b rfl) rfl (by show 2 * 0 + _ ≤ _; exact Nat.le_of_eq rfl) (hb hby d14_86) (fun _ _ => ⟨rfl, e81, (by decide : 3 + 0 ≤ _), (by decide : 96 + 0 ≤ _)⟩)
 dsimp only [Pt.U, Pt.locs, Pt.cells, Pt.slots] at y90 z90 st90 hQ90
 change Stand p l e _ s m _ below meth c T90 L90 k90 n90 at X90
 change L90 = _ ++ Lc90 at l90
 subst y90 z90
 obtain ⟨xo_90, ko_90, rfl, N90q, e90, t90_0, t90_1, t90_2, t90_3⟩ := hQ90
 have N90 : Fr n0 L90 := l90 ▸ Fr.app N58 N90q
 rw [e90] at t90_0 t90_1
 obtain ⟨T97, X97, e97, st97⟩ := castY X90 hx hZ hown (own_w hw 182 rfl) e90 (Ins.self t90_0) (g := (mkF m 91 lc4 [(.ref xo_90), (.ref qo)])) rfl rfl (hb hby d14_91)
 obtain ⟨cq98, kq98, q98a, q98b, q98c⟩ := isOf hZ e97 t90_0
 obtain ⟨_, _, ⟨T98, L98, k98, n98⟩, -, X98, ⟨Lc98, hQ98, l98, y98, z98⟩, st98⟩ := X97.virtualBackUp hx (x := mn15) (y := mn13) (owner := nm8) hown (mvT hZ (own_w hw 184 rfl)) (mvT hZ (own_w hw 185 rfl)) (mvT hZ (own_w hw 186 rfl)) (by decide) (mvT hZ (own_w hw 188 rfl)) (mvT hZ (own_w hw 187 rfl)) (backOf (W := 1) (rm25 l Z a0 hw [] xo_90 ko_90 T58.heap n0 (Nat.le_trans Z0 K58.1) t90_1) hZ (own_w hw 190 rfl) (own_w hw 189 rfl) (by decide) (by decide)) q98a q98c (g := (mkF m 94 lc4 [(.ref xo_90), (.ref qo)])) rfl (by rw [hml]; rfl) (Steps.refl _) (argsL := []) (rest := [(.ref qo)]) (lenOf pd__28_29I rfl) rfl (by show 2 * 0 + _ ≤ _; exact Nat.le_of_eq rfl) (hb hby d14_94) (fun _ _ => ⟨rfl, e97, (by decide : 3 + 0 ≤ _), (by decide : 96 + 0 ≤ _)⟩)
 dsimp only [Pt.U, Pt.locs, Pt.cells, Pt.slots] at y98 z98 st98 hQ98
 change Stand p l e _ s m _ below meth c T98 L98 k98 n98 at X98
 change L98 = _ ++ Lc98 at l98
 subst y98 z98
 obtain ⟨rfl, N98q, e98⟩ := hQ98
 have N98 : Fr n0 L98 := l98 ▸ Fr.app N90 N98q
 have na100 := (Exa.neArv t58_0 t58_3 (own_w hw 72 rfl)).symm
 have na101 := Nat.ne_of_lt (Nat.lt_of_lt_of_le t90_3 g_qo)
 have na102 := Exa.neArv f91 t58_3 (own_w hw 65 rfl)
 have na103 := own_neVV f85 t58_3 (by decide)
 have na104 := Exa.neArv f93 t58_3 (own_w hw 72 rfl)
 have na105 := own_neVV f94 t58_3 (by decide)
 have na106 := Exa.neArv f82 t58_3 (own_w hw 3 rfl)
 have na107 := Nat.ne_of_lt (Nat.lt_of_lt_of_le lt_wNo t58_4)
 have na108 := Nat.ne_of_lt (Nat.lt_of_lt_of_le lt_wOt t58_4)
 have na109 := Nat.ne_of_lt (Nat.lt_of_lt_of_le lt_x1 t58_4)
 have na110 := Nat.ne_of_lt (Nat.lt_of_lt_of_le lt_x2 t58_4)
 have na111 := Nat.ne_of_lt (Nat.lt_of_lt_of_le t90_3 t58_4)
 obtain ⟨cq99, kq99, q99a, q99b, q99c⟩ := isOf hZ e98 t58_0
 obtain ⟨_, _, ⟨T99, L99, k99, n99⟩, -, X99, ⟨Lc99, hQ99, l99, y99, z99⟩, st99⟩ := X98.virtualBack hx (y := mn24) (z := mn24) hown (mvT hZ (own_w hw 131 rfl)) (mvT hZ (own_w hw 132 rfl)) (notFace_of_selects (args := #[]) (mvT hZ (own_w hw 134 rfl))) (mvT hZ (own_w hw 134 rfl)) (mvT hZ (own_w hw 133 rfl)) (by decide) (backOf (W := 0) (rmEnB l Z a0 hw [] qo (ko_90.toInt64) (((sz + ln) + (1 : Int32)) + (1 : Int32)) (own_cap (own_cap (own_cap nn sz) (sz + ln)) ((sz + ln) + (1 : Int32))) r_58 kr_58 vr_58 0 (1 : Int32) T58.heap n0 (Nat.le_trans Z0 K58.1) t58_0 t58_1 t58_2 t58_3 g_qo t58_4 t58_5 (by omega) cS3 (by decide) (by rw [Jvm.Kit.i64_of_i32]; omega) (by show (ko_90.toInt64).toInt < 128; rw [Jvm.Kit.i64_of_i32]; omega) (own_f0 _) own_1 (by have := own_c1 cN3 cS3; omega)) hZ (own_w hw 135 rfl) (own_w hw 73 rfl) (by decide) (by decide)) q99a q99c (g := (mkF m 98 lc4 [(.long (ko_90.toInt64)), (.ref qo)])) rfl (by rw [hml]; rfl) (Steps.refl _) (argsL := [(.long (ko_90.toInt64))]) (rest := []) (lenOf pd__28J_29V rfl) rfl (by show 2 * 0 + _ ≤ _; exact Nat.le_of_eq rfl) (hb hby d14_98) (fun _ _ => ⟨rfl, e98, (by decide : 3 + 1 ≤ _), (by decide : 96 + 32 ≤ _)⟩)
 dsimp only [Pt.U, Pt.locs, Pt.cells, Pt.slots] at y99 z99 st99 hQ99
 change Stand p l e _ s m _ below meth c T99 L99 k99 n99 at X99
 change L99 = _ ++ Lc99 at l99
 subst y99 z99
 obtain ⟨r_99, kr_99, vr_99, rfl, N99q, K99q, t99_0, t99_1, t99_2, t99_3, t99_4, t99_5, t99_6⟩ := hQ99
 have N99 : Fr n0 L99 := l99 ▸ Fr.app N98 N99q
 have K99 : Keep h0 T99.heap [a1, qo, aq, sh] := K58.trans K99q (allS (P := fun xz => xz ∈ [a1, qo, aq, sh] ∨ h0.size ≤ xz) (Or.inl (List.mem_of_getElem? (i := 1) rfl)) (allS (P := fun xz => xz ∈ [a1, qo, aq, sh] ∨ h0.size ≤ xz) (own_kor ho79 (List.mem_of_getElem? (i := 2) rfl)) all0))
 have nb112 : ap ≠ r_99 := own_neOr t99_6 nb78 f92.lt
 have ho113 : r_99 = aq ∨ h0.size ≤ r_99 := own_hor t99_6 ho79 K58.1
 have cA4 : ((((sz + ln) + (1 : Int32)) + (1 : Int32)) + (1 : Int32)).toInt = (((sz + ln) + (1 : Int32)) + (1 : Int32)).toInt + ((0 : Nat) : Int) + 1 := own_add cS3 own_1 (by omega)
 have cS4 : 0 ≤ ((((sz + ln) + (1 : Int32)) + (1 : Int32)) + (1 : Int32)).toInt ∧ ((((sz + ln) + (1 : Int32)) + (1 : Int32)) + (1 : Int32)).toInt ≤ 16 := by omega
 have cN4 := own_c1 cN3 cS3
 have pre114 : ∀ t, Steps p.tables e below (T99.setTop (mkF m 101 lc4 [])) t → Steps p.tables e below (s₁.setTop (entryFrame m #[(.ref a1), (.int p2), (.int p3), (.int p4), (.ref tg)] 6)) t := fun t kt => by
  refine pre0 t ?_
  show oS s₁ (mkF m 0 lc1 [])
  refine XS.iloadN X0.here hx rfl (hb hby d14_0) rfl ?_
  show oS s₁ (mkF m 1 lc1 [(.int p2)])
  refine XS.aloadN X0.here hx rfl (hb hby d14_1) rfl rfl ?_
  show oS s₁ (mkF m 2 lc1 [(.ref a1), (.int p2)])
  refine st2 _ ?_
  show oS T2 (mkF m 5 lc1 [(.int dc), (.int p2)])
  refine XS.icmpYes X2.here hx rfl (pc0 := 5) (pc' := 32) rfl (hb hby d14_5) rfl (teq hdoc).1 (by decide) (by decide) ?_
  show oS T2 (mkF m 32 lc1 [])
  refine XS.iloadN X2.here hx rfl (hb hby d14_32) rfl ?_
  show oS T2 (mkF m 33 lc1 [(.int p3)])
  refine XS.aloadN X2.here hx rfl (hb hby d14_33) rfl rfl ?_
  show oS T2 (mkF m 34 lc1 [(.ref a1), (.int p3)])
  refine st3 _ ?_
  show oS T3 (mkF m 37 lc1 [(.int sn), (.int p3)])
  refine XS.isub X3.here hx rfl (hb hby d14_37) rfl ?_
  show oS T3 (mkF m 38 lc1 [(.int (p3 - sn))])
  refine XS.istore X3.here hx rfl (hb hby d14_38) rfl (l' := lc4) rfl ?_
  show oS T3 (mkF m 40 lc4 [])
  refine XS.aloadN X3.here hx rfl (hb hby d14_40) rfl rfl ?_
  show oS T3 (mkF m 41 lc4 [(.ref a1)])
  refine st5 _ ?_
  show oS T5 (mkF m 44 lc4 [(.ref qo)])
  refine XS.iload X5.here hx rfl (hb hby d14_44) rfl ?_
  show oS T5 (mkF m 46 lc4 [(.int (p3 - sn)), (.ref qo)])
  refine XS.i2l X5.here hx rfl (hb hby d14_46) rfl ?_
  show oS T5 (mkF m 47 lc4 [(.long ((p3 - sn).toInt64)), (.ref qo)])
  refine st6.trans ?_
  show oS T6 (mkF m 50 lc4 [])
  refine XS.iload X6.here hx rfl (hb hby d14_50) rfl ?_
  show oS T6 (mkF m 52 lc4 [(.int (p3 - sn))])
  refine XS.ifNo X6.here hx rfl (hb hby d14_52) rfl ((if0 _ _).trans (tlt hgap).2.2.2) ?_
  show oS T6 (mkF m 55 lc4 [])
  refine XS.aloadN X6.here hx rfl (hb hby d14_55) rfl rfl ?_
  show oS T6 (mkF m 56 lc4 [(.ref a1)])
  refine st29 _ ?_
  show oS T29 (mkF m 59 lc4 [(.ref qo)])
  refine XS.aload X29.here hx rfl (hb hby d14_59) rfl rfl ?_
  show oS T29 (mkF m 61 lc4 [(.ref tg), (.ref qo)])
  refine st31.trans ?_
  show oS T31 (mkF m 66 lc4 [(.int 2), (.ref qo)])
  refine XS.i2l X31.here hx rfl (hb hby d14_66) rfl ?_
  show oS T31 (mkF m 67 lc4 [(.long ((2 : Int32).toInt64)), (.ref qo)])
  refine st34.trans ?_
  show oS T34 (mkF m 70 lc4 [])
  refine XS.aloadN X34.here hx rfl (hb hby d14_70) rfl rfl ?_
  show oS T34 (mkF m 71 lc4 [(.ref a1)])
  refine st56 _ ?_
  show oS T56 (mkF m 74 lc4 [(.ref qo)])
  refine XS.iloadN X56.here hx rfl (hb hby d14_74) rfl ?_
  show oS T56 (mkF m 75 lc4 [(.int p4), (.ref qo)])
  refine XS.i2l X56.here hx rfl (hb hby d14_75) rfl ?_
  show oS T56 (mkF m 76 lc4 [(.long (p4.toInt64)), (.ref qo)])
  refine st58.trans ?_
  show oS T58 (mkF m 79 lc4 [])
  refine XS.aloadN X58.here hx rfl (hb hby d14_79) rfl rfl ?_
  show oS T58 (mkF m 80 lc4 [(.ref a1)])
  refine st81 _ ?_
  show oS T81 (mkF m 83 lc4 [(.ref qo)])
  refine XS.aload X81.here hx rfl (hb hby d14_83) rfl rfl ?_
  show oS T81 (mkF m 85 lc4 [(.ref tg), (.ref qo)])
  refine XS.iloadN X81.here hx rfl (hb hby d14_85) rfl ?_
  show oS T81 (mkF m 86 lc4 [(.int p4), (.ref tg), (.ref qo)])
  refine st90.trans ?_
  show oS T90 (mkF m 91 lc4 [(.ref xo_90), (.ref qo)])
  refine st97 _ ?_
  show oS T97 (mkF m 94 lc4 [(.ref xo_90), (.ref qo)])
  refine st98.trans ?_
  show oS T98 (mkF m 97 lc4 [(.int ko_90), (.ref qo)])
  refine XS.i2l X98.here hx rfl (hb hby d14_97) rfl ?_
  show oS T98 (mkF m 98 lc4 [(.long (ko_90.toInt64)), (.ref qo)])
  refine st99.trans ?_
  exact kt
 have f115 := ((((F_windows_a1.keep K6q (ninS na7 (ninS na17 nin0))).keep K34q (ninS na7 (ninS na37 nin0))).keep K58q (ninS na7 (ninS na61 nin0))).keep K99q (ninS na7 (ninS na102 nin0)))
 obtain ⟨T116, X116, e116, st116⟩ := getF X99 hx hZ hown (host := "") (Or.inl (own_w hw 193 rfl)) Via.refl rfl f115 (g := (mkF m 103 lc4 [(.ref a1), (.ref a1)])) rfl rfl (hb hby d14_103)
 have f117 := ((((F_shares_a1.keep K6q (ninS na7 (ninS na17 nin0))).keep K34q (ninS na7 (ninS na37 nin0))).keep K58q (ninS na7 (ninS na61 nin0))).keep K99q (ninS na7 (ninS na102 nin0)))
 obtain ⟨T118, X118, e118, st118⟩ := getF X116 hx hZ hown (host := "") (Or.inl (own_w hw 101 rfl)) Via.refl e116 f117 (g := (mkF m 110 lc4 [(.ref a1), (.int p4), (.ref tg), (.long wn), (.ref a1)])) rfl rfl (hb hby d14_110)
 have f119 := (f82.keep K99q)
 have f120 := (f83.keep K99q (ninS na12 (ninS na106 nin0)))
 have f121 := (f84.keep K99q (ninS na12 (ninS na106 nin0)))
 have f122 := (f85.keep K99q (ninS na8 (ninS na103 nin0)))
 have f123 := (f86.keep K99q)
 have f124 := (f87.keep K99q)
 have f125 := (f88.keep K99q (ninS na15 (ninS na109 nin0)))
 have f126 := (f89.keep K99q (ninS na16 (ninS na110 nin0)))
 have f127 := (own_staKeep (own_staKeep (own_staKeep (own_staKeep S_NOUN K6q (own_nsE E_qo (own_nsV V_aq own_ns0))) K34q (own_nsE t6_0 (own_nsV t6_3 own_ns0))) K58q (own_nsE t34_0 (own_nsV t34_3 own_ns0))) K99q (own_nsE t58_0 (own_nsV t58_3 own_ns0)))
 have f128 := (own_staKeep (own_staKeep (own_staKeep (own_staKeep S_OTHER K6q (own_nsE E_qo (own_nsV V_aq own_ns0))) K34q (own_nsE t6_0 (own_nsV t6_3 own_ns0))) K58q (own_nsE t34_0 (own_nsV t34_3 own_ns0))) K99q (own_nsE t58_0 (own_nsV t58_3 own_ns0)))
 have f129 := (f95.keep K99q)
 have f130 := (f96.keep K99q)
 have f131 := ((((F_ordinal_wNo.keep K6q (ninS na13 (ninS na22 nin0))).keep K34q (ninS na13 (ninS na45 nin0))).keep K58q (ninS na13 (ninS na70 nin0))).keep K99q (ninS na13 (ninS na107 nin0)))
 have f132 := ((((F_ordinal_wOt.keep K6q (ninS na14 (ninS na23 nin0))).keep K34q (ninS na14 (ninS na46 nin0))).keep K58q (ninS na14 (ninS na71 nin0))).keep K99q (ninS na14 (ninS na108 nin0)))
 have f133 := (f94.keep K99q (ninS na11 (ninS na105 nin0)))
 have f135 := (f91.keep K99q)
 have na136 := Exa.neArv f135 f133 (own_w hw 65 rfl)
 have na137 := own_neVV f122 f133 (by decide)
 have f138 := (f92.keep K99q (ninS na9 (ninS nb78 nin0)))
 have na139 := own_neVV f138 f133 (by decide)
 have f140 := (f93.keep K99q)
 have na141 := Exa.neArv f140 f133 (own_w hw 72 rfl)
 have na142 := own_neVV t99_3 f133 (by decide)
 have na143 := Exa.neArv f119 f133 (own_w hw 3 rfl)
 have na144 := Nat.ne_of_lt (Nat.lt_of_lt_of_le lt_wNo g_sh)
 have na145 := Nat.ne_of_lt (Nat.lt_of_lt_of_le lt_wOt g_sh)
 have na146 := Nat.ne_of_lt (Nat.lt_of_lt_of_le lt_x1 g_sh)
 have na147 := Nat.ne_of_lt (Nat.lt_of_lt_of_le lt_x2 g_sh)
 have na148 := Nat.ne_of_lt (Nat.lt_of_lt_of_le t90_3 g_sh)
 have f149 := (t90_0.keep K99q)
 obtain ⟨_, _, ⟨T134, L134, k134, n134⟩, -, X134, ⟨Lc134, hQ134, l134, y134, z134⟩, st134⟩ := Jvm.LawKit.callS X118 hx (y := mn17) hown (mvT hZ (own_w hw 195 rfl)) (mvT hZ (own_w hw 196 rfl)) (mvT hZ (own_w hw 197 rfl)) (mvT hZ (own_w hw 198 rfl)) (by decide) (backOf (W := 3) (rmCntP l Z a0 hw [] tg p4 sh a3 x1 x2 kr wNo wOt ks y0 y1 y2 y3 T99.heap n0 (Nat.le_trans Z0 K99.1) f119 f120 f121 f122 f123 f124 f125 f126 lt_x1 lt_x2 f127 f128 f129 f130 f131 f132 lt_wNo lt_wOt f133 g_sh hp) hZ (own_w hw 198 rfl) (own_w hw 197 rfl) (by decide) (by decide)) (g := (mkF m 113 lc4 [(.ref sh), (.int p4), (.ref tg), (.long wn), (.ref a1)])) rfl (by rw [hml]; rfl) (argsL := [(.ref tg), (.int p4), (.ref sh)]) (rest := [(.long wn), (.ref a1)]) (lenOf pd__28Ljava_2futil_2fList_3bI_5bJ_29I rfl) rfl (by show 2 * 0 + _ ≤ _; exact Nat.le_of_eq rfl) (hb hby d14_113) (fun _ _ => ⟨rfl, e118, (by decide : 4 + 0 ≤ _), (by decide : 128 + 0 ≤ _)⟩)
 dsimp only [Pt.U, Pt.locs, Pt.cells, Pt.slots] at y134 z134 st134 hQ134
 change Stand p l e _ s m _ below meth c T134 L134 k134 n134 at X134
 change L134 = _ ++ Lc134 at l134
 subst y134 z134
 obtain ⟨rfl, N134q, K134q, t134_0⟩ := hQ134
 have N134 : Fr n0 L134 := l134 ▸ Fr.app N99 N134q
 have K134 : Keep h0 T134.heap [a1, qo, aq, sh] := K99.trans K134q (allS (P := fun xz => xz ∈ [a1, qo, aq, sh] ∨ h0.size ≤ xz) (Or.inl (List.mem_of_getElem? (i := 3) rfl)) all0)
 have f150 := (f115.keep K134q (ninS na136 nin0))
 have f151 := (f135.keep K134q)
 have f152 := (f122.keep K134q (ninS na137 nin0))
 have na153 := (Exa.neArv f151 f152 (own_w hw 65 rfl)).symm
 have f154 := (f138.keep K134q (ninS na139 nin0))
 have na155 := (Exa.neArv f151 f154 (own_w hw 65 rfl)).symm
 have f156 := (f140.keep K134q)
 have na157 := Exa.ne f156 f151 (by decide)
 have f158 := (t99_3.keep K134q (ninS na142 nin0))
 have na159 := (Exa.neArv f151 f158 (own_w hw 65 rfl)).symm
 have f160 := (f119.keep K134q)
 have na161 := Exa.ne f160 f151 (by decide)
 have na162 := Nat.ne_of_lt (Nat.lt_of_lt_of_le lt_wNo g_a1)
 have na163 := Nat.ne_of_lt (Nat.lt_of_lt_of_le lt_wOt g_a1)
 have na164 := Nat.ne_of_lt (Nat.lt_of_lt_of_le lt_x1 g_a1)
 have na165 := Nat.ne_of_lt (Nat.lt_of_lt_of_le lt_x2 g_a1)
 have na166 := Nat.ne_of_lt (Nat.lt_of_lt_of_le t90_3 g_a1)
 obtain ⟨T167, h167, X167, e167, W167, st167⟩ := putF X134 hx hZ hown (host := "") (Or.inl (own_w hw 193 rfl)) Via.refl rfl f150 f151 (Or.inl (own_w hw 194 rfl)) (own_w hw 65 rfl) (ty := .long) (by decide) rfl rfl (g := (mkF m 118 lc4 [(.long (wn + ((1 : Int32).toInt64))), (.ref a1)])) rfl rfl (hb hby d14_118)
 have K168 : Keep h0 h167 [a1, qo, aq, sh] := K134.wr W167 (Or.inl (List.mem_of_getElem? (i := 0) rfl))
 have N169 := Fr.snoc X167 N134 g_a1
 have Fw167 := f150.same W167
 have f170 := ((((((F_sentence_a1.keep K6q (ninS na7 (ninS na17 nin0))).keep K34q (ninS na7 (ninS na37 nin0))).keep K58q (ninS na7 (ninS na61 nin0))).keep K99q (ninS na7 (ninS na102 nin0))).keep K134q (ninS na136 nin0)).other W167 (Or.inr (sn86 hw)))
 have f171 := (f151.wr W167)
 obtain ⟨T172, h172, X172, e172, W172, st172⟩ := putF X167 hx hZ hown (host := "") (Or.inl (own_w hw 127 rfl)) Via.refl e167 f170 f171 (Or.inl (own_w hw 128 rfl)) (own_w hw 65 rfl) (ty := .int) (by decide) rfl rfl (g := (mkF m 123 lc4 [(.int p3), (.ref a1)])) rfl rfl (hb hby d14_123)
 have K173 : Keep h0 h172 [a1, qo, aq, sh] := K168.wr W172 (Or.inl (List.mem_of_getElem? (i := 0) rfl))
 have N174 := Fr.snoc X172 N169 g_a1
 have Fw172 := f170.same W172
 have f175 := (((((((F_frequency_a1.keep K6q (ninS na7 (ninS na17 nin0))).keep K34q (ninS na7 (ninS na37 nin0))).keep K58q (ninS na7 (ninS na61 nin0))).keep K99q (ninS na7 (ninS na102 nin0))).keep K134q (ninS na136 nin0)).other W167 (Or.inr (sn89 hw))).other W172 (Or.inr (sn87 hw)))
 obtain ⟨T176, X176, e176, st176⟩ := getF X172 hx hZ hown (host := "") (Or.inl (own_w hw 125 rfl)) Via.refl e172 f175 (g := (mkF m 128 lc4 [(.ref a1), (.ref a1)])) rfl rfl (hb hby d14_128)
 have f177 := (f171.wr W172)
 obtain ⟨T178, h178, X178, e178, W178, st178⟩ := putF X176 hx hZ hown (host := "") (Or.inl (own_w hw 125 rfl)) Via.refl e176 f175 f177 (Or.inl (own_w hw 126 rfl)) (own_w hw 65 rfl) (ty := .int) (by decide) rfl rfl (g := (mkF m 133 lc4 [(.int 2), (.ref a1)])) rfl rfl (hb hby d14_133)
 have K179 : Keep h0 h178 [a1, qo, aq, sh] := K173.wr W178 (Or.inl (List.mem_of_getElem? (i := 0) rfl))
 have N180 := Fr.snoc X178 N174 g_a1
 have Fw178 := f175.same W178
 have f181 := ((((((((F_collectionFrequency_a1.keep K6q (ninS na7 (ninS na17 nin0))).keep K34q (ninS na7 (ninS na37 nin0))).keep K58q (ninS na7 (ninS na61 nin0))).keep K99q (ninS na7 (ninS na102 nin0))).keep K134q (ninS na136 nin0)).other W167 (Or.inr (sn92 hw))).other W172 (Or.inr (sn90 hw))).other W178 (Or.inr (sn77 hw)))
 obtain ⟨T182, X182, e182, st182⟩ := getF X178 hx hZ hown (host := "") (Or.inl (own_w hw 219 rfl)) Via.refl e178 f181 (g := (mkF m 138 lc4 [(.ref a1), (.ref a1)])) rfl rfl (hb hby d14_138)
 have f183 := (f177.wr W178)
 obtain ⟨T184, h184, X184, e184, W184, st184⟩ := putF X182 hx hZ hown (host := "") (Or.inl (own_w hw 219 rfl)) Via.refl e182 f181 f183 (Or.inl (own_w hw 220 rfl)) (own_w hw 65 rfl) (ty := .long) (by decide) rfl rfl (g := (mkF m 143 lc4 [(.long (cf + (1 : Int64))), (.ref a1)])) rfl rfl (hb hby d14_143)
 have K185 : Keep h0 h184 [a1, qo, aq, sh] := K179.wr W184 (Or.inl (List.mem_of_getElem? (i := 0) rfl))
 have N186 := Fr.snoc X184 N180 g_a1
 have Fw184 := f181.same W184
 have f187 := (f183.wr W184)
 have f188 := (((((((((F_postings_a1.keep K6q (ninS na7 (ninS na17 nin0))).keep K34q (ninS na7 (ninS na37 nin0))).keep K58q (ninS na7 (ninS na61 nin0))).keep K99q (ninS na7 (ninS na102 nin0))).keep K134q (ninS na136 nin0)).other W167 (Or.inr (sn95 hw))).other W172 (Or.inr (sn93 hw))).other W178 (Or.inr (sn68 hw))).other W184 (Or.inr (sn96 hw)))
 have f189 := ((((((f80.keep K99q (ninS na7 (ninS na102 nin0))).keep K134q (ninS na136 nin0)).other W167 (Or.inr (sn97 hw))).other W172 (Or.inr (sn80 hw))).other W178 (Or.inr (sn69 hw))).other W184 (Or.inr (sn98 hw)))
 have f190 := (((((f117.keep K134q (ninS na136 nin0)).other W167 (Or.inr (sn99 hw))).other W172 (Or.inr (sn84 hw))).other W178 (Or.inr (sn70 hw))).other W184 (Or.inr (sn100 hw)))
 have f191 := (((((((((F_firstDocument_a1.keep K6q (ninS na7 (ninS na17 nin0))).keep K34q (ninS na7 (ninS na37 nin0))).keep K58q (ninS na7 (ninS na61 nin0))).keep K99q (ninS na7 (ninS na102 nin0))).keep K134q (ninS na136 nin0)).other W167 (Or.inr (sn103 hw))).other W172 (Or.inr (sn101 hw))).other W178 (Or.inr (sn71 hw))).other W184 (Or.inr (sn104 hw)))
 have f192 := (((((((((F_lastDocument_a1.keep K6q (ninS na7 (ninS na17 nin0))).keep K34q (ninS na7 (ninS na37 nin0))).keep K58q (ninS na7 (ninS na61 nin0))).keep K99q (ninS na7 (ninS na102 nin0))).keep K134q (ninS na136 nin0)).other W167 (Or.inr (sn107 hw))).other W172 (Or.inr (sn105 hw))).other W178 (Or.inr (sn72 hw))).other W184 (Or.inr (sn108 hw)))
 have f193 := (((((((((F_document_a1.keep K6q (ninS na7 (ninS na17 nin0))).keep K34q (ninS na7 (ninS na37 nin0))).keep K58q (ninS na7 (ninS na61 nin0))).keep K99q (ninS na7 (ninS na102 nin0))).keep K134q (ninS na136 nin0)).other W167 (Or.inr (sn111 hw))).other W172 (Or.inr (sn109 hw))).other W178 (Or.inr (sn73 hw))).other W184 (Or.inr (sn112 hw)))
 have f194 := ((Fw172.other W178 (Or.inr (sn74 hw))).other W184 (Or.inr (sn113 hw)))
 have f195 := (((((((((F_documentFrequency_a1.keep K6q (ninS na7 (ninS na17 nin0))).keep K34q (ninS na7 (ninS na37 nin0))).keep K58q (ninS na7 (ninS na61 nin0))).keep K99q (ninS na7 (ninS na102 nin0))).keep K134q (ninS na136 nin0)).other W167 (Or.inr (sn114 hw))).other W172 (Or.inr (sn78 hw))).other W178 (Or.inr (sn75 hw))).other W184 (Or.inr (sn115 hw)))
 have f196 := (Fw178.other W184 (Or.inr (sn116 hw)))
 have f197 := (((Fw167.other W172 (Or.inr (sn82 hw))).other W178 (Or.inr (sn76 hw))).other W184 (Or.inr (sn117 hw)))
 have f198 := (((((t99_0.keep K134q).wr W167).wr W172).wr W178).wr W184)
 have f199 := (((((t99_1.keep K134q (ninS (Ne.symm na11) nin0)).other W167 (Or.inl (Ne.symm na7))).other W172 (Or.inl (Ne.symm na7))).other W178 (Or.inl (Ne.symm na7))).other W184 (Or.inl (Ne.symm na7)))
 have f200 := (((((t99_2.keep K134q (ninS (Ne.symm na11) nin0)).other W167 (Or.inl (Ne.symm na7))).other W172 (Or.inl (Ne.symm na7))).other W178 (Or.inl (Ne.symm na7))).other W184 (Or.inl (Ne.symm na7)))
 have f201 := ((((f158.other W167 na159).other W172 na159).other W178 na159).other W184 na159)
 have f202 := ((((t134_0.other W167 (Ne.symm na136)).other W172 (Ne.symm na136)).other W178 (Ne.symm na136)).other W184 (Ne.symm na136))
 obtain ⟨fs, hr, hrun, hended, hW, hsame⟩ := X184.leave (v := none) (fun _ => rfl)
 refine ⟨_, _, pre114 _ ?_, hrun, hended, _, _, rfl, ?_, ⟨_, rfl⟩, hW, hsame.mono (by decide) (by decide)⟩
 ·show oS T99 (mkF m 101 lc4 [])
  refine XS.aloadN X99.here hx rfl (hb hby d14_101) rfl rfl ?_
  show oS T99 (mkF m 102 lc4 [(.ref a1)])
  refine XS.dup X99.here hx rfl (hb hby d14_102) rfl rfl ?_
  show oS T99 (mkF m 103 lc4 [(.ref a1), (.ref a1)])
  refine st116 _ ?_
  show oS T116 (mkF m 106 lc4 [(.long wn), (.ref a1)])
  refine XS.aload X116.here hx rfl (hb hby d14_106) rfl rfl ?_
  show oS T116 (mkF m 108 lc4 [(.ref tg), (.long wn), (.ref a1)])
  refine XS.iloadN X116.here hx rfl (hb hby d14_108) rfl ?_
  show oS T116 (mkF m 109 lc4 [(.int p4), (.ref tg), (.long wn), (.ref a1)])
  refine XS.aloadN X116.here hx rfl (hb hby d14_109) rfl rfl ?_
  show oS T116 (mkF m 110 lc4 [(.ref a1), (.int p4), (.ref tg), (.long wn), (.ref a1)])
  refine st118 _ ?_
  show oS T118 (mkF m 113 lc4 [(.ref sh), (.int p4), (.ref tg), (.long wn), (.ref a1)])
  refine st134 _ ?_
  show oS T134 (mkF m 116 lc4 [(.int 1), (.long wn), (.ref a1)])
  refine XS.i2l X134.here hx rfl (hb hby d14_116) rfl ?_
  show oS T134 (mkF m 117 lc4 [(.long ((1 : Int32).toInt64)), (.long wn), (.ref a1)])
  refine XS.ladd X134.here hx rfl (hb hby d14_117) rfl ?_
  show oS T134 (mkF m 118 lc4 [(.long (wn + ((1 : Int32).toInt64))), (.ref a1)])
  refine st167 _ ?_
  show oS T167 (mkF m 121 lc4 [])
  refine XS.aloadN X167.here hx rfl (hb hby d14_121) rfl rfl ?_
  show oS T167 (mkF m 122 lc4 [(.ref a1)])
  refine XS.iloadN X167.here hx rfl (hb hby d14_122) rfl ?_
  show oS T167 (mkF m 123 lc4 [(.int p3), (.ref a1)])
  refine st172 _ ?_
  show oS T172 (mkF m 126 lc4 [])
  refine XS.aloadN X172.here hx rfl (hb hby d14_126) rfl rfl ?_
  show oS T172 (mkF m 127 lc4 [(.ref a1)])
  refine XS.dup X172.here hx rfl (hb hby d14_127) rfl rfl ?_
  show oS T172 (mkF m 128 lc4 [(.ref a1), (.ref a1)])
  refine st176 _ ?_
  show oS T176 (mkF m 131 lc4 [(.int 1), (.ref a1)])
  refine XS.iconst X176.here hx rfl (hb hby d14_131) ?_
  show oS T176 (mkF m 132 lc4 [(.int 1), (.int 1), (.ref a1)])
  refine XS.iadd X176.here hx rfl (hb hby d14_132) rfl ?_
  show oS T176 (mkF m 133 lc4 [(.int 2), (.ref a1)])
  refine st178 _ ?_
  show oS T178 (mkF m 136 lc4 [])
  refine XS.aloadN X178.here hx rfl (hb hby d14_136) rfl rfl ?_
  show oS T178 (mkF m 137 lc4 [(.ref a1)])
  refine XS.dup X178.here hx rfl (hb hby d14_137) rfl rfl ?_
  show oS T178 (mkF m 138 lc4 [(.ref a1), (.ref a1)])
  refine st182 _ ?_
  show oS T182 (mkF m 141 lc4 [(.long cf), (.ref a1)])
  refine XS.lconst X182.here hx rfl (hb hby d14_141) ?_
  show oS T182 (mkF m 142 lc4 [(.long 1), (.long cf), (.ref a1)])
  refine XS.ladd X182.here hx rfl (hb hby d14_142) rfl ?_
  show oS T182 (mkF m 143 lc4 [(.long (cf + (1 : Int64))), (.ref a1)])
  refine st184 _ ?_
  show oS T184 (mkF m 146 lc4 [])
  exact X184.returnOut hx Bd.returns (hb hby d14_146) hr
 ·show Q_rmAdd_same_pos Z a1 p2 p3 p4 tg u_firstDocument u_lastDocument po qo ap aq sh kp kq ks vp vq df wn cf f ln nn sz dc sn n1 y0 y1 y2 y3 a3 x1 x2 kr wNo wOt h0 n0 _ T184.heap _
  rw [e184]
  exact ⟨r_99, kr_99, vr_99, rfl, N186, K185, f187, f188, f189, f190, f191, f192, f193, f194, f195, f196, f197, Fw184, f198, f199, f200, f201, t99_4, nb112, f202, t99_5, cN4, ho113⟩
theorem ef_rmAdd_same_zero (m : MethodId) (a1 : Addr) (p2 : Int32) (p3 : Int32) (p4 : Int32) (tg : Addr) : entryFrame m #[(.ref a1), (.int p2), (.int p3), (.int p4), (.ref tg)] 6 = mkF m 0 #[.val (.ref a1), .val (.int p2), .val (.int p3), .val (.int p4), .val (.ref tg), .unset] [] := by first | (simp [entryFrame, mkF, argsToLocals, Value.category]; done) | rfl
def Q_rmAdd_same_zero (Z : State) (a1 : Addr) (p2 : Int32) (p3 : Int32) (p4 : Int32) (tg : Addr) (u_firstDocument : Value) (u_lastDocument : Value) (po : Addr) (qo : Addr) (ap : Addr) (aq : Addr) (sh : Addr) (kp : ClassId) (kq : ClassId) (ks : ClassId) (vp : List Value) (vq : List Value) (df : Int32) (wn : Int64) (cf : Int64) (f : Nat) (ln : Int32) (nn : Int32) (sz : Int32) (dc : Int32) (sn : Int32) (n1 : Int32) (y0 : Int64) (y1 : Int64) (y2 : Int64) (y3 : Int64) (a3 : Addr) (x1 : Addr) (x2 : Addr) (kr : ClassId) (wNo : Addr) (wOt : Addr) (h0 : Heap) (n0 : Nat) (v : Option Value) (h : Heap) (L : List Loc) : Prop := ∃ rq : Addr, ∃ kq2 : ClassId, ∃ vq2 : List Value, v = none ∧ Fr n0 L ∧ Keep h0 h [a1, qo, aq, sh] ∧ Exa Z h a1 nm0 ∧ Fld Z h a1 nm0 "postings" nm2 (.ref po) ∧ Fld Z h a1 nm0 "positions" nm2 (.ref qo) ∧ Fld Z h a1 nm0 "shares" "[J" (.ref sh) ∧ Fld Z h a1 nm0 nm19 "I" u_firstDocument ∧ Fld Z h a1 nm0 "lastDocument" "I" u_lastDocument ∧ Fld Z h a1 nm0 "document" "I" (.int dc) ∧ Fld Z h a1 nm0 "sentence" "I" (.int p3) ∧ Fld Z h a1 nm0 nm13 "I" (.int df) ∧ Fld Z h a1 nm0 "frequency" "I" (.int 2) ∧ Fld Z h a1 nm0 "windows" "J" (.long (wn + ((1 : Int32).toInt64))) ∧ Fld Z h a1 nm0 nm11 "J" (.long (cf + (1 : Int64))) ∧ Exa Z h qo nm1 ∧ Fld Z h qo nm1 "bytes" "[B" (.ref rq) ∧ Fld Z h qo nm1 "size" "I" (.int (((sz + ln) + (1 : Int32)) + (1 : Int32))) ∧ Arv Z h rq kq2 .byte (own_cap (own_cap (own_cap nn sz) (sz + ln)) ((sz + ln) + (1 : Int32))) vq2 (.int 0) ∧ n0 ≤ rq ∧ ap ≠ rq ∧ Arv Z h sh ks .long (4 : Int32) [(.long (y0 + ((6 : Int32).toInt64))), (.long y1), (.long y2), (.long (y3 + ((6 : Int32).toInt64)))] (.long 0) ∧ vq2.length = (own_cap (own_cap (own_cap nn sz) (sz + ln)) ((sz + ln) + (1 : Int32))).toNatClampNeg ∧ ((own_cap (own_cap (own_cap nn sz) (sz + ln)) ((sz + ln) + (1 : Int32))).toInt = 16 ∨ (own_cap (own_cap (own_cap nn sz) (sz + ln)) ((sz + ln) + (1 : Int32))).toInt = 32) ∧ (rq = aq ∨ h0.size ≤ rq)
set_option maxRecDepth 65536 in
set_option maxHeartbeats 40000000 in
theorem rmAdd_same_zero (l : Launch) (Z : State) (a0 : Array Value) (hw : own_Hw Z a0) (ws : List Jvm.Cond) (a1 : Addr) (p2 : Int32) (p3 : Int32) (p4 : Int32) (tg : Addr) (u_firstDocument : Value) (u_lastDocument : Value) (po : Addr) (qo : Addr) (ap : Addr) (aq : Addr) (sh : Addr) (kp : ClassId) (kq : ClassId) (ks : ClassId) (vp : List Value) (vq : List Value) (df : Int32) (wn : Int64) (cf : Int64) (f : Nat) (ln : Int32) (nn : Int32) (sz : Int32) (dc : Int32) (sn : Int32) (n1 : Int32) (y0 : Int64) (y1 : Int64) (y2 : Int64) (y3 : Int64) (a3 : Addr) (x1 : Addr) (x2 : Addr) (kr : ClassId) (wNo : Addr) (wOt : Addr) (h0 : Heap) (n0 : Nat) (Z0 : n0 ≤ h0.size) (E_a1 : Exa Z h0 a1 nm0) (F_postings_a1 : Fld Z h0 a1 nm0 "postings" nm2 (.ref po)) (F_positions_a1 : Fld Z h0 a1 nm0 "positions" nm2 (.ref qo)) (F_shares_a1 : Fld Z h0 a1 nm0 "shares" "[J" (.ref sh)) (F_firstDocument_a1 : Fld Z h0 a1 nm0 nm19 "I" u_firstDocument) (F_lastDocument_a1 : Fld Z h0 a1 nm0 "lastDocument" "I" u_lastDocument) (F_document_a1 : Fld Z h0 a1 nm0 "document" "I" (.int dc)) (F_sentence_a1 : Fld Z h0 a1 nm0 "sentence" "I" (.int sn)) (F_documentFrequency_a1 : Fld Z h0 a1 nm0 nm13 "I" (.int df)) (F_frequency_a1 : Fld Z h0 a1 nm0 "frequency" "I" (.int 1)) (F_windows_a1 : Fld Z h0 a1 nm0 "windows" "J" (.long wn)) (F_collectionFrequency_a1 : Fld Z h0 a1 nm0 nm11 "J" (.long cf)) (g_a1 : n0 ≤ a1) (E_po : Exa Z h0 po nm1) (E_qo : Exa Z h0 qo nm1) (F_bytes_po : Fld Z h0 po nm1 "bytes" "[B" (.ref ap)) (F_bytes_qo : Fld Z h0 qo nm1 "bytes" "[B" (.ref aq)) (F_size_qo : Fld Z h0 qo nm1 "size" "I" (.int sz)) (V_ap : Arv Z h0 ap kp .byte n1 vp (.int 0)) (V_aq : Arv Z h0 aq kq .byte nn vq (.int 0)) (g_po : n0 ≤ po) (g_qo : n0 ≤ qo) (g_ap : n0 ≤ ap) (g_aq : n0 ≤ aq) (g_sh : n0 ≤ sh) (ne_po_qo : po ≠ qo) (ne_ap_aq : ap ≠ aq) (V_sh : Arv Z h0 sh ks .long (4 : Int32) [(.long y0), (.long y1), (.long y2), (.long y3)] (.long 0)) (E_tg : Exa Z h0 tg nm3) (F_size_tg : Fld Z h0 tg nm3 "size" "I" (.int 2)) (F_elementData_tg : Fld Z h0 tg nm3 nm18 nm9 (.ref a3)) (V_a3 : Arv Z h0 a3 kr (.object nm7) (10 : Int32) [(.ref x1), (.ref x2), .null, .null, .null, .null, .null, .null, .null, .null] .null) (E_x1 : Exa Z h0 x1 nm5) (E_x2 : Exa Z h0 x2 nm5) (F_ordinal_x1 : Fld Z h0 x1 nm8 "ordinal" "I" (.int 11)) (F_ordinal_x2 : Fld Z h0 x2 nm8 "ordinal" "I" (.int 44)) (lt_x1 : x1 < n0) (lt_x2 : x2 < n0) (S_NOUN : Sta Z h0 nm6 "NOUN" nm10 (.ref wNo)) (S_OTHER : Sta Z h0 nm6 "OTHER" nm10 (.ref wOt)) (E_wNo : Exa Z h0 wNo nm6) (E_wOt : Exa Z h0 wOt nm6) (F_ordinal_wNo : Fld Z h0 wNo nm8 "ordinal" "I" (.int 0)) (F_ordinal_wOt : Fld Z h0 wOt nm8 "ordinal" "I" (.int 3)) (lt_wNo : wNo < n0) (lt_wOt : wOt < n0) (hvq : vq.length = nn.toNatClampNeg) (hf : f ≤ 4) (hj : 0 ≤ ((p3 - sn).toInt64).toInt) (hj2 : ((p3 - sn).toInt64).toInt < 2 ^ (7 * (f + 1))) (hj3 : f ≠ 0 → 2 ^ (7 * f) ≤ ((p3 - sn).toInt64).toInt) (hln : ln.toInt = f + 1) (hgap : ¬ ((0 : Int32) < (p3 - sn))) (hp : p4 = (0 : Int32) ∨ p4 = (1 : Int32)) (hnn : nn.toInt = 16 ∨ nn.toInt = 32) (hsz : 0 ≤ sz.toInt ∧ sz.toInt ≤ 8) (hdoc : p2 = dc) :
  MetFree l mn29 (head1 (Jvm.Cond.code mn29 cd16 6 none :: ws) ({ frames := 4, cells := 3, slots := 96, locals := 64 } : Room)) (fun a U => a = #[(.ref a1), (.int p2), (.int p3), (.int p4), (.ref tg)] ∧ Z.Warmed39 U.vm ∧ U.heap = h0) (fun _ _ _ _ _ => True) (fun _ U o U' => ∃ v L, o = .returned v ∧ Q_rmAdd_same_zero Z a1 p2 p3 p4 tg u_firstDocument u_lastDocument po qo ap aq sh kp kq ks vp vq df wn cf f ln nn sz dc sn n1 y0 y1 y2 y3 a3 x1 x2 kr wNo wOt h0 n0 v U'.heap L ∧ FrameEnd U o U' L ({ frames := 4, cells := 3, slots := 96, locals := 64 } : Room).cells ({ frames := 4, cells := 3, slots := 96, locals := 64 } : Room).slots) := by
 refine MetFree.of_bodySF (plainFor_of_name pn_com_example_morro_morro_index_TermPostings) hisR ?_
 intro p e s m args below meth c s₁ Bd hml0 hP hK
 obtain ⟨rfl, hZ, hh⟩ := hP
 have hx := Bd.exec
 have hby := Bd.bytes
 have hml : c.maxLocals = 6 := hml0
 have hown : s.vm.findClass nm0 = some m.cls := findClass_of_methodNamed Bd.named
 have hnm := (name_of_methodNamed Bd.named Bd.method).1
 have X0 : Stand p l e ({ frames := 4, cells := 3, slots := 96, locals := 64 } : Room) s m #[(.ref a1), (.int p2), (.int p3), (.int p4), (.ref tg)] below meth c s₁ [] 0 0 := Stand.of_body Bd
 have e0 : s₁.heap = h0 := by rw [← hh, Bd.state]; rfl
 have N0 := Fr.nil n0
 have pre0 : ∀ t, Steps p.tables e below (s₁.setTop (mkF m 0 #[.val (.ref a1), .val (.int p2), .val (.int p3), .val (.int p4), .val (.ref tg), .unset] [])) t → Steps p.tables e below (s₁.setTop (entryFrame m #[(.ref a1), (.int p2), (.int p3), (.int p4), (.ref tg)] 6)) t := fun t k => castTop (ef_rmAdd_same_zero m a1 p2 p3 p4 tg) k
 let lc1 : Array Slot := #[.val (.ref a1), .val (.int p2), .val (.int p3), .val (.int p4), .val (.ref tg), .unset]
 obtain ⟨T2, X2, e2, st2⟩ := getF X0 hx hZ hown (host := "") (Or.inl (own_w hw 107 rfl)) Via.refl e0 F_document_a1 (g := (mkF m 2 lc1 [(.ref a1), (.int p2)])) rfl rfl (hb hby d14_2)
 obtain ⟨T3, X3, e3, st3⟩ := getF X2 hx hZ hown (host := "") (Or.inl (own_w hw 127 rfl)) Via.refl e2 F_sentence_a1 (g := (mkF m 34 lc1 [(.ref a1), (.int p3)])) rfl rfl (hb hby d14_34)
 let lc4 : Array Slot := #[.val (.ref a1), .val (.int p2), .val (.int p3), .val (.int p4), .val (.ref tg), .val (.int (p3 - sn))]
 obtain ⟨T5, X5, e5, st5⟩ := getF X3 hx hZ hown (host := "") (Or.inl (own_w hw 83 rfl)) Via.refl e3 F_positions_a1 (g := (mkF m 41 lc4 [(.ref a1)])) rfl rfl (hb hby d14_41)
 have cS0 : 0 ≤ sz.toInt ∧ sz.toInt ≤ 16 := by omega
 have cN0 := hnn
 have hp4 : (p4.toInt64).toInt = p4.toInt := Jvm.Kit.i64_of_i32 p4
 have hp5 : 0 ≤ p4.toInt ∧ p4.toInt ≤ 1 := by rcases hp with rfl | rfl <;> decide
 have na7 := Exa.ne E_a1 E_qo (by decide)
 have na8 := (Exa.neArv E_qo V_a3 (own_w hw 72 rfl)).symm
 have na9 := (Exa.neArv E_qo V_ap (own_w hw 72 rfl)).symm
 have na10 := (Exa.neArv E_qo V_aq (own_w hw 72 rfl)).symm
 have na11 := (Exa.neArv E_qo V_sh (own_w hw 72 rfl)).symm
 have na12 := Exa.ne E_tg E_qo (by decide)
 have na13 := Nat.ne_of_lt (Nat.lt_of_lt_of_le lt_wNo g_qo)
 have na14 := Nat.ne_of_lt (Nat.lt_of_lt_of_le lt_wOt g_qo)
 have na15 := Nat.ne_of_lt (Nat.lt_of_lt_of_le lt_x1 g_qo)
 have na16 := Nat.ne_of_lt (Nat.lt_of_lt_of_le lt_x2 g_qo)
 have na17 := Exa.neArv E_a1 V_aq (own_w hw 65 rfl)
 have na18 := own_neVV V_a3 V_aq (by decide)
 have na19 := Exa.neArv E_po V_aq (own_w hw 72 rfl)
 have na20 := own_neVV V_sh V_aq (by decide)
 have na21 := Exa.neArv E_tg V_aq (own_w hw 3 rfl)
 have na22 := Nat.ne_of_lt (Nat.lt_of_lt_of_le lt_wNo g_aq)
 have na23 := Nat.ne_of_lt (Nat.lt_of_lt_of_le lt_wOt g_aq)
 have na24 := Nat.ne_of_lt (Nat.lt_of_lt_of_le lt_x1 g_aq)
 have na25 := Nat.ne_of_lt (Nat.lt_of_lt_of_le lt_x2 g_aq)
 obtain ⟨cq6, kq6, q6a, q6b, q6c⟩ := isOf hZ e5 E_qo
 obtain ⟨_, _, ⟨T6, L6, k6, n6⟩, -, X6, ⟨Lc6, hQ6, l6, y6, z6⟩, st6⟩ := X5.virtualBack hx (y := mn24) (z := mn24) hown (mvT hZ (own_w hw 131 rfl)) (mvT hZ (own_w hw 132 rfl)) (notFace_of_selects (args := #[]) (mvT hZ (own_w hw 134 rfl))) (mvT hZ (own_w hw 134 rfl)) (mvT hZ (own_w hw 133 rfl)) (by decide) (backOf (W := 0) (rmEnB l Z a0 hw [] qo ((p3 - sn).toInt64) sz nn aq kq vq f ln h0 n0 Z0 E_qo F_bytes_qo F_size_qo V_aq g_qo g_aq hvq (by omega) cS0 (by omega) hj hj2 hj3 hln (by have := own_c1 cN0 cS0; omega)) hZ (own_w hw 135 rfl) (own_w hw 73 rfl) (by decide) (by decide)) q6a q6c (g := (mkF m 47 lc4 [(.long ((p3 - sn).toInt64)), (.ref qo)])) rfl (by rw [hml]; rfl) (Steps.refl _) (argsL := [(.long ((p3 - sn).toInt64))]) (rest := []) (lenOf pd__28J_29V rfl) rfl (by show 2 * 0 + _ ≤ _; exact Nat.le_of_eq rfl) (hb hby d14_47) (fun _ _ => ⟨rfl, e5, (by decide : 0 + 1 ≤ _), (by decide : 0 + 32 ≤ _)⟩)
 dsimp only [Pt.U, Pt.locs, Pt.cells, Pt.slots] at y6 z6 st6 hQ6
 change Stand p l e _ s m _ below meth c T6 L6 k6 n6 at X6
 change L6 = _ ++ Lc6 at l6
 subst y6 z6
 obtain ⟨r_6, kr_6, vr_6, rfl, N6q, K6q, t6_0, t6_1, t6_2, t6_3, t6_4, t6_5, t6_6⟩ := hQ6
 have N6 : Fr n0 L6 := l6 ▸ Fr.app N0 N6q
 have K6 : Keep h0 T6.heap [a1, qo, aq, sh] := (Keep.refl h0 [a1, qo, aq, sh]).trans K6q (allS (P := fun xz => xz ∈ [a1, qo, aq, sh] ∨ h0.size ≤ xz) (Or.inl (List.mem_of_getElem? (i := 1) rfl)) (allS (P := fun xz => xz ∈ [a1, qo, aq, sh] ∨ h0.size ≤ xz) (Or.inl (List.mem_of_getElem? (i := 2) rfl)) all0))
 have nb26 : ap ≠ r_6 := own_neOr t6_6 ne_ap_aq V_ap.lt
 have ho27 : r_6 = aq ∨ h0.size ≤ r_6 := own_hor t6_6 (Or.inl rfl) (Nat.le_refl _)
 have cA1 : (sz + ln).toInt = sz.toInt + f + 1 := own_add cS0 hln (by omega)
 have cS1 : 0 ≤ (sz + ln).toInt ∧ (sz + ln).toInt ≤ 16 := by omega
 have cN1 := own_c1 cN0 cS0
 have f28 := (F_positions_a1.keep K6q (ninS na7 (ninS na17 nin0)))
 obtain ⟨T29, X29, e29, st29⟩ := getF X6 hx hZ hown (host := "") (Or.inl (own_w hw 83 rfl)) Via.refl rfl f28 (g := (mkF m 71 lc4 [(.ref a1)])) rfl rfl (hb hby d14_71)
 have f30 := (V_ap.keep K6q (ninS na9 (ninS ne_ap_aq nin0)))
 have na32 := (Exa.neArv t6_0 t6_3 (own_w hw 72 rfl)).symm
 have f33 := (E_a1.keep K6q)
 have na34 := Exa.neArv f33 t6_3 (own_w hw 65 rfl)
 have f35 := (V_a3.keep K6q (ninS na8 (ninS na18 nin0)))
 have na36 := own_neVV f35 t6_3 (by decide)
 have f37 := (E_po.keep K6q)
 have na38 := Exa.neArv f37 t6_3 (own_w hw 72 rfl)
 have f39 := (V_sh.keep K6q (ninS na11 (ninS na20 nin0)))
 have na40 := own_neVV f39 t6_3 (by decide)
 have f41 := (E_tg.keep K6q)
 have na42 := Exa.neArv f41 t6_3 (own_w hw 3 rfl)
 have na43 := Nat.ne_of_lt (Nat.lt_of_lt_of_le lt_wNo t6_4)
 have na44 := Nat.ne_of_lt (Nat.lt_of_lt_of_le lt_wOt t6_4)
 have na45 := Nat.ne_of_lt (Nat.lt_of_lt_of_le lt_x1 t6_4)
 have na46 := Nat.ne_of_lt (Nat.lt_of_lt_of_le lt_x2 t6_4)
 have f47 := (E_wNo.keep K6q)
 have f48 := (E_wOt.keep K6q)
 have f49 := (E_x1.keep K6q)
 have f50 := (E_x2.keep K6q)
 obtain ⟨cq31, kq31, q31a, q31b, q31c⟩ := isOf hZ e29 t6_0
 obtain ⟨_, _, ⟨T31, L31, k31, n31⟩, -, X31, ⟨Lc31, hQ31, l31, y31, z31⟩, st31⟩ := X29.virtualBack hx (y := mn24) (z := mn24) hown (mvT hZ (own_w hw 131 rfl)) (mvT hZ (own_w hw 132 rfl)) (notFace_of_selects (args := #[]) (mvT hZ (own_w hw 134 rfl))) (mvT hZ (own_w hw 134 rfl)) (mvT hZ (own_w hw 133 rfl)) (by decide) (backOf (W := 0) (rmEnB l Z a0 hw [] qo (p4.toInt64) (sz + ln) (own_cap nn sz) r_6 kr_6 vr_6 0 (1 : Int32) T6.heap n0 (Nat.le_trans Z0 K6.1) t6_0 t6_1 t6_2 t6_3 g_qo t6_4 t6_5 (by omega) cS1 (by decide) (by rw [hp4]; omega) (by show (p4.toInt64).toInt < 128; rw [hp4]; omega) (own_f0 _) own_1 (by have := own_c1 cN1 cS1; omega)) hZ (own_w hw 135 rfl) (own_w hw 73 rfl) (by decide) (by decide)) q31a q31c (g := (mkF m 76 lc4 [(.long (p4.toInt64)), (.ref qo)])) rfl (by rw [hml]; rfl) (Steps.refl _) (argsL := [(.long (p4.toInt64))]) (rest := []) (lenOf pd__28J_29V rfl) rfl (by show 2 * 0 + _ ≤ _; exact Nat.le_of_eq rfl) (hb hby d14_76) (fun _ _ => ⟨rfl, e29, (by decide : 1 + 1 ≤ _), (by decide : 32 + 32 ≤ _)⟩)
 dsimp only [Pt.U, Pt.locs, Pt.cells, Pt.slots] at y31 z31 st31 hQ31
 change Stand p l e _ s m _ below meth c T31 L31 k31 n31 at X31
 change L31 = _ ++ Lc31 at l31
 subst y31 z31
 obtain ⟨r_31, kr_31, vr_31, rfl, N31q, K31q, t31_0, t31_1, t31_2, t31_3, t31_4, t31_5, t31_6⟩ := hQ31
 have N31 : Fr n0 L31 := l31 ▸ Fr.app N6 N31q
 have K31 : Keep h0 T31.heap [a1, qo, aq, sh] := K6.trans K31q (allS (P := fun xz => xz ∈ [a1, qo, aq, sh] ∨ h0.size ≤ xz) (Or.inl (List.mem_of_getElem? (i := 1) rfl)) (allS (P := fun xz => xz ∈ [a1, qo, aq, sh] ∨ h0.size ≤ xz) (own_kor ho27 (List.mem_of_getElem? (i := 2) rfl)) all0))
 have nb51 : ap ≠ r_31 := own_neOr t31_6 nb26 f30.lt
 have ho52 : r_31 = aq ∨ h0.size ≤ r_31 := own_hor t31_6 ho27 K6.1
 have cA2 : ((sz + ln) + (1 : Int32)).toInt = (sz + ln).toInt + ((0 : Nat) : Int) + 1 := own_add cS1 own_1 (by omega)
 have cS2 : 0 ≤ ((sz + ln) + (1 : Int32)).toInt ∧ ((sz + ln) + (1 : Int32)).toInt ≤ 16 := by omega
 have cN2 := own_c1 cN1 cS1
 have f53 := (f28.keep K31q (ninS na7 (ninS na34 nin0)))
 obtain ⟨T54, X54, e54, st54⟩ := getF X31 hx hZ hown (host := "") (Or.inl (own_w hw 83 rfl)) Via.refl rfl f53 (g := (mkF m 80 lc4 [(.ref a1)])) rfl rfl (hb hby d14_80)
 have f55 := (f41.keep K31q)
 have f56 := ((F_size_tg.keep K6q (ninS na12 (ninS na21 nin0))).keep K31q (ninS na12 (ninS na42 nin0)))
 have f57 := ((F_elementData_tg.keep K6q (ninS na12 (ninS na21 nin0))).keep K31q (ninS na12 (ninS na42 nin0)))
 have f58 := (f35.keep K31q (ninS na8 (ninS na36 nin0)))
 have f59 := (f49.keep K31q)
 have f60 := (f50.keep K31q)
 have f61 := ((F_ordinal_x1.keep K6q (ninS na15 (ninS na24 nin0))).keep K31q (ninS na15 (ninS na45 nin0)))
 have f62 := ((F_ordinal_x2.keep K6q (ninS na16 (ninS na25 nin0))).keep K31q (ninS na16 (ninS na46 nin0)))
 have f64 := (f33.keep K31q)
 have f65 := (f30.keep K31q (ninS na9 (ninS nb26 nin0)))
 have f66 := (f37.keep K31q)
 have f67 := (f39.keep K31q (ninS na11 (ninS na40 nin0)))
 have f68 := (f47.keep K31q)
 have f69 := (f48.keep K31q)
 obtain ⟨cq63, kq63, q63a, q63b, q63c⟩ := isOf hZ e54 f55
 obtain ⟨_, _, ⟨T63, L63, k63, n63⟩, -, X63, ⟨Lc63, hQ63, l63, y63, z63⟩, st63⟩ := X54.interfaceBack hx (xi := mn19) (y := mn12) hown (mvT hZ (own_w hw 161 rfl)) (mvT hZ (own_w hw 162 rfl)) (mvT hZ (own_w hw 163 rfl)) (mvT hZ (own_w hw 164 rfl)) (mvT hZ (own_w hw 165 rfl)) (mvT hZ (own_w hw 166 rfl)) (mvT hZ (own_w hw 167 rfl)) (mvT hZ (own_w hw 159 rfl)) (by decide) (backOf (W := 1) (rmGetP l Z a0 hw [] tg p4 a3 x1 x2 kr T31.heap n0 (Nat.le_trans Z0 K31.1) f55 f56 f57 f58 f59 f60 f61 f62 lt_x1 lt_x2 hp) hZ (own_w hw 168 rfl) (own_w hw 4 rfl) (by decide) (by decide)) q63a q63b q63c (g := (mkF m 86 lc4 [(.int p4), (.ref tg), (.ref qo)])) rfl (by rw [hml]; rfl) (Steps.refl _) (argsL := [(.int p4)]) (rest := [(.ref qo)]) (lenOf pd__28I_29Ljava_2flang_2fObject_3b rfl) rfl (by show 2 * 0 + _ ≤ _; exact Nat.le_of_eq rfl) (hb hby d14_86) (fun _ _ => ⟨rfl, e54, (by decide : 2 + 0 ≤ _), (by decide : 64 + 0 ≤ _)⟩)
 dsimp only [Pt.U, Pt.locs, Pt.cells, Pt.slots] at y63 z63 st63 hQ63
 change Stand p l e _ s m _ below meth c T63 L63 k63 n63 at X63
 change L63 = _ ++ Lc63 at l63
 subst y63 z63
 obtain ⟨xo_63, ko_63, rfl, N63q, e63, t63_0, t63_1, t63_2, t63_3⟩ := hQ63
 have N63 : Fr n0 L63 := l63 ▸ Fr.app N31 N63q
 rw [e63] at t63_0 t63_1
 obtain ⟨T70, X70, e70, st70⟩ := castY X63 hx hZ hown (own_w hw 182 rfl) e63 (Ins.self t63_0) (g := (mkF m 91 lc4 [(.ref xo_63), (.ref qo)])) rfl rfl (hb hby d14_91)
 obtain ⟨cq71, kq71, q71a, q71b, q71c⟩ := isOf hZ e70 t63_0
 obtain ⟨_, _, ⟨T71, L71, k71, n71⟩, -, X71, ⟨Lc71, hQ71, l71, y71, z71⟩, st71⟩ := X70.virtualBackUp hx (x := mn15) (y := mn13) (owner := nm8) hown (mvT hZ (own_w hw 184 rfl)) (mvT hZ (own_w hw 185 rfl)) (mvT hZ (own_w hw 186 rfl)) (by decide) (mvT hZ (own_w hw 188 rfl)) (mvT hZ (own_w hw 187 rfl)) (backOf (W := 1) (rm25 l Z a0 hw [] xo_63 ko_63 T31.heap n0 (Nat.le_trans Z0 K31.1) t63_1) hZ (own_w hw 190 rfl) (own_w hw 189 rfl) (by decide) (by decide)) q71a q71c (g := (mkF m 94 lc4 [(.ref xo_63), (.ref qo)])) rfl (by rw [hml]; rfl) (Steps.refl _) (argsL := []) (rest := [(.ref qo)]) (lenOf pd__28_29I rfl) rfl (by show 2 * 0 + _ ≤ _; exact Nat.le_of_eq rfl) (hb hby d14_94) (fun _ _ => ⟨rfl, e70, (by decide : 2 + 0 ≤ _), (by decide : 64 + 0 ≤ _)⟩)
 dsimp only [Pt.U, Pt.locs, Pt.cells, Pt.slots] at y71 z71 st71 hQ71
 change Stand p l e _ s m _ below meth c T71 L71 k71 n71 at X71
 change L71 = _ ++ Lc71 at l71
 subst y71 z71
 obtain ⟨rfl, N71q, e71⟩ := hQ71
 have N71 : Fr n0 L71 := l71 ▸ Fr.app N63 N71q
 have na73 := (Exa.neArv t31_0 t31_3 (own_w hw 72 rfl)).symm
 have na74 := Nat.ne_of_lt (Nat.lt_of_lt_of_le t63_3 g_qo)
 have na75 := Exa.neArv f64 t31_3 (own_w hw 65 rfl)
 have na76 := own_neVV f58 t31_3 (by decide)
 have na77 := Exa.neArv f66 t31_3 (own_w hw 72 rfl)
 have na78 := own_neVV f67 t31_3 (by decide)
 have na79 := Exa.neArv f55 t31_3 (own_w hw 3 rfl)
 have na80 := Nat.ne_of_lt (Nat.lt_of_lt_of_le lt_wNo t31_4)
 have na81 := Nat.ne_of_lt (Nat.lt_of_lt_of_le lt_wOt t31_4)
 have na82 := Nat.ne_of_lt (Nat.lt_of_lt_of_le lt_x1 t31_4)
 have na83 := Nat.ne_of_lt (Nat.lt_of_lt_of_le lt_x2 t31_4)
 have na84 := Nat.ne_of_lt (Nat.lt_of_lt_of_le t63_3 t31_4)
 obtain ⟨cq72, kq72, q72a, q72b, q72c⟩ := isOf hZ e71 t31_0
 obtain ⟨_, _, ⟨T72, L72, k72, n72⟩, -, X72, ⟨Lc72, hQ72, l72, y72, z72⟩, st72⟩ := X71.virtualBack hx (y := mn24) (z := mn24) hown (mvT hZ (own_w hw 131 rfl)) (mvT hZ (own_w hw 132 rfl)) (notFace_of_selects (args := #[]) (mvT hZ (own_w hw 134 rfl))) (mvT hZ (own_w hw 134 rfl)) (mvT hZ (own_w hw 133 rfl)) (by decide) (backOf (W := 0) (rmEnB l Z a0 hw [] qo (ko_63.toInt64) ((sz + ln) + (1 : Int32)) (own_cap (own_cap nn sz) (sz + ln)) r_31 kr_31 vr_31 0 (1 : Int32) T31.heap n0 (Nat.le_trans Z0 K31.1) t31_0 t31_1 t31_2 t31_3 g_qo t31_4 t31_5 (by omega) cS2 (by decide) (by rw [Jvm.Kit.i64_of_i32]; omega) (by show (ko_63.toInt64).toInt < 128; rw [Jvm.Kit.i64_of_i32]; omega) (own_f0 _) own_1 (by have := own_c1 cN2 cS2; omega)) hZ (own_w hw 135 rfl) (own_w hw 73 rfl) (by decide) (by decide)) q72a q72c (g := (mkF m 98 lc4 [(.long (ko_63.toInt64)), (.ref qo)])) rfl (by rw [hml]; rfl) (Steps.refl _) (argsL := [(.long (ko_63.toInt64))]) (rest := []) (lenOf pd__28J_29V rfl) rfl (by show 2 * 0 + _ ≤ _; exact Nat.le_of_eq rfl) (hb hby d14_98) (fun _ _ => ⟨rfl, e71, (by decide : 2 + 1 ≤ _), (by decide : 64 + 32 ≤ _)⟩)
 dsimp only [Pt.U, Pt.locs, Pt.cells, Pt.slots] at y72 z72 st72 hQ72
 change Stand p l e _ s m _ below meth c T72 L72 k72 n72 at X72
 change L72 = _ ++ Lc72 at l72
 subst y72 z72
 obtain ⟨r_72, kr_72, vr_72, rfl, N72q, K72q, t72_0, t72_1, t72_2, t72_3, t72_4, t72_5, t72_6⟩ := hQ72
 have N72 : Fr n0 L72 := l72 ▸ Fr.app N71 N72q
 have K72 : Keep h0 T72.heap [a1, qo, aq, sh] := K31.trans K72q (allS (P := fun xz => xz ∈ [a1, qo, aq, sh] ∨ h0.size ≤ xz) (Or.inl (List.mem_of_getElem? (i := 1) rfl)) (allS (P := fun xz => xz ∈ [a1, qo, aq, sh] ∨ h0.size ≤ xz) (own_kor ho52 (List.mem_of_getElem? (i := 2) rfl)) all0))
 have nb85 : ap ≠ r_72 := own_neOr t72_6 nb51 f65.lt
 have ho86 : r_72 = aq ∨ h0.size ≤ r_72 := own_hor t72_6 ho52 K31.1
 have cA3 : (((sz + ln) + (1 : Int32)) + (1 : Int32)).toInt = ((sz + ln) + (1 : Int32)).toInt + ((0 : Nat) : Int) + 1 := own_add cS2 own_1 (by omega)
 have cS3 : 0 ≤ (((sz + ln) + (1 : Int32)) + (1 : Int32)).toInt ∧ (((sz + ln) + (1 : Int32)) + (1 : Int32)).toInt ≤ 16 := by omega
 have cN3 := own_c1 cN2 cS2
 have f87 := (((F_windows_a1.keep K6q (ninS na7 (ninS na17 nin0))).keep K31q (ninS na7 (ninS na34 nin0))).keep K72q (ninS na7 (ninS na75 nin0)))
 obtain ⟨T88, X88, e88, st88⟩ := getF X72 hx hZ hown (host := "") (Or.inl (own_w hw 193 rfl)) Via.refl rfl f87 (g := (mkF m 103 lc4 [(.ref a1), (.ref a1)])) rfl rfl (hb hby d14_103)
 have pre89 : ∀ t, Steps p.tables e below (T88.setTop (mkF m 110 lc4 [(.ref a1), (.int p4), (.ref tg), (.long wn), (.ref a1)])) t → Steps p.tables e below (s₁.setTop (entryFrame m #[(.ref a1), (.int p2), (.int p3), (.int p4), (.ref tg)] 6)) t := fun t kt => by
  refine pre0 t ?_
  show oS s₁ (mkF m 0 lc1 [])
  refine XS.iloadN X0.here hx rfl (hb hby d14_0) rfl ?_
  show oS s₁ (mkF m 1 lc1 [(.int p2)])
  refine XS.aloadN X0.here hx rfl (hb hby d14_1) rfl rfl ?_
  show oS s₁ (mkF m 2 lc1 [(.ref a1), (.int p2)])
  refine st2 _ ?_
  show oS T2 (mkF m 5 lc1 [(.int dc), (.int p2)])
  refine XS.icmpYes X2.here hx rfl (pc0 := 5) (pc' := 32) rfl (hb hby d14_5) rfl (teq hdoc).1 (by decide) (by decide) ?_
  show oS T2 (mkF m 32 lc1 [])
  refine XS.iloadN X2.here hx rfl (hb hby d14_32) rfl ?_
  show oS T2 (mkF m 33 lc1 [(.int p3)])
  refine XS.aloadN X2.here hx rfl (hb hby d14_33) rfl rfl ?_
  show oS T2 (mkF m 34 lc1 [(.ref a1), (.int p3)])
  refine st3 _ ?_
  show oS T3 (mkF m 37 lc1 [(.int sn), (.int p3)])
  refine XS.isub X3.here hx rfl (hb hby d14_37) rfl ?_
  show oS T3 (mkF m 38 lc1 [(.int (p3 - sn))])
  refine XS.istore X3.here hx rfl (hb hby d14_38) rfl (l' := lc4) rfl ?_
  show oS T3 (mkF m 40 lc4 [])
  refine XS.aloadN X3.here hx rfl (hb hby d14_40) rfl rfl ?_
  show oS T3 (mkF m 41 lc4 [(.ref a1)])
  refine st5 _ ?_
  show oS T5 (mkF m 44 lc4 [(.ref qo)])
  refine XS.iload X5.here hx rfl (hb hby d14_44) rfl ?_
  show oS T5 (mkF m 46 lc4 [(.int (p3 - sn)), (.ref qo)])
  refine XS.i2l X5.here hx rfl (hb hby d14_46) rfl ?_
  show oS T5 (mkF m 47 lc4 [(.long ((p3 - sn).toInt64)), (.ref qo)])
  refine st6.trans ?_
  show oS T6 (mkF m 50 lc4 [])
  refine XS.iload X6.here hx rfl (hb hby d14_50) rfl ?_
  show oS T6 (mkF m 52 lc4 [(.int (p3 - sn))])
  refine XS.ifYes X6.here hx rfl (pc0 := 52) (pc' := 70) rfl (hb hby d14_52) rfl ((if0 _ _).trans (flt hgap).2.2.2) (by decide) (by decide) ?_
  show oS T6 (mkF m 70 lc4 [])
  refine XS.aloadN X6.here hx rfl (hb hby d14_70) rfl rfl ?_
  show oS T6 (mkF m 71 lc4 [(.ref a1)])
  refine st29 _ ?_
  show oS T29 (mkF m 74 lc4 [(.ref qo)])
  refine XS.iloadN X29.here hx rfl (hb hby d14_74) rfl ?_
  show oS T29 (mkF m 75 lc4 [(.int p4), (.ref qo)])
  refine XS.i2l X29.here hx rfl (hb hby d14_75) rfl ?_
  show oS T29 (mkF m 76 lc4 [(.long (p4.toInt64)), (.ref qo)])
  refine st31.trans ?_
  show oS T31 (mkF m 79 lc4 [])
  refine XS.aloadN X31.here hx rfl (hb hby d14_79) rfl rfl ?_
  show oS T31 (mkF m 80 lc4 [(.ref a1)])
  refine st54 _ ?_
  show oS T54 (mkF m 83 lc4 [(.ref qo)])
  refine XS.aload X54.here hx rfl (hb hby d14_83) rfl rfl ?_
  show oS T54 (mkF m 85 lc4 [(.ref tg), (.ref qo)])
  refine XS.iloadN X54.here hx rfl (hb hby d14_85) rfl ?_
  show oS T54 (mkF m 86 lc4 [(.int p4), (.ref tg), (.ref qo)])
  refine st63.trans ?_
  show oS T63 (mkF m 91 lc4 [(.ref xo_63), (.ref qo)])
  refine st70 _ ?_
  show oS T70 (mkF m 94 lc4 [(.ref xo_63), (.ref qo)])
  refine st71.trans ?_
  show oS T71 (mkF m 97 lc4 [(.int ko_63), (.ref qo)])
  refine XS.i2l X71.here hx rfl (hb hby d14_97) rfl ?_
  show oS T71 (mkF m 98 lc4 [(.long (ko_63.toInt64)), (.ref qo)])
  refine st72.trans ?_
  show oS T72 (mkF m 101 lc4 [])
  refine XS.aloadN X72.here hx rfl (hb hby d14_101) rfl rfl ?_
  show oS T72 (mkF m 102 lc4 [(.ref a1)])
  refine XS.dup X72.here hx rfl (hb hby d14_102) rfl rfl ?_
  show oS T72 (mkF m 103 lc4 [(.ref a1), (.ref a1)])
  refine st88 _ ?_
  show oS T88 (mkF m 106 lc4 [(.long wn), (.ref a1)])
  refine XS.aload X88.here hx rfl (hb hby d14_106) rfl rfl ?_
  show oS T88 (mkF m 108 lc4 [(.ref tg), (.long wn), (.ref a1)])
  refine XS.iloadN X88.here hx rfl (hb hby d14_108) rfl ?_
  show oS T88 (mkF m 109 lc4 [(.int p4), (.ref tg), (.long wn), (.ref a1)])
  refine XS.aloadN X88.here hx rfl (hb hby d14_109) rfl rfl ?_
  exact kt
 have f90 := (((F_shares_a1.keep K6q (ninS na7 (ninS na17 nin0))).keep K31q (ninS na7 (ninS na34 nin0))).keep K72q (ninS na7 (ninS na75 nin0)))
 obtain ⟨T91, X91, e91, st91⟩ := getF X88 hx hZ hown (host := "") (Or.inl (own_w hw 101 rfl)) Via.refl e88 f90 (g := (mkF m 110 lc4 [(.ref a1), (.int p4), (.ref tg), (.long wn), (.ref a1)])) rfl rfl (hb hby d14_110)
 have f92 := (f55.keep K72q)
 have f93 := (f56.keep K72q (ninS na12 (ninS na79 nin0)))
 have f94 := (f57.keep K72q (ninS na12 (ninS na79 nin0)))
 have f95 := (f58.keep K72q (ninS na8 (ninS na76 nin0)))
 have f96 := (f59.keep K72q)
 have f97 := (f60.keep K72q)
 have f98 := (f61.keep K72q (ninS na15 (ninS na82 nin0)))
 have f99 := (f62.keep K72q (ninS na16 (ninS na83 nin0)))
 have f100 := (own_staKeep (own_staKeep (own_staKeep S_NOUN K6q (own_nsE E_qo (own_nsV V_aq own_ns0))) K31q (own_nsE t6_0 (own_nsV t6_3 own_ns0))) K72q (own_nsE t31_0 (own_nsV t31_3 own_ns0)))
 have f101 := (own_staKeep (own_staKeep (own_staKeep S_OTHER K6q (own_nsE E_qo (own_nsV V_aq own_ns0))) K31q (own_nsE t6_0 (own_nsV t6_3 own_ns0))) K72q (own_nsE t31_0 (own_nsV t31_3 own_ns0)))
 have f102 := (f68.keep K72q)
 have f103 := (f69.keep K72q)
 have f104 := (((F_ordinal_wNo.keep K6q (ninS na13 (ninS na22 nin0))).keep K31q (ninS na13 (ninS na43 nin0))).keep K72q (ninS na13 (ninS na80 nin0)))
 have f105 := (((F_ordinal_wOt.keep K6q (ninS na14 (ninS na23 nin0))).keep K31q (ninS na14 (ninS na44 nin0))).keep K72q (ninS na14 (ninS na81 nin0)))
 have f106 := (f67.keep K72q (ninS na11 (ninS na78 nin0)))
 have f108 := (f64.keep K72q)
 have na109 := Exa.neArv f108 f106 (own_w hw 65 rfl)
 have na110 := own_neVV f95 f106 (by decide)
 have f111 := (f65.keep K72q (ninS na9 (ninS nb51 nin0)))
 have na112 := own_neVV f111 f106 (by decide)
 have f113 := (f66.keep K72q)
 have na114 := Exa.neArv f113 f106 (own_w hw 72 rfl)
 have na115 := own_neVV t72_3 f106 (by decide)
 have na116 := Exa.neArv f92 f106 (own_w hw 3 rfl)
 have na117 := Nat.ne_of_lt (Nat.lt_of_lt_of_le lt_wNo g_sh)
 have na118 := Nat.ne_of_lt (Nat.lt_of_lt_of_le lt_wOt g_sh)
 have na119 := Nat.ne_of_lt (Nat.lt_of_lt_of_le lt_x1 g_sh)
 have na120 := Nat.ne_of_lt (Nat.lt_of_lt_of_le lt_x2 g_sh)
 have na121 := Nat.ne_of_lt (Nat.lt_of_lt_of_le t63_3 g_sh)
 have f122 := (t63_0.keep K72q)
 obtain ⟨_, _, ⟨T107, L107, k107, n107⟩, -, X107, ⟨Lc107, hQ107, l107, y107, z107⟩, st107⟩ := Jvm.LawKit.callS X91 hx (y := mn17) hown (mvT hZ (own_w hw 195 rfl)) (mvT hZ (own_w hw 196 rfl)) (mvT hZ (own_w hw 197 rfl)) (mvT hZ (own_w hw 198 rfl)) (by decide) (backOf (W := 3) (rmCntP l Z a0 hw [] tg p4 sh a3 x1 x2 kr wNo wOt ks y0 y1 y2 y3 T72.heap n0 (Nat.le_trans Z0 K72.1) f92 f93 f94 f95 f96 f97 f98 f99 lt_x1 lt_x2 f100 f101 f102 f103 f104 f105 lt_wNo lt_wOt f106 g_sh hp) hZ (own_w hw 198 rfl) (own_w hw 197 rfl) (by decide) (by decide)) (g := (mkF m 113 lc4 [(.ref sh), (.int p4), (.ref tg), (.long wn), (.ref a1)])) rfl (by rw [hml]; rfl) (argsL := [(.ref tg), (.int p4), (.ref sh)]) (rest := [(.long wn), (.ref a1)]) (lenOf pd__28Ljava_2futil_2fList_3bI_5bJ_29I rfl) rfl (by show 2 * 0 + _ ≤ _; exact Nat.le_of_eq rfl) (hb hby d14_113) (fun _ _ => ⟨rfl, e91, (by decide : 3 + 0 ≤ _), (by decide : 96 + 0 ≤ _)⟩)
 dsimp only [Pt.U, Pt.locs, Pt.cells, Pt.slots] at y107 z107 st107 hQ107
 change Stand p l e _ s m _ below meth c T107 L107 k107 n107 at X107
 change L107 = _ ++ Lc107 at l107
 subst y107 z107
 obtain ⟨rfl, N107q, K107q, t107_0⟩ := hQ107
 have N107 : Fr n0 L107 := l107 ▸ Fr.app N72 N107q
 have K107 : Keep h0 T107.heap [a1, qo, aq, sh] := K72.trans K107q (allS (P := fun xz => xz ∈ [a1, qo, aq, sh] ∨ h0.size ≤ xz) (Or.inl (List.mem_of_getElem? (i := 3) rfl)) all0)
 have f123 := (f87.keep K107q (ninS na109 nin0))
 have f124 := (f108.keep K107q)
 have f125 := (f95.keep K107q (ninS na110 nin0))
 have na126 := (Exa.neArv f124 f125 (own_w hw 65 rfl)).symm
 have f127 := (f111.keep K107q (ninS na112 nin0))
 have na128 := (Exa.neArv f124 f127 (own_w hw 65 rfl)).symm
 have f129 := (f113.keep K107q)
 have na130 := Exa.ne f129 f124 (by decide)
 have f131 := (t72_3.keep K107q (ninS na115 nin0))
 have na132 := (Exa.neArv f124 f131 (own_w hw 65 rfl)).symm
 have f133 := (f92.keep K107q)
 have na134 := Exa.ne f133 f124 (by decide)
 have na135 := Nat.ne_of_lt (Nat.lt_of_lt_of_le lt_wNo g_a1)
 have na136 := Nat.ne_of_lt (Nat.lt_of_lt_of_le lt_wOt g_a1)
 have na137 := Nat.ne_of_lt (Nat.lt_of_lt_of_le lt_x1 g_a1)
 have na138 := Nat.ne_of_lt (Nat.lt_of_lt_of_le lt_x2 g_a1)
 have na139 := Nat.ne_of_lt (Nat.lt_of_lt_of_le t63_3 g_a1)
 obtain ⟨T140, h140, X140, e140, W140, st140⟩ := putF X107 hx hZ hown (host := "") (Or.inl (own_w hw 193 rfl)) Via.refl rfl f123 f124 (Or.inl (own_w hw 194 rfl)) (own_w hw 65 rfl) (ty := .long) (by decide) rfl rfl (g := (mkF m 118 lc4 [(.long (wn + ((1 : Int32).toInt64))), (.ref a1)])) rfl rfl (hb hby d14_118)
 have K141 : Keep h0 h140 [a1, qo, aq, sh] := K107.wr W140 (Or.inl (List.mem_of_getElem? (i := 0) rfl))
 have N142 := Fr.snoc X140 N107 g_a1
 have Fw140 := f123.same W140
 have f143 := (((((F_sentence_a1.keep K6q (ninS na7 (ninS na17 nin0))).keep K31q (ninS na7 (ninS na34 nin0))).keep K72q (ninS na7 (ninS na75 nin0))).keep K107q (ninS na109 nin0)).other W140 (Or.inr (sn86 hw)))
 have f144 := (f124.wr W140)
 obtain ⟨T145, h145, X145, e145, W145, st145⟩ := putF X140 hx hZ hown (host := "") (Or.inl (own_w hw 127 rfl)) Via.refl e140 f143 f144 (Or.inl (own_w hw 128 rfl)) (own_w hw 65 rfl) (ty := .int) (by decide) rfl rfl (g := (mkF m 123 lc4 [(.int p3), (.ref a1)])) rfl rfl (hb hby d14_123)
 have K146 : Keep h0 h145 [a1, qo, aq, sh] := K141.wr W145 (Or.inl (List.mem_of_getElem? (i := 0) rfl))
 have N147 := Fr.snoc X145 N142 g_a1
 have Fw145 := f143.same W145
 have f148 := ((((((F_frequency_a1.keep K6q (ninS na7 (ninS na17 nin0))).keep K31q (ninS na7 (ninS na34 nin0))).keep K72q (ninS na7 (ninS na75 nin0))).keep K107q (ninS na109 nin0)).other W140 (Or.inr (sn89 hw))).other W145 (Or.inr (sn87 hw)))
 obtain ⟨T149, X149, e149, st149⟩ := getF X145 hx hZ hown (host := "") (Or.inl (own_w hw 125 rfl)) Via.refl e145 f148 (g := (mkF m 128 lc4 [(.ref a1), (.ref a1)])) rfl rfl (hb hby d14_128)
 have f150 := (f144.wr W145)
 obtain ⟨T151, h151, X151, e151, W151, st151⟩ := putF X149 hx hZ hown (host := "") (Or.inl (own_w hw 125 rfl)) Via.refl e149 f148 f150 (Or.inl (own_w hw 126 rfl)) (own_w hw 65 rfl) (ty := .int) (by decide) rfl rfl (g := (mkF m 133 lc4 [(.int 2), (.ref a1)])) rfl rfl (hb hby d14_133)
 have K152 : Keep h0 h151 [a1, qo, aq, sh] := K146.wr W151 (Or.inl (List.mem_of_getElem? (i := 0) rfl))
 have N153 := Fr.snoc X151 N147 g_a1
 have Fw151 := f148.same W151
 have f154 := (((((((F_collectionFrequency_a1.keep K6q (ninS na7 (ninS na17 nin0))).keep K31q (ninS na7 (ninS na34 nin0))).keep K72q (ninS na7 (ninS na75 nin0))).keep K107q (ninS na109 nin0)).other W140 (Or.inr (sn92 hw))).other W145 (Or.inr (sn90 hw))).other W151 (Or.inr (sn77 hw)))
 obtain ⟨T155, X155, e155, st155⟩ := getF X151 hx hZ hown (host := "") (Or.inl (own_w hw 219 rfl)) Via.refl e151 f154 (g := (mkF m 138 lc4 [(.ref a1), (.ref a1)])) rfl rfl (hb hby d14_138)
 have f156 := (f150.wr W151)
 obtain ⟨T157, h157, X157, e157, W157, st157⟩ := putF X155 hx hZ hown (host := "") (Or.inl (own_w hw 219 rfl)) Via.refl e155 f154 f156 (Or.inl (own_w hw 220 rfl)) (own_w hw 65 rfl) (ty := .long) (by decide) rfl rfl (g := (mkF m 143 lc4 [(.long (cf + (1 : Int64))), (.ref a1)])) rfl rfl (hb hby d14_143)
 have K158 : Keep h0 h157 [a1, qo, aq, sh] := K152.wr W157 (Or.inl (List.mem_of_getElem? (i := 0) rfl))
 have N159 := Fr.snoc X157 N153 g_a1
 have Fw157 := f154.same W157
 have f160 := (f156.wr W157)
 have f161 := ((((((((F_postings_a1.keep K6q (ninS na7 (ninS na17 nin0))).keep K31q (ninS na7 (ninS na34 nin0))).keep K72q (ninS na7 (ninS na75 nin0))).keep K107q (ninS na109 nin0)).other W140 (Or.inr (sn95 hw))).other W145 (Or.inr (sn93 hw))).other W151 (Or.inr (sn68 hw))).other W157 (Or.inr (sn96 hw)))
 have f162 := ((((((f53.keep K72q (ninS na7 (ninS na75 nin0))).keep K107q (ninS na109 nin0)).other W140 (Or.inr (sn97 hw))).other W145 (Or.inr (sn80 hw))).other W151 (Or.inr (sn69 hw))).other W157 (Or.inr (sn98 hw)))
 have f163 := (((((f90.keep K107q (ninS na109 nin0)).other W140 (Or.inr (sn99 hw))).other W145 (Or.inr (sn84 hw))).other W151 (Or.inr (sn70 hw))).other W157 (Or.inr (sn100 hw)))
 have f164 := ((((((((F_firstDocument_a1.keep K6q (ninS na7 (ninS na17 nin0))).keep K31q (ninS na7 (ninS na34 nin0))).keep K72q (ninS na7 (ninS na75 nin0))).keep K107q (ninS na109 nin0)).other W140 (Or.inr (sn103 hw))).other W145 (Or.inr (sn101 hw))).other W151 (Or.inr (sn71 hw))).other W157 (Or.inr (sn104 hw)))
 have f165 := ((((((((F_lastDocument_a1.keep K6q (ninS na7 (ninS na17 nin0))).keep K31q (ninS na7 (ninS na34 nin0))).keep K72q (ninS na7 (ninS na75 nin0))).keep K107q (ninS na109 nin0)).other W140 (Or.inr (sn107 hw))).other W145 (Or.inr (sn105 hw))).other W151 (Or.inr (sn72 hw))).other W157 (Or.inr (sn108 hw)))
 have f166 := ((((((((F_document_a1.keep K6q (ninS na7 (ninS na17 nin0))).keep K31q (ninS na7 (ninS na34 nin0))).keep K72q (ninS na7 (ninS na75 nin0))).keep K107q (ninS na109 nin0)).other W140 (Or.inr (sn111 hw))).other W145 (Or.inr (sn109 hw))).other W151 (Or.inr (sn73 hw))).other W157 (Or.inr (sn112 hw)))
 have f167 := ((Fw145.other W151 (Or.inr (sn74 hw))).other W157 (Or.inr (sn113 hw)))
 have f168 := ((((((((F_documentFrequency_a1.keep K6q (ninS na7 (ninS na17 nin0))).keep K31q (ninS na7 (ninS na34 nin0))).keep K72q (ninS na7 (ninS na75 nin0))).keep K107q (ninS na109 nin0)).other W140 (Or.inr (sn114 hw))).other W145 (Or.inr (sn78 hw))).other W151 (Or.inr (sn75 hw))).other W157 (Or.inr (sn115 hw)))
 have f169 := (Fw151.other W157 (Or.inr (sn116 hw)))
 have f170 := (((Fw140.other W145 (Or.inr (sn82 hw))).other W151 (Or.inr (sn76 hw))).other W157 (Or.inr (sn117 hw)))
 have f171 := (((((t72_0.keep K107q).wr W140).wr W145).wr W151).wr W157)
 have f172 := (((((t72_1.keep K107q (ninS (Ne.symm na11) nin0)).other W140 (Or.inl (Ne.symm na7))).other W145 (Or.inl (Ne.symm na7))).other W151 (Or.inl (Ne.symm na7))).other W157 (Or.inl (Ne.symm na7)))
 have f173 := (((((t72_2.keep K107q (ninS (Ne.symm na11) nin0)).other W140 (Or.inl (Ne.symm na7))).other W145 (Or.inl (Ne.symm na7))).other W151 (Or.inl (Ne.symm na7))).other W157 (Or.inl (Ne.symm na7)))
 have f174 := ((((f131.other W140 na132).other W145 na132).other W151 na132).other W157 na132)
 have f175 := ((((t107_0.other W140 (Ne.symm na109)).other W145 (Ne.symm na109)).other W151 (Ne.symm na109)).other W157 (Ne.symm na109))
 obtain ⟨fs, hr, hrun, hended, hW, hsame⟩ := X157.leave (v := none) (fun _ => rfl)
 refine ⟨_, _, pre89 _ ?_, hrun, hended, _, _, rfl, ?_, ⟨_, rfl⟩, hW, hsame.mono (by decide) (by decide)⟩
 ·show oS T88 (mkF m 110 lc4 [(.ref a1), (.int p4), (.ref tg), (.long wn), (.ref a1)])
  refine st91 _ ?_
  show oS T91 (mkF m 113 lc4 [(.ref sh), (.int p4), (.ref tg), (.long wn), (.ref a1)])
  refine st107 _ ?_
  show oS T107 (mkF m 116 lc4 [(.int 1), (.long wn), (.ref a1)])
  refine XS.i2l X107.here hx rfl (hb hby d14_116) rfl ?_
  show oS T107 (mkF m 117 lc4 [(.long ((1 : Int32).toInt64)), (.long wn), (.ref a1)])
  refine XS.ladd X107.here hx rfl (hb hby d14_117) rfl ?_
  show oS T107 (mkF m 118 lc4 [(.long (wn + ((1 : Int32).toInt64))), (.ref a1)])
  refine st140 _ ?_
  show oS T140 (mkF m 121 lc4 [])
  refine XS.aloadN X140.here hx rfl (hb hby d14_121) rfl rfl ?_
  show oS T140 (mkF m 122 lc4 [(.ref a1)])
  refine XS.iloadN X140.here hx rfl (hb hby d14_122) rfl ?_
  show oS T140 (mkF m 123 lc4 [(.int p3), (.ref a1)])
  refine st145 _ ?_
  show oS T145 (mkF m 126 lc4 [])
  refine XS.aloadN X145.here hx rfl (hb hby d14_126) rfl rfl ?_
  show oS T145 (mkF m 127 lc4 [(.ref a1)])
  refine XS.dup X145.here hx rfl (hb hby d14_127) rfl rfl ?_
  show oS T145 (mkF m 128 lc4 [(.ref a1), (.ref a1)])
  refine st149 _ ?_
  show oS T149 (mkF m 131 lc4 [(.int 1), (.ref a1)])
  refine XS.iconst X149.here hx rfl (hb hby d14_131) ?_
  show oS T149 (mkF m 132 lc4 [(.int 1), (.int 1), (.ref a1)])
  refine XS.iadd X149.here hx rfl (hb hby d14_132) rfl ?_
  show oS T149 (mkF m 133 lc4 [(.int 2), (.ref a1)])
  refine st151 _ ?_
  show oS T151 (mkF m 136 lc4 [])
  refine XS.aloadN X151.here hx rfl (hb hby d14_136) rfl rfl ?_
  show oS T151 (mkF m 137 lc4 [(.ref a1)])
  refine XS.dup X151.here hx rfl (hb hby d14_137) rfl rfl ?_
  show oS T151 (mkF m 138 lc4 [(.ref a1), (.ref a1)])
  refine st155 _ ?_
  show oS T155 (mkF m 141 lc4 [(.long cf), (.ref a1)])
  refine XS.lconst X155.here hx rfl (hb hby d14_141) ?_
  show oS T155 (mkF m 142 lc4 [(.long 1), (.long cf), (.ref a1)])
  refine XS.ladd X155.here hx rfl (hb hby d14_142) rfl ?_
  show oS T155 (mkF m 143 lc4 [(.long (cf + (1 : Int64))), (.ref a1)])
  refine st157 _ ?_
  show oS T157 (mkF m 146 lc4 [])
  exact X157.returnOut hx Bd.returns (hb hby d14_146) hr
 ·show Q_rmAdd_same_zero Z a1 p2 p3 p4 tg u_firstDocument u_lastDocument po qo ap aq sh kp kq ks vp vq df wn cf f ln nn sz dc sn n1 y0 y1 y2 y3 a3 x1 x2 kr wNo wOt h0 n0 _ T157.heap _
  rw [e157]
  exact ⟨r_72, kr_72, vr_72, rfl, N159, K158, f160, f161, f162, f163, f164, f165, f166, f167, f168, f169, f170, Fw157, f171, f172, f173, f174, t72_4, nb85, f175, t72_5, cN3, ho86⟩
theorem d28_0 : decode cd26 0 = .ok (.lload_n 0, 1) := by decide +kernel
theorem d28_1 : decode cd26 1 = .ok (.ldc2_w 7, 3) := by decide +kernel
theorem d28_4 : decode cd26 4 = .ok (.lcmp, 1) := by decide +kernel
theorem d28_5 : decode cd26 5 = .ok (.ifCond .ge 5, 3) := by decide +kernel
theorem d28_8 : decode cd26 8 = .ok (.iconst 1, 1) := by decide +kernel
theorem d28_10 : decode cd26 10 = .ok (.lload_n 0, 1) := by decide +kernel
theorem d28_11 : decode cd26 11 = .ok (.ldc2_w 9, 3) := by decide +kernel
theorem d28_14 : decode cd26 14 = .ok (.lcmp, 1) := by decide +kernel
theorem d28_15 : decode cd26 15 = .ok (.ifCond .ge 5, 3) := by decide +kernel
theorem d28_18 : decode cd26 18 = .ok (.iconst 2, 1) := by decide +kernel
theorem d28_20 : decode cd26 20 = .ok (.lload_n 0, 1) := by decide +kernel
theorem d28_21 : decode cd26 21 = .ok (.ldc2_w 11, 3) := by decide +kernel
theorem d28_24 : decode cd26 24 = .ok (.lcmp, 1) := by decide +kernel
theorem d28_25 : decode cd26 25 = .ok (.ifCond .ge 5, 3) := by decide +kernel
theorem d28_28 : decode cd26 28 = .ok (.iconst 3, 1) := by decide +kernel
theorem d28_30 : decode cd26 30 = .ok (.lload_n 0, 1) := by decide +kernel
theorem d28_31 : decode cd26 31 = .ok (.ldc2_w 13, 3) := by decide +kernel
theorem d28_34 : decode cd26 34 = .ok (.lcmp, 1) := by decide +kernel
theorem d28_35 : decode cd26 35 = .ok (.ifCond .ge 5, 3) := by decide +kernel
theorem d28_38 : decode cd26 38 = .ok (.iconst 4, 1) := by decide +kernel
theorem d28_40 : decode cd26 40 = .ok (.lload_n 0, 1) := by decide +kernel
theorem d28_41 : decode cd26 41 = .ok (.ldc2_w 15, 3) := by decide +kernel
theorem d28_44 : decode cd26 44 = .ok (.lcmp, 1) := by decide +kernel
theorem d28_45 : decode cd26 45 = .ok (.ifCond .ge 5, 3) := by decide +kernel
theorem d28_48 : decode cd26 48 = .ok (.iconst 5, 1) := by decide +kernel
theorem d28_50 : decode cd26 50 = .ok (.bipush 6, 2) := by decide +kernel
theorem d28_9 : decode cd26 9 = .ok (.ireturn, 1) := by decide +kernel
theorem d28_19 : decode cd26 19 = .ok (.ireturn, 1) := by decide +kernel
theorem d28_29 : decode cd26 29 = .ok (.ireturn, 1) := by decide +kernel
theorem d28_39 : decode cd26 39 = .ok (.ireturn, 1) := by decide +kernel
theorem d28_49 : decode cd26 49 = .ok (.ireturn, 1) := by decide +kernel
theorem d28_52 : decode cd26 52 = .ok (.ireturn, 1) := by decide +kernel
theorem pn_com_example_morro_morro_index_TermPostingsMemoryPinLaw : plainName nm4 = true := by first | (simp [plainName, overriddenIn]; done) | decide +kernel
def own_len6 (q1 : Int64) : Int32 := (if q1 < (128 : Int64) then (1 : Int32) else (if q1 < (16384 : Int64) then (2 : Int32) else (if q1 < (2097152 : Int64) then (3 : Int32) else (if q1 < (268435456 : Int64) then (4 : Int32) else (if q1 < (34359738368 : Int64) then (5 : Int32) else (6 : Int32))))))
theorem ef_rmLen6 (m : MethodId) (q1 : Int64) : entryFrame m #[(.long q1)] 2 = mkF m 0 #[.val (.long q1), .second] [] := by first | (simp [entryFrame, mkF, argsToLocals, Value.category]; done) | rfl
def Q_rmLen6 (Z : State) (q1 : Int64) (h0 : Heap) (n0 : Nat) (v : Option Value) (h : Heap) (L : List Loc) : Prop := v = some (.int (own_len6 q1)) ∧ Fr n0 L ∧ h = h0
set_option maxRecDepth 65536 in
set_option maxHeartbeats 40000000 in
theorem rmLen6 (l : Launch) (Z : State) (a0 : Array Value) (hw : own_Hw Z a0) (ws : List Jvm.Cond) (q1 : Int64) (h0 : Heap) (n0 : Nat) (Z0 : n0 ≤ h0.size) :
  MetFree l mn30 (head1 (Jvm.Cond.code mn30 cd26 2 (some .int) :: ws) ({ frames := 0, cells := 0, slots := 0, locals := 0 } : Room)) (fun a U => a = #[(.long q1)] ∧ Z.Warmed39 U.vm ∧ U.heap = h0) (fun _ _ _ _ _ => True) (fun _ U o U' => ∃ v L, o = .returned v ∧ Q_rmLen6 Z q1 h0 n0 v U'.heap L ∧ FrameEnd U o U' L ({ frames := 0, cells := 0, slots := 0, locals := 0 } : Room).cells ({ frames := 0, cells := 0, slots := 0, locals := 0 } : Room).slots) := by
 refine MetFree.of_bodySF (plainFor_of_name pn_com_example_morro_morro_index_TermPostingsMemoryPinLaw) hisR ?_
 intro p e s m args below meth c s₁ Bd hml0 hP hK
 obtain ⟨rfl, hZ, hh⟩ := hP
 have hx := Bd.exec
 have hby := Bd.bytes
 have hml : c.maxLocals = 2 := hml0
 have hown : s.vm.findClass nm4 = some m.cls := findClass_of_methodNamed Bd.named
 have hnm := (name_of_methodNamed Bd.named Bd.method).1
 have X0 : Stand p l e ({ frames := 0, cells := 0, slots := 0, locals := 0 } : Room) s m #[(.long q1)] below meth c s₁ [] 0 0 := Stand.of_body Bd
 have e0 : s₁.heap = h0 := by rw [← hh, Bd.state]; rfl
 have N0 := Fr.nil n0
 have pre0 : ∀ t, Steps p.tables e below (s₁.setTop (mkF m 0 #[.val (.long q1), .second] [])) t → Steps p.tables e below (s₁.setTop (entryFrame m #[(.long q1)] 2)) t := fun t k => castTop (ef_rmLen6 m q1) k
 have pre2 : ∀ t, Steps p.tables e below (s₁.setTop (mkF m 5 #[.val (.long q1), .second] [(.int (lcmpW q1 (128 : Int64)))])) t → Steps p.tables e below (s₁.setTop (entryFrame m #[(.long q1)] 2)) t := fun t kt => by
  refine pre0 t ?_
  show oS s₁ (mkF m 0 #[.val (.long q1), .second] [])
  refine XS.lloadN X0.here hx rfl (hb hby d28_0) rfl ?_
  show oS s₁ (mkF m 1 #[.val (.long q1), .second] [(.long q1)])
  refine X0.ldc2Long hx hown (mvT hZ (own_w hw 226 rfl)) (g := (mkF m 1 #[.val (.long q1), .second] [(.long q1)])) rfl (hb hby d28_1) _ ?_
  show oS s₁ (mkF m 4 #[.val (.long q1), .second] [(.long 128), (.long q1)])
  refine XS.lcmp X0.here hx rfl (hb hby d28_4) rfl ?_
  exact kt
 by_cases hc5_1 : q1 < (128 : Int64)
 ·obtain ⟨fs, hr, hrun, hended, hW, hsame⟩ := X0.leave (v := some (.int 1)) (fun h => by rw [Bd.returns] at h; cases h)
  refine ⟨_, _, pre2 _ ?_, hrun, hended, _, _, rfl, ?_, ⟨_, rfl⟩, hW, hsame.mono (by decide) (by decide)⟩
  ·show oS s₁ (mkF m 5 #[.val (.long q1), .second] [(.int (lcmpW q1 (128 : Int64)))])
   refine XS.ifNo X0.here hx rfl (hb hby d28_5) rfl (own_lgeF hc5_1) ?_
   show oS s₁ (mkF m 8 #[.val (.long q1), .second] [])
   refine XS.iconst X0.here hx rfl (hb hby d28_8) ?_
   show oS s₁ (mkF m 9 #[.val (.long q1), .second] [(.int 1)])
   exact retI X0 hx Bd.returns (hb hby d28_9) hr
  ·show Q_rmLen6 Z q1 h0 n0 _ s₁.heap _
   rw [e0]
   exact ⟨by rw [own_len6, if_pos hc5_1], N0, rfl⟩
 ·have pre4 : ∀ t, Steps p.tables e below (s₁.setTop (mkF m 15 #[.val (.long q1), .second] [(.int (lcmpW q1 (16384 : Int64)))])) t → Steps p.tables e below (s₁.setTop (entryFrame m #[(.long q1)] 2)) t := fun t kt => by
   refine pre2 t ?_
   show oS s₁ (mkF m 5 #[.val (.long q1), .second] [(.int (lcmpW q1 (128 : Int64)))])
   refine XS.ifYes X0.here hx rfl (pc0 := 5) (pc' := 10) rfl (hb hby d28_5) rfl (own_lgeT hc5_1) (by decide) (by decide) ?_
   show oS s₁ (mkF m 10 #[.val (.long q1), .second] [])
   refine XS.lloadN X0.here hx rfl (hb hby d28_10) rfl ?_
   show oS s₁ (mkF m 11 #[.val (.long q1), .second] [(.long q1)])
   refine X0.ldc2Long hx hown (mvT hZ (own_w hw 238 rfl)) (g := (mkF m 11 #[.val (.long q1), .second] [(.long q1)])) rfl (hb hby d28_11) _ ?_
   show oS s₁ (mkF m 14 #[.val (.long q1), .second] [(.long 16384), (.long q1)])
   refine XS.lcmp X0.here hx rfl (hb hby d28_14) rfl ?_
   exact kt
  by_cases hc15_3 : q1 < (16384 : Int64)
  ·obtain ⟨fs, hr, hrun, hended, hW, hsame⟩ := X0.leave (v := some (.int 2)) (fun h => by rw [Bd.returns] at h; cases h)
   refine ⟨_, _, pre4 _ ?_, hrun, hended, _, _, rfl, ?_, ⟨_, rfl⟩, hW, hsame.mono (by decide) (by decide)⟩
   ·show oS s₁ (mkF m 15 #[.val (.long q1), .second] [(.int (lcmpW q1 (16384 : Int64)))])
    refine XS.ifNo X0.here hx rfl (hb hby d28_15) rfl (own_lgeF hc15_3) ?_
    show oS s₁ (mkF m 18 #[.val (.long q1), .second] [])
    refine XS.iconst X0.here hx rfl (hb hby d28_18) ?_
    show oS s₁ (mkF m 19 #[.val (.long q1), .second] [(.int 2)])
    exact retI X0 hx Bd.returns (hb hby d28_19) hr
   ·show Q_rmLen6 Z q1 h0 n0 _ s₁.heap _
    rw [e0]
    exact ⟨by rw [own_len6, if_neg hc5_1, if_pos hc15_3], N0, rfl⟩
  ·have pre6 : ∀ t, Steps p.tables e below (s₁.setTop (mkF m 25 #[.val (.long q1), .second] [(.int (lcmpW q1 (2097152 : Int64)))])) t → Steps p.tables e below (s₁.setTop (entryFrame m #[(.long q1)] 2)) t := fun t kt => by
    refine pre4 t ?_
    show oS s₁ (mkF m 15 #[.val (.long q1), .second] [(.int (lcmpW q1 (16384 : Int64)))])
    refine XS.ifYes X0.here hx rfl (pc0 := 15) (pc' := 20) rfl (hb hby d28_15) rfl (own_lgeT hc15_3) (by decide) (by decide) ?_
    show oS s₁ (mkF m 20 #[.val (.long q1), .second] [])
    refine XS.lloadN X0.here hx rfl (hb hby d28_20) rfl ?_
    show oS s₁ (mkF m 21 #[.val (.long q1), .second] [(.long q1)])
    refine X0.ldc2Long hx hown (mvT hZ (own_w hw 239 rfl)) (g := (mkF m 21 #[.val (.long q1), .second] [(.long q1)])) rfl (hb hby d28_21) _ ?_
    show oS s₁ (mkF m 24 #[.val (.long q1), .second] [(.long 2097152), (.long q1)])
    refine XS.lcmp X0.here hx rfl (hb hby d28_24) rfl ?_
    exact kt
   by_cases hc25_5 : q1 < (2097152 : Int64)
   ·obtain ⟨fs, hr, hrun, hended, hW, hsame⟩ := X0.leave (v := some (.int 3)) (fun h => by rw [Bd.returns] at h; cases h)
    refine ⟨_, _, pre6 _ ?_, hrun, hended, _, _, rfl, ?_, ⟨_, rfl⟩, hW, hsame.mono (by decide) (by decide)⟩
    ·show oS s₁ (mkF m 25 #[.val (.long q1), .second] [(.int (lcmpW q1 (2097152 : Int64)))])
     refine XS.ifNo X0.here hx rfl (hb hby d28_25) rfl (own_lgeF hc25_5) ?_
     show oS s₁ (mkF m 28 #[.val (.long q1), .second] [])
     refine XS.iconst X0.here hx rfl (hb hby d28_28) ?_
     show oS s₁ (mkF m 29 #[.val (.long q1), .second] [(.int 3)])
     exact retI X0 hx Bd.returns (hb hby d28_29) hr
    ·show Q_rmLen6 Z q1 h0 n0 _ s₁.heap _
     rw [e0]
     exact ⟨by rw [own_len6, if_neg hc5_1, if_neg hc15_3, if_pos hc25_5], N0, rfl⟩
   ·have pre8 : ∀ t, Steps p.tables e below (s₁.setTop (mkF m 35 #[.val (.long q1), .second] [(.int (lcmpW q1 (268435456 : Int64)))])) t → Steps p.tables e below (s₁.setTop (entryFrame m #[(.long q1)] 2)) t := fun t kt => by
     refine pre6 t ?_
     show oS s₁ (mkF m 25 #[.val (.long q1), .second] [(.int (lcmpW q1 (2097152 : Int64)))])
     refine XS.ifYes X0.here hx rfl (pc0 := 25) (pc' := 30) rfl (hb hby d28_25) rfl (own_lgeT hc25_5) (by decide) (by decide) ?_
     show oS s₁ (mkF m 30 #[.val (.long q1), .second] [])
     refine XS.lloadN X0.here hx rfl (hb hby d28_30) rfl ?_
     show oS s₁ (mkF m 31 #[.val (.long q1), .second] [(.long q1)])
     refine X0.ldc2Long hx hown (mvT hZ (own_w hw 240 rfl)) (g := (mkF m 31 #[.val (.long q1), .second] [(.long q1)])) rfl (hb hby d28_31) _ ?_
     show oS s₁ (mkF m 34 #[.val (.long q1), .second] [(.long 268435456), (.long q1)])
     refine XS.lcmp X0.here hx rfl (hb hby d28_34) rfl ?_
     exact kt
    by_cases hc35_7 : q1 < (268435456 : Int64)
    ·obtain ⟨fs, hr, hrun, hended, hW, hsame⟩ := X0.leave (v := some (.int 4)) (fun h => by rw [Bd.returns] at h; cases h)
     refine ⟨_, _, pre8 _ ?_, hrun, hended, _, _, rfl, ?_, ⟨_, rfl⟩, hW, hsame.mono (by decide) (by decide)⟩
     ·show oS s₁ (mkF m 35 #[.val (.long q1), .second] [(.int (lcmpW q1 (268435456 : Int64)))])
      refine XS.ifNo X0.here hx rfl (hb hby d28_35) rfl (own_lgeF hc35_7) ?_
      show oS s₁ (mkF m 38 #[.val (.long q1), .second] [])
      refine XS.iconst X0.here hx rfl (hb hby d28_38) ?_
      show oS s₁ (mkF m 39 #[.val (.long q1), .second] [(.int 4)])
      exact retI X0 hx Bd.returns (hb hby d28_39) hr
     ·show Q_rmLen6 Z q1 h0 n0 _ s₁.heap _
      rw [e0]
      exact ⟨by rw [own_len6, if_neg hc5_1, if_neg hc15_3, if_neg hc25_5, if_pos hc35_7], N0, rfl⟩
    ·have pre10 : ∀ t, Steps p.tables e below (s₁.setTop (mkF m 45 #[.val (.long q1), .second] [(.int (lcmpW q1 (34359738368 : Int64)))])) t → Steps p.tables e below (s₁.setTop (entryFrame m #[(.long q1)] 2)) t := fun t kt => by
      refine pre8 t ?_
      show oS s₁ (mkF m 35 #[.val (.long q1), .second] [(.int (lcmpW q1 (268435456 : Int64)))])
      refine XS.ifYes X0.here hx rfl (pc0 := 35) (pc' := 40) rfl (hb hby d28_35) rfl (own_lgeT hc35_7) (by decide) (by decide) ?_
      show oS s₁ (mkF m 40 #[.val (.long q1), .second] [])
      refine XS.lloadN X0.here hx rfl (hb hby d28_40) rfl ?_
      show oS s₁ (mkF m 41 #[.val (.long q1), .second] [(.long q1)])
      refine X0.ldc2Long hx hown (mvT hZ (own_w hw 241 rfl)) (g := (mkF m 41 #[.val (.long q1), .second] [(.long q1)])) rfl (hb hby d28_41) _ ?_
      show oS s₁ (mkF m 44 #[.val (.long q1), .second] [(.long 34359738368), (.long q1)])
      refine XS.lcmp X0.here hx rfl (hb hby d28_44) rfl ?_
      exact kt
     by_cases hc45_9 : q1 < (34359738368 : Int64)
     ·obtain ⟨fs, hr, hrun, hended, hW, hsame⟩ := X0.leave (v := some (.int 5)) (fun h => by rw [Bd.returns] at h; cases h)
      refine ⟨_, _, pre10 _ ?_, hrun, hended, _, _, rfl, ?_, ⟨_, rfl⟩, hW, hsame.mono (by decide) (by decide)⟩
      ·show oS s₁ (mkF m 45 #[.val (.long q1), .second] [(.int (lcmpW q1 (34359738368 : Int64)))])
       refine XS.ifNo X0.here hx rfl (hb hby d28_45) rfl (own_lgeF hc45_9) ?_
       show oS s₁ (mkF m 48 #[.val (.long q1), .second] [])
       refine XS.iconst X0.here hx rfl (hb hby d28_48) ?_
       show oS s₁ (mkF m 49 #[.val (.long q1), .second] [(.int 5)])
       exact retI X0 hx Bd.returns (hb hby d28_49) hr
      ·show Q_rmLen6 Z q1 h0 n0 _ s₁.heap _
       rw [e0]
       exact ⟨by rw [own_len6, if_neg hc5_1, if_neg hc15_3, if_neg hc25_5, if_neg hc35_7, if_pos hc45_9], N0, rfl⟩
     ·obtain ⟨fs, hr, hrun, hended, hW, hsame⟩ := X0.leave (v := some (.int 6)) (fun h => by rw [Bd.returns] at h; cases h)
      refine ⟨_, _, pre10 _ ?_, hrun, hended, _, _, rfl, ?_, ⟨_, rfl⟩, hW, hsame.mono (by decide) (by decide)⟩
      ·show oS s₁ (mkF m 45 #[.val (.long q1), .second] [(.int (lcmpW q1 (34359738368 : Int64)))])
       refine XS.ifYes X0.here hx rfl (pc0 := 45) (pc' := 50) rfl (hb hby d28_45) rfl (own_lgeT hc45_9) (by decide) (by decide) ?_
       show oS s₁ (mkF m 50 #[.val (.long q1), .second] [])
       refine XS.bipush X0.here hx rfl (hb hby d28_50) ?_
       show oS s₁ (mkF m 52 #[.val (.long q1), .second] [(.int 6)])
       exact retI X0 hx Bd.returns (hb hby d28_52) hr
      ·show Q_rmLen6 Z q1 h0 n0 _ s₁.heap _
       rw [e0]
       exact ⟨by rw [own_len6, if_neg hc5_1, if_neg hc15_3, if_neg hc25_5, if_neg hc35_7, if_neg hc45_9], N0, rfl⟩
theorem d29_0 : decode cd27 0 = .ok (.aload_n 0, 1) := by decide +kernel
theorem d29_1 : decode cd27 1 = .ok (.iconst 1, 1) := by decide +kernel
theorem d29_2 : decode cd27 2 = .ok (.iaload, 1) := by decide +kernel
theorem d29_3 : decode cd27 3 = .ok (.bipush 9, 2) := by decide +kernel
theorem d29_5 : decode cd27 5 = .ok (.iadd, 1) := by decide +kernel
theorem d29_6 : decode cd27 6 = .ok (.aload_n 0, 1) := by decide +kernel
theorem d29_7 : decode cd27 7 = .ok (.iconst 0, 1) := by decide +kernel
theorem d29_8 : decode cd27 8 = .ok (.iaload, 1) := by decide +kernel
theorem d29_9 : decode cd27 9 = .ok (.if_icmp .le 20, 3) := by decide +kernel
theorem d29_12 : decode cd27 12 = .ok (.aload_n 0, 1) := by decide +kernel
theorem d29_13 : decode cd27 13 = .ok (.iconst 0, 1) := by decide +kernel
theorem d29_14 : decode cd27 14 = .ok (.iconst 2, 1) := by decide +kernel
theorem d29_15 : decode cd27 15 = .ok (.aload_n 0, 1) := by decide +kernel
theorem d29_16 : decode cd27 16 = .ok (.iconst 0, 1) := by decide +kernel
theorem d29_17 : decode cd27 17 = .ok (.iaload, 1) := by decide +kernel
theorem d29_18 : decode cd27 18 = .ok (.imul, 1) := by decide +kernel
theorem d29_19 : decode cd27 19 = .ok (.aload_n 0, 1) := by decide +kernel
theorem d29_20 : decode cd27 20 = .ok (.iconst 1, 1) := by decide +kernel
theorem d29_21 : decode cd27 21 = .ok (.iaload, 1) := by decide +kernel
theorem d29_22 : decode cd27 22 = .ok (.bipush 9, 2) := by decide +kernel
theorem d29_24 : decode cd27 24 = .ok (.iadd, 1) := by decide +kernel
theorem d29_25 : decode cd27 25 = .ok (.invokestatic 17, 3) := by decide +kernel
theorem d29_28 : decode cd27 28 = .ok (.iastore, 1) := by decide +kernel
theorem d29_29 : decode cd27 29 = .ok (.aload_n 0, 1) := by decide +kernel
theorem d29_30 : decode cd27 30 = .ok (.iconst 1, 1) := by decide +kernel
theorem d29_31 : decode cd27 31 = .ok (.aload_n 0, 1) := by decide +kernel
theorem d29_32 : decode cd27 32 = .ok (.iconst 1, 1) := by decide +kernel
theorem d29_33 : decode cd27 33 = .ok (.iaload, 1) := by decide +kernel
theorem d29_34 : decode cd27 34 = .ok (.iload_n 1, 1) := by decide +kernel
theorem d29_35 : decode cd27 35 = .ok (.iadd, 1) := by decide +kernel
theorem d29_36 : decode cd27 36 = .ok (.iastore, 1) := by decide +kernel
theorem d29_37 : decode cd27 37 = .ok (.return_, 1) := by decide +kernel
theorem ef_rmPut (m : MethodId) (a1 : Addr) (p2 : Int32) : entryFrame m #[(.ref a1), (.int p2)] 2 = mkF m 0 #[.val (.ref a1), .val (.int p2)] [] := by first | (simp [entryFrame, mkF, argsToLocals, Value.category]; done) | rfl
def Q_rmPut (Z : State) (a1 : Addr) (p2 : Int32) (kk : ClassId) (c0 : Int32) (z0 : Int32) (h0 : Heap) (n0 : Nat) (v : Option Value) (h : Heap) (L : List Loc) : Prop := v = none ∧ Fr n0 L ∧ Keep h0 h [a1] ∧ Arv Z h a1 kk .int (2 : Int32) [(.int (own_cap c0 z0)), (.int (z0 + p2))] (.int 0)
set_option maxRecDepth 65536 in
set_option maxHeartbeats 40000000 in
theorem rmPut (l : Launch) (Z : State) (a0 : Array Value) (hw : own_Hw Z a0) (ws : List Jvm.Cond) (a1 : Addr) (p2 : Int32) (kk : ClassId) (c0 : Int32) (z0 : Int32) (h0 : Heap) (n0 : Nat) (Z0 : n0 ≤ h0.size) (V_a1 : Arv Z h0 a1 kk .int (2 : Int32) [(.int c0), (.int z0)] (.int 0)) (g_a1 : n0 ≤ a1) :
  MetFree l mn31 (head1 (Jvm.Cond.code mn31 cd27 2 none :: ws) ({ frames := 1, cells := 0, slots := 0, locals := 15 } : Room)) (fun a U => a = #[(.ref a1), (.int p2)] ∧ Z.Warmed39 U.vm ∧ U.heap = h0) (fun _ _ _ _ _ => True) (fun _ U o U' => ∃ v L, o = .returned v ∧ Q_rmPut Z a1 p2 kk c0 z0 h0 n0 v U'.heap L ∧ FrameEnd U o U' L ({ frames := 1, cells := 0, slots := 0, locals := 15 } : Room).cells ({ frames := 1, cells := 0, slots := 0, locals := 15 } : Room).slots) := by
 refine MetFree.of_bodySF (plainFor_of_name pn_com_example_morro_morro_index_TermPostingsMemoryPinLaw) hisR ?_
 intro p e s m args below meth c s₁ Bd hml0 hP hK
 obtain ⟨rfl, hZ, hh⟩ := hP
 have hx := Bd.exec
 have hby := Bd.bytes
 have hml : c.maxLocals = 2 := hml0
 have hown : s.vm.findClass nm4 = some m.cls := findClass_of_methodNamed Bd.named
 have hnm := (name_of_methodNamed Bd.named Bd.method).1
 have X0 : Stand p l e ({ frames := 1, cells := 0, slots := 0, locals := 15 } : Room) s m #[(.ref a1), (.int p2)] below meth c s₁ [] 0 0 := Stand.of_body Bd
 have e0 : s₁.heap = h0 := by rw [← hh, Bd.state]; rfl
 have N0 := Fr.nil n0
 have pre0 : ∀ t, Steps p.tables e below (s₁.setTop (mkF m 0 #[.val (.ref a1), .val (.int p2)] [])) t → Steps p.tables e below (s₁.setTop (entryFrame m #[(.ref a1), (.int p2)] 2)) t := fun t k => castTop (ef_rmPut m a1 p2) k
 obtain ⟨c1, Ac1, qc1, Sc1, Nc1, Hc1, Gc1⟩ := id V_a1
 have hinc1 := inb_of Sc1 (j := (1 : Int32)) ⟨by decide, by decide⟩
 obtain ⟨c2, Ac2, qc2, Sc2, Nc2, Hc2, Gc2⟩ := id V_a1
 have hinc2 := inb_of Sc2 (j := (0 : Int32)) ⟨by decide, by decide⟩
 have pre3 : ∀ t, Steps p.tables e below (s₁.setTop (mkF m 9 #[.val (.ref a1), .val (.int p2)] [(.int c0), (.int (z0 + (9 : Int32)))])) t → Steps p.tables e below (s₁.setTop (entryFrame m #[(.ref a1), (.int p2)] 2)) t := fun t kt => by
  refine pre0 t ?_
  show oS s₁ (mkF m 0 #[.val (.ref a1), .val (.int p2)] [])
  refine XS.aloadN X0.here hx rfl (hb hby d29_0) rfl rfl ?_
  show oS s₁ (mkF m 1 #[.val (.ref a1), .val (.int p2)] [(.ref a1)])
  refine XS.iconst X0.here hx rfl (hb hby d29_1) ?_
  show oS s₁ (mkF m 2 #[.val (.ref a1), .val (.int p2)] [(.int 1), (.ref a1)])
  refine X0.iaload hx (j := (1 : Int32)) (v := (.int z0)) (by rw [e0]; exact Ac1.1) (State.isArrayOf_alike hZ.alike Ac1.2.1) Ac1.2.2 hinc1 (Has.at Hc1 hinc1 rfl) (g := (mkF m 2 #[.val (.ref a1), .val (.int p2)] [(.int 1), (.ref a1)])) rfl rfl (hb hby d29_2) _ ?_
  show oS s₁ (mkF m 3 #[.val (.ref a1), .val (.int p2)] [(.int z0)])
  refine XS.bipush X0.here hx rfl (hb hby d29_3) ?_
  show oS s₁ (mkF m 5 #[.val (.ref a1), .val (.int p2)] [(.int 9), (.int z0)])
  refine XS.iadd X0.here hx rfl (hb hby d29_5) rfl ?_
  show oS s₁ (mkF m 6 #[.val (.ref a1), .val (.int p2)] [(.int (z0 + (9 : Int32)))])
  refine XS.aloadN X0.here hx rfl (hb hby d29_6) rfl rfl ?_
  show oS s₁ (mkF m 7 #[.val (.ref a1), .val (.int p2)] [(.ref a1), (.int (z0 + (9 : Int32)))])
  refine XS.iconst X0.here hx rfl (hb hby d29_7) ?_
  show oS s₁ (mkF m 8 #[.val (.ref a1), .val (.int p2)] [(.int 0), (.ref a1), (.int (z0 + (9 : Int32)))])
  refine X0.iaload hx (j := (0 : Int32)) (v := (.int c0)) (by rw [e0]; exact Ac2.1) (State.isArrayOf_alike hZ.alike Ac2.2.1) Ac2.2.2 hinc2 (Has.at Hc2 hinc2 rfl) (g := (mkF m 8 #[.val (.ref a1), .val (.int p2)] [(.int 0), (.ref a1), (.int (z0 + (9 : Int32)))])) rfl rfl (hb hby d29_8) _ ?_
  exact kt
 by_cases hA : c0 < (z0 + (9 : Int32))
 ·obtain ⟨c4, Ac4, qc4, Sc4, Nc4, Hc4, Gc4⟩ := id V_a1
  have hinc4 := inb_of Sc4 (j := (0 : Int32)) ⟨by decide, by decide⟩
  obtain ⟨c5, Ac5, qc5, Sc5, Nc5, Hc5, Gc5⟩ := id V_a1
  have hinc5 := inb_of Sc5 (j := (1 : Int32)) ⟨by decide, by decide⟩
  obtain ⟨_, _, ⟨T6, L6, k6, n6⟩, -, X6, ⟨Lc6, hQ6, l6, y6, z6⟩, st6⟩ := Jvm.LawKit.callS X0 hx (y := mn3) hown (mvT hZ (own_w hw 230 rfl)) (mvT hZ (own_w hw 56 rfl)) (mvT hZ (own_w hw 57 rfl)) (mvT hZ (own_w hw 58 rfl)) (by decide) (backOf (W := 2) (rmMax l Z a0 hw [] ((2 : Int32) * c0) (z0 + (9 : Int32)) h0 n0 Z0 ) hZ (own_w hw 58 rfl) (own_w hw 57 rfl) (by decide) (by decide)) (g := (mkF m 25 #[.val (.ref a1), .val (.int p2)] [(.int (z0 + (9 : Int32))), (.int ((2 : Int32) * c0)), (.int 0), (.ref a1)])) rfl (by rw [hml]; rfl) (argsL := [(.int ((2 : Int32) * c0)), (.int (z0 + (9 : Int32)))]) (rest := [(.int 0), (.ref a1)]) (lenOf pd__28II_29I rfl) rfl (by show 2 * 0 + _ ≤ _; exact Nat.le_of_eq rfl) (hb hby d29_25) (fun _ _ => ⟨rfl, e0, (by decide : 0 + 0 ≤ _), (by decide : 0 + 0 ≤ _)⟩)
  dsimp only [Pt.U, Pt.locs, Pt.cells, Pt.slots] at y6 z6 st6 hQ6
  change Stand p l e _ s m _ below meth c T6 L6 k6 n6 at X6
  change L6 = _ ++ Lc6 at l6
  subst y6 z6
  obtain ⟨rfl, N6q, e6⟩ := hQ6
  have N6 : Fr n0 L6 := l6 ▸ Fr.app N0 N6q
  obtain ⟨c7, Ac7, qc7, Sc7, Nc7, Hc7, Gc7⟩ := id V_a1
  obtain ⟨T8, h8, X8, e8, W8, st8⟩ := stI X6 hx hZ e6 Ac7 (j := (0 : Int32)) (inb_of Sc7 ⟨by decide, by decide⟩) (g := (mkF m 28 #[.val (.ref a1), .val (.int p2)] [(.int (own_max ((2 : Int32) * c0) (z0 + (9 : Int32)))), (.int 0), (.ref a1)])) rfl rfl (hb hby d29_28)
  have K9 : Keep h0 h8 [a1] := (Keep.refl h0 [a1]).wr W8 (Or.inl (List.mem_of_getElem? (i := 0) rfl))
  have N10 := Fr.snoc X8 N6 g_a1
  have Vw8 := Arv.set Ac7 qc7 Sc7 Nc7 Hc7 Gc7 rfl W8 0 rfl (Nat.le_of_ble_eq_true rfl)
  change Arv Z h8 a1 kk .int (2 : Int32) [(.int (own_max ((2 : Int32) * c0) (z0 + (9 : Int32)))), (.int z0)] (.int 0) at Vw8
  obtain ⟨c11, Ac11, qc11, Sc11, Nc11, Hc11, Gc11⟩ := id Vw8
  have hinc11 := inb_of Sc11 (j := (1 : Int32)) ⟨by decide, by decide⟩
  obtain ⟨c12, Ac12, qc12, Sc12, Nc12, Hc12, Gc12⟩ := id Vw8
  obtain ⟨T13, h13, X13, e13, W13, st13⟩ := stI X8 hx hZ e8 Ac12 (j := (1 : Int32)) (inb_of Sc12 ⟨by decide, by decide⟩) (g := (mkF m 36 #[.val (.ref a1), .val (.int p2)] [(.int (z0 + p2)), (.int 1), (.ref a1)])) rfl rfl (hb hby d29_36)
  have K14 : Keep h0 h13 [a1] := K9.wr W13 (Or.inl (List.mem_of_getElem? (i := 0) rfl))
  have N15 := Fr.snoc X13 N10 g_a1
  have Vw13 := Arv.set Ac12 qc12 Sc12 Nc12 Hc12 Gc12 rfl W13 1 rfl (Nat.le_of_ble_eq_true rfl)
  change Arv Z h13 a1 kk .int (2 : Int32) [(.int (own_max ((2 : Int32) * c0) (z0 + (9 : Int32)))), (.int (z0 + p2))] (.int 0) at Vw13
  obtain ⟨fs, hr, hrun, hended, hW, hsame⟩ := X13.leave (v := none) (fun _ => rfl)
  refine ⟨_, _, pre3 _ ?_, hrun, hended, _, _, rfl, ?_, ⟨_, rfl⟩, hW, hsame.mono (by decide) (by decide)⟩
  ·show oS s₁ (mkF m 9 #[.val (.ref a1), .val (.int p2)] [(.int c0), (.int (z0 + (9 : Int32)))])
   refine XS.icmpNo X0.here hx rfl (hb hby d29_9) rfl (tlt hA).2.2.2 ?_
   show oS s₁ (mkF m 12 #[.val (.ref a1), .val (.int p2)] [])
   refine XS.aloadN X0.here hx rfl (hb hby d29_12) rfl rfl ?_
   show oS s₁ (mkF m 13 #[.val (.ref a1), .val (.int p2)] [(.ref a1)])
   refine XS.iconst X0.here hx rfl (hb hby d29_13) ?_
   show oS s₁ (mkF m 14 #[.val (.ref a1), .val (.int p2)] [(.int 0), (.ref a1)])
   refine XS.iconst X0.here hx rfl (hb hby d29_14) ?_
   show oS s₁ (mkF m 15 #[.val (.ref a1), .val (.int p2)] [(.int 2), (.int 0), (.ref a1)])
   refine XS.aloadN X0.here hx rfl (hb hby d29_15) rfl rfl ?_
   show oS s₁ (mkF m 16 #[.val (.ref a1), .val (.int p2)] [(.ref a1), (.int 2), (.int 0), (.ref a1)])
   refine XS.iconst X0.here hx rfl (hb hby d29_16) ?_
   show oS s₁ (mkF m 17 #[.val (.ref a1), .val (.int p2)] [(.int 0), (.ref a1), (.int 2), (.int 0), (.ref a1)])
   refine X0.iaload hx (j := (0 : Int32)) (v := (.int c0)) (by rw [e0]; exact Ac4.1) (State.isArrayOf_alike hZ.alike Ac4.2.1) Ac4.2.2 hinc4 (Has.at Hc4 hinc4 rfl) (g := (mkF m 17 #[.val (.ref a1), .val (.int p2)] [(.int 0), (.ref a1), (.int 2), (.int 0), (.ref a1)])) rfl rfl (hb hby d29_17) _ ?_
   show oS s₁ (mkF m 18 #[.val (.ref a1), .val (.int p2)] [(.int c0), (.int 2), (.int 0), (.ref a1)])
   refine XS.imul X0.here hx rfl (hb hby d29_18) rfl ?_
   show oS s₁ (mkF m 19 #[.val (.ref a1), .val (.int p2)] [(.int ((2 : Int32) * c0)), (.int 0), (.ref a1)])
   refine XS.aloadN X0.here hx rfl (hb hby d29_19) rfl rfl ?_
   show oS s₁ (mkF m 20 #[.val (.ref a1), .val (.int p2)] [(.ref a1), (.int ((2 : Int32) * c0)), (.int 0), (.ref a1)])
   refine XS.iconst X0.here hx rfl (hb hby d29_20) ?_
   show oS s₁ (mkF m 21 #[.val (.ref a1), .val (.int p2)] [(.int 1), (.ref a1), (.int ((2 : Int32) * c0)), (.int 0), (.ref a1)])
   refine X0.iaload hx (j := (1 : Int32)) (v := (.int z0)) (by rw [e0]; exact Ac5.1) (State.isArrayOf_alike hZ.alike Ac5.2.1) Ac5.2.2 hinc5 (Has.at Hc5 hinc5 rfl) (g := (mkF m 21 #[.val (.ref a1), .val (.int p2)] [(.int 1), (.ref a1), (.int ((2 : Int32) * c0)), (.int 0), (.ref a1)])) rfl rfl (hb hby d29_21) _ ?_
   show oS s₁ (mkF m 22 #[.val (.ref a1), .val (.int p2)] [(.int z0), (.int ((2 : Int32) * c0)), (.int 0), (.ref a1)])
   refine XS.bipush X0.here hx rfl (hb hby d29_22) ?_
   show oS s₁ (mkF m 24 #[.val (.ref a1), .val (.int p2)] [(.int 9), (.int z0), (.int ((2 : Int32) * c0)), (.int 0), (.ref a1)])
   refine XS.iadd X0.here hx rfl (hb hby d29_24) rfl ?_
   show oS s₁ (mkF m 25 #[.val (.ref a1), .val (.int p2)] [(.int (z0 + (9 : Int32))), (.int ((2 : Int32) * c0)), (.int 0), (.ref a1)])
   refine st6 _ ?_
   show oS T6 (mkF m 28 #[.val (.ref a1), .val (.int p2)] [(.int (own_max ((2 : Int32) * c0) (z0 + (9 : Int32)))), (.int 0), (.ref a1)])
   refine st8 _ ?_
   show oS T8 (mkF m 29 #[.val (.ref a1), .val (.int p2)] [])
   refine XS.aloadN X8.here hx rfl (hb hby d29_29) rfl rfl ?_
   show oS T8 (mkF m 30 #[.val (.ref a1), .val (.int p2)] [(.ref a1)])
   refine XS.iconst X8.here hx rfl (hb hby d29_30) ?_
   show oS T8 (mkF m 31 #[.val (.ref a1), .val (.int p2)] [(.int 1), (.ref a1)])
   refine XS.aloadN X8.here hx rfl (hb hby d29_31) rfl rfl ?_
   show oS T8 (mkF m 32 #[.val (.ref a1), .val (.int p2)] [(.ref a1), (.int 1), (.ref a1)])
   refine XS.iconst X8.here hx rfl (hb hby d29_32) ?_
   show oS T8 (mkF m 33 #[.val (.ref a1), .val (.int p2)] [(.int 1), (.ref a1), (.int 1), (.ref a1)])
   refine X8.iaload hx (j := (1 : Int32)) (v := (.int z0)) (by rw [e8]; exact Ac11.1) (State.isArrayOf_alike hZ.alike Ac11.2.1) Ac11.2.2 hinc11 (Has.at Hc11 hinc11 rfl) (g := (mkF m 33 #[.val (.ref a1), .val (.int p2)] [(.int 1), (.ref a1), (.int 1), (.ref a1)])) rfl rfl (hb hby d29_33) _ ?_
   show oS T8 (mkF m 34 #[.val (.ref a1), .val (.int p2)] [(.int z0), (.int 1), (.ref a1)])
   refine XS.iloadN X8.here hx rfl (hb hby d29_34) rfl ?_
   show oS T8 (mkF m 35 #[.val (.ref a1), .val (.int p2)] [(.int p2), (.int z0), (.int 1), (.ref a1)])
   refine XS.iadd X8.here hx rfl (hb hby d29_35) rfl ?_
   show oS T8 (mkF m 36 #[.val (.ref a1), .val (.int p2)] [(.int (z0 + p2)), (.int 1), (.ref a1)])
   refine st13 _ ?_
   show oS T13 (mkF m 37 #[.val (.ref a1), .val (.int p2)] [])
   exact X13.returnOut hx Bd.returns (hb hby d29_37) hr
  ·show Q_rmPut Z a1 p2 kk c0 z0 h0 n0 _ T13.heap _
   rw [e13]
   exact ⟨rfl, N15, K14, (by rw [own_cap, if_pos hA]; exact Vw13)⟩
 ·obtain ⟨c16, Ac16, qc16, Sc16, Nc16, Hc16, Gc16⟩ := id V_a1
  have hinc16 := inb_of Sc16 (j := (1 : Int32)) ⟨by decide, by decide⟩
  obtain ⟨c17, Ac17, qc17, Sc17, Nc17, Hc17, Gc17⟩ := id V_a1
  obtain ⟨T18, h18, X18, e18, W18, st18⟩ := stI X0 hx hZ e0 Ac17 (j := (1 : Int32)) (inb_of Sc17 ⟨by decide, by decide⟩) (g := (mkF m 36 #[.val (.ref a1), .val (.int p2)] [(.int (z0 + p2)), (.int 1), (.ref a1)])) rfl rfl (hb hby d29_36)
  have K19 : Keep h0 h18 [a1] := (Keep.refl h0 [a1]).wr W18 (Or.inl (List.mem_of_getElem? (i := 0) rfl))
  have N20 := Fr.snoc X18 N0 g_a1
  have Vw18 := Arv.set Ac17 qc17 Sc17 Nc17 Hc17 Gc17 rfl W18 1 rfl (Nat.le_of_ble_eq_true rfl)
  change Arv Z h18 a1 kk .int (2 : Int32) [(.int c0), (.int (z0 + p2))] (.int 0) at Vw18
  obtain ⟨fs, hr, hrun, hended, hW, hsame⟩ := X18.leave (v := none) (fun _ => rfl)
  refine ⟨_, _, pre3 _ ?_, hrun, hended, _, _, rfl, ?_, ⟨_, rfl⟩, hW, hsame.mono (by decide) (by decide)⟩
  ·show oS s₁ (mkF m 9 #[.val (.ref a1), .val (.int p2)] [(.int c0), (.int (z0 + (9 : Int32)))])
   refine XS.icmpYes X0.here hx rfl (pc0 := 9) (pc' := 29) rfl (hb hby d29_9) rfl (flt hA).2.2.2 (by decide) (by decide) ?_
   show oS s₁ (mkF m 29 #[.val (.ref a1), .val (.int p2)] [])
   refine XS.aloadN X0.here hx rfl (hb hby d29_29) rfl rfl ?_
   show oS s₁ (mkF m 30 #[.val (.ref a1), .val (.int p2)] [(.ref a1)])
   refine XS.iconst X0.here hx rfl (hb hby d29_30) ?_
   show oS s₁ (mkF m 31 #[.val (.ref a1), .val (.int p2)] [(.int 1), (.ref a1)])
   refine XS.aloadN X0.here hx rfl (hb hby d29_31) rfl rfl ?_
   show oS s₁ (mkF m 32 #[.val (.ref a1), .val (.int p2)] [(.ref a1), (.int 1), (.ref a1)])
   refine XS.iconst X0.here hx rfl (hb hby d29_32) ?_
   show oS s₁ (mkF m 33 #[.val (.ref a1), .val (.int p2)] [(.int 1), (.ref a1), (.int 1), (.ref a1)])
   refine X0.iaload hx (j := (1 : Int32)) (v := (.int z0)) (by rw [e0]; exact Ac16.1) (State.isArrayOf_alike hZ.alike Ac16.2.1) Ac16.2.2 hinc16 (Has.at Hc16 hinc16 rfl) (g := (mkF m 33 #[.val (.ref a1), .val (.int p2)] [(.int 1), (.ref a1), (.int 1), (.ref a1)])) rfl rfl (hb hby d29_33) _ ?_
   show oS s₁ (mkF m 34 #[.val (.ref a1), .val (.int p2)] [(.int z0), (.int 1), (.ref a1)])
   refine XS.iloadN X0.here hx rfl (hb hby d29_34) rfl ?_
   show oS s₁ (mkF m 35 #[.val (.ref a1), .val (.int p2)] [(.int p2), (.int z0), (.int 1), (.ref a1)])
   refine XS.iadd X0.here hx rfl (hb hby d29_35) rfl ?_
   show oS s₁ (mkF m 36 #[.val (.ref a1), .val (.int p2)] [(.int (z0 + p2)), (.int 1), (.ref a1)])
   refine st18 _ ?_
   show oS T18 (mkF m 37 #[.val (.ref a1), .val (.int p2)] [])
   exact X18.returnOut hx Bd.returns (hb hby d29_37) hr
  ·show Q_rmPut Z a1 p2 kk c0 z0 h0 n0 _ T18.heap _
   rw [e18]
   exact ⟨rfl, N20, K19, (by rw [own_cap, if_neg hA]; exact Vw18)⟩
theorem own_msk (x : Int32) : 0 ≤ (x &&& (1073741823 : Int32)).toInt ∧ (x &&& (1073741823 : Int32)).toInt < 1073741824 := by
 have q := Jvm.Kit.i32_mask x (1073741823 : Int32) (k := 30) (by decide) (by decide)
 rw [q]
 omega
theorem own_lenF {v : Int64} (h : 0 ≤ v.toInt) (g : v.toInt < 34359738368) : ∃ f : Nat, f ≤ 4 ∧ (own_len6 v).toInt = f + 1 ∧ v.toInt < 2 ^ (7 * (f + 1)) ∧ (f ≠ 0 → 2 ^ (7 * f) ≤ v.toInt) := by
 have k1 : (128 : Int64).toInt = 128 := by decide
 have k2 : (16384 : Int64).toInt = 16384 := by decide
 have k3 : (2097152 : Int64).toInt = 2097152 := by decide
 have k4 : (268435456 : Int64).toInt = 268435456 := by decide
 have k5 : (34359738368 : Int64).toInt = 34359738368 := by decide
 unfold own_len6
 simp only [Int64.lt_iff_toInt_lt, k1, k2, k3, k4, k5]
 split
 ·exact ⟨0, by omega, by decide, by omega, by omega⟩
 split
 ·exact ⟨1, by omega, by decide, by omega, by omega⟩
 split
 ·exact ⟨2, by omega, by decide, by omega, by omega⟩
 split
 ·exact ⟨3, by omega, by decide, by omega, by omega⟩
 exact ⟨4, by omega, by decide, by omega, by omega⟩
theorem own_gapN {x : Int32} (h : 0 ≤ x.toInt) (g : x.toInt < 2147483647) : (x - (-1 : Int32)).toInt64 = x.toInt64 + (1 : Int64) ∧ (x.toInt64 + (1 : Int64)).toInt = x.toInt + 1 := by
 have e1 : (-1 : Int32).toInt = -1 := by decide
 have e2 : (1 : Int64).toInt = 1 := by decide
 have a : (x.toInt64 + (1 : Int64)).toInt = x.toInt + 1 := by rw [Jvm.Kit.i64_add (by rw [Jvm.Kit.i64_of_i32]; omega) (by rw [Jvm.Kit.i64_of_i32]; omega), Jvm.Kit.i64_of_i32, e2]
 refine ⟨Int64.toInt_inj.mp ?_, a⟩
 rw [a, Jvm.Kit.i64_of_i32, Jvm.Kit.i32_sub (by omega) (by omega), e1]
 omega
theorem own_gapS {x y : Int32} (h : 0 ≤ x.toInt) (g : 0 ≤ y.toInt) : (x - y).toInt64 = x.toInt64 - y.toInt64 ∧ (x.toInt64 - y.toInt64).toInt = x.toInt - y.toInt ∧ (x - y).toInt = x.toInt - y.toInt := by
 have hx := x.toInt_lt
 have hy := y.toInt_lt
 have b : (x - y).toInt = x.toInt - y.toInt := Jvm.Kit.i32_sub (by omega) (by omega)
 have a : (x.toInt64 - y.toInt64).toInt = x.toInt - y.toInt := by rw [Jvm.Kit.i64_sub (by rw [Jvm.Kit.i64_of_i32, Jvm.Kit.i64_of_i32]; omega) (by rw [Jvm.Kit.i64_of_i32, Jvm.Kit.i64_of_i32]; omega), Jvm.Kit.i64_of_i32, Jvm.Kit.i64_of_i32]
 exact ⟨Int64.toInt_inj.mp (by rw [a, Jvm.Kit.i64_of_i32, b]), a, b⟩
theorem own_mem {a b c : Int32} {k : Int64} (hc : 0 ≤ c.toInt ∧ c.toInt ≤ 100) (hab : (a + b).toInt = k.toInt) (hk : 0 ≤ k.toInt ∧ k.toInt ≤ 1000) : ((a + b) + c).toInt64 = k + c.toInt64 := by
 refine Int64.toInt_inj.mp ?_
 rw [Jvm.Kit.i64_of_i32, Jvm.Kit.i32_add (by omega) (by omega), Jvm.Kit.i64_add (by rw [Jvm.Kit.i64_of_i32]; omega) (by rw [Jvm.Kit.i64_of_i32]; omega), Jvm.Kit.i64_of_i32, hab]
theorem own_mem16 {a b c : Int32} {k : Int64} (hc : c.toInt = 16 ∨ c.toInt = 32) (hab : (a + b).toInt = k.toInt) (hk : 0 ≤ k.toInt ∧ k.toInt ≤ 1000) : ((a + b) + c).toInt64 = k + c.toInt64 := own_mem (by omega) hab hk
theorem pd__28Ljava_2flang_2fObject_3b_29Z : parseMethodDescriptor "(Ljava/lang/Object;)Z" = some ⟨[(.object nm7)], some .boolean⟩ := by decide +kernel
theorem pd__28_29J : parseMethodDescriptor "()J" = some ⟨[], some .long⟩ := by decide +kernel
theorem pd__28IIILjava_2futil_2fList_3b_29V : parseMethodDescriptor "(IIILjava/util/List;)V" = some ⟨[.int, .int, .int, (.object "java/util/List")], none⟩ := by decide +kernel
theorem pd__28J_29I : parseMethodDescriptor "(J)I" = some ⟨[.long], some .int⟩ := by decide +kernel
theorem pd__28_5bII_29V : parseMethodDescriptor "([II)V" = some ⟨[(.array .int), .int], none⟩ := by decide +kernel
theorem ef_rm0 (m : MethodId) (p1 : Int32) (p2 : Int32) (p3 : Int32) (p4 : Int32) (p5 : Int32) : entryFrame m #[(.int p1), (.int p2), (.int p3), (.int p4), (.int p5)] maxLocals = mkF m 0 #[.val (.int p1), .val (.int p2), .val (.int p3), .val (.int p4), .val (.int p5), .unset, .unset, .unset, .unset, .unset, .unset, .unset, .unset, .unset, .unset, .unset, .unset, .unset, .unset, .unset, .unset, .unset, .unset, .unset, .unset, .unset, .unset, .unset, .unset, .unset, .unset] [] := by first | (simp [entryFrame, mkF, argsToLocals, Value.category, maxLocals]; done) | rfl
def Q_rm0 (Z : State) (p1 : Int32) (p2 : Int32) (p3 : Int32) (p4 : Int32) (p5 : Int32) (wD : Addr) (kD : ClassId) (x1 : Addr) (x2 : Addr) (wNo : Addr) (wOt : Addr) (wW : Addr) (we : Addr) (ke : ClassId) (ve : List Value) (h0 : Heap) (n0 : Nat) (v : Option Value) (h : Heap) (L : List Loc) : Prop := v = some (.int 1) ∧ Fr n0 L
set_option maxRecDepth 65536 in
set_option maxHeartbeats 40000000 in
theorem rm0 (l : Launch) (Z : State) (a0 : Array Value) (hw : own_Hw Z a0) (ws : List Jvm.Cond) (p1 : Int32) (p2 : Int32) (p3 : Int32) (p4 : Int32) (p5 : Int32) (wD : Addr) (kD : ClassId) (x1 : Addr) (x2 : Addr) (wNo : Addr) (wOt : Addr) (wW : Addr) (we : Addr) (ke : ClassId) (ve : List Value) (h0 : Heap) (n0 : Nat) (Z0 : n0 ≤ h0.size) (S_DEFAULTCAPACITY_EMPTY_ELEMENTDATA : Sta Z h0 nm3 "DEFAULTCAPACITY_EMPTY_ELEMENTDATA" nm9 (.ref wD)) (V_wD : Arv Z h0 wD kD (.object nm7) (0 : Int32) [] .null) (lt_wD : wD < n0) (S_NN : Sta Z h0 nm5 "NN" "Lcom/example/morro/morro/analysis/PennTag;" (.ref x1)) (S_CLOSING_QUOTE : Sta Z h0 nm5 "CLOSING_QUOTE" "Lcom/example/morro/morro/analysis/PennTag;" (.ref x2)) (E_x1 : Exa Z h0 x1 nm5) (E_x2 : Exa Z h0 x2 nm5) (F_ordinal_x1 : Fld Z h0 x1 nm8 "ordinal" "I" (.int 11)) (F_ordinal_x2 : Fld Z h0 x2 nm8 "ordinal" "I" (.int 44)) (lt_x1 : x1 < n0) (lt_x2 : x2 < n0) (S_NOUN : Sta Z h0 nm6 "NOUN" nm10 (.ref wNo)) (S_OTHER : Sta Z h0 nm6 "OTHER" nm10 (.ref wOt)) (E_wNo : Exa Z h0 wNo nm6) (E_wOt : Exa Z h0 wOt nm6) (F_ordinal_wNo : Fld Z h0 wNo nm8 "ordinal" "I" (.int 0)) (F_ordinal_wOt : Fld Z h0 wOt nm8 "ordinal" "I" (.int 3)) (lt_wNo : wNo < n0) (lt_wOt : wOt < n0) (S_WORD_CLASSES : Sta Z h0 "com/example/morro/morro/index/IndexFormat" "WORD_CLASSES" "Ljava/util/List;" (.ref wW)) (E_wW : Exa Z h0 wW "java/util/ImmutableCollections$ListN") (F_elements_wW : Fld Z h0 wW "java/util/ImmutableCollections$ListN" "elements" nm9 (.ref we)) (V_we : Arv Z h0 we ke (.object nm7) (4 : Int32) ve .null) (lt_wW : wW < n0) (lt_we : we < n0) :
  MetFree l x (head1 (Jvm.Cond.code x code maxLocals ret :: ws) room_1) (fun a U => a = #[(.int p1), (.int p2), (.int p3), (.int p4), (.int p5)] ∧ Z.Warmed39 U.vm ∧ U.heap = h0) (fun _ _ _ _ _ => True) (fun _ U o U' => ∃ v L, o = .returned v ∧ Q_rm0 Z p1 p2 p3 p4 p5 wD kD x1 x2 wNo wOt wW we ke ve h0 n0 v U'.heap L ∧ FrameEnd U o U' L room_1.cells room_1.slots) := by
 refine MetFree.of_bodySF (plainFor_of_name pn_com_example_morro_morro_index_TermPostingsMemoryPinLaw) hisR ?_
 intro p e s m args below meth c s₁ Bd hml0 hP hK
 obtain ⟨rfl, hZ, hh⟩ := hP
 have hx := Bd.exec
 have hby := Bd.bytes
 have hml : c.maxLocals = 31 := hml0
 have hown : s.vm.findClass nm4 = some m.cls := findClass_of_methodNamed Bd.named
 have hnm := (name_of_methodNamed Bd.named Bd.method).1
 have X0 : Stand p l e room_1 s m #[(.int p1), (.int p2), (.int p3), (.int p4), (.int p5)] below meth c s₁ [] 0 0 := Stand.of_body Bd
 have e0 : s₁.heap = h0 := by rw [← hh, Bd.state]; rfl
 have N0 := Fr.nil n0
 have pre0 : ∀ t, Steps p.tables e below (s₁.setTop (mkF m 0 #[.val (.int p1), .val (.int p2), .val (.int p3), .val (.int p4), .val (.int p5), .unset, .unset, .unset, .unset, .unset, .unset, .unset, .unset, .unset, .unset, .unset, .unset, .unset, .unset, .unset, .unset, .unset, .unset, .unset, .unset, .unset, .unset, .unset, .unset, .unset, .unset] [])) t → Steps p.tables e below (s₁.setTop (entryFrame m #[(.int p1), (.int p2), (.int p3), (.int p4), (.int p5)] maxLocals)) t := fun t k => castTop (ef_rm0 m p1 p2 p3 p4 p5) k
 let lc1 : Array Slot := #[.val (.int p1), .val (.int p2), .val (.int p3), .val (.int p4), .val (.int p5), .unset, .unset, .unset, .unset, .unset, .unset, .unset, .unset, .unset, .unset, .unset, .unset, .unset, .unset, .unset, .unset, .unset, .unset, .unset, .unset, .unset, .unset, .unset, .unset, .unset, .unset]
 let lc2 : Array Slot := #[.val (.int p1), .val (.int p2), .val (.int p3), .val (.int p4), .val (.int p5), .val (.int (p1 &&& (1073741823 : Int32))), .unset, .unset, .unset, .unset, .unset, .unset, .unset, .unset, .unset, .unset, .unset, .unset, .unset, .unset, .unset, .unset, .unset, .unset, .unset, .unset, .unset, .unset, .unset, .unset, .unset]
 obtain ⟨d1, h_d1, pre3⟩ : ∃ z : Int32, z = (p1 &&& (1073741823 : Int32)) ∧ ∀ t, Steps p.tables e below (s₁.setTop (mkF m 6 #[.val (.int p1), .val (.int p2), .val (.int p3), .val (.int p4), .val (.int p5), .val (.int z), .unset, .unset, .unset, .unset, .unset, .unset, .unset, .unset, .unset, .unset, .unset, .unset, .unset, .unset, .unset, .unset, .unset, .unset, .unset, .unset, .unset, .unset, .unset, .unset, .unset] [])) t → Steps p.tables e below (s₁.setTop (entryFrame m #[(.int p1), (.int p2), (.int p3), (.int p4), (.int p5)] maxLocals)) t := ⟨_, rfl, fun t kt => by
  refine pre0 t ?_
  show oS s₁ (mkF m 0 lc1 [])
  refine XS.iloadN X0.here hx rfl (hb hby at_0) rfl ?_
  show oS s₁ (mkF m 1 lc1 [(.int p1)])
  refine X0.ldcInt hx hown (mvT hZ (own_w hw 0 rfl)) (g := (mkF m 1 lc1 [(.int p1)])) rfl (hb hby at_1) _ ?_
  show oS s₁ (mkF m 3 lc1 [(.int 1073741823), (.int p1)])
  refine XS.iand X0.here hx rfl (hb hby at_3) rfl ?_
  show oS s₁ (mkF m 4 lc1 [(.int (p1 &&& (1073741823 : Int32)))])
  refine XS.istore X0.here hx rfl (hb hby at_4) rfl (l' := lc2) rfl ?_
  exact kt⟩
 let lc4 : Array Slot := #[.val (.int p1), .val (.int p2), .val (.int p3), .val (.int p4), .val (.int p5), .val (.int d1), .unset, .unset, .unset, .unset, .unset, .unset, .unset, .unset, .unset, .unset, .unset, .unset, .unset, .unset, .unset, .unset, .unset, .unset, .unset, .unset, .unset, .unset, .unset, .unset, .unset]
 let lc5 : Array Slot := #[.val (.int p1), .val (.int p2), .val (.int p3), .val (.int p4), .val (.int p5), .val (.int d1), .val (.int (p2 &&& (1073741823 : Int32))), .unset, .unset, .unset, .unset, .unset, .unset, .unset, .unset, .unset, .unset, .unset, .unset, .unset, .unset, .unset, .unset, .unset, .unset, .unset, .unset, .unset, .unset, .unset, .unset]
 obtain ⟨s1, h_s1, pre6⟩ : ∃ z : Int32, z = (p2 &&& (1073741823 : Int32)) ∧ ∀ t, Steps p.tables e below (s₁.setTop (mkF m 12 #[.val (.int p1), .val (.int p2), .val (.int p3), .val (.int p4), .val (.int p5), .val (.int d1), .val (.int z), .unset, .unset, .unset, .unset, .unset, .unset, .unset, .unset, .unset, .unset, .unset, .unset, .unset, .unset, .unset, .unset, .unset, .unset, .unset, .unset, .unset, .unset, .unset, .unset] [])) t → Steps p.tables e below (s₁.setTop (entryFrame m #[(.int p1), (.int p2), (.int p3), (.int p4), (.int p5)] maxLocals)) t := ⟨_, rfl, fun t kt => by
  refine pre3 t ?_
  show oS s₁ (mkF m 6 lc4 [])
  refine XS.iloadN X0.here hx rfl (hb hby at_6) rfl ?_
  show oS s₁ (mkF m 7 lc4 [(.int p2)])
  refine X0.ldcInt hx hown (mvT hZ (own_w hw 0 rfl)) (g := (mkF m 7 lc4 [(.int p2)])) rfl (hb hby at_7) _ ?_
  show oS s₁ (mkF m 9 lc4 [(.int 1073741823), (.int p2)])
  refine XS.iand X0.here hx rfl (hb hby at_9) rfl ?_
  show oS s₁ (mkF m 10 lc4 [(.int (p2 &&& (1073741823 : Int32)))])
  refine XS.istore X0.here hx rfl (hb hby at_10) rfl (l' := lc5) rfl ?_
  exact kt⟩
 let lc7 : Array Slot := #[.val (.int p1), .val (.int p2), .val (.int p3), .val (.int p4), .val (.int p5), .val (.int d1), .val (.int s1), .unset, .unset, .unset, .unset, .unset, .unset, .unset, .unset, .unset, .unset, .unset, .unset, .unset, .unset, .unset, .unset, .unset, .unset, .unset, .unset, .unset, .unset, .unset, .unset]
 let lc8 : Array Slot := #[.val (.int p1), .val (.int p2), .val (.int p3), .val (.int p4), .val (.int p5), .val (.int d1), .val (.int s1), .val (.int (s1 + (p3 &&& (1073741823 : Int32)))), .unset, .unset, .unset, .unset, .unset, .unset, .unset, .unset, .unset, .unset, .unset, .unset, .unset, .unset, .unset, .unset, .unset, .unset, .unset, .unset, .unset, .unset, .unset]
 obtain ⟨s2, h_s2, pre9⟩ : ∃ z : Int32, z = (s1 + (p3 &&& (1073741823 : Int32))) ∧ ∀ t, Steps p.tables e below (s₁.setTop (mkF m 21 #[.val (.int p1), .val (.int p2), .val (.int p3), .val (.int p4), .val (.int p5), .val (.int d1), .val (.int s1), .val (.int z), .unset, .unset, .unset, .unset, .unset, .unset, .unset, .unset, .unset, .unset, .unset, .unset, .unset, .unset, .unset, .unset, .unset, .unset, .unset, .unset, .unset, .unset, .unset] [])) t → Steps p.tables e below (s₁.setTop (entryFrame m #[(.int p1), (.int p2), (.int p3), (.int p4), (.int p5)] maxLocals)) t := ⟨_, rfl, fun t kt => by
  refine pre6 t ?_
  show oS s₁ (mkF m 12 lc7 [])
  refine XS.iload X0.here hx rfl (hb hby at_12) rfl ?_
  show oS s₁ (mkF m 14 lc7 [(.int s1)])
  refine XS.iloadN X0.here hx rfl (hb hby at_14) rfl ?_
  show oS s₁ (mkF m 15 lc7 [(.int p3), (.int s1)])
  refine X0.ldcInt hx hown (mvT hZ (own_w hw 0 rfl)) (g := (mkF m 15 lc7 [(.int p3), (.int s1)])) rfl (hb hby at_15) _ ?_
  show oS s₁ (mkF m 17 lc7 [(.int 1073741823), (.int p3), (.int s1)])
  refine XS.iand X0.here hx rfl (hb hby at_17) rfl ?_
  show oS s₁ (mkF m 18 lc7 [(.int (p3 &&& (1073741823 : Int32))), (.int s1)])
  refine XS.iadd X0.here hx rfl (hb hby at_18) rfl ?_
  show oS s₁ (mkF m 19 lc7 [(.int (s1 + (p3 &&& (1073741823 : Int32))))])
  refine XS.istore X0.here hx rfl (hb hby at_19) rfl (l' := lc8) rfl ?_
  exact kt⟩
 let lc10 : Array Slot := #[.val (.int p1), .val (.int p2), .val (.int p3), .val (.int p4), .val (.int p5), .val (.int d1), .val (.int s1), .val (.int s2), .unset, .unset, .unset, .unset, .unset, .unset, .unset, .unset, .unset, .unset, .unset, .unset, .unset, .unset, .unset, .unset, .unset, .unset, .unset, .unset, .unset, .unset, .unset]
 have pre11 : ∀ t, Steps p.tables e below (s₁.setTop (mkF m 25 lc10 [(.int (p5 &&& (1 : Int32)))])) t → Steps p.tables e below (s₁.setTop (entryFrame m #[(.int p1), (.int p2), (.int p3), (.int p4), (.int p5)] maxLocals)) t := fun t kt => by
  refine pre9 t ?_
  show oS s₁ (mkF m 21 lc10 [])
  refine XS.iload X0.here hx rfl (hb hby at_21) rfl ?_
  show oS s₁ (mkF m 23 lc10 [(.int p5)])
  refine XS.iconst X0.here hx rfl (hb hby at_23) ?_
  show oS s₁ (mkF m 24 lc10 [(.int 1), (.int p5)])
  refine XS.iand X0.here hx rfl (hb hby at_24) rfl ?_
  exact kt
 obtain ⟨nd, h_nd, pre13⟩ : ∃ z : Int32, z = (if (p5 &&& (1 : Int32)) = (0 : Int32) then (0 : Int32) else (1 : Int32)) ∧ ∀ t, Steps p.tables e below (s₁.setTop (mkF m 33 #[.val (.int p1), .val (.int p2), .val (.int p3), .val (.int p4), .val (.int p5), .val (.int d1), .val (.int s1), .val (.int s2), .unset, .unset, .unset, .unset, .unset, .unset, .unset, .unset, .unset, .unset, .unset, .unset, .unset, .unset, .unset, .unset, .unset, .unset, .unset, .unset, .unset, .unset, .unset] [(.int z)])) t → Steps p.tables e below (s₁.setTop (entryFrame m #[(.int p1), (.int p2), (.int p3), (.int p4), (.int p5)] maxLocals)) t := by
  by_cases hj25_12 : (p5 &&& (1 : Int32)) = (0 : Int32)
  ·exact ⟨_, by rw [if_pos hj25_12], fun t kt => by
    refine pre11 t ?_
    show oS s₁ (mkF m 25 lc10 [(.int (p5 &&& (1 : Int32)))])
    refine XS.ifYes X0.here hx rfl (pc0 := 25) (pc' := 32) rfl (hb hby at_25) rfl ((if0 _ _).trans (teq hj25_12).1) (by decide) (by decide) ?_
    show oS s₁ (mkF m 32 lc10 [])
    refine XS.iconst X0.here hx rfl (hb hby at_32) ?_
    exact kt⟩
  ·exact ⟨_, by rw [if_neg hj25_12], fun t kt => by
    refine pre11 t ?_
    show oS s₁ (mkF m 25 lc10 [(.int (p5 &&& (1 : Int32)))])
    refine XS.ifNo X0.here hx rfl (hb hby at_25) rfl ((if0 _ _).trans (feq hj25_12).1) ?_
    show oS s₁ (mkF m 28 lc10 [])
    refine XS.iconst X0.here hx rfl (hb hby at_28) ?_
    show oS s₁ (mkF m 29 lc10 [(.int 1)])
    refine XS.goto X0.here hx rfl (pc0 := 29) (pc' := 33) rfl (hb hby at_29) (by decide) (by decide) ?_
    exact kt⟩
 let lc14 : Array Slot := #[.val (.int p1), .val (.int p2), .val (.int p3), .val (.int p4), .val (.int p5), .val (.int d1), .val (.int s1), .val (.int s2), .val (.int nd), .unset, .unset, .unset, .unset, .unset, .unset, .unset, .unset, .unset, .unset, .unset, .unset, .unset, .unset, .unset, .unset, .unset, .unset, .unset, .unset, .unset, .unset]
 have pre15 : ∀ t, Steps p.tables e below (s₁.setTop (mkF m 37 lc14 [(.int nd)])) t → Steps p.tables e below (s₁.setTop (entryFrame m #[(.int p1), (.int p2), (.int p3), (.int p4), (.int p5)] maxLocals)) t := fun t kt => by
  refine pre13 t ?_
  show oS s₁ (mkF m 33 lc10 [(.int nd)])
  refine XS.istore X0.here hx rfl (hb hby at_33) rfl (l' := lc14) rfl ?_
  show oS s₁ (mkF m 35 lc14 [])
  refine XS.iload X0.here hx rfl (hb hby at_35) rfl ?_
  exact kt
 obtain ⟨d2, h_d2, pre17⟩ : ∃ z : Int32, z = (if nd = (0 : Int32) then d1 else ((d1 + (1 : Int32)) + (p4 &&& (1073741823 : Int32)))) ∧ ∀ t, Steps p.tables e below (s₁.setTop (mkF m 54 #[.val (.int p1), .val (.int p2), .val (.int p3), .val (.int p4), .val (.int p5), .val (.int d1), .val (.int s1), .val (.int s2), .val (.int nd), .unset, .unset, .unset, .unset, .unset, .unset, .unset, .unset, .unset, .unset, .unset, .unset, .unset, .unset, .unset, .unset, .unset, .unset, .unset, .unset, .unset, .unset] [(.int z)])) t → Steps p.tables e below (s₁.setTop (entryFrame m #[(.int p1), (.int p2), (.int p3), (.int p4), (.int p5)] maxLocals)) t := by
  by_cases hj37_16 : nd = (0 : Int32)
  ·exact ⟨_, by rw [if_pos hj37_16], fun t kt => by
    refine pre15 t ?_
    show oS s₁ (mkF m 37 lc14 [(.int nd)])
    refine XS.ifYes X0.here hx rfl (pc0 := 37) (pc' := 52) rfl (hb hby at_37) rfl ((if0 _ _).trans (teq hj37_16).1) (by decide) (by decide) ?_
    show oS s₁ (mkF m 52 lc14 [])
    refine XS.iload X0.here hx rfl (hb hby at_52) rfl ?_
    exact kt⟩
  ·exact ⟨_, by rw [if_neg hj37_16], fun t kt => by
    refine pre15 t ?_
    show oS s₁ (mkF m 37 lc14 [(.int nd)])
    refine XS.ifNo X0.here hx rfl (hb hby at_37) rfl ((if0 _ _).trans (feq hj37_16).1) ?_
    show oS s₁ (mkF m 40 lc14 [])
    refine XS.iload X0.here hx rfl (hb hby at_40) rfl ?_
    show oS s₁ (mkF m 42 lc14 [(.int d1)])
    refine XS.iconst X0.here hx rfl (hb hby at_42) ?_
    show oS s₁ (mkF m 43 lc14 [(.int 1), (.int d1)])
    refine XS.iadd X0.here hx rfl (hb hby at_43) rfl ?_
    show oS s₁ (mkF m 44 lc14 [(.int (d1 + (1 : Int32)))])
    refine XS.iloadN X0.here hx rfl (hb hby at_44) rfl ?_
    show oS s₁ (mkF m 45 lc14 [(.int p4), (.int (d1 + (1 : Int32)))])
    refine X0.ldcInt hx hown (mvT hZ (own_w hw 0 rfl)) (g := (mkF m 45 lc14 [(.int p4), (.int (d1 + (1 : Int32)))])) rfl (hb hby at_45) _ ?_
    show oS s₁ (mkF m 47 lc14 [(.int 1073741823), (.int p4), (.int (d1 + (1 : Int32)))])
    refine XS.iand X0.here hx rfl (hb hby at_47) rfl ?_
    show oS s₁ (mkF m 48 lc14 [(.int (p4 &&& (1073741823 : Int32))), (.int (d1 + (1 : Int32)))])
    refine XS.iadd X0.here hx rfl (hb hby at_48) rfl ?_
    show oS s₁ (mkF m 49 lc14 [(.int ((d1 + (1 : Int32)) + (p4 &&& (1073741823 : Int32))))])
    refine XS.goto X0.here hx rfl (pc0 := 49) (pc' := 54) rfl (hb hby at_49) (by decide) (by decide) ?_
    exact kt⟩
 let lc18 : Array Slot := #[.val (.int p1), .val (.int p2), .val (.int p3), .val (.int p4), .val (.int p5), .val (.int d1), .val (.int s1), .val (.int s2), .val (.int nd), .val (.int d2), .unset, .unset, .unset, .unset, .unset, .unset, .unset, .unset, .unset, .unset, .unset, .unset, .unset, .unset, .unset, .unset, .unset, .unset, .unset, .unset, .unset]
 let lc19 : Array Slot := #[.val (.int p1), .val (.int p2), .val (.int p3), .val (.int p4), .val (.int p5), .val (.int d1), .val (.int s1), .val (.int s2), .val (.int nd), .val (.int d2), .val (.int (((p5.toUInt32 >>> ((1 : Int32) &&& 31).toUInt32).toInt32) &&& (1 : Int32))), .unset, .unset, .unset, .unset, .unset, .unset, .unset, .unset, .unset, .unset, .unset, .unset, .unset, .unset, .unset, .unset, .unset, .unset, .unset, .unset]
 obtain ⟨b1, h_b1, pre20⟩ : ∃ z : Int32, z = (((p5.toUInt32 >>> ((1 : Int32) &&& 31).toUInt32).toInt32) &&& (1 : Int32)) ∧ ∀ t, Steps p.tables e below (s₁.setTop (mkF m 64 #[.val (.int p1), .val (.int p2), .val (.int p3), .val (.int p4), .val (.int p5), .val (.int d1), .val (.int s1), .val (.int s2), .val (.int nd), .val (.int d2), .val (.int z), .unset, .unset, .unset, .unset, .unset, .unset, .unset, .unset, .unset, .unset, .unset, .unset, .unset, .unset, .unset, .unset, .unset, .unset, .unset, .unset] [])) t → Steps p.tables e below (s₁.setTop (entryFrame m #[(.int p1), (.int p2), (.int p3), (.int p4), (.int p5)] maxLocals)) t := ⟨_, rfl, fun t kt => by
  refine pre17 t ?_
  show oS s₁ (mkF m 54 lc14 [(.int d2)])
  refine XS.istore X0.here hx rfl (hb hby at_54) rfl (l' := lc18) rfl ?_
  show oS s₁ (mkF m 56 lc18 [])
  refine XS.iload X0.here hx rfl (hb hby at_56) rfl ?_
  show oS s₁ (mkF m 58 lc18 [(.int p5)])
  refine XS.iconst X0.here hx rfl (hb hby at_58) ?_
  show oS s₁ (mkF m 59 lc18 [(.int 1), (.int p5)])
  refine XS.iushr X0.here hx rfl (hb hby at_59) rfl ?_
  show oS s₁ (mkF m 60 lc18 [(.int ((p5.toUInt32 >>> ((1 : Int32) &&& 31).toUInt32).toInt32))])
  refine XS.iconst X0.here hx rfl (hb hby at_60) ?_
  show oS s₁ (mkF m 61 lc18 [(.int 1), (.int ((p5.toUInt32 >>> ((1 : Int32) &&& 31).toUInt32).toInt32))])
  refine XS.iand X0.here hx rfl (hb hby at_61) rfl ?_
  show oS s₁ (mkF m 62 lc18 [(.int (((p5.toUInt32 >>> ((1 : Int32) &&& 31).toUInt32).toInt32) &&& (1 : Int32)))])
  refine XS.istore X0.here hx rfl (hb hby at_62) rfl (l' := lc19) rfl ?_
  exact kt⟩
 let lc21 : Array Slot := #[.val (.int p1), .val (.int p2), .val (.int p3), .val (.int p4), .val (.int p5), .val (.int d1), .val (.int s1), .val (.int s2), .val (.int nd), .val (.int d2), .val (.int b1), .unset, .unset, .unset, .unset, .unset, .unset, .unset, .unset, .unset, .unset, .unset, .unset, .unset, .unset, .unset, .unset, .unset, .unset, .unset, .unset]
 let lc22 : Array Slot := #[.val (.int p1), .val (.int p2), .val (.int p3), .val (.int p4), .val (.int p5), .val (.int d1), .val (.int s1), .val (.int s2), .val (.int nd), .val (.int d2), .val (.int b1), .val (.int (((p5.toUInt32 >>> ((2 : Int32) &&& 31).toUInt32).toInt32) &&& (1 : Int32))), .unset, .unset, .unset, .unset, .unset, .unset, .unset, .unset, .unset, .unset, .unset, .unset, .unset, .unset, .unset, .unset, .unset, .unset, .unset]
 obtain ⟨b2, h_b2, pre23⟩ : ∃ z : Int32, z = (((p5.toUInt32 >>> ((2 : Int32) &&& 31).toUInt32).toInt32) &&& (1 : Int32)) ∧ ∀ t, Steps p.tables e below (s₁.setTop (mkF m 72 #[.val (.int p1), .val (.int p2), .val (.int p3), .val (.int p4), .val (.int p5), .val (.int d1), .val (.int s1), .val (.int s2), .val (.int nd), .val (.int d2), .val (.int b1), .val (.int z), .unset, .unset, .unset, .unset, .unset, .unset, .unset, .unset, .unset, .unset, .unset, .unset, .unset, .unset, .unset, .unset, .unset, .unset, .unset] [])) t → Steps p.tables e below (s₁.setTop (entryFrame m #[(.int p1), (.int p2), (.int p3), (.int p4), (.int p5)] maxLocals)) t := ⟨_, rfl, fun t kt => by
  refine pre20 t ?_
  show oS s₁ (mkF m 64 lc21 [])
  refine XS.iload X0.here hx rfl (hb hby at_64) rfl ?_
  show oS s₁ (mkF m 66 lc21 [(.int p5)])
  refine XS.iconst X0.here hx rfl (hb hby at_66) ?_
  show oS s₁ (mkF m 67 lc21 [(.int 2), (.int p5)])
  refine XS.iushr X0.here hx rfl (hb hby at_67) rfl ?_
  show oS s₁ (mkF m 68 lc21 [(.int ((p5.toUInt32 >>> ((2 : Int32) &&& 31).toUInt32).toInt32))])
  refine XS.iconst X0.here hx rfl (hb hby at_68) ?_
  show oS s₁ (mkF m 69 lc21 [(.int 1), (.int ((p5.toUInt32 >>> ((2 : Int32) &&& 31).toUInt32).toInt32))])
  refine XS.iand X0.here hx rfl (hb hby at_69) rfl ?_
  show oS s₁ (mkF m 70 lc21 [(.int (((p5.toUInt32 >>> ((2 : Int32) &&& 31).toUInt32).toInt32) &&& (1 : Int32)))])
  refine XS.istore X0.here hx rfl (hb hby at_70) rfl (l' := lc22) rfl ?_
  exact kt⟩
 have hd1 : 0 ≤ d1.toInt ∧ d1.toInt < 1073741824 := by rw [h_d1]; exact own_msk p1
 have hs1 : 0 ≤ s1.toInt ∧ s1.toInt < 1073741824 := by rw [h_s1]; exact own_msk p2
 have hs2 : s1.toInt ≤ s2.toInt ∧ s2.toInt < 2147483647 := by
  have q := own_msk p3
  rw [h_s2, Jvm.Kit.i32_add (by omega) (by omega)]; omega
 have hb1 : b1 = (0 : Int32) ∨ b1 = (1 : Int32) := by rw [h_b1]; exact and_one _
 have hb2 : b2 = (0 : Int32) ∨ b2 = (1 : Int32) := by rw [h_b2]; exact and_one _
 have hm1 : (-1 : Int32).toInt = -1 := by decide
 have hg1 := own_gapN hs1.1 (by omega)
 obtain ⟨f1, hf1, hl1, hv1, hu1⟩ := own_lenF (v := s1.toInt64 + (1 : Int64)) (by omega) (by omega)
 have hnd : nd = (0 : Int32) ∨ nd = (1 : Int32) := by rw [h_nd]; split; exact Or.inl rfl; exact Or.inr rfl
 let lc24 : Array Slot := #[.val (.int p1), .val (.int p2), .val (.int p3), .val (.int p4), .val (.int p5), .val (.int d1), .val (.int s1), .val (.int s2), .val (.int nd), .val (.int d2), .val (.int b1), .val (.int b2), .unset, .unset, .unset, .unset, .unset, .unset, .unset, .unset, .unset, .unset, .unset, .unset, .unset, .unset, .unset, .unset, .unset, .unset, .unset]
 obtain ⟨T25, h25, k25, X25, e25, E25, A25, st25⟩ := newP X0 hx hZ (own_w hw 1 rfl) e0 (g := (mkF m 73 lc24 [(.int 2)])) rfl (hb hby at_73) rfl (by decide) (cap := 2) (by decide) (by decide) (by decide) (by decide)
 obtain ⟨b25, g25⟩ : ∃ z, z = h0.size := ⟨_, rfl⟩
 rw [← g25] at A25 st25
 have ne_wD_b25 : wD ≠ b25 := Nat.ne_of_lt (Nat.lt_of_lt_of_le V_wD.lt (Nat.le_of_eq g25.symm))
 have ne_wNo_b25 : wNo ≠ b25 := Nat.ne_of_lt (Nat.lt_of_lt_of_le E_wNo.lt (Nat.le_of_eq g25.symm))
 have ne_wOt_b25 : wOt ≠ b25 := Nat.ne_of_lt (Nat.lt_of_lt_of_le E_wOt.lt (Nat.le_of_eq g25.symm))
 have ne_wW_b25 : wW ≠ b25 := Nat.ne_of_lt (Nat.lt_of_lt_of_le E_wW.lt (Nat.le_of_eq g25.symm))
 have ne_we_b25 : we ≠ b25 := Nat.ne_of_lt (Nat.lt_of_lt_of_le V_we.lt (Nat.le_of_eq g25.symm))
 have ne_x1_b25 : x1 ≠ b25 := Nat.ne_of_lt (Nat.lt_of_lt_of_le E_x1.lt (Nat.le_of_eq g25.symm))
 have ne_x2_b25 : x2 ≠ b25 := Nat.ne_of_lt (Nat.lt_of_lt_of_le E_x2.lt (Nat.le_of_eq g25.symm))
 have g_b25 : n0 ≤ b25 := Nat.le_trans Z0 (Nat.le_of_eq g25.symm)
 have sz_b25 : h0.size ≤ b25 := Nat.le_trans (Keep.refl h0 []).1 (Nat.le_of_eq g25.symm)
 have K26 : Keep h0 h25 [] := (Keep.refl h0 []).ext E25
 have V_b25 : Arv Z h25 b25 k25 .int (2 : Int32) [(.int 0), (.int 0)] (.int 0) := (Arv.new A25 (by decide)).pad (pad_rep [] (.int 0) 2)
 let lc27 : Array Slot := #[.val (.int p1), .val (.int p2), .val (.int p3), .val (.int p4), .val (.int p5), .val (.int d1), .val (.int s1), .val (.int s2), .val (.int nd), .val (.int d2), .val (.int b1), .val (.int b2), .val (.ref b25), .unset, .unset, .unset, .unset, .unset, .unset, .unset, .unset, .unset, .unset, .unset, .unset, .unset, .unset, .unset, .unset, .unset, .unset]
 obtain ⟨c28, Ac28, qc28, Sc28, Nc28, Hc28, Gc28⟩ := id V_b25
 obtain ⟨T29, h29, X29, e29, W29, st29⟩ := stI X25 hx hZ e25 Ac28 (j := (0 : Int32)) (inb_of Sc28 ⟨by decide, by decide⟩) (g := (mkF m 82 lc27 [(.int 8), (.int 0), (.ref b25)])) rfl rfl (hb hby at_82)
 have K30 : Keep h0 h29 [] := K26.wr W29 (Or.inr sz_b25)
 have N31 := Fr.snoc X29 N0 g_b25
 have Vw29 := Arv.set Ac28 qc28 Sc28 Nc28 Hc28 Gc28 rfl W29 0 rfl (Nat.le_of_ble_eq_true rfl)
 change Arv Z h29 b25 k25 .int (2 : Int32) [(.int 8), (.int 0)] (.int 0) at Vw29
 obtain ⟨c32, Ac32, qc32, Sc32, Nc32, Hc32, Gc32⟩ := id Vw29
 obtain ⟨T33, h33, X33, e33, W33, st33⟩ := stI X29 hx hZ e29 Ac32 (j := (1 : Int32)) (inb_of Sc32 ⟨by decide, by decide⟩) (g := (mkF m 87 lc27 [(.int 0), (.int 1), (.ref b25)])) rfl rfl (hb hby at_87)
 have K34 : Keep h0 h33 [] := K30.wr W33 (Or.inr sz_b25)
 have N35 := Fr.snoc X33 N31 g_b25
 have Vw33 := Arv.set Ac32 qc32 Sc32 Nc32 Hc32 Gc32 rfl W33 1 rfl (Nat.le_of_ble_eq_true rfl)
 change Arv Z h33 b25 k25 .int (2 : Int32) [(.int 8), (.int 0)] (.int 0) at Vw33
 have f36 := (((V_wD.ext E25).other W29 ne_wD_b25).other W33 ne_wD_b25)
 have f37 := (((E_wNo.ext E25).wr W29).wr W33)
 have f38 := (((E_wOt.ext E25).wr W29).wr W33)
 have f39 := (((E_wW.ext E25).wr W29).wr W33)
 have f40 := (((V_we.ext E25).other W29 ne_we_b25).other W33 ne_we_b25)
 have f41 := (((E_x1.ext E25).wr W29).wr W33)
 have f42 := (((E_x2.ext E25).wr W29).wr W33)
 obtain ⟨T43, h43, X43, e43, E43, A43, D43, -, st43⟩ := newO X33 hx hZ hown (own_w hw 2 rfl) (own_w hw 3 rfl) (own_w hw 4 rfl) e33 (g := (mkF m 88 lc27 [])) rfl (hb hby at_88) (by decide) (by decide)
 obtain ⟨b43, g43⟩ : ∃ z, z = h33.size := ⟨_, rfl⟩
 rw [← g43] at A43 D43 st43
 have ne_b25_b43 : b25 ≠ b43 := Nat.ne_of_lt (Nat.lt_of_lt_of_le Vw33.lt (Nat.le_of_eq g43.symm))
 have ne_wD_b43 : wD ≠ b43 := Nat.ne_of_lt (Nat.lt_of_lt_of_le f36.lt (Nat.le_of_eq g43.symm))
 have ne_wNo_b43 : wNo ≠ b43 := Nat.ne_of_lt (Nat.lt_of_lt_of_le f37.lt (Nat.le_of_eq g43.symm))
 have ne_wOt_b43 : wOt ≠ b43 := Nat.ne_of_lt (Nat.lt_of_lt_of_le f38.lt (Nat.le_of_eq g43.symm))
 have ne_wW_b43 : wW ≠ b43 := Nat.ne_of_lt (Nat.lt_of_lt_of_le f39.lt (Nat.le_of_eq g43.symm))
 have ne_we_b43 : we ≠ b43 := Nat.ne_of_lt (Nat.lt_of_lt_of_le f40.lt (Nat.le_of_eq g43.symm))
 have ne_x1_b43 : x1 ≠ b43 := Nat.ne_of_lt (Nat.lt_of_lt_of_le f41.lt (Nat.le_of_eq g43.symm))
 have ne_x2_b43 : x2 ≠ b43 := Nat.ne_of_lt (Nat.lt_of_lt_of_le f42.lt (Nat.le_of_eq g43.symm))
 have g_b43 : n0 ≤ b43 := Nat.le_trans (Nat.le_trans Z0 K34.1) (Nat.le_of_eq g43.symm)
 have sz_b43 : h0.size ≤ b43 := Nat.le_trans K34.1 (Nat.le_of_eq g43.symm)
 have K44 : Keep h0 h43 [] := K34.ext E43
 have F_modCount_b43 : Fld Z h43 b43 nm14 "modCount" "I" (.int 0) := D43 (Or.inl (own_w hw 24 rfl)) (ty := .int) (by decide)
 have F_elementData_b43 : Fld Z h43 b43 nm3 nm18 nm9 .null := D43 (Or.inl (own_w hw 27 rfl)) (ty := (.array (.object nm7))) (by decide)
 have F_size_b43 : Fld Z h43 b43 nm3 "size" "I" (.int 0) := D43 (Or.inl (own_w hw 39 rfl)) (ty := .int) (by decide)
 have f45 := ((((S_DEFAULTCAPACITY_EMPTY_ELEMENTDATA.ext E25).wr W29).wr W33).ext E43)
 have f47 := (Vw33.ext E43)
 have f48 := (f36.ext E43)
 have f49 := (f37.ext E43)
 have f50 := (f38.ext E43)
 have f51 := (f39.ext E43)
 have f52 := (f40.ext E43)
 have f53 := (f41.ext E43)
 have f54 := (f42.ext E43)
 obtain ⟨_, _, ⟨T46, L46, k46, n46⟩, -, X46, ⟨Lc46, hQ46, l46, y46, z46⟩, st46⟩ := X43.specialBack hx (y := mn2) rfl hown (mvT hZ (own_w hw 5 rfl)) (mvT hZ (own_w hw 6 rfl)) (mvT hZ (own_w hw 7 rfl)) (by decide) (backOf (W := 1) (rm1 l Z a0 hw [] b43 (.int 0) .null (.int 0) wD h43 n0 (Nat.le_trans Z0 K44.1) f45 A43 F_modCount_b43 F_elementData_b43 F_size_b43 g_b43) hZ (own_w hw 7 rfl) (own_w hw 4 rfl) (by decide) (by decide)) (g := (mkF m 92 lc27 [(.ref b43), (.ref b43)])) rfl (by rw [hml]; rfl) (Steps.refl _) (a := b43) (argsL := []) (rest := [(.ref b43)]) (lenOf pd__28_29V rfl) rfl (by show 2 * 0 + _ ≤ _; exact Nat.le_of_eq rfl) (hb hby at_92) (fun _ _ => ⟨rfl, e43, (by decide : 2 + 0 ≤ _), (by decide : 5 + 0 ≤ _)⟩)
 dsimp only [Pt.U, Pt.locs, Pt.cells, Pt.slots] at y46 z46 st46 hQ46
 change Stand p l e _ s m _ below meth c T46 L46 k46 n46 at X46
 change L46 = _ ++ Lc46 at l46
 subst y46 z46
 obtain ⟨rfl, N46q, K46q, t46_0, t46_1, t46_2, t46_3⟩ := hQ46
 have N46 : Fr n0 L46 := l46 ▸ Fr.app N35 N46q
 have K46 : Keep h0 T46.heap [] := K44.trans K46q (allS (P := fun xz => xz ∈ [] ∨ h0.size ≤ xz) (Or.inr sz_b43) all0)
 let lc55 : Array Slot := #[.val (.int p1), .val (.int p2), .val (.int p3), .val (.int p4), .val (.int p5), .val (.int d1), .val (.int s1), .val (.int s2), .val (.int nd), .val (.int d2), .val (.int b1), .val (.int b2), .val (.ref b25), .val (.ref b43), .unset, .unset, .unset, .unset, .unset, .unset, .unset, .unset, .unset, .unset, .unset, .unset, .unset, .unset, .unset, .unset, .unset]
 have f56 := (own_staKeep ((((S_NN.ext E25).wr W29).wr W33).ext E43) K46q (own_nsE A43 own_ns0))
 obtain ⟨T57, X57, e57, st57⟩ := getS2 X46 hx hZ hown (host := "") (Or.inl (own_w hw 28 rfl)) Via.refl rfl f56 (g := (mkF m 99 lc55 [(.ref b43)])) rfl (hb hby at_99)
 have f58 := (own_staKeep f45 K46q (own_nsE A43 own_ns0))
 have f59 := (f53.keep K46q)
 have f60 := (f48.keep K46q (ninS ne_wD_b43 nin0))
 have f62 := (f47.keep K46q (ninS ne_b25_b43 nin0))
 have f63 := (f49.keep K46q)
 have f64 := (f50.keep K46q)
 have f65 := (f51.keep K46q)
 have f66 := (f52.keep K46q (ninS ne_we_b43 nin0))
 have f67 := (f54.keep K46q)
 obtain ⟨cq61, kq61, q61a, q61b, q61c⟩ := isOf hZ e57 t46_0
 obtain ⟨_, _, ⟨T61, L61, k61, n61⟩, -, X61, ⟨Lc61, hQ61, l61, y61, z61⟩, st61⟩ := X57.virtualBack hx (y := mn7) (z := mn7) hown (mvT hZ (own_w hw 31 rfl)) (mvT hZ (own_w hw 32 rfl)) (notFace_of_selects (args := #[]) (mvT hZ (own_w hw 34 rfl))) (mvT hZ (own_w hw 34 rfl)) (mvT hZ (own_w hw 33 rfl)) (by decide) (backOf (W := 0) (rmAddA l Z a0 hw [] b43 x1 wD kD T46.heap n0 (Nat.le_trans Z0 K46.1) f58 t46_0 f59 t46_2 t46_3 t46_1 f60 g_b43) hZ (own_w hw 35 rfl) (own_w hw 4 rfl) (by decide) (by decide)) q61a q61c (g := (mkF m 102 lc55 [(.ref x1), (.ref b43)])) rfl (by rw [hml]; rfl) (Steps.refl _) (argsL := [(.ref x1)]) (rest := []) (lenOf pd__28Ljava_2flang_2fObject_3b_29Z rfl) rfl (by show 2 * 0 + _ ≤ _; exact Nat.le_of_eq rfl) (hb hby at_102) (fun _ _ => ⟨rfl, e57, (by decide : 2 + 1 ≤ _), (by decide : 5 + 10 ≤ _)⟩)
 dsimp only [Pt.U, Pt.locs, Pt.cells, Pt.slots] at y61 z61 st61 hQ61
 change Stand p l e _ s m _ below meth c T61 L61 k61 n61 at X61
 change L61 = _ ++ Lc61 at l61
 subst y61 z61
 obtain ⟨r_61, kr_61, rfl, N61q, K61q, t61_0, t61_1, t61_2, t61_3, t61_4, t61_5, t61_6, t61_7⟩ := hQ61
 have N61 : Fr n0 L61 := l61 ▸ Fr.app N46 N61q
 have K61 : Keep h0 T61.heap [] := K46.trans K61q (allS (P := fun xz => xz ∈ [] ∨ h0.size ≤ xz) (Or.inr sz_b43) all0)
 have ne_b25_r_61 : b25 ≠ r_61 := Nat.ne_of_lt (Nat.lt_of_lt_of_le f62.lt t61_0)
 have ne_b43_r_61 : b43 ≠ r_61 := Nat.ne_of_lt (Nat.lt_of_lt_of_le t46_0.lt t61_0)
 have ne_wD_r_61 : wD ≠ r_61 := Nat.ne_of_lt (Nat.lt_of_lt_of_le f60.lt t61_0)
 have ne_wNo_r_61 : wNo ≠ r_61 := Nat.ne_of_lt (Nat.lt_of_lt_of_le f63.lt t61_0)
 have ne_wOt_r_61 : wOt ≠ r_61 := Nat.ne_of_lt (Nat.lt_of_lt_of_le f64.lt t61_0)
 have ne_wW_r_61 : wW ≠ r_61 := Nat.ne_of_lt (Nat.lt_of_lt_of_le f65.lt t61_0)
 have ne_we_r_61 : we ≠ r_61 := Nat.ne_of_lt (Nat.lt_of_lt_of_le f66.lt t61_0)
 have ne_x1_r_61 : x1 ≠ r_61 := Nat.ne_of_lt (Nat.lt_of_lt_of_le f59.lt t61_0)
 have ne_x2_r_61 : x2 ≠ r_61 := Nat.ne_of_lt (Nat.lt_of_lt_of_le f67.lt t61_0)
 have sz_r_61 : h0.size ≤ r_61 := Nat.le_trans K46.1 t61_0
 have f68 := (own_staKeep (own_staKeep ((((S_CLOSING_QUOTE.ext E25).wr W29).wr W33).ext E43) K46q (own_nsE A43 own_ns0)) K61q (own_nsE t46_0 own_ns0))
 obtain ⟨T69, X69, e69, st69⟩ := getS2 X61 hx hZ hown (host := "") (Or.inl (own_w hw 62 rfl)) Via.refl rfl f68 (g := (mkF m 108 lc55 [(.ref b43)])) rfl (hb hby at_108)
 have f70 := (f67.keep K61q)
 have f72 := (f62.keep K61q (ninS ne_b25_b43 nin0))
 have f73 := (f60.keep K61q (ninS ne_wD_b43 nin0))
 have f74 := (f63.keep K61q)
 have f75 := (f64.keep K61q)
 have f76 := (f65.keep K61q)
 have f77 := (f66.keep K61q (ninS ne_we_b43 nin0))
 have f78 := (f59.keep K61q)
 obtain ⟨cq71, kq71, q71a, q71b, q71c⟩ := isOf hZ e69 t61_2
 obtain ⟨_, _, ⟨T71, L71, k71, n71⟩, -, X71, ⟨Lc71, hQ71, l71, y71, z71⟩, st71⟩ := X69.virtualBack hx (y := mn7) (z := mn7) hown (mvT hZ (own_w hw 31 rfl)) (mvT hZ (own_w hw 32 rfl)) (notFace_of_selects (args := #[]) (mvT hZ (own_w hw 34 rfl))) (mvT hZ (own_w hw 34 rfl)) (mvT hZ (own_w hw 33 rfl)) (by decide) (backOf (W := 0) (rmAddB l Z a0 hw [] b43 x2 r_61 x1 kr_61 T61.heap n0 (Nat.le_trans Z0 K61.1) t61_2 f70 t61_3 t61_4 t61_5 t61_6 t61_7 g_b43 t61_1) hZ (own_w hw 35 rfl) (own_w hw 4 rfl) (by decide) (by decide)) q71a q71c (g := (mkF m 111 lc55 [(.ref x2), (.ref b43)])) rfl (by rw [hml]; rfl) (Steps.refl _) (argsL := [(.ref x2)]) (rest := []) (lenOf pd__28Ljava_2flang_2fObject_3b_29Z rfl) rfl (by show 2 * 0 + _ ≤ _; exact Nat.le_of_eq rfl) (hb hby at_111) (fun _ _ => ⟨rfl, e69, (by decide : 3 + 0 ≤ _), (by decide : 15 + 0 ≤ _)⟩)
 dsimp only [Pt.U, Pt.locs, Pt.cells, Pt.slots] at y71 z71 st71 hQ71
 change Stand p l e _ s m _ below meth c T71 L71 k71 n71 at X71
 change L71 = _ ++ Lc71 at l71
 subst y71 z71
 obtain ⟨rfl, N71q, K71q, t71_0, t71_1, t71_2, t71_3, t71_4⟩ := hQ71
 have N71 : Fr n0 L71 := l71 ▸ Fr.app N61 N71q
 have K71 : Keep h0 T71.heap [] := K61.trans K71q (allS (P := fun xz => xz ∈ [] ∨ h0.size ≤ xz) (Or.inr sz_b43) (allS (P := fun xz => xz ∈ [] ∨ h0.size ≤ xz) (Or.inr sz_r_61) all0))
 have f79 := (f72.keep K71q (ninS ne_b25_b43 (ninS ne_b25_r_61 nin0)))
 have f80 := (f73.keep K71q (ninS ne_wD_b43 (ninS ne_wD_r_61 nin0)))
 have f81 := (f74.keep K71q)
 have f82 := (f75.keep K71q)
 have f83 := (f76.keep K71q)
 have f84 := (f77.keep K71q (ninS ne_we_b43 (ninS ne_we_r_61 nin0)))
 have f85 := (f78.keep K71q)
 have f86 := (f70.keep K71q)
 obtain ⟨T87, h87, X87, e87, E87, A87, D87, -, st87⟩ := newO X71 hx hZ hown (own_w hw 64 rfl) (own_w hw 65 rfl) (own_w hw 66 rfl) rfl (g := (mkF m 115 lc55 [])) rfl (hb hby at_115) (by decide) (by decide)
 obtain ⟨b87, g87⟩ : ∃ z, z = T71.heap.size := ⟨_, rfl⟩
 rw [← g87] at A87 D87 st87
 have ne_b25_b87 : b25 ≠ b87 := Nat.ne_of_lt (Nat.lt_of_lt_of_le f79.lt (Nat.le_of_eq g87.symm))
 have ne_b43_b87 : b43 ≠ b87 := Nat.ne_of_lt (Nat.lt_of_lt_of_le t71_0.lt (Nat.le_of_eq g87.symm))
 have ne_r_61_b87 : r_61 ≠ b87 := Nat.ne_of_lt (Nat.lt_of_lt_of_le t71_4.lt (Nat.le_of_eq g87.symm))
 have ne_wD_b87 : wD ≠ b87 := Nat.ne_of_lt (Nat.lt_of_lt_of_le f80.lt (Nat.le_of_eq g87.symm))
 have ne_wNo_b87 : wNo ≠ b87 := Nat.ne_of_lt (Nat.lt_of_lt_of_le f81.lt (Nat.le_of_eq g87.symm))
 have ne_wOt_b87 : wOt ≠ b87 := Nat.ne_of_lt (Nat.lt_of_lt_of_le f82.lt (Nat.le_of_eq g87.symm))
 have ne_wW_b87 : wW ≠ b87 := Nat.ne_of_lt (Nat.lt_of_lt_of_le f83.lt (Nat.le_of_eq g87.symm))
 have ne_we_b87 : we ≠ b87 := Nat.ne_of_lt (Nat.lt_of_lt_of_le f84.lt (Nat.le_of_eq g87.symm))
 have ne_x1_b87 : x1 ≠ b87 := Nat.ne_of_lt (Nat.lt_of_lt_of_le f85.lt (Nat.le_of_eq g87.symm))
 have ne_x2_b87 : x2 ≠ b87 := Nat.ne_of_lt (Nat.lt_of_lt_of_le f86.lt (Nat.le_of_eq g87.symm))
 have g_b87 : n0 ≤ b87 := Nat.le_trans (Nat.le_trans Z0 K71.1) (Nat.le_of_eq g87.symm)
 have sz_b87 : h0.size ≤ b87 := Nat.le_trans K71.1 (Nat.le_of_eq g87.symm)
 have K88 : Keep h0 h87 [] := K71.ext E87
 have F_postings_b87 : Fld Z h87 b87 nm0 "postings" nm2 .null := D87 (Or.inr (own_w hw 82 rfl)) (ty := (.object nm1)) (by decide)
 have F_positions_b87 : Fld Z h87 b87 nm0 "positions" nm2 .null := D87 (Or.inr (own_w hw 84 rfl)) (ty := (.object nm1)) (by decide)
 have F_shares_b87 : Fld Z h87 b87 nm0 "shares" "[J" .null := D87 (Or.inr (own_w hw 102 rfl)) (ty := (.array .long)) (by decide)
 have F_firstDocument_b87 : Fld Z h87 b87 nm0 nm19 "I" (.int 0) := D87 (Or.inl (own_w hw 104 rfl)) (ty := .int) (by decide)
 have F_lastDocument_b87 : Fld Z h87 b87 nm0 "lastDocument" "I" (.int 0) := D87 (Or.inl (own_w hw 106 rfl)) (ty := .int) (by decide)
 have F_document_b87 : Fld Z h87 b87 nm0 "document" "I" (.int 0) := D87 (Or.inl (own_w hw 108 rfl)) (ty := .int) (by decide)
 have F_frequency_b87 : Fld Z h87 b87 nm0 "frequency" "I" (.int 0) := D87 (Or.inl (own_w hw 126 rfl)) (ty := .int) (by decide)
 have F_sentence_b87 : Fld Z h87 b87 nm0 "sentence" "I" (.int 0) := D87 (Or.inl (own_w hw 128 rfl)) (ty := .int) (by decide)
 have F_documentFrequency_b87 : Fld Z h87 b87 nm0 nm13 "I" (.int 0) := D87 (Or.inl (own_w hw 130 rfl)) (ty := .int) (by decide)
 have F_windows_b87 : Fld Z h87 b87 nm0 "windows" "J" (.long 0) := D87 (Or.inl (own_w hw 194 rfl)) (ty := .long) (by decide)
 have F_collectionFrequency_b87 : Fld Z h87 b87 nm0 nm11 "J" (.long 0) := D87 (Or.inl (own_w hw 220 rfl)) (ty := .long) (by decide)
 have f89 := ((own_staKeep (own_staKeep (own_staKeep ((((S_WORD_CLASSES.ext E25).wr W29).wr W33).ext E43) K46q (own_nsE A43 own_ns0)) K61q (own_nsE t46_0 own_ns0)) K71q (own_nsE t61_2 (own_nsV t61_6 own_ns0))).ext E87)
 have f90 := (f83.ext E87)
 have f91 := ((((((((F_elements_wW.ext E25).other W29 (Or.inl ne_wW_b25)).other W33 (Or.inl ne_wW_b25)).ext E43).keep K46q (ninS ne_wW_b43 nin0)).keep K61q (ninS ne_wW_b43 nin0)).keep K71q (ninS ne_wW_b43 (ninS ne_wW_r_61 nin0))).ext E87)
 have f92 := (f84.ext E87)
 have f94 := (f79.ext E87)
 have f95 := (t71_0.ext E87)
 have f96 := (t71_4.ext E87)
 have f97 := (f80.ext E87)
 have f98 := (f81.ext E87)
 have f99 := (f82.ext E87)
 have f100 := (f85.ext E87)
 have f101 := (f86.ext E87)
 obtain ⟨_, _, ⟨T93, L93, k93, n93⟩, -, X93, ⟨Lc93, hQ93, l93, y93, z93⟩, st93⟩ := X87.specialBack hx (y := mn26) rfl hown (mvT hZ (own_w hw 67 rfl)) (mvT hZ (own_w hw 68 rfl)) (mvT hZ (own_w hw 69 rfl)) (by decide) (backOf (W := 1) (rm10 l Z a0 hw [] b87 .null .null .null (.int 0) (.int 0) (.int 0) (.int 0) (.int 0) (.int 0) (.long 0) (.long 0) wW we ke ve h87 n0 (Nat.le_trans Z0 K88.1) A87 F_postings_b87 F_positions_b87 F_shares_b87 F_firstDocument_b87 F_lastDocument_b87 F_document_b87 F_sentence_b87 F_documentFrequency_b87 F_frequency_b87 F_windows_b87 F_collectionFrequency_b87 g_b87 f89 f90 f91 f92 lt_wW lt_we) hZ (own_w hw 69 rfl) (own_w hw 66 rfl) (by decide) (by decide)) (g := (mkF m 119 lc55 [(.ref b87), (.ref b87)])) rfl (by rw [hml]; rfl) (Steps.refl _) (a := b87) (argsL := []) (rest := [(.ref b87)]) (lenOf pd__28_29V rfl) rfl (by show 2 * 0 + _ ≤ _; exact Nat.le_of_eq rfl) (hb hby at_119) (fun _ _ => ⟨rfl, e87, (by decide : 4 + 5 ≤ _), (by decide : 26 + 24 ≤ _)⟩)
 dsimp only [Pt.U, Pt.locs, Pt.cells, Pt.slots] at y93 z93 st93 hQ93
 change Stand p l e _ s m _ below meth c T93 L93 k93 n93 at X93
 change L93 = _ ++ Lc93 at l93
 subst y93 z93
 obtain ⟨po_93, qo_93, ap_93, aq_93, sh_93, kp_93, kq_93, ks_93, rfl, N93q, K93q, t93_0, t93_1, t93_2, t93_3, t93_4, t93_5, t93_6, t93_7, t93_8, t93_9, t93_10, t93_11, t93_12, t93_13, t93_14, t93_15, t93_16, t93_17, t93_18, t93_19, t93_20, t93_21, t93_22, t93_23, t93_24, t93_25, t93_26, t93_27, t93_28, t93_29, t93_30, t93_31, t93_32⟩ := hQ93
 have N93 : Fr n0 L93 := l93 ▸ Fr.app N71 N93q
 have K93 : Keep h0 T93.heap [] := K88.trans K93q (allS (P := fun xz => xz ∈ [] ∨ h0.size ≤ xz) (Or.inr sz_b87) all0)
 have ne_b25_po_93 : b25 ≠ po_93 := Nat.ne_of_lt (Nat.lt_of_lt_of_le f94.lt t93_0)
 have ne_b43_po_93 : b43 ≠ po_93 := Nat.ne_of_lt (Nat.lt_of_lt_of_le f95.lt t93_0)
 have ne_b87_po_93 : b87 ≠ po_93 := Nat.ne_of_lt (Nat.lt_of_lt_of_le A87.lt t93_0)
 have ne_r_61_po_93 : r_61 ≠ po_93 := Nat.ne_of_lt (Nat.lt_of_lt_of_le f96.lt t93_0)
 have ne_wD_po_93 : wD ≠ po_93 := Nat.ne_of_lt (Nat.lt_of_lt_of_le f97.lt t93_0)
 have ne_wNo_po_93 : wNo ≠ po_93 := Nat.ne_of_lt (Nat.lt_of_lt_of_le f98.lt t93_0)
 have ne_wOt_po_93 : wOt ≠ po_93 := Nat.ne_of_lt (Nat.lt_of_lt_of_le f99.lt t93_0)
 have ne_wW_po_93 : wW ≠ po_93 := Nat.ne_of_lt (Nat.lt_of_lt_of_le f90.lt t93_0)
 have ne_we_po_93 : we ≠ po_93 := Nat.ne_of_lt (Nat.lt_of_lt_of_le f92.lt t93_0)
 have ne_x1_po_93 : x1 ≠ po_93 := Nat.ne_of_lt (Nat.lt_of_lt_of_le f100.lt t93_0)
 have ne_x2_po_93 : x2 ≠ po_93 := Nat.ne_of_lt (Nat.lt_of_lt_of_le f101.lt t93_0)
 have sz_po_93 : h0.size ≤ po_93 := Nat.le_trans K88.1 t93_0
 have ne_b25_qo_93 : b25 ≠ qo_93 := Nat.ne_of_lt (Nat.lt_of_lt_of_le f94.lt t93_1)
 have ne_b43_qo_93 : b43 ≠ qo_93 := Nat.ne_of_lt (Nat.lt_of_lt_of_le f95.lt t93_1)
 have ne_b87_qo_93 : b87 ≠ qo_93 := Nat.ne_of_lt (Nat.lt_of_lt_of_le A87.lt t93_1)
 have ne_r_61_qo_93 : r_61 ≠ qo_93 := Nat.ne_of_lt (Nat.lt_of_lt_of_le f96.lt t93_1)
 have ne_wD_qo_93 : wD ≠ qo_93 := Nat.ne_of_lt (Nat.lt_of_lt_of_le f97.lt t93_1)
 have ne_wNo_qo_93 : wNo ≠ qo_93 := Nat.ne_of_lt (Nat.lt_of_lt_of_le f98.lt t93_1)
 have ne_wOt_qo_93 : wOt ≠ qo_93 := Nat.ne_of_lt (Nat.lt_of_lt_of_le f99.lt t93_1)
 have ne_wW_qo_93 : wW ≠ qo_93 := Nat.ne_of_lt (Nat.lt_of_lt_of_le f90.lt t93_1)
 have ne_we_qo_93 : we ≠ qo_93 := Nat.ne_of_lt (Nat.lt_of_lt_of_le f92.lt t93_1)
 have ne_x1_qo_93 : x1 ≠ qo_93 := Nat.ne_of_lt (Nat.lt_of_lt_of_le f100.lt t93_1)
 have ne_x2_qo_93 : x2 ≠ qo_93 := Nat.ne_of_lt (Nat.lt_of_lt_of_le f101.lt t93_1)
 have sz_qo_93 : h0.size ≤ qo_93 := Nat.le_trans K88.1 t93_1
 have ne_b25_ap_93 : b25 ≠ ap_93 := Nat.ne_of_lt (Nat.lt_of_lt_of_le f94.lt t93_2)
 have ne_b43_ap_93 : b43 ≠ ap_93 := Nat.ne_of_lt (Nat.lt_of_lt_of_le f95.lt t93_2)
 have ne_b87_ap_93 : b87 ≠ ap_93 := Nat.ne_of_lt (Nat.lt_of_lt_of_le A87.lt t93_2)
 have ne_r_61_ap_93 : r_61 ≠ ap_93 := Nat.ne_of_lt (Nat.lt_of_lt_of_le f96.lt t93_2)
 have ne_wD_ap_93 : wD ≠ ap_93 := Nat.ne_of_lt (Nat.lt_of_lt_of_le f97.lt t93_2)
 have ne_wNo_ap_93 : wNo ≠ ap_93 := Nat.ne_of_lt (Nat.lt_of_lt_of_le f98.lt t93_2)
 have ne_wOt_ap_93 : wOt ≠ ap_93 := Nat.ne_of_lt (Nat.lt_of_lt_of_le f99.lt t93_2)
 have ne_wW_ap_93 : wW ≠ ap_93 := Nat.ne_of_lt (Nat.lt_of_lt_of_le f90.lt t93_2)
 have ne_we_ap_93 : we ≠ ap_93 := Nat.ne_of_lt (Nat.lt_of_lt_of_le f92.lt t93_2)
 have ne_x1_ap_93 : x1 ≠ ap_93 := Nat.ne_of_lt (Nat.lt_of_lt_of_le f100.lt t93_2)
 have ne_x2_ap_93 : x2 ≠ ap_93 := Nat.ne_of_lt (Nat.lt_of_lt_of_le f101.lt t93_2)
 have sz_ap_93 : h0.size ≤ ap_93 := Nat.le_trans K88.1 t93_2
 have ne_b25_aq_93 : b25 ≠ aq_93 := Nat.ne_of_lt (Nat.lt_of_lt_of_le f94.lt t93_3)
 have ne_b43_aq_93 : b43 ≠ aq_93 := Nat.ne_of_lt (Nat.lt_of_lt_of_le f95.lt t93_3)
 have ne_b87_aq_93 : b87 ≠ aq_93 := Nat.ne_of_lt (Nat.lt_of_lt_of_le A87.lt t93_3)
 have ne_r_61_aq_93 : r_61 ≠ aq_93 := Nat.ne_of_lt (Nat.lt_of_lt_of_le f96.lt t93_3)
 have ne_wD_aq_93 : wD ≠ aq_93 := Nat.ne_of_lt (Nat.lt_of_lt_of_le f97.lt t93_3)
 have ne_wNo_aq_93 : wNo ≠ aq_93 := Nat.ne_of_lt (Nat.lt_of_lt_of_le f98.lt t93_3)
 have ne_wOt_aq_93 : wOt ≠ aq_93 := Nat.ne_of_lt (Nat.lt_of_lt_of_le f99.lt t93_3)
 have ne_wW_aq_93 : wW ≠ aq_93 := Nat.ne_of_lt (Nat.lt_of_lt_of_le f90.lt t93_3)
 have ne_we_aq_93 : we ≠ aq_93 := Nat.ne_of_lt (Nat.lt_of_lt_of_le f92.lt t93_3)
 have ne_x1_aq_93 : x1 ≠ aq_93 := Nat.ne_of_lt (Nat.lt_of_lt_of_le f100.lt t93_3)
 have ne_x2_aq_93 : x2 ≠ aq_93 := Nat.ne_of_lt (Nat.lt_of_lt_of_le f101.lt t93_3)
 have sz_aq_93 : h0.size ≤ aq_93 := Nat.le_trans K88.1 t93_3
 have ne_b25_sh_93 : b25 ≠ sh_93 := Nat.ne_of_lt (Nat.lt_of_lt_of_le f94.lt t93_4)
 have ne_b43_sh_93 : b43 ≠ sh_93 := Nat.ne_of_lt (Nat.lt_of_lt_of_le f95.lt t93_4)
 have ne_b87_sh_93 : b87 ≠ sh_93 := Nat.ne_of_lt (Nat.lt_of_lt_of_le A87.lt t93_4)
 have ne_r_61_sh_93 : r_61 ≠ sh_93 := Nat.ne_of_lt (Nat.lt_of_lt_of_le f96.lt t93_4)
 have ne_wD_sh_93 : wD ≠ sh_93 := Nat.ne_of_lt (Nat.lt_of_lt_of_le f97.lt t93_4)
 have ne_wNo_sh_93 : wNo ≠ sh_93 := Nat.ne_of_lt (Nat.lt_of_lt_of_le f98.lt t93_4)
 have ne_wOt_sh_93 : wOt ≠ sh_93 := Nat.ne_of_lt (Nat.lt_of_lt_of_le f99.lt t93_4)
 have ne_wW_sh_93 : wW ≠ sh_93 := Nat.ne_of_lt (Nat.lt_of_lt_of_le f90.lt t93_4)
 have ne_we_sh_93 : we ≠ sh_93 := Nat.ne_of_lt (Nat.lt_of_lt_of_le f92.lt t93_4)
 have ne_x1_sh_93 : x1 ≠ sh_93 := Nat.ne_of_lt (Nat.lt_of_lt_of_le f100.lt t93_4)
 have ne_x2_sh_93 : x2 ≠ sh_93 := Nat.ne_of_lt (Nat.lt_of_lt_of_le f101.lt t93_4)
 have sz_sh_93 : h0.size ≤ sh_93 := Nat.le_trans K88.1 t93_4
 let lc102 : Array Slot := #[.val (.int p1), .val (.int p2), .val (.int p3), .val (.int p4), .val (.int p5), .val (.int d1), .val (.int s1), .val (.int s2), .val (.int nd), .val (.int d2), .val (.int b1), .val (.int b2), .val (.ref b25), .val (.ref b43), .val (.ref b87), .unset, .unset, .unset, .unset, .unset, .unset, .unset, .unset, .unset, .unset, .unset, .unset, .unset, .unset, .unset, .unset]
 obtain ⟨cq103, kq103, q103a, q103b, q103c⟩ := isOf hZ rfl t93_12
 obtain ⟨_, _, ⟨T103, L103, k103, n103⟩, -, X103, ⟨Lc103, hQ103, l103, y103, z103⟩, st103⟩ := X93.virtualBack hx (y := mn27) (z := mn27) hown (mvT hZ (own_w hw 109 rfl)) (mvT hZ (own_w hw 110 rfl)) (notFace_of_selects (args := #[]) (mvT hZ (own_w hw 112 rfl))) (mvT hZ (own_w hw 112 rfl)) (mvT hZ (own_w hw 111 rfl)) (by decide) (backOf (W := 0) (rm13 l Z a0 hw [] b87 po_93 qo_93 ap_93 aq_93 kp_93 kq_93 (8 : Int32) (8 : Int32) [(.int 0), (.int 0), (.int 0), (.int 0), (.int 0), (.int 0), (.int 0), (.int 0)] [(.int 0), (.int 0), (.int 0), (.int 0), (.int 0), (.int 0), (.int 0), (.int 0)] T93.heap n0 (Nat.le_trans Z0 K93.1) t93_13 t93_14 t93_26 t93_27 t93_30 t93_31) hZ (own_w hw 113 rfl) (own_w hw 66 rfl) (by decide) (by decide)) q103a q103c (g := (mkF m 126 lc102 [(.ref b87)])) rfl (by rw [hml]; rfl) (Steps.refl _) (argsL := []) (rest := []) (lenOf pd__28_29J rfl) rfl (by show 2 * 0 + _ ≤ _; exact Nat.le_of_eq rfl) (hb hby at_126) (fun _ _ => ⟨rfl, rfl, (by decide : 9 + 0 ≤ _), (by decide : 50 + 0 ≤ _)⟩)
 dsimp only [Pt.U, Pt.locs, Pt.cells, Pt.slots] at y103 z103 st103 hQ103
 change Stand p l e _ s m _ below meth c T103 L103 k103 n103 at X103
 change L103 = _ ++ Lc103 at l103
 subst y103 z103
 obtain ⟨rfl, N103q, e103⟩ := hQ103
 have N103 : Fr n0 L103 := l103 ▸ Fr.app N93 N103q
 let lc104 : Array Slot := #[.val (.int p1), .val (.int p2), .val (.int p3), .val (.int p4), .val (.int p5), .val (.int d1), .val (.int s1), .val (.int s2), .val (.int nd), .val (.int d2), .val (.int b1), .val (.int b2), .val (.ref b25), .val (.ref b43), .val (.ref b87), .val (.long ((((192 : Int32) + (8 : Int32)) + (8 : Int32)).toInt64)), .second, .unset, .unset, .unset, .unset, .unset, .unset, .unset, .unset, .unset, .unset, .unset, .unset, .unset, .unset]
 have f105 := (f95.keep K93q)
 have f106 := ((t71_2.ext E87).keep K93q (ninS ne_b43_b87 nin0))
 have f107 := ((t71_1.ext E87).keep K93q (ninS ne_b43_b87 nin0))
 have f108 := (f96.keep K93q (ninS ne_r_61_b87 nin0))
 have f109 := (f100.keep K93q)
 have f110 := (f101.keep K93q)
 have f111 := (((((((((F_ordinal_x1.ext E25).other W29 (Or.inl ne_x1_b25)).other W33 (Or.inl ne_x1_b25)).ext E43).keep K46q (ninS ne_x1_b43 nin0)).keep K61q (ninS ne_x1_b43 nin0)).keep K71q (ninS ne_x1_b43 (ninS ne_x1_r_61 nin0))).ext E87).keep K93q (ninS ne_x1_b87 nin0))
 have f112 := (((((((((F_ordinal_x2.ext E25).other W29 (Or.inl ne_x2_b25)).other W33 (Or.inl ne_x2_b25)).ext E43).keep K46q (ninS ne_x2_b43 nin0)).keep K61q (ninS ne_x2_b43 nin0)).keep K71q (ninS ne_x2_b43 (ninS ne_x2_r_61 nin0))).ext E87).keep K93q (ninS ne_x2_b87 nin0))
 have f113 := (own_staKeep ((own_staKeep (own_staKeep (own_staKeep ((((S_NOUN.ext E25).wr W29).wr W33).ext E43) K46q (own_nsE A43 own_ns0)) K61q (own_nsE t46_0 own_ns0)) K71q (own_nsE t61_2 (own_nsV t61_6 own_ns0))).ext E87) K93q (own_nsE A87 own_ns0))
 have f114 := (own_staKeep ((own_staKeep (own_staKeep (own_staKeep ((((S_OTHER.ext E25).wr W29).wr W33).ext E43) K46q (own_nsE A43 own_ns0)) K61q (own_nsE t46_0 own_ns0)) K71q (own_nsE t61_2 (own_nsV t61_6 own_ns0))).ext E87) K93q (own_nsE A87 own_ns0))
 have f115 := (f98.keep K93q)
 have f116 := (f99.keep K93q)
 have f117 := (((((((((F_ordinal_wNo.ext E25).other W29 (Or.inl ne_wNo_b25)).other W33 (Or.inl ne_wNo_b25)).ext E43).keep K46q (ninS ne_wNo_b43 nin0)).keep K61q (ninS ne_wNo_b43 nin0)).keep K71q (ninS ne_wNo_b43 (ninS ne_wNo_r_61 nin0))).ext E87).keep K93q (ninS ne_wNo_b87 nin0))
 have f118 := (((((((((F_ordinal_wOt.ext E25).other W29 (Or.inl ne_wOt_b25)).other W33 (Or.inl ne_wOt_b25)).ext E43).keep K46q (ninS ne_wOt_b43 nin0)).keep K61q (ninS ne_wOt_b43 nin0)).keep K71q (ninS ne_wOt_b43 (ninS ne_wOt_r_61 nin0))).ext E87).keep K93q (ninS ne_wOt_b87 nin0))
 have na120 := (Exa.neArv t93_25 t93_30 (own_w hw 72 rfl)).symm
 have na121 := (Exa.neArv t93_25 t93_31 (own_w hw 72 rfl)).symm
 have na122 := (Exa.neArv t93_25 t93_32 (own_w hw 72 rfl)).symm
 have na123 := Exa.neArv t93_24 t93_31 (own_w hw 72 rfl)
 have na124 := own_neVV t93_32 t93_31 (by decide)
 have na125 := own_neVV t93_30 t93_32 (by decide)
 have na126 := Exa.neArv t93_24 t93_32 (own_w hw 72 rfl)
 have f127 := (f94.keep K93q (ninS ne_b25_b87 nin0))
 have f128 := (f97.keep K93q (ninS ne_wD_b87 nin0))
 have f129 := (f90.keep K93q)
 have f130 := (f92.keep K93q (ninS ne_we_b87 nin0))
 obtain ⟨cq119, kq119, q119a, q119b, q119c⟩ := isOf hZ e103 t93_12
 obtain ⟨_, _, ⟨T119, L119, k119, n119⟩, -, X119, ⟨Lc119, hQ119, l119, y119, z119⟩, st119⟩ := X103.virtualBack hx (y := mn29) (z := mn29) hown (mvT hZ (own_w hw 115 rfl)) (mvT hZ (own_w hw 116 rfl)) (notFace_of_selects (args := #[]) (mvT hZ (own_w hw 118 rfl))) (mvT hZ (own_w hw 118 rfl)) (mvT hZ (own_w hw 117 rfl)) (by decide) (backOf (W := 0) (rmAdd_first_pos l Z a0 hw [] b87 d1 s1 b1 b43 (.int (-1)) (.int (-1)) (.int 0) po_93 qo_93 ap_93 aq_93 sh_93 kp_93 kq_93 ks_93 [(.int 0), (.int 0), (.int 0), (.int 0), (.int 0), (.int 0), (.int 0), (.int 0)] [(.int 0), (.int 0), (.int 0), (.int 0), (.int 0), (.int 0), (.int 0), (.int 0)] (0 : Int32) (0 : Int64) (0 : Int64) f1 (own_len6 ((s1.toInt64) + (1 : Int64))) (8 : Int32) (0 : Int64) (0 : Int64) (0 : Int64) (0 : Int64) r_61 x1 x2 kr_61 wNo wOt T93.heap n0 (Nat.le_trans Z0 K93.1) t93_12 t93_13 t93_14 t93_15 t93_16 t93_17 t93_18 t93_19 t93_20 t93_21 t93_22 t93_23 g_b87 t93_24 t93_25 t93_26 t93_27 t93_29 t93_30 t93_31 t93_5 t93_6 t93_7 t93_8 t93_9 t93_10 t93_11 t93_32 f105 f106 f107 f108 f109 f110 f111 f112 lt_x1 lt_x2 f113 f114 f115 f116 f117 f118 lt_wNo lt_wOt (by decide) hf1 (by rw [hg1.1]; omega) (by rw [hg1.1]; exact hv1) (by rw [hg1.1]; exact hu1) hl1 (by rw [Int32.lt_iff_toInt_lt, Int32.toInt_zero, ← Jvm.Kit.i64_of_i32, hg1.1]; omega) hb1 (own_neI (by omega))) hZ (own_w hw 119 rfl) (own_w hw 66 rfl) (by decide) (by decide)) q119a q119c (g := (mkF m 141 lc104 [(.ref b43), (.int b1), (.int s1), (.int d1), (.ref b87)])) rfl (by rw [hml]; rfl) (Steps.refl _) (argsL := [(.int d1), (.int s1), (.int b1), (.ref b43)]) (rest := []) (lenOf pd__28IIILjava_2futil_2fList_3b_29V rfl) rfl (by show 2 * 0 + _ ≤ _; exact Nat.le_of_eq rfl) (hb hby at_141) (fun _ _ => ⟨rfl, e103, (by decide : 9 + 1 ≤ _), (by decide : 50 + 16 ≤ _)⟩)
 dsimp only [Pt.U, Pt.locs, Pt.cells, Pt.slots] at y119 z119 st119 hQ119
 change Stand p l e _ s m _ below meth c T119 L119 k119 n119 at X119
 change L119 = _ ++ Lc119 at l119
 subst y119 z119
 obtain ⟨rq_119, kq2_119, vq2_119, rfl, N119q, K119q, t119_0, t119_1, t119_2, t119_3, t119_4, t119_5, t119_6, t119_7, t119_8, t119_9, t119_10, t119_11, t119_12, t119_13, t119_14, t119_15, t119_16, t119_17, t119_18, t119_19, t119_20, t119_21, t119_22⟩ := hQ119
 have N119 : Fr n0 L119 := l119 ▸ Fr.app N103 N119q
 have K119 : Keep h0 T119.heap [] := K93.trans K119q (allS (P := fun xz => xz ∈ [] ∨ h0.size ≤ xz) (Or.inr sz_b87) (allS (P := fun xz => xz ∈ [] ∨ h0.size ≤ xz) (Or.inr sz_qo_93) (allS (P := fun xz => xz ∈ [] ∨ h0.size ≤ xz) (Or.inr sz_aq_93) (allS (P := fun xz => xz ∈ [] ∨ h0.size ≤ xz) (Or.inr sz_sh_93) all0))))
 have bo131 := own_bor t119_22 sz_aq_93 K93.1
 obtain ⟨c4, hc4⟩ : ∃ z : Int32, (own_cap (own_cap (own_cap (own_cap (8 : Int32) (0 : Int32)) ((0 : Int32) + (own_len6 ((s1.toInt64) + (1 : Int64))))) (((0 : Int32) + (own_len6 ((s1.toInt64) + (1 : Int64)))) + (1 : Int32))) ((((0 : Int32) + (own_len6 ((s1.toInt64) + (1 : Int64)))) + (1 : Int32)) + (1 : Int32))) = z := ⟨_, rfl⟩
 obtain ⟨z4, hz4⟩ : ∃ z : Int32, (((((0 : Int32) + (own_len6 ((s1.toInt64) + (1 : Int64)))) + (1 : Int32)) + (1 : Int32)) + (1 : Int32)) = z := ⟨_, rfl⟩
 have Ve132 : Arv Z T119.heap rq_119 kq2_119 .byte c4 vq2_119 (.int 0) := hc4 ▸ t119_15
 have Fz4 : Fld Z T119.heap qo_93 nm1 "size" "I" (.int z4) := hz4 ▸ t119_14
 have hq4 := t119_19
 rw [hc4] at hq4
 have hn4 := t119_20
 rw [hc4] at hn4
 have hy4 := t119_21
 rw [hz4] at hy4
 have pre133 : ∀ t, Steps p.tables e below (T119.setTop (mkF m 144 lc104 [])) t → Steps p.tables e below (s₁.setTop (entryFrame m #[(.int p1), (.int p2), (.int p3), (.int p4), (.int p5)] maxLocals)) t := fun t kt => by
  refine pre23 t ?_
  show oS s₁ (mkF m 72 lc24 [])
  refine XS.iconst X0.here hx rfl (hb hby at_72) ?_
  show oS s₁ (mkF m 73 lc24 [(.int 2)])
  refine st25 _ ?_
  show oS T25 (mkF m 75 lc24 [(.ref b25)])
  refine XS.astore X25.here hx rfl (hb hby at_75) rfl rfl (l' := lc27) rfl ?_
  show oS T25 (mkF m 77 lc27 [])
  refine XS.aload X25.here hx rfl (hb hby at_77) rfl rfl ?_
  show oS T25 (mkF m 79 lc27 [(.ref b25)])
  refine XS.iconst X25.here hx rfl (hb hby at_79) ?_
  show oS T25 (mkF m 80 lc27 [(.int 0), (.ref b25)])
  refine XS.bipush X25.here hx rfl (hb hby at_80) ?_
  show oS T25 (mkF m 82 lc27 [(.int 8), (.int 0), (.ref b25)])
  refine st29 _ ?_
  show oS T29 (mkF m 83 lc27 [])
  refine XS.aload X29.here hx rfl (hb hby at_83) rfl rfl ?_
  show oS T29 (mkF m 85 lc27 [(.ref b25)])
  refine XS.iconst X29.here hx rfl (hb hby at_85) ?_
  show oS T29 (mkF m 86 lc27 [(.int 1), (.ref b25)])
  refine XS.iconst X29.here hx rfl (hb hby at_86) ?_
  show oS T29 (mkF m 87 lc27 [(.int 0), (.int 1), (.ref b25)])
  refine st33 _ ?_
  show oS T33 (mkF m 88 lc27 [])
  refine st43 _ ?_
  show oS T43 (mkF m 91 lc27 [(.ref b43)])
  refine XS.dup X43.here hx rfl (hb hby at_91) rfl rfl ?_
  show oS T43 (mkF m 92 lc27 [(.ref b43), (.ref b43)])
  refine st46.trans ?_
  show oS T46 (mkF m 95 lc27 [(.ref b43)])
  refine XS.astore X46.here hx rfl (hb hby at_95) rfl rfl (l' := lc55) rfl ?_
  show oS T46 (mkF m 97 lc55 [])
  refine XS.aload X46.here hx rfl (hb hby at_97) rfl rfl ?_
  show oS T46 (mkF m 99 lc55 [(.ref b43)])
  refine st57 _ ?_
  show oS T57 (mkF m 102 lc55 [(.ref x1), (.ref b43)])
  refine st61.trans ?_
  show oS T61 (mkF m 105 lc55 [(.int 1)])
  refine XS.pop X61.here hx rfl (hb hby at_105) rfl rfl ?_
  show oS T61 (mkF m 106 lc55 [])
  refine XS.aload X61.here hx rfl (hb hby at_106) rfl rfl ?_
  show oS T61 (mkF m 108 lc55 [(.ref b43)])
  refine st69 _ ?_
  show oS T69 (mkF m 111 lc55 [(.ref x2), (.ref b43)])
  refine st71.trans ?_
  show oS T71 (mkF m 114 lc55 [(.int 1)])
  refine XS.pop X71.here hx rfl (hb hby at_114) rfl rfl ?_
  show oS T71 (mkF m 115 lc55 [])
  refine st87 _ ?_
  show oS T87 (mkF m 118 lc55 [(.ref b87)])
  refine XS.dup X87.here hx rfl (hb hby at_118) rfl rfl ?_
  show oS T87 (mkF m 119 lc55 [(.ref b87), (.ref b87)])
  refine st93.trans ?_
  show oS T93 (mkF m 122 lc55 [(.ref b87)])
  refine XS.astore X93.here hx rfl (hb hby at_122) rfl rfl (l' := lc102) rfl ?_
  show oS T93 (mkF m 124 lc102 [])
  refine XS.aload X93.here hx rfl (hb hby at_124) rfl rfl ?_
  show oS T93 (mkF m 126 lc102 [(.ref b87)])
  refine st103.trans ?_
  show oS T103 (mkF m 129 lc102 [(.long ((((192 : Int32) + (8 : Int32)) + (8 : Int32)).toInt64))])
  refine XS.lstore X103.here hx rfl (hb hby at_129) rfl (l' := lc104) rfl ?_
  show oS T103 (mkF m 131 lc104 [])
  refine XS.aload X103.here hx rfl (hb hby at_131) rfl rfl ?_
  show oS T103 (mkF m 133 lc104 [(.ref b87)])
  refine XS.iload X103.here hx rfl (hb hby at_133) rfl ?_
  show oS T103 (mkF m 135 lc104 [(.int d1), (.ref b87)])
  refine XS.iload X103.here hx rfl (hb hby at_135) rfl ?_
  show oS T103 (mkF m 137 lc104 [(.int s1), (.int d1), (.ref b87)])
  refine XS.iload X103.here hx rfl (hb hby at_137) rfl ?_
  show oS T103 (mkF m 139 lc104 [(.int b1), (.int s1), (.int d1), (.ref b87)])
  refine XS.aload X103.here hx rfl (hb hby at_139) rfl rfl ?_
  show oS T103 (mkF m 141 lc104 [(.ref b43), (.int b1), (.int s1), (.int d1), (.ref b87)])
  refine st119.trans ?_
  exact kt
 have f134 := (t93_26.keep K119q (ninS (Ne.symm ne_b87_po_93) (ninS t93_10 (ninS na123 (ninS na126 nin0)))))
 have f135 := (t93_30.keep K119q (ninS (Ne.symm ne_b87_ap_93) (ninS na120 (ninS t93_11 (ninS na125 nin0)))))
 obtain ⟨cq136, kq136, q136a, q136b, q136c⟩ := isOf hZ rfl t119_0
 obtain ⟨_, _, ⟨T136, L136, k136, n136⟩, -, X136, ⟨Lc136, hQ136, l136, y136, z136⟩, st136⟩ := X119.virtualBack hx (y := mn27) (z := mn27) hown (mvT hZ (own_w hw 109 rfl)) (mvT hZ (own_w hw 110 rfl)) (notFace_of_selects (args := #[]) (mvT hZ (own_w hw 112 rfl))) (mvT hZ (own_w hw 112 rfl)) (mvT hZ (own_w hw 111 rfl)) (by decide) (backOf (W := 0) (rm13 l Z a0 hw [] b87 po_93 qo_93 ap_93 rq_119 kp_93 kq2_119 (8 : Int32) c4 [(.int 0), (.int 0), (.int 0), (.int 0), (.int 0), (.int 0), (.int 0), (.int 0)] vq2_119 T119.heap n0 (Nat.le_trans Z0 K119.1) t119_1 t119_2 f134 t119_13 f135 Ve132) hZ (own_w hw 113 rfl) (own_w hw 66 rfl) (by decide) (by decide)) q136a q136c (g := (mkF m 146 lc104 [(.ref b87)])) rfl (by rw [hml]; rfl) (Steps.refl _) (argsL := []) (rest := []) (lenOf pd__28_29J rfl) rfl (by show 2 * 0 + _ ≤ _; exact Nat.le_of_eq rfl) (hb hby at_146) (fun _ _ => ⟨rfl, rfl, (by decide : 10 + 0 ≤ _), (by decide : 66 + 0 ≤ _)⟩)
 dsimp only [Pt.U, Pt.locs, Pt.cells, Pt.slots] at y136 z136 st136 hQ136
 change Stand p l e _ s m _ below meth c T136 L136 k136 n136 at X136
 change L136 = _ ++ Lc136 at l136
 subst y136 z136
 obtain ⟨rfl, N136q, e136⟩ := hQ136
 have N136 : Fr n0 L136 := l136 ▸ Fr.app N119 N136q
 let lc137 : Array Slot := #[.val (.int p1), .val (.int p2), .val (.int p3), .val (.int p4), .val (.int p5), .val (.int d1), .val (.int s1), .val (.int s2), .val (.int nd), .val (.int d2), .val (.int b1), .val (.int b2), .val (.ref b25), .val (.ref b43), .val (.ref b87), .val (.long ((((192 : Int32) + (8 : Int32)) + (8 : Int32)).toInt64)), .second, .val (.long ((((192 : Int32) + (8 : Int32)) + c4).toInt64)), .second, .unset, .unset, .unset, .unset, .unset, .unset, .unset, .unset, .unset, .unset, .unset, .unset]
 have pre138 : ∀ t, Steps p.tables e below (T136.setTop (mkF m 161 lc137 [(.ref b43), (.int b2), (.int s2), (.int d2), (.ref b87)])) t → Steps p.tables e below (s₁.setTop (entryFrame m #[(.int p1), (.int p2), (.int p3), (.int p4), (.int p5)] maxLocals)) t := fun t kt => by
  refine pre133 t ?_
  show oS T119 (mkF m 144 lc104 [])
  refine XS.aload X119.here hx rfl (hb hby at_144) rfl rfl ?_
  show oS T119 (mkF m 146 lc104 [(.ref b87)])
  refine st136.trans ?_
  show oS T136 (mkF m 149 lc104 [(.long ((((192 : Int32) + (8 : Int32)) + c4).toInt64))])
  refine XS.lstore X136.here hx rfl (hb hby at_149) rfl (l' := lc137) rfl ?_
  show oS T136 (mkF m 151 lc137 [])
  refine XS.aload X136.here hx rfl (hb hby at_151) rfl rfl ?_
  show oS T136 (mkF m 153 lc137 [(.ref b87)])
  refine XS.iload X136.here hx rfl (hb hby at_153) rfl ?_
  show oS T136 (mkF m 155 lc137 [(.int d2), (.ref b87)])
  refine XS.iload X136.here hx rfl (hb hby at_155) rfl ?_
  show oS T136 (mkF m 157 lc137 [(.int s2), (.int d2), (.ref b87)])
  refine XS.iload X136.here hx rfl (hb hby at_157) rfl ?_
  show oS T136 (mkF m 159 lc137 [(.int b2), (.int s2), (.int d2), (.ref b87)])
  refine XS.aload X136.here hx rfl (hb hby at_159) rfl rfl ?_
  exact kt
 by_cases hN : nd = (0 : Int32)
 ·by_cases hgp : (0 : Int32) < s2 - s1
  ·have hdc : d2 = d1 := by rw [h_d2, if_pos hN]
   have hg2 := own_gapS (x := s2) (y := s1) (by omega) hs1.1
   obtain ⟨f2, hf2, hl2, hv2, hu2⟩ := own_lenF (v := s2.toInt64 - s1.toInt64) (by omega) (by omega)
   have hgl : (0 : Int64) < s2.toInt64 - s1.toInt64 := by rw [Int64.lt_iff_toInt_lt, Int64.toInt_zero, hg2.2.1, ← hg2.2.2, ← Int32.toInt_zero, ← Int32.lt_iff_toInt_lt]; exact hgp
   have f139 := (t93_24.keep K119q)
   have f140 := (f105.keep K119q)
   have f141 := (f106.keep K119q (ninS ne_b43_b87 (ninS ne_b43_qo_93 (ninS ne_b43_aq_93 (ninS ne_b43_sh_93 nin0)))))
   have f142 := (f107.keep K119q (ninS ne_b43_b87 (ninS ne_b43_qo_93 (ninS ne_b43_aq_93 (ninS ne_b43_sh_93 nin0)))))
   have f143 := (f108.keep K119q (ninS ne_r_61_b87 (ninS ne_r_61_qo_93 (ninS ne_r_61_aq_93 (ninS ne_r_61_sh_93 nin0)))))
   have f144 := (f109.keep K119q)
   have f145 := (f110.keep K119q)
   have f146 := (f111.keep K119q (ninS ne_x1_b87 (ninS ne_x1_qo_93 (ninS ne_x1_aq_93 (ninS ne_x1_sh_93 nin0)))))
   have f147 := (f112.keep K119q (ninS ne_x2_b87 (ninS ne_x2_qo_93 (ninS ne_x2_aq_93 (ninS ne_x2_sh_93 nin0)))))
   have f148 := (own_staKeep f113 K119q (own_nsE t93_12 (own_nsE t93_25 (own_nsV t93_31 (own_nsV t93_32 own_ns0)))))
   have f149 := (own_staKeep f114 K119q (own_nsE t93_12 (own_nsE t93_25 (own_nsV t93_31 (own_nsV t93_32 own_ns0)))))
   have f150 := (f115.keep K119q)
   have f151 := (f116.keep K119q)
   have f152 := (f117.keep K119q (ninS ne_wNo_b87 (ninS ne_wNo_qo_93 (ninS ne_wNo_aq_93 (ninS ne_wNo_sh_93 nin0)))))
   have f153 := (f118.keep K119q (ninS ne_wOt_b87 (ninS ne_wOt_qo_93 (ninS ne_wOt_aq_93 (ninS ne_wOt_sh_93 nin0)))))
   have na155 := (Exa.neArv t119_0 Ve132 (own_w hw 65 rfl)).symm
   have na156 := (Exa.neArv t119_12 Ve132 (own_w hw 72 rfl)).symm
   have f157 := (f127.keep K119q (ninS ne_b25_b87 (ninS ne_b25_qo_93 (ninS ne_b25_aq_93 (ninS ne_b25_sh_93 nin0)))))
   have na158 := own_neVV f157 Ve132 (by decide)
   have na159 := Exa.neArv f140 Ve132 (own_w hw 3 rfl)
   have na160 := Exa.neArv f139 Ve132 (own_w hw 72 rfl)
   have na161 := own_neVV f143 Ve132 (by decide)
   have na162 := own_neVV t119_18 Ve132 (by decide)
   have na163 := Nat.ne_of_lt (Nat.lt_of_lt_of_le lt_wD t119_16)
   have na164 := Nat.ne_of_lt (Nat.lt_of_lt_of_le lt_wNo t119_16)
   have na165 := Nat.ne_of_lt (Nat.lt_of_lt_of_le lt_wOt t119_16)
   have na166 := Nat.ne_of_lt (Nat.lt_of_lt_of_le lt_wW t119_16)
   have na167 := Nat.ne_of_lt (Nat.lt_of_lt_of_le lt_we t119_16)
   have na168 := Nat.ne_of_lt (Nat.lt_of_lt_of_le lt_x1 t119_16)
   have na169 := Nat.ne_of_lt (Nat.lt_of_lt_of_le lt_x2 t119_16)
   have f170 := (f128.keep K119q (ninS ne_wD_b87 (ninS ne_wD_qo_93 (ninS ne_wD_aq_93 (ninS ne_wD_sh_93 nin0)))))
   have f171 := (f129.keep K119q)
   have f172 := (f130.keep K119q (ninS ne_we_b87 (ninS ne_we_qo_93 (ninS ne_we_aq_93 (ninS ne_we_sh_93 nin0)))))
   obtain ⟨cq154, kq154, q154a, q154b, q154c⟩ := isOf hZ e136 t119_0
   obtain ⟨_, _, ⟨T154, L154, k154, n154⟩, -, X154, ⟨Lc154, hQ154, l154, y154, z154⟩, st154⟩ := X136.virtualBack hx (y := mn29) (z := mn29) hown (mvT hZ (own_w hw 115 rfl)) (mvT hZ (own_w hw 116 rfl)) (notFace_of_selects (args := #[]) (mvT hZ (own_w hw 118 rfl))) (mvT hZ (own_w hw 118 rfl)) (mvT hZ (own_w hw 117 rfl)) (by decide) (backOf (W := 0) (rmAdd_same_pos l Z a0 hw [] b87 d2 s2 b2 b43 (.int (-1)) (.int (-1)) po_93 qo_93 ap_93 rq_119 sh_93 kp_93 kq2_119 ks_93 [(.int 0), (.int 0), (.int 0), (.int 0), (.int 0), (.int 0), (.int 0), (.int 0)] vq2_119 ((0 : Int32) + (1 : Int32)) ((0 : Int64) + ((1 : Int32).toInt64)) ((0 : Int64) + (1 : Int64)) f2 (own_len6 ((s2.toInt64) - (s1.toInt64))) c4 z4 d1 s1 (8 : Int32) ((0 : Int64) + ((6 : Int32).toInt64)) (0 : Int64) (0 : Int64) ((0 : Int64) + ((6 : Int32).toInt64)) r_61 x1 x2 kr_61 wNo wOt T119.heap n0 (Nat.le_trans Z0 K119.1) t119_0 t119_1 t119_2 t119_3 t119_4 t119_5 t119_6 t119_7 t119_8 t119_9 t119_10 t119_11 g_b87 f139 t119_12 f134 t119_13 Fz4 f135 Ve132 t93_5 t93_6 t93_7 t119_16 t93_9 t93_10 t119_17 t119_18 f140 f141 f142 f143 f144 f145 f146 f147 lt_x1 lt_x2 f148 f149 f150 f151 f152 f153 lt_wNo lt_wOt hq4 hf2 (by rw [hg2.1]; omega) (by rw [hg2.1]; exact hv2) (by rw [hg2.1]; exact hu2) hl2 hgp hb2 hn4 hy4 hdc) hZ (own_w hw 119 rfl) (own_w hw 66 rfl) (by decide) (by decide)) q154a q154c (g := (mkF m 161 lc137 [(.ref b43), (.int b2), (.int s2), (.int d2), (.ref b87)])) rfl (by rw [hml]; rfl) (Steps.refl _) (argsL := [(.int d2), (.int s2), (.int b2), (.ref b43)]) (rest := []) (lenOf pd__28IIILjava_2futil_2fList_3b_29V rfl) rfl (by show 2 * 0 + _ ≤ _; exact Nat.le_of_eq rfl) (hb hby at_161) (fun _ _ => ⟨rfl, e136, (by decide : 10 + 4 ≤ _), (by decide : 66 + 128 ≤ _)⟩)
   dsimp only [Pt.U, Pt.locs, Pt.cells, Pt.slots] at y154 z154 st154 hQ154
   change Stand p l e _ s m _ below meth c T154 L154 k154 n154 at X154
   change L154 = _ ++ Lc154 at l154
   subst y154 z154
   obtain ⟨rq_154, kq2_154, vq2_154, rfl, N154q, K154q, t154_0, t154_1, t154_2, t154_3, t154_4, t154_5, t154_6, t154_7, t154_8, t154_9, t154_10, t154_11, t154_12, t154_13, t154_14, t154_15, t154_16, t154_17, t154_18, t154_19, t154_20, t154_21⟩ := hQ154
   have N154 : Fr n0 L154 := l154 ▸ Fr.app N136 N154q
   have K154 : Keep h0 T154.heap [] := K119.trans K154q (allS (P := fun xz => xz ∈ [] ∨ h0.size ≤ xz) (Or.inr sz_b87) (allS (P := fun xz => xz ∈ [] ∨ h0.size ≤ xz) (Or.inr sz_qo_93) (allS (P := fun xz => xz ∈ [] ∨ h0.size ≤ xz) (Or.inr bo131) (allS (P := fun xz => xz ∈ [] ∨ h0.size ≤ xz) (Or.inr sz_sh_93) all0))))
   have bo173 := own_bor t154_21 bo131 K119.1
   have f174 := (f134.keep K154q (ninS (Ne.symm ne_b87_po_93) (ninS t93_10 (ninS na160 (ninS na126 nin0)))))
   have f175 := (f135.keep K154q (ninS (Ne.symm ne_b87_ap_93) (ninS na120 (ninS t119_17 (ninS na125 nin0)))))
   obtain ⟨cq176, kq176, q176a, q176b, q176c⟩ := isOf hZ rfl t154_0
   obtain ⟨_, _, ⟨T176, L176, k176, n176⟩, -, X176, ⟨Lc176, hQ176, l176, y176, z176⟩, st176⟩ := X154.virtualBack hx (y := mn27) (z := mn27) hown (mvT hZ (own_w hw 109 rfl)) (mvT hZ (own_w hw 110 rfl)) (notFace_of_selects (args := #[]) (mvT hZ (own_w hw 112 rfl))) (mvT hZ (own_w hw 112 rfl)) (mvT hZ (own_w hw 111 rfl)) (by decide) (backOf (W := 0) (rm13 l Z a0 hw [] b87 po_93 qo_93 ap_93 rq_154 kp_93 kq2_154 (8 : Int32) (own_cap (own_cap (own_cap (own_cap c4 z4) (z4 + (own_len6 ((s2.toInt64) - (s1.toInt64))))) ((z4 + (own_len6 ((s2.toInt64) - (s1.toInt64)))) + (1 : Int32))) (((z4 + (own_len6 ((s2.toInt64) - (s1.toInt64)))) + (1 : Int32)) + (1 : Int32))) [(.int 0), (.int 0), (.int 0), (.int 0), (.int 0), (.int 0), (.int 0), (.int 0)] vq2_154 T154.heap n0 (Nat.le_trans Z0 K154.1) t154_1 t154_2 f174 t154_13 f175 t154_15) hZ (own_w hw 113 rfl) (own_w hw 66 rfl) (by decide) (by decide)) q176a q176c (g := (mkF m 166 lc137 [(.ref b87)])) rfl (by rw [hml]; rfl) (Steps.refl _) (argsL := []) (rest := []) (lenOf pd__28_29J rfl) rfl (by show 2 * 0 + _ ≤ _; exact Nat.le_of_eq rfl) (hb hby at_166) (fun _ _ => ⟨rfl, rfl, (by decide : 14 + 0 ≤ _), (by decide : 194 + 0 ≤ _)⟩)
   dsimp only [Pt.U, Pt.locs, Pt.cells, Pt.slots] at y176 z176 st176 hQ176
   change Stand p l e _ s m _ below meth c T176 L176 k176 n176 at X176
   change L176 = _ ++ Lc176 at l176
   subst y176 z176
   obtain ⟨rfl, N176q, e176⟩ := hQ176
   have N176 : Fr n0 L176 := l176 ▸ Fr.app N154 N176q
   let lc177 : Array Slot := #[.val (.int p1), .val (.int p2), .val (.int p3), .val (.int p4), .val (.int p5), .val (.int d1), .val (.int s1), .val (.int s2), .val (.int nd), .val (.int d2), .val (.int b1), .val (.int b2), .val (.ref b25), .val (.ref b43), .val (.ref b87), .val (.long ((((192 : Int32) + (8 : Int32)) + (8 : Int32)).toInt64)), .second, .val (.long ((((192 : Int32) + (8 : Int32)) + c4).toInt64)), .second, .val (.long ((((192 : Int32) + (8 : Int32)) + (own_cap (own_cap (own_cap (own_cap c4 z4) (z4 + (own_len6 ((s2.toInt64) - (s1.toInt64))))) ((z4 + (own_len6 ((s2.toInt64) - (s1.toInt64)))) + (1 : Int32))) (((z4 + (own_len6 ((s2.toInt64) - (s1.toInt64)))) + (1 : Int32)) + (1 : Int32)))).toInt64)), .second, .unset, .unset, .unset, .unset, .unset, .unset, .unset, .unset, .unset, .unset]
   have f178 := (f139.keep K154q)
   have f179 := ((t93_28.keep K119q (ninS (Ne.symm ne_b87_po_93) (ninS t93_10 (ninS na123 (ninS na126 nin0))))).keep K154q (ninS (Ne.symm ne_b87_po_93) (ninS t93_10 (ninS na160 (ninS na126 nin0)))))
   have na181 := (Exa.neArv t154_0 t154_15 (own_w hw 65 rfl)).symm
   have na182 := (Exa.neArv f178 f175 (own_w hw 72 rfl)).symm
   have na183 := (Exa.neArv f178 t154_15 (own_w hw 72 rfl)).symm
   have f184 := (f157.keep K154q (ninS ne_b25_b87 (ninS ne_b25_qo_93 (ninS na158 (ninS ne_b25_sh_93 nin0)))))
   have f185 := (f140.keep K154q)
   have f186 := (f143.keep K154q (ninS ne_r_61_b87 (ninS ne_r_61_qo_93 (ninS na161 (ninS ne_r_61_sh_93 nin0)))))
   have f187 := (f170.keep K154q (ninS ne_wD_b87 (ninS ne_wD_qo_93 (ninS na163 (ninS ne_wD_sh_93 nin0)))))
   have f188 := (f150.keep K154q)
   have f189 := (f151.keep K154q)
   have f190 := (f171.keep K154q)
   have f191 := (f172.keep K154q (ninS ne_we_b87 (ninS ne_we_qo_93 (ninS na167 (ninS ne_we_sh_93 nin0)))))
   have f192 := (f144.keep K154q)
   have f193 := (f145.keep K154q)
   obtain ⟨cq180, kq180, q180a, q180b, q180c⟩ := isOf hZ e176 t154_0
   obtain ⟨_, _, ⟨T180, L180, k180, n180⟩, -, X180, ⟨Lc180, hQ180, l180, y180, z180⟩, st180⟩ := X176.virtualBack hx (y := mn28) (z := mn28) hown (mvT hZ (own_w hw 221 rfl)) (mvT hZ (own_w hw 121 rfl)) (notFace_of_selects (args := #[]) (mvT hZ (own_w hw 123 rfl))) (mvT hZ (own_w hw 123 rfl)) (mvT hZ (own_w hw 122 rfl)) (by decide) (backOf (W := 0) (rmFinA l Z a0 hw [] b87 (.ref qo_93) (.ref sh_93) (.int (-1)) (.int s2) (.int ((0 : Int32) + (1 : Int32))) (.long (((0 : Int64) + ((1 : Int32).toInt64)) + ((1 : Int32).toInt64))) (.long (((0 : Int64) + (1 : Int64)) + (1 : Int64))) po_93 ap_93 kp_93 [(.int 0), (.int 0), (.int 0), (.int 0), (.int 0), (.int 0), (.int 0), (.int 0)] d1 (2 : Int32) T154.heap n0 (Nat.le_trans Z0 K154.1) t154_0 t154_1 t154_2 t154_3 t154_4 t154_5 t154_6 t154_7 t154_8 t154_9 t154_10 t154_11 g_b87 f178 f174 f179 f175 t93_5 t93_7 (by decide) (by decide)) hZ (own_w hw 124 rfl) (own_w hw 66 rfl) (by decide) (by decide)) q180a q180c (g := (mkF m 173 lc177 [(.ref b87)])) rfl (by rw [hml]; rfl) (Steps.refl _) (argsL := []) (rest := []) (lenOf pd__28_29V rfl) rfl (by show 2 * 0 + _ ≤ _; exact Nat.le_of_eq rfl) (hb hby at_173) (fun _ _ => ⟨rfl, e176, (by decide : 14 + 1 ≤ _), (by decide : 194 + 16 ≤ _)⟩)
   dsimp only [Pt.U, Pt.locs, Pt.cells, Pt.slots] at y180 z180 st180 hQ180
   change Stand p l e _ s m _ below meth c T180 L180 k180 n180 at X180
   change L180 = _ ++ Lc180 at l180
   subst y180 z180
   obtain ⟨rp_180, kr_180, vr_180, rfl, N180q, K180q, t180_0, t180_1, t180_2, t180_3, t180_4, t180_5, t180_6, t180_7, t180_8, t180_9, t180_10, t180_11, t180_12, t180_13, t180_14, t180_15, t180_16, t180_17, t180_18⟩ := hQ180
   have N180 : Fr n0 L180 := l180 ▸ Fr.app N176 N180q
   have K180 : Keep h0 T180.heap [] := K154.trans K180q (allS (P := fun xz => xz ∈ [] ∨ h0.size ≤ xz) (Or.inr sz_b87) (allS (P := fun xz => xz ∈ [] ∨ h0.size ≤ xz) (Or.inr sz_po_93) (allS (P := fun xz => xz ∈ [] ∨ h0.size ≤ xz) (Or.inr sz_ap_93) all0)))
   have f194 := (t154_13.keep K180q (ninS (Ne.symm ne_b87_qo_93) (ninS (Ne.symm t93_10) (ninS (Ne.symm na120) nin0))))
   have f195 := (t154_15.keep K180q (ninS na181 (ninS na183 (ninS (Ne.symm t154_17) nin0))))
   obtain ⟨cq196, kq196, q196a, q196b, q196c⟩ := isOf hZ rfl t180_0
   obtain ⟨_, _, ⟨T196, L196, k196, n196⟩, -, X196, ⟨Lc196, hQ196, l196, y196, z196⟩, st196⟩ := X180.virtualBack hx (y := mn27) (z := mn27) hown (mvT hZ (own_w hw 109 rfl)) (mvT hZ (own_w hw 110 rfl)) (notFace_of_selects (args := #[]) (mvT hZ (own_w hw 112 rfl))) (mvT hZ (own_w hw 112 rfl)) (mvT hZ (own_w hw 111 rfl)) (by decide) (backOf (W := 0) (rm13 l Z a0 hw [] b87 po_93 qo_93 rp_180 rq_154 kr_180 kq2_154 (16 : Int32) (own_cap (own_cap (own_cap (own_cap c4 z4) (z4 + (own_len6 ((s2.toInt64) - (s1.toInt64))))) ((z4 + (own_len6 ((s2.toInt64) - (s1.toInt64)))) + (1 : Int32))) (((z4 + (own_len6 ((s2.toInt64) - (s1.toInt64)))) + (1 : Int32)) + (1 : Int32))) vr_180 vq2_154 T180.heap n0 (Nat.le_trans Z0 K180.1) t180_1 t180_2 t180_13 f194 t180_15 f195) hZ (own_w hw 113 rfl) (own_w hw 66 rfl) (by decide) (by decide)) q196a q196c (g := (mkF m 178 lc177 [(.ref b87)])) rfl (by rw [hml]; rfl) (Steps.refl _) (argsL := []) (rest := []) (lenOf pd__28_29J rfl) rfl (by show 2 * 0 + _ ≤ _; exact Nat.le_of_eq rfl) (hb hby at_178) (fun _ _ => ⟨rfl, rfl, (by decide : 15 + 0 ≤ _), (by decide : 210 + 0 ≤ _)⟩)
   dsimp only [Pt.U, Pt.locs, Pt.cells, Pt.slots] at y196 z196 st196 hQ196
   change Stand p l e _ s m _ below meth c T196 L196 k196 n196 at X196
   change L196 = _ ++ Lc196 at l196
   subst y196 z196
   obtain ⟨rfl, N196q, e196⟩ := hQ196
   have N196 : Fr n0 L196 := l196 ▸ Fr.app N180 N196q
   let lc197 : Array Slot := #[.val (.int p1), .val (.int p2), .val (.int p3), .val (.int p4), .val (.int p5), .val (.int d1), .val (.int s1), .val (.int s2), .val (.int nd), .val (.int d2), .val (.int b1), .val (.int b2), .val (.ref b25), .val (.ref b43), .val (.ref b87), .val (.long ((((192 : Int32) + (8 : Int32)) + (8 : Int32)).toInt64)), .second, .val (.long ((((192 : Int32) + (8 : Int32)) + c4).toInt64)), .second, .val (.long ((((192 : Int32) + (8 : Int32)) + (own_cap (own_cap (own_cap (own_cap c4 z4) (z4 + (own_len6 ((s2.toInt64) - (s1.toInt64))))) ((z4 + (own_len6 ((s2.toInt64) - (s1.toInt64)))) + (1 : Int32))) (((z4 + (own_len6 ((s2.toInt64) - (s1.toInt64)))) + (1 : Int32)) + (1 : Int32)))).toInt64)), .second, .val (.long ((((192 : Int32) + (16 : Int32)) + (own_cap (own_cap (own_cap (own_cap c4 z4) (z4 + (own_len6 ((s2.toInt64) - (s1.toInt64))))) ((z4 + (own_len6 ((s2.toInt64) - (s1.toInt64)))) + (1 : Int32))) (((z4 + (own_len6 ((s2.toInt64) - (s1.toInt64)))) + (1 : Int32)) + (1 : Int32)))).toInt64)), .second, .unset, .unset, .unset, .unset, .unset, .unset, .unset, .unset]
   obtain ⟨_, _, ⟨T198, L198, k198, n198⟩, -, X198, ⟨Lc198, hQ198, l198, y198, z198⟩, st198⟩ := Jvm.LawKit.callS X196 hx (y := mn30) hown (mvT hZ (own_w hw 222 rfl)) (mvT hZ (own_w hw 223 rfl)) (mvT hZ (own_w hw 224 rfl)) (mvT hZ (own_w hw 225 rfl)) (by decide) (backOf (W := 1) (rmLen6 l Z a0 hw [] ((s1.toInt64) + (1 : Int64)) T180.heap n0 (Nat.le_trans Z0 K180.1) ) hZ (own_w hw 225 rfl) (own_w hw 224 rfl) (by decide) (by decide)) (g := (mkF m 190 lc197 [(.long ((s1.toInt64) + (1 : Int64))), (.ref b25)])) rfl (by rw [hml]; rfl) (argsL := [(.long ((s1.toInt64) + (1 : Int64)))]) (rest := [(.ref b25)]) (lenOf pd__28J_29I rfl) rfl (by show 2 * 0 + _ ≤ _; exact Nat.le_of_eq rfl) (hb hby at_190) (fun _ _ => ⟨rfl, e196, (by decide : 15 + 0 ≤ _), (by decide : 210 + 0 ≤ _)⟩)
   dsimp only [Pt.U, Pt.locs, Pt.cells, Pt.slots] at y198 z198 st198 hQ198
   change Stand p l e _ s m _ below meth c T198 L198 k198 n198 at X198
   change L198 = _ ++ Lc198 at l198
   subst y198 z198
   obtain ⟨rfl, N198q, e198⟩ := hQ198
   have N198 : Fr n0 L198 := l198 ▸ Fr.app N196 N198q
   have f199 := (f184.keep K180q (ninS ne_b25_b87 (ninS ne_b25_po_93 (ninS ne_b25_ap_93 nin0))))
   have na201 := own_neVV t180_15 f199 (by decide)
   have na202 := own_neVV f195 f199 (by decide)
   have f203 := (f185.keep K180q)
   have f204 := (t154_12.keep K180q)
   have f205 := (f186.keep K180q (ninS ne_r_61_b87 (ninS ne_r_61_po_93 (ninS ne_r_61_ap_93 nin0))))
   have f206 := (t154_18.keep K180q (ninS (Ne.symm ne_b87_sh_93) (ninS (Ne.symm na126) (ninS (Ne.symm na125) nin0))))
   have f207 := (f187.keep K180q (ninS ne_wD_b87 (ninS ne_wD_po_93 (ninS ne_wD_ap_93 nin0))))
   have f208 := (f188.keep K180q)
   have f209 := (f189.keep K180q)
   have f210 := (f190.keep K180q)
   have f211 := (f191.keep K180q (ninS ne_we_b87 (ninS ne_we_po_93 (ninS ne_we_ap_93 nin0))))
   have f212 := (f192.keep K180q)
   have f213 := (f193.keep K180q)
   obtain ⟨_, _, ⟨T200, L200, k200, n200⟩, -, X200, ⟨Lc200, hQ200, l200, y200, z200⟩, st200⟩ := Jvm.LawKit.callS X198 hx (y := mn31) hown (mvT hZ (own_w hw 227 rfl)) (mvT hZ (own_w hw 228 rfl)) (mvT hZ (own_w hw 224 rfl)) (mvT hZ (own_w hw 229 rfl)) (by decide) (backOf (W := 0) (rmPut l Z a0 hw [] b25 (own_len6 ((s1.toInt64) + (1 : Int64))) k25 (8 : Int32) (0 : Int32) T180.heap n0 (Nat.le_trans Z0 K180.1) f199 g_b25) hZ (own_w hw 229 rfl) (own_w hw 224 rfl) (by decide) (by decide)) (g := (mkF m 193 lc197 [(.int (own_len6 ((s1.toInt64) + (1 : Int64)))), (.ref b25)])) rfl (by rw [hml]; rfl) (argsL := [(.ref b25), (.int (own_len6 ((s1.toInt64) + (1 : Int64))))]) (rest := []) (lenOf pd__28_5bII_29V rfl) rfl (by show 2 * 0 + _ ≤ _; exact Nat.le_of_eq rfl) (hb hby at_193) (fun _ _ => ⟨rfl, e198, (by decide : 15 + 0 ≤ _), (by decide : 210 + 0 ≤ _)⟩)
   dsimp only [Pt.U, Pt.locs, Pt.cells, Pt.slots] at y200 z200 st200 hQ200
   change Stand p l e _ s m _ below meth c T200 L200 k200 n200 at X200
   change L200 = _ ++ Lc200 at l200
   subst y200 z200
   obtain ⟨rfl, N200q, K200q, t200_0⟩ := hQ200
   have N200 : Fr n0 L200 := l200 ▸ Fr.app N198 N200q
   have K200 : Keep h0 T200.heap [] := K180.trans K200q (allS (P := fun xz => xz ∈ [] ∨ h0.size ≤ xz) (Or.inr sz_b25) all0)
   have f215 := (f203.keep K200q)
   have f216 := (t180_0.keep K200q)
   have f217 := (t180_12.keep K200q)
   have f218 := (f204.keep K200q)
   have f219 := (f205.keep K200q (ninS (Ne.symm ne_b25_r_61) nin0))
   have f220 := (t180_15.keep K200q (ninS na201 nin0))
   have f221 := (f195.keep K200q (ninS na202 nin0))
   have f222 := (f206.keep K200q (ninS (Ne.symm ne_b25_sh_93) nin0))
   have f223 := (f207.keep K200q (ninS ne_wD_b25 nin0))
   have f224 := (f208.keep K200q)
   have f225 := (f209.keep K200q)
   have f226 := (f210.keep K200q)
   have f227 := (f211.keep K200q (ninS ne_we_b25 nin0))
   have f228 := (f212.keep K200q)
   have f229 := (f213.keep K200q)
   obtain ⟨_, _, ⟨T214, L214, k214, n214⟩, -, X214, ⟨Lc214, hQ214, l214, y214, z214⟩, st214⟩ := Jvm.LawKit.callS X200 hx (y := mn31) hown (mvT hZ (own_w hw 227 rfl)) (mvT hZ (own_w hw 228 rfl)) (mvT hZ (own_w hw 224 rfl)) (mvT hZ (own_w hw 229 rfl)) (by decide) (backOf (W := 0) (rmPut l Z a0 hw [] b25 (1 : Int32) k25 (own_cap (8 : Int32) (0 : Int32)) ((0 : Int32) + (own_len6 ((s1.toInt64) + (1 : Int64)))) T200.heap n0 (Nat.le_trans Z0 K200.1) t200_0 g_b25) hZ (own_w hw 229 rfl) (own_w hw 224 rfl) (by decide) (by decide)) (g := (mkF m 199 lc197 [(.int 1), (.ref b25)])) rfl (by rw [hml]; rfl) (argsL := [(.ref b25), (.int 1)]) (rest := []) (lenOf pd__28_5bII_29V rfl) rfl (by show 2 * 0 + _ ≤ _; exact Nat.le_of_eq rfl) (hb hby at_199) (fun _ _ => ⟨rfl, rfl, (by decide : 15 + 0 ≤ _), (by decide : 210 + 0 ≤ _)⟩)
   dsimp only [Pt.U, Pt.locs, Pt.cells, Pt.slots] at y214 z214 st214 hQ214
   change Stand p l e _ s m _ below meth c T214 L214 k214 n214 at X214
   change L214 = _ ++ Lc214 at l214
   subst y214 z214
   obtain ⟨rfl, N214q, K214q, t214_0⟩ := hQ214
   have N214 : Fr n0 L214 := l214 ▸ Fr.app N200 N214q
   have K214 : Keep h0 T214.heap [] := K200.trans K214q (allS (P := fun xz => xz ∈ [] ∨ h0.size ≤ xz) (Or.inr sz_b25) all0)
   have f231 := (f215.keep K214q)
   have f232 := (f216.keep K214q)
   have f233 := (f217.keep K214q)
   have f234 := (f218.keep K214q)
   have f235 := (f219.keep K214q (ninS (Ne.symm ne_b25_r_61) nin0))
   have f236 := (f220.keep K214q (ninS na201 nin0))
   have f237 := (f221.keep K214q (ninS na202 nin0))
   have f238 := (f222.keep K214q (ninS (Ne.symm ne_b25_sh_93) nin0))
   have f239 := (f223.keep K214q (ninS ne_wD_b25 nin0))
   have f240 := (f224.keep K214q)
   have f241 := (f225.keep K214q)
   have f242 := (f226.keep K214q)
   have f243 := (f227.keep K214q (ninS ne_we_b25 nin0))
   have f244 := (f228.keep K214q)
   have f245 := (f229.keep K214q)
   obtain ⟨_, _, ⟨T230, L230, k230, n230⟩, -, X230, ⟨Lc230, hQ230, l230, y230, z230⟩, st230⟩ := Jvm.LawKit.callS X214 hx (y := mn31) hown (mvT hZ (own_w hw 227 rfl)) (mvT hZ (own_w hw 228 rfl)) (mvT hZ (own_w hw 224 rfl)) (mvT hZ (own_w hw 229 rfl)) (by decide) (backOf (W := 0) (rmPut l Z a0 hw [] b25 (1 : Int32) k25 (own_cap (own_cap (8 : Int32) (0 : Int32)) ((0 : Int32) + (own_len6 ((s1.toInt64) + (1 : Int64))))) (((0 : Int32) + (own_len6 ((s1.toInt64) + (1 : Int64)))) + (1 : Int32)) T214.heap n0 (Nat.le_trans Z0 K214.1) t214_0 g_b25) hZ (own_w hw 229 rfl) (own_w hw 224 rfl) (by decide) (by decide)) (g := (mkF m 205 lc197 [(.int 1), (.ref b25)])) rfl (by rw [hml]; rfl) (argsL := [(.ref b25), (.int 1)]) (rest := []) (lenOf pd__28_5bII_29V rfl) rfl (by show 2 * 0 + _ ≤ _; exact Nat.le_of_eq rfl) (hb hby at_205) (fun _ _ => ⟨rfl, rfl, (by decide : 15 + 0 ≤ _), (by decide : 210 + 0 ≤ _)⟩)
   dsimp only [Pt.U, Pt.locs, Pt.cells, Pt.slots] at y230 z230 st230 hQ230
   change Stand p l e _ s m _ below meth c T230 L230 k230 n230 at X230
   change L230 = _ ++ Lc230 at l230
   subst y230 z230
   obtain ⟨rfl, N230q, K230q, t230_0⟩ := hQ230
   have N230 : Fr n0 L230 := l230 ▸ Fr.app N214 N230q
   have K230 : Keep h0 T230.heap [] := K214.trans K230q (allS (P := fun xz => xz ∈ [] ∨ h0.size ≤ xz) (Or.inr sz_b25) all0)
   have f247 := (f231.keep K230q)
   have f248 := (f232.keep K230q)
   have f249 := (f233.keep K230q)
   have f250 := (f234.keep K230q)
   have f251 := (f235.keep K230q (ninS (Ne.symm ne_b25_r_61) nin0))
   have f252 := (f236.keep K230q (ninS na201 nin0))
   have f253 := (f237.keep K230q (ninS na202 nin0))
   have f254 := (f238.keep K230q (ninS (Ne.symm ne_b25_sh_93) nin0))
   have f255 := (f239.keep K230q (ninS ne_wD_b25 nin0))
   have f256 := (f240.keep K230q)
   have f257 := (f241.keep K230q)
   have f258 := (f242.keep K230q)
   have f259 := (f243.keep K230q (ninS ne_we_b25 nin0))
   have f260 := (f244.keep K230q)
   have f261 := (f245.keep K230q)
   obtain ⟨_, _, ⟨T246, L246, k246, n246⟩, -, X246, ⟨Lc246, hQ246, l246, y246, z246⟩, st246⟩ := Jvm.LawKit.callS X230 hx (y := mn31) hown (mvT hZ (own_w hw 227 rfl)) (mvT hZ (own_w hw 228 rfl)) (mvT hZ (own_w hw 224 rfl)) (mvT hZ (own_w hw 229 rfl)) (by decide) (backOf (W := 0) (rmPut l Z a0 hw [] b25 (1 : Int32) k25 (own_cap (own_cap (own_cap (8 : Int32) (0 : Int32)) ((0 : Int32) + (own_len6 ((s1.toInt64) + (1 : Int64))))) (((0 : Int32) + (own_len6 ((s1.toInt64) + (1 : Int64)))) + (1 : Int32))) ((((0 : Int32) + (own_len6 ((s1.toInt64) + (1 : Int64)))) + (1 : Int32)) + (1 : Int32)) T230.heap n0 (Nat.le_trans Z0 K230.1) t230_0 g_b25) hZ (own_w hw 229 rfl) (own_w hw 224 rfl) (by decide) (by decide)) (g := (mkF m 211 lc197 [(.int 1), (.ref b25)])) rfl (by rw [hml]; rfl) (argsL := [(.ref b25), (.int 1)]) (rest := []) (lenOf pd__28_5bII_29V rfl) rfl (by show 2 * 0 + _ ≤ _; exact Nat.le_of_eq rfl) (hb hby at_211) (fun _ _ => ⟨rfl, rfl, (by decide : 15 + 0 ≤ _), (by decide : 210 + 0 ≤ _)⟩)
   dsimp only [Pt.U, Pt.locs, Pt.cells, Pt.slots] at y246 z246 st246 hQ246
   change Stand p l e _ s m _ below meth c T246 L246 k246 n246 at X246
   change L246 = _ ++ Lc246 at l246
   subst y246 z246
   obtain ⟨rfl, N246q, K246q, t246_0⟩ := hQ246
   have N246 : Fr n0 L246 := l246 ▸ Fr.app N230 N246q
   have K246 : Keep h0 T246.heap [] := K230.trans K246q (allS (P := fun xz => xz ∈ [] ∨ h0.size ≤ xz) (Or.inr sz_b25) all0)
   have Vp4 := t246_0
   rw [hc4, hz4] at Vp4
   obtain ⟨c262, Ac262, qc262, Sc262, Nc262, Hc262, Gc262⟩ := id Vp4
   have hinc262 := inb_of Sc262 (j := (0 : Int32)) ⟨by decide, by decide⟩
   let lc263 : Array Slot := #[.val (.int p1), .val (.int p2), .val (.int p3), .val (.int p4), .val (.int p5), .val (.int d1), .val (.int s1), .val (.int s2), .val (.int nd), .val (.int d2), .val (.int b1), .val (.int b2), .val (.ref b25), .val (.ref b43), .val (.ref b87), .val (.long ((((192 : Int32) + (8 : Int32)) + (8 : Int32)).toInt64)), .second, .val (.long ((((192 : Int32) + (8 : Int32)) + c4).toInt64)), .second, .val (.long ((((192 : Int32) + (8 : Int32)) + (own_cap (own_cap (own_cap (own_cap c4 z4) (z4 + (own_len6 ((s2.toInt64) - (s1.toInt64))))) ((z4 + (own_len6 ((s2.toInt64) - (s1.toInt64)))) + (1 : Int32))) (((z4 + (own_len6 ((s2.toInt64) - (s1.toInt64)))) + (1 : Int32)) + (1 : Int32)))).toInt64)), .second, .val (.long ((((192 : Int32) + (16 : Int32)) + (own_cap (own_cap (own_cap (own_cap c4 z4) (z4 + (own_len6 ((s2.toInt64) - (s1.toInt64))))) ((z4 + (own_len6 ((s2.toInt64) - (s1.toInt64)))) + (1 : Int32))) (((z4 + (own_len6 ((s2.toInt64) - (s1.toInt64)))) + (1 : Int32)) + (1 : Int32)))).toInt64)), .second, .val (.long (c4.toInt64)), .second, .unset, .unset, .unset, .unset, .unset, .unset]
   have pre264 : ∀ t, Steps p.tables e below (T246.setTop (mkF m 240 lc263 [(.long (s1.toInt64)), (.long (s2.toInt64))])) t → Steps p.tables e below (s₁.setTop (entryFrame m #[(.int p1), (.int p2), (.int p3), (.int p4), (.int p5)] maxLocals)) t := fun t kt => by
    refine pre138 t ?_
    show oS T136 (mkF m 161 lc137 [(.ref b43), (.int b2), (.int s2), (.int d2), (.ref b87)])
    refine st154.trans ?_
    show oS T154 (mkF m 164 lc137 [])
    refine XS.aload X154.here hx rfl (hb hby at_164) rfl rfl ?_
    show oS T154 (mkF m 166 lc137 [(.ref b87)])
    refine st176.trans ?_
    show oS T176 (mkF m 169 lc137 [(.long ((((192 : Int32) + (8 : Int32)) + (own_cap (own_cap (own_cap (own_cap c4 z4) (z4 + (own_len6 ((s2.toInt64) - (s1.toInt64))))) ((z4 + (own_len6 ((s2.toInt64) - (s1.toInt64)))) + (1 : Int32))) (((z4 + (own_len6 ((s2.toInt64) - (s1.toInt64)))) + (1 : Int32)) + (1 : Int32)))).toInt64))])
    refine XS.lstore X176.here hx rfl (hb hby at_169) rfl (l' := lc177) rfl ?_
    show oS T176 (mkF m 171 lc177 [])
    refine XS.aload X176.here hx rfl (hb hby at_171) rfl rfl ?_
    show oS T176 (mkF m 173 lc177 [(.ref b87)])
    refine st180.trans ?_
    show oS T180 (mkF m 176 lc177 [])
    refine XS.aload X180.here hx rfl (hb hby at_176) rfl rfl ?_
    show oS T180 (mkF m 178 lc177 [(.ref b87)])
    refine st196.trans ?_
    show oS T196 (mkF m 181 lc177 [(.long ((((192 : Int32) + (16 : Int32)) + (own_cap (own_cap (own_cap (own_cap c4 z4) (z4 + (own_len6 ((s2.toInt64) - (s1.toInt64))))) ((z4 + (own_len6 ((s2.toInt64) - (s1.toInt64)))) + (1 : Int32))) (((z4 + (own_len6 ((s2.toInt64) - (s1.toInt64)))) + (1 : Int32)) + (1 : Int32)))).toInt64))])
    refine XS.lstore X196.here hx rfl (hb hby at_181) rfl (l' := lc197) rfl ?_
    show oS T196 (mkF m 183 lc197 [])
    refine XS.aload X196.here hx rfl (hb hby at_183) rfl rfl ?_
    show oS T196 (mkF m 185 lc197 [(.ref b25)])
    refine XS.iload X196.here hx rfl (hb hby at_185) rfl ?_
    show oS T196 (mkF m 187 lc197 [(.int s1), (.ref b25)])
    refine XS.i2l X196.here hx rfl (hb hby at_187) rfl ?_
    show oS T196 (mkF m 188 lc197 [(.long (s1.toInt64)), (.ref b25)])
    refine XS.lconst X196.here hx rfl (hb hby at_188) ?_
    show oS T196 (mkF m 189 lc197 [(.long 1), (.long (s1.toInt64)), (.ref b25)])
    refine XS.ladd X196.here hx rfl (hb hby at_189) rfl ?_
    show oS T196 (mkF m 190 lc197 [(.long ((s1.toInt64) + (1 : Int64))), (.ref b25)])
    refine st198 _ ?_
    show oS T198 (mkF m 193 lc197 [(.int (own_len6 ((s1.toInt64) + (1 : Int64)))), (.ref b25)])
    refine st200 _ ?_
    show oS T200 (mkF m 196 lc197 [])
    refine XS.aload X200.here hx rfl (hb hby at_196) rfl rfl ?_
    show oS T200 (mkF m 198 lc197 [(.ref b25)])
    refine XS.iconst X200.here hx rfl (hb hby at_198) ?_
    show oS T200 (mkF m 199 lc197 [(.int 1), (.ref b25)])
    refine st214 _ ?_
    show oS T214 (mkF m 202 lc197 [])
    refine XS.aload X214.here hx rfl (hb hby at_202) rfl rfl ?_
    show oS T214 (mkF m 204 lc197 [(.ref b25)])
    refine XS.iconst X214.here hx rfl (hb hby at_204) ?_
    show oS T214 (mkF m 205 lc197 [(.int 1), (.ref b25)])
    refine st230 _ ?_
    show oS T230 (mkF m 208 lc197 [])
    refine XS.aload X230.here hx rfl (hb hby at_208) rfl rfl ?_
    show oS T230 (mkF m 210 lc197 [(.ref b25)])
    refine XS.iconst X230.here hx rfl (hb hby at_210) ?_
    show oS T230 (mkF m 211 lc197 [(.int 1), (.ref b25)])
    refine st246 _ ?_
    show oS T246 (mkF m 214 lc197 [])
    refine XS.aload X246.here hx rfl (hb hby at_214) rfl rfl ?_
    show oS T246 (mkF m 216 lc197 [(.ref b25)])
    refine XS.iconst X246.here hx rfl (hb hby at_216) ?_
    show oS T246 (mkF m 217 lc197 [(.int 0), (.ref b25)])
    refine X246.iaload hx (j := (0 : Int32)) (v := (.int c4)) Ac262.1 (State.isArrayOf_alike hZ.alike Ac262.2.1) Ac262.2.2 hinc262 (Has.at Hc262 hinc262 rfl) (g := (mkF m 217 lc197 [(.int 0), (.ref b25)])) rfl rfl (hb hby at_217) _ ?_
    show oS T246 (mkF m 218 lc197 [(.int c4)])
    refine XS.i2l X246.here hx rfl (hb hby at_218) rfl ?_
    show oS T246 (mkF m 219 lc197 [(.long (c4.toInt64))])
    refine XS.lstore X246.here hx rfl (hb hby at_219) rfl (l' := lc263) rfl ?_
    show oS T246 (mkF m 221 lc263 [])
    refine XS.iload X246.here hx rfl (hb hby at_221) rfl ?_
    show oS T246 (mkF m 223 lc263 [(.int nd)])
    refine XS.ifYes X246.here hx rfl (pc0 := 223) (pc' := 234) rfl (hb hby at_223) rfl ((if0 _ _).trans (teq hN).1) (by decide) (by decide) ?_
    show oS T246 (mkF m 234 lc263 [])
    refine XS.iload X246.here hx rfl (hb hby at_234) rfl ?_
    show oS T246 (mkF m 236 lc263 [(.int s2)])
    refine XS.i2l X246.here hx rfl (hb hby at_236) rfl ?_
    show oS T246 (mkF m 237 lc263 [(.long (s2.toInt64))])
    refine XS.iload X246.here hx rfl (hb hby at_237) rfl ?_
    show oS T246 (mkF m 239 lc263 [(.int s1), (.long (s2.toInt64))])
    refine XS.i2l X246.here hx rfl (hb hby at_239) rfl ?_
    exact kt
   let lc265 : Array Slot := #[.val (.int p1), .val (.int p2), .val (.int p3), .val (.int p4), .val (.int p5), .val (.int d1), .val (.int s1), .val (.int s2), .val (.int nd), .val (.int d2), .val (.int b1), .val (.int b2), .val (.ref b25), .val (.ref b43), .val (.ref b87), .val (.long ((((192 : Int32) + (8 : Int32)) + (8 : Int32)).toInt64)), .second, .val (.long ((((192 : Int32) + (8 : Int32)) + c4).toInt64)), .second, .val (.long ((((192 : Int32) + (8 : Int32)) + (own_cap (own_cap (own_cap (own_cap c4 z4) (z4 + (own_len6 ((s2.toInt64) - (s1.toInt64))))) ((z4 + (own_len6 ((s2.toInt64) - (s1.toInt64)))) + (1 : Int32))) (((z4 + (own_len6 ((s2.toInt64) - (s1.toInt64)))) + (1 : Int32)) + (1 : Int32)))).toInt64)), .second, .val (.long ((((192 : Int32) + (16 : Int32)) + (own_cap (own_cap (own_cap (own_cap c4 z4) (z4 + (own_len6 ((s2.toInt64) - (s1.toInt64))))) ((z4 + (own_len6 ((s2.toInt64) - (s1.toInt64)))) + (1 : Int32))) (((z4 + (own_len6 ((s2.toInt64) - (s1.toInt64)))) + (1 : Int32)) + (1 : Int32)))).toInt64)), .second, .val (.long (c4.toInt64)), .second, .val (.long ((s2.toInt64) - (s1.toInt64))), .second, .unset, .unset, .unset, .unset]
   obtain ⟨_, _, ⟨T266, L266, k266, n266⟩, -, X266, ⟨Lc266, hQ266, l266, y266, z266⟩, st266⟩ := Jvm.LawKit.callS X246 hx (y := mn30) hown (mvT hZ (own_w hw 222 rfl)) (mvT hZ (own_w hw 223 rfl)) (mvT hZ (own_w hw 224 rfl)) (mvT hZ (own_w hw 225 rfl)) (by decide) (backOf (W := 1) (rmLen6 l Z a0 hw [] ((s2.toInt64) - (s1.toInt64)) T246.heap n0 (Nat.le_trans Z0 K246.1) ) hZ (own_w hw 225 rfl) (own_w hw 224 rfl) (by decide) (by decide)) (g := (mkF m 247 lc265 [(.long ((s2.toInt64) - (s1.toInt64))), (.ref b25)])) rfl (by rw [hml]; rfl) (argsL := [(.long ((s2.toInt64) - (s1.toInt64)))]) (rest := [(.ref b25)]) (lenOf pd__28J_29I rfl) rfl (by show 2 * 0 + _ ≤ _; exact Nat.le_of_eq rfl) (hb hby at_247) (fun _ _ => ⟨rfl, rfl, (by decide : 15 + 0 ≤ _), (by decide : 210 + 0 ≤ _)⟩)
   dsimp only [Pt.U, Pt.locs, Pt.cells, Pt.slots] at y266 z266 st266 hQ266
   change Stand p l e _ s m _ below meth c T266 L266 k266 n266 at X266
   change L266 = _ ++ Lc266 at l266
   subst y266 z266
   obtain ⟨rfl, N266q, e266⟩ := hQ266
   have N266 : Fr n0 L266 := l266 ▸ Fr.app N246 N266q
   have f268 := (f247.keep K246q)
   have f269 := (f248.keep K246q)
   have f270 := (f249.keep K246q)
   have f271 := (f250.keep K246q)
   have f272 := (f251.keep K246q (ninS (Ne.symm ne_b25_r_61) nin0))
   have f273 := (f252.keep K246q (ninS na201 nin0))
   have f274 := (f253.keep K246q (ninS na202 nin0))
   have f275 := (f254.keep K246q (ninS (Ne.symm ne_b25_sh_93) nin0))
   have f276 := (f255.keep K246q (ninS ne_wD_b25 nin0))
   have f277 := (f256.keep K246q)
   have f278 := (f257.keep K246q)
   have f279 := (f258.keep K246q)
   have f280 := (f259.keep K246q (ninS ne_we_b25 nin0))
   have f281 := (f260.keep K246q)
   have f282 := (f261.keep K246q)
   obtain ⟨_, _, ⟨T267, L267, k267, n267⟩, -, X267, ⟨Lc267, hQ267, l267, y267, z267⟩, st267⟩ := Jvm.LawKit.callS X266 hx (y := mn31) hown (mvT hZ (own_w hw 227 rfl)) (mvT hZ (own_w hw 228 rfl)) (mvT hZ (own_w hw 224 rfl)) (mvT hZ (own_w hw 229 rfl)) (by decide) (backOf (W := 0) (rmPut l Z a0 hw [] b25 (own_len6 ((s2.toInt64) - (s1.toInt64))) k25 c4 z4 T246.heap n0 (Nat.le_trans Z0 K246.1) Vp4 g_b25) hZ (own_w hw 229 rfl) (own_w hw 224 rfl) (by decide) (by decide)) (g := (mkF m 250 lc265 [(.int (own_len6 ((s2.toInt64) - (s1.toInt64)))), (.ref b25)])) rfl (by rw [hml]; rfl) (argsL := [(.ref b25), (.int (own_len6 ((s2.toInt64) - (s1.toInt64))))]) (rest := []) (lenOf pd__28_5bII_29V rfl) rfl (by show 2 * 0 + _ ≤ _; exact Nat.le_of_eq rfl) (hb hby at_250) (fun _ _ => ⟨rfl, e266, (by decide : 15 + 0 ≤ _), (by decide : 210 + 0 ≤ _)⟩)
   dsimp only [Pt.U, Pt.locs, Pt.cells, Pt.slots] at y267 z267 st267 hQ267
   change Stand p l e _ s m _ below meth c T267 L267 k267 n267 at X267
   change L267 = _ ++ Lc267 at l267
   subst y267 z267
   obtain ⟨rfl, N267q, K267q, t267_0⟩ := hQ267
   have N267 : Fr n0 L267 := l267 ▸ Fr.app N266 N267q
   have K267 : Keep h0 T267.heap [] := K246.trans K267q (allS (P := fun xz => xz ∈ [] ∨ h0.size ≤ xz) (Or.inr sz_b25) all0)
   have f284 := (f268.keep K267q)
   have f285 := (f269.keep K267q)
   have f286 := (f270.keep K267q)
   have f287 := (f271.keep K267q)
   have f288 := (f272.keep K267q (ninS (Ne.symm ne_b25_r_61) nin0))
   have f289 := (f273.keep K267q (ninS na201 nin0))
   have f290 := (f274.keep K267q (ninS na202 nin0))
   have f291 := (f275.keep K267q (ninS (Ne.symm ne_b25_sh_93) nin0))
   have f292 := (f276.keep K267q (ninS ne_wD_b25 nin0))
   have f293 := (f277.keep K267q)
   have f294 := (f278.keep K267q)
   have f295 := (f279.keep K267q)
   have f296 := (f280.keep K267q (ninS ne_we_b25 nin0))
   have f297 := (f281.keep K267q)
   have f298 := (f282.keep K267q)
   obtain ⟨_, _, ⟨T283, L283, k283, n283⟩, -, X283, ⟨Lc283, hQ283, l283, y283, z283⟩, st283⟩ := Jvm.LawKit.callS X267 hx (y := mn31) hown (mvT hZ (own_w hw 227 rfl)) (mvT hZ (own_w hw 228 rfl)) (mvT hZ (own_w hw 224 rfl)) (mvT hZ (own_w hw 229 rfl)) (by decide) (backOf (W := 0) (rmPut l Z a0 hw [] b25 (1 : Int32) k25 (own_cap c4 z4) (z4 + (own_len6 ((s2.toInt64) - (s1.toInt64)))) T267.heap n0 (Nat.le_trans Z0 K267.1) t267_0 g_b25) hZ (own_w hw 229 rfl) (own_w hw 224 rfl) (by decide) (by decide)) (g := (mkF m 263 lc265 [(.int 1), (.ref b25)])) rfl (by rw [hml]; rfl) (argsL := [(.ref b25), (.int 1)]) (rest := []) (lenOf pd__28_5bII_29V rfl) rfl (by show 2 * 0 + _ ≤ _; exact Nat.le_of_eq rfl) (hb hby at_263) (fun _ _ => ⟨rfl, rfl, (by decide : 15 + 0 ≤ _), (by decide : 210 + 0 ≤ _)⟩)
   dsimp only [Pt.U, Pt.locs, Pt.cells, Pt.slots] at y283 z283 st283 hQ283
   change Stand p l e _ s m _ below meth c T283 L283 k283 n283 at X283
   change L283 = _ ++ Lc283 at l283
   subst y283 z283
   obtain ⟨rfl, N283q, K283q, t283_0⟩ := hQ283
   have N283 : Fr n0 L283 := l283 ▸ Fr.app N267 N283q
   have K283 : Keep h0 T283.heap [] := K267.trans K283q (allS (P := fun xz => xz ∈ [] ∨ h0.size ≤ xz) (Or.inr sz_b25) all0)
   have f300 := (f284.keep K283q)
   have f301 := (f285.keep K283q)
   have f302 := (f286.keep K283q)
   have f303 := (f287.keep K283q)
   have f304 := (f288.keep K283q (ninS (Ne.symm ne_b25_r_61) nin0))
   have f305 := (f289.keep K283q (ninS na201 nin0))
   have f306 := (f290.keep K283q (ninS na202 nin0))
   have f307 := (f291.keep K283q (ninS (Ne.symm ne_b25_sh_93) nin0))
   have f308 := (f292.keep K283q (ninS ne_wD_b25 nin0))
   have f309 := (f293.keep K283q)
   have f310 := (f294.keep K283q)
   have f311 := (f295.keep K283q)
   have f312 := (f296.keep K283q (ninS ne_we_b25 nin0))
   have f313 := (f297.keep K283q)
   have f314 := (f298.keep K283q)
   obtain ⟨_, _, ⟨T299, L299, k299, n299⟩, -, X299, ⟨Lc299, hQ299, l299, y299, z299⟩, st299⟩ := Jvm.LawKit.callS X283 hx (y := mn31) hown (mvT hZ (own_w hw 227 rfl)) (mvT hZ (own_w hw 228 rfl)) (mvT hZ (own_w hw 224 rfl)) (mvT hZ (own_w hw 229 rfl)) (by decide) (backOf (W := 0) (rmPut l Z a0 hw [] b25 (1 : Int32) k25 (own_cap (own_cap c4 z4) (z4 + (own_len6 ((s2.toInt64) - (s1.toInt64))))) ((z4 + (own_len6 ((s2.toInt64) - (s1.toInt64)))) + (1 : Int32)) T283.heap n0 (Nat.le_trans Z0 K283.1) t283_0 g_b25) hZ (own_w hw 229 rfl) (own_w hw 224 rfl) (by decide) (by decide)) (g := (mkF m 269 lc265 [(.int 1), (.ref b25)])) rfl (by rw [hml]; rfl) (argsL := [(.ref b25), (.int 1)]) (rest := []) (lenOf pd__28_5bII_29V rfl) rfl (by show 2 * 0 + _ ≤ _; exact Nat.le_of_eq rfl) (hb hby at_269) (fun _ _ => ⟨rfl, rfl, (by decide : 15 + 0 ≤ _), (by decide : 210 + 0 ≤ _)⟩)
   dsimp only [Pt.U, Pt.locs, Pt.cells, Pt.slots] at y299 z299 st299 hQ299
   change Stand p l e _ s m _ below meth c T299 L299 k299 n299 at X299
   change L299 = _ ++ Lc299 at l299
   subst y299 z299
   obtain ⟨rfl, N299q, K299q, t299_0⟩ := hQ299
   have N299 : Fr n0 L299 := l299 ▸ Fr.app N283 N299q
   have K299 : Keep h0 T299.heap [] := K283.trans K299q (allS (P := fun xz => xz ∈ [] ∨ h0.size ≤ xz) (Or.inr sz_b25) all0)
   have f316 := (f300.keep K299q)
   have f317 := (f301.keep K299q)
   have f318 := (f302.keep K299q)
   have f319 := (f303.keep K299q)
   have f320 := (f304.keep K299q (ninS (Ne.symm ne_b25_r_61) nin0))
   have f321 := (f305.keep K299q (ninS na201 nin0))
   have f322 := (f306.keep K299q (ninS na202 nin0))
   have f323 := (f307.keep K299q (ninS (Ne.symm ne_b25_sh_93) nin0))
   have f324 := (f308.keep K299q (ninS ne_wD_b25 nin0))
   have f325 := (f309.keep K299q)
   have f326 := (f310.keep K299q)
   have f327 := (f311.keep K299q)
   have f328 := (f312.keep K299q (ninS ne_we_b25 nin0))
   have f329 := (f313.keep K299q)
   have f330 := (f314.keep K299q)
   obtain ⟨_, _, ⟨T315, L315, k315, n315⟩, -, X315, ⟨Lc315, hQ315, l315, y315, z315⟩, st315⟩ := Jvm.LawKit.callS X299 hx (y := mn31) hown (mvT hZ (own_w hw 227 rfl)) (mvT hZ (own_w hw 228 rfl)) (mvT hZ (own_w hw 224 rfl)) (mvT hZ (own_w hw 229 rfl)) (by decide) (backOf (W := 0) (rmPut l Z a0 hw [] b25 (1 : Int32) k25 (own_cap (own_cap (own_cap c4 z4) (z4 + (own_len6 ((s2.toInt64) - (s1.toInt64))))) ((z4 + (own_len6 ((s2.toInt64) - (s1.toInt64)))) + (1 : Int32))) (((z4 + (own_len6 ((s2.toInt64) - (s1.toInt64)))) + (1 : Int32)) + (1 : Int32)) T299.heap n0 (Nat.le_trans Z0 K299.1) t299_0 g_b25) hZ (own_w hw 229 rfl) (own_w hw 224 rfl) (by decide) (by decide)) (g := (mkF m 275 lc265 [(.int 1), (.ref b25)])) rfl (by rw [hml]; rfl) (argsL := [(.ref b25), (.int 1)]) (rest := []) (lenOf pd__28_5bII_29V rfl) rfl (by show 2 * 0 + _ ≤ _; exact Nat.le_of_eq rfl) (hb hby at_275) (fun _ _ => ⟨rfl, rfl, (by decide : 15 + 0 ≤ _), (by decide : 210 + 0 ≤ _)⟩)
   dsimp only [Pt.U, Pt.locs, Pt.cells, Pt.slots] at y315 z315 st315 hQ315
   change Stand p l e _ s m _ below meth c T315 L315 k315 n315 at X315
   change L315 = _ ++ Lc315 at l315
   subst y315 z315
   obtain ⟨rfl, N315q, K315q, t315_0⟩ := hQ315
   have N315 : Fr n0 L315 := l315 ▸ Fr.app N299 N315q
   have K315 : Keep h0 T315.heap [] := K299.trans K315q (allS (P := fun xz => xz ∈ [] ∨ h0.size ≤ xz) (Or.inr sz_b25) all0)
   obtain ⟨c331, Ac331, qc331, Sc331, Nc331, Hc331, Gc331⟩ := id t315_0
   have hinc331 := inb_of Sc331 (j := (0 : Int32)) ⟨by decide, by decide⟩
   let lc332 : Array Slot := #[.val (.int p1), .val (.int p2), .val (.int p3), .val (.int p4), .val (.int p5), .val (.int d1), .val (.int s1), .val (.int s2), .val (.int nd), .val (.int d2), .val (.int b1), .val (.int b2), .val (.ref b25), .val (.ref b43), .val (.ref b87), .val (.long ((((192 : Int32) + (8 : Int32)) + (8 : Int32)).toInt64)), .second, .val (.long ((((192 : Int32) + (8 : Int32)) + c4).toInt64)), .second, .val (.long ((((192 : Int32) + (8 : Int32)) + (own_cap (own_cap (own_cap (own_cap c4 z4) (z4 + (own_len6 ((s2.toInt64) - (s1.toInt64))))) ((z4 + (own_len6 ((s2.toInt64) - (s1.toInt64)))) + (1 : Int32))) (((z4 + (own_len6 ((s2.toInt64) - (s1.toInt64)))) + (1 : Int32)) + (1 : Int32)))).toInt64)), .second, .val (.long ((((192 : Int32) + (16 : Int32)) + (own_cap (own_cap (own_cap (own_cap c4 z4) (z4 + (own_len6 ((s2.toInt64) - (s1.toInt64))))) ((z4 + (own_len6 ((s2.toInt64) - (s1.toInt64)))) + (1 : Int32))) (((z4 + (own_len6 ((s2.toInt64) - (s1.toInt64)))) + (1 : Int32)) + (1 : Int32)))).toInt64)), .second, .val (.long (c4.toInt64)), .second, .val (.long ((s2.toInt64) - (s1.toInt64))), .second, .val (.long ((own_cap (own_cap (own_cap (own_cap c4 z4) (z4 + (own_len6 ((s2.toInt64) - (s1.toInt64))))) ((z4 + (own_len6 ((s2.toInt64) - (s1.toInt64)))) + (1 : Int32))) (((z4 + (own_len6 ((s2.toInt64) - (s1.toInt64)))) + (1 : Int32)) + (1 : Int32))).toInt64)), .second, .unset, .unset]
   let lc333 : Array Slot := #[.val (.int p1), .val (.int p2), .val (.int p3), .val (.int p4), .val (.int p5), .val (.int d1), .val (.int s1), .val (.int s2), .val (.int nd), .val (.int d2), .val (.int b1), .val (.int b2), .val (.ref b25), .val (.ref b43), .val (.ref b87), .val (.long ((((192 : Int32) + (8 : Int32)) + (8 : Int32)).toInt64)), .second, .val (.long ((((192 : Int32) + (8 : Int32)) + c4).toInt64)), .second, .val (.long ((((192 : Int32) + (8 : Int32)) + (own_cap (own_cap (own_cap (own_cap c4 z4) (z4 + (own_len6 ((s2.toInt64) - (s1.toInt64))))) ((z4 + (own_len6 ((s2.toInt64) - (s1.toInt64)))) + (1 : Int32))) (((z4 + (own_len6 ((s2.toInt64) - (s1.toInt64)))) + (1 : Int32)) + (1 : Int32)))).toInt64)), .second, .val (.long ((((192 : Int32) + (16 : Int32)) + (own_cap (own_cap (own_cap (own_cap c4 z4) (z4 + (own_len6 ((s2.toInt64) - (s1.toInt64))))) ((z4 + (own_len6 ((s2.toInt64) - (s1.toInt64)))) + (1 : Int32))) (((z4 + (own_len6 ((s2.toInt64) - (s1.toInt64)))) + (1 : Int32)) + (1 : Int32)))).toInt64)), .second, .val (.long (c4.toInt64)), .second, .val (.long ((s2.toInt64) - (s1.toInt64))), .second, .val (.long ((own_cap (own_cap (own_cap (own_cap c4 z4) (z4 + (own_len6 ((s2.toInt64) - (s1.toInt64))))) ((z4 + (own_len6 ((s2.toInt64) - (s1.toInt64)))) + (1 : Int32))) (((z4 + (own_len6 ((s2.toInt64) - (s1.toInt64)))) + (1 : Int32)) + (1 : Int32))).toInt64)), .second, .val (.long 8), .second]
   have hn8 := t154_20
   have pre334 : ∀ t, Steps p.tables e below (T315.setTop (mkF m 318 lc333 [(.long ((200 : Int64) + (c4.toInt64))), (.long ((((192 : Int32) + (8 : Int32)) + c4).toInt64))])) t → Steps p.tables e below (s₁.setTop (entryFrame m #[(.int p1), (.int p2), (.int p3), (.int p4), (.int p5)] maxLocals)) t := fun t kt => by
    refine pre264 t ?_
    show oS T246 (mkF m 240 lc263 [(.long (s1.toInt64)), (.long (s2.toInt64))])
    refine XS.lsub X246.here hx rfl (hb hby at_240) rfl ?_
    show oS T246 (mkF m 241 lc263 [(.long ((s2.toInt64) - (s1.toInt64)))])
    refine XS.lstore X246.here hx rfl (hb hby at_241) rfl (l' := lc265) rfl ?_
    show oS T246 (mkF m 243 lc265 [])
    refine XS.aload X246.here hx rfl (hb hby at_243) rfl rfl ?_
    show oS T246 (mkF m 245 lc265 [(.ref b25)])
    refine XS.lload X246.here hx rfl (hb hby at_245) rfl ?_
    show oS T246 (mkF m 247 lc265 [(.long ((s2.toInt64) - (s1.toInt64))), (.ref b25)])
    refine st266 _ ?_
    show oS T266 (mkF m 250 lc265 [(.int (own_len6 ((s2.toInt64) - (s1.toInt64)))), (.ref b25)])
    refine st267 _ ?_
    show oS T267 (mkF m 253 lc265 [])
    refine XS.lload X267.here hx rfl (hb hby at_253) rfl ?_
    show oS T267 (mkF m 255 lc265 [(.long ((s2.toInt64) - (s1.toInt64)))])
    refine XS.lconst X267.here hx rfl (hb hby at_255) ?_
    show oS T267 (mkF m 256 lc265 [(.long 0), (.long ((s2.toInt64) - (s1.toInt64)))])
    refine XS.lcmp X267.here hx rfl (hb hby at_256) rfl ?_
    show oS T267 (mkF m 257 lc265 [(.int (lcmpW ((s2.toInt64) - (s1.toInt64)) (0 : Int64)))])
    refine XS.ifNo X267.here hx rfl (hb hby at_257) rfl (own_lleF hgl) ?_
    show oS T267 (mkF m 260 lc265 [])
    refine XS.aload X267.here hx rfl (hb hby at_260) rfl rfl ?_
    show oS T267 (mkF m 262 lc265 [(.ref b25)])
    refine XS.iconst X267.here hx rfl (hb hby at_262) ?_
    show oS T267 (mkF m 263 lc265 [(.int 1), (.ref b25)])
    refine st283 _ ?_
    show oS T283 (mkF m 266 lc265 [])
    refine XS.aload X283.here hx rfl (hb hby at_266) rfl rfl ?_
    show oS T283 (mkF m 268 lc265 [(.ref b25)])
    refine XS.iconst X283.here hx rfl (hb hby at_268) ?_
    show oS T283 (mkF m 269 lc265 [(.int 1), (.ref b25)])
    refine st299 _ ?_
    show oS T299 (mkF m 272 lc265 [])
    refine XS.aload X299.here hx rfl (hb hby at_272) rfl rfl ?_
    show oS T299 (mkF m 274 lc265 [(.ref b25)])
    refine XS.iconst X299.here hx rfl (hb hby at_274) ?_
    show oS T299 (mkF m 275 lc265 [(.int 1), (.ref b25)])
    refine st315 _ ?_
    show oS T315 (mkF m 278 lc265 [])
    refine XS.aload X315.here hx rfl (hb hby at_278) rfl rfl ?_
    show oS T315 (mkF m 280 lc265 [(.ref b25)])
    refine XS.iconst X315.here hx rfl (hb hby at_280) ?_
    show oS T315 (mkF m 281 lc265 [(.int 0), (.ref b25)])
    refine X315.iaload hx (j := (0 : Int32)) (v := (.int (own_cap (own_cap (own_cap (own_cap c4 z4) (z4 + (own_len6 ((s2.toInt64) - (s1.toInt64))))) ((z4 + (own_len6 ((s2.toInt64) - (s1.toInt64)))) + (1 : Int32))) (((z4 + (own_len6 ((s2.toInt64) - (s1.toInt64)))) + (1 : Int32)) + (1 : Int32))))) Ac331.1 (State.isArrayOf_alike hZ.alike Ac331.2.1) Ac331.2.2 hinc331 (Has.at Hc331 hinc331 rfl) (g := (mkF m 281 lc265 [(.int 0), (.ref b25)])) rfl rfl (hb hby at_281) _ ?_
    show oS T315 (mkF m 282 lc265 [(.int (own_cap (own_cap (own_cap (own_cap c4 z4) (z4 + (own_len6 ((s2.toInt64) - (s1.toInt64))))) ((z4 + (own_len6 ((s2.toInt64) - (s1.toInt64)))) + (1 : Int32))) (((z4 + (own_len6 ((s2.toInt64) - (s1.toInt64)))) + (1 : Int32)) + (1 : Int32))))])
    refine XS.i2l X315.here hx rfl (hb hby at_282) rfl ?_
    show oS T315 (mkF m 283 lc265 [(.long ((own_cap (own_cap (own_cap (own_cap c4 z4) (z4 + (own_len6 ((s2.toInt64) - (s1.toInt64))))) ((z4 + (own_len6 ((s2.toInt64) - (s1.toInt64)))) + (1 : Int32))) (((z4 + (own_len6 ((s2.toInt64) - (s1.toInt64)))) + (1 : Int32)) + (1 : Int32))).toInt64))])
    refine XS.lstore X315.here hx rfl (hb hby at_283) rfl (l' := lc332) rfl ?_
    show oS T315 (mkF m 285 lc332 [])
    refine XS.iload X315.here hx rfl (hb hby at_285) rfl ?_
    show oS T315 (mkF m 287 lc332 [(.int nd)])
    refine XS.ifYes X315.here hx rfl (pc0 := 287) (pc' := 296) rfl (hb hby at_287) rfl ((if0 _ _).trans (teq hN).1) (by decide) (by decide) ?_
    show oS T315 (mkF m 296 lc332 [])
    refine X315.ldc2Long hx hown (mvT hZ (own_w hw 231 rfl)) (g := (mkF m 296 lc332 [])) rfl (hb hby at_296) _ ?_
    show oS T315 (mkF m 299 lc332 [(.long 8)])
    refine XS.lstore X315.here hx rfl (hb hby at_299) rfl (l' := lc333) rfl ?_
    show oS T315 (mkF m 301 lc333 [])
    refine XS.lload X315.here hx rfl (hb hby at_301) rfl ?_
    show oS T315 (mkF m 303 lc333 [(.long ((((192 : Int32) + (8 : Int32)) + (8 : Int32)).toInt64))])
    refine X315.ldc2Long hx hown (mvT hZ (own_w hw 232 rfl)) (g := (mkF m 303 lc333 [(.long ((((192 : Int32) + (8 : Int32)) + (8 : Int32)).toInt64))])) rfl (hb hby at_303) _ ?_
    show oS T315 (mkF m 306 lc333 [(.long 208), (.long ((((192 : Int32) + (8 : Int32)) + (8 : Int32)).toInt64))])
    refine XS.lcmp X315.here hx rfl (hb hby at_306) rfl ?_
    show oS T315 (mkF m 307 lc333 [(.int (lcmpW ((((192 : Int32) + (8 : Int32)) + (8 : Int32)).toInt64) (208 : Int64)))])
    refine XS.ifNo X315.here hx rfl (hb hby at_307) rfl (own_lneF ((by decide) : ((((192 : Int32) + (8 : Int32)) + (8 : Int32)).toInt64) = (208 : Int64))) ?_
    show oS T315 (mkF m 310 lc333 [])
    refine XS.lload X315.here hx rfl (hb hby at_310) rfl ?_
    show oS T315 (mkF m 312 lc333 [(.long ((((192 : Int32) + (8 : Int32)) + c4).toInt64))])
    refine X315.ldc2Long hx hown (mvT hZ (own_w hw 233 rfl)) (g := (mkF m 312 lc333 [(.long ((((192 : Int32) + (8 : Int32)) + c4).toInt64))])) rfl (hb hby at_312) _ ?_
    show oS T315 (mkF m 315 lc333 [(.long 200), (.long ((((192 : Int32) + (8 : Int32)) + c4).toInt64))])
    refine XS.lload X315.here hx rfl (hb hby at_315) rfl ?_
    show oS T315 (mkF m 317 lc333 [(.long (c4.toInt64)), (.long 200), (.long ((((192 : Int32) + (8 : Int32)) + c4).toInt64))])
    refine XS.ladd X315.here hx rfl (hb hby at_317) rfl ?_
    exact kt
   obtain ⟨fs, hr, hrun, hended, hW, hsame⟩ := X315.leave (v := some (.int 1)) (fun h => by rw [Bd.returns] at h; cases h)
   refine ⟨_, _, pre334 _ ?_, hrun, hended, _, _, rfl, ?_, ⟨_, rfl⟩, hW, hsame.mono (by decide) (by decide)⟩
   ·show oS T315 (mkF m 318 lc333 [(.long ((200 : Int64) + (c4.toInt64))), (.long ((((192 : Int32) + (8 : Int32)) + c4).toInt64))])
    refine XS.lcmp X315.here hx rfl (hb hby at_318) rfl ?_
    show oS T315 (mkF m 319 lc333 [(.int (lcmpW ((((192 : Int32) + (8 : Int32)) + c4).toInt64) ((200 : Int64) + (c4.toInt64))))])
    refine XS.ifNo X315.here hx rfl (hb hby at_319) rfl (own_lneF ((own_mem16 hn4 (by decide) (by decide)) : ((((192 : Int32) + (8 : Int32)) + c4).toInt64) = ((200 : Int64) + (c4.toInt64)))) ?_
    show oS T315 (mkF m 322 lc333 [])
    refine XS.lload X315.here hx rfl (hb hby at_322) rfl ?_
    show oS T315 (mkF m 324 lc333 [(.long ((((192 : Int32) + (8 : Int32)) + (own_cap (own_cap (own_cap (own_cap c4 z4) (z4 + (own_len6 ((s2.toInt64) - (s1.toInt64))))) ((z4 + (own_len6 ((s2.toInt64) - (s1.toInt64)))) + (1 : Int32))) (((z4 + (own_len6 ((s2.toInt64) - (s1.toInt64)))) + (1 : Int32)) + (1 : Int32)))).toInt64))])
    refine X315.ldc2Long hx hown (mvT hZ (own_w hw 234 rfl)) (g := (mkF m 324 lc333 [(.long ((((192 : Int32) + (8 : Int32)) + (own_cap (own_cap (own_cap (own_cap c4 z4) (z4 + (own_len6 ((s2.toInt64) - (s1.toInt64))))) ((z4 + (own_len6 ((s2.toInt64) - (s1.toInt64)))) + (1 : Int32))) (((z4 + (own_len6 ((s2.toInt64) - (s1.toInt64)))) + (1 : Int32)) + (1 : Int32)))).toInt64))])) rfl (hb hby at_324) _ ?_
    show oS T315 (mkF m 327 lc333 [(.long 192), (.long ((((192 : Int32) + (8 : Int32)) + (own_cap (own_cap (own_cap (own_cap c4 z4) (z4 + (own_len6 ((s2.toInt64) - (s1.toInt64))))) ((z4 + (own_len6 ((s2.toInt64) - (s1.toInt64)))) + (1 : Int32))) (((z4 + (own_len6 ((s2.toInt64) - (s1.toInt64)))) + (1 : Int32)) + (1 : Int32)))).toInt64))])
    refine XS.lload X315.here hx rfl (hb hby at_327) rfl ?_
    show oS T315 (mkF m 329 lc333 [(.long 8), (.long 192), (.long ((((192 : Int32) + (8 : Int32)) + (own_cap (own_cap (own_cap (own_cap c4 z4) (z4 + (own_len6 ((s2.toInt64) - (s1.toInt64))))) ((z4 + (own_len6 ((s2.toInt64) - (s1.toInt64)))) + (1 : Int32))) (((z4 + (own_len6 ((s2.toInt64) - (s1.toInt64)))) + (1 : Int32)) + (1 : Int32)))).toInt64))])
    refine XS.ladd X315.here hx rfl (hb hby at_329) rfl ?_
    show oS T315 (mkF m 330 lc333 [(.long ((192 : Int64) + (8 : Int64))), (.long ((((192 : Int32) + (8 : Int32)) + (own_cap (own_cap (own_cap (own_cap c4 z4) (z4 + (own_len6 ((s2.toInt64) - (s1.toInt64))))) ((z4 + (own_len6 ((s2.toInt64) - (s1.toInt64)))) + (1 : Int32))) (((z4 + (own_len6 ((s2.toInt64) - (s1.toInt64)))) + (1 : Int32)) + (1 : Int32)))).toInt64))])
    refine XS.lload X315.here hx rfl (hb hby at_330) rfl ?_
    show oS T315 (mkF m 332 lc333 [(.long ((own_cap (own_cap (own_cap (own_cap c4 z4) (z4 + (own_len6 ((s2.toInt64) - (s1.toInt64))))) ((z4 + (own_len6 ((s2.toInt64) - (s1.toInt64)))) + (1 : Int32))) (((z4 + (own_len6 ((s2.toInt64) - (s1.toInt64)))) + (1 : Int32)) + (1 : Int32))).toInt64)), (.long ((192 : Int64) + (8 : Int64))), (.long ((((192 : Int32) + (8 : Int32)) + (own_cap (own_cap (own_cap (own_cap c4 z4) (z4 + (own_len6 ((s2.toInt64) - (s1.toInt64))))) ((z4 + (own_len6 ((s2.toInt64) - (s1.toInt64)))) + (1 : Int32))) (((z4 + (own_len6 ((s2.toInt64) - (s1.toInt64)))) + (1 : Int32)) + (1 : Int32)))).toInt64))])
    refine XS.ladd X315.here hx rfl (hb hby at_332) rfl ?_
    show oS T315 (mkF m 333 lc333 [(.long (((192 : Int64) + (8 : Int64)) + ((own_cap (own_cap (own_cap (own_cap c4 z4) (z4 + (own_len6 ((s2.toInt64) - (s1.toInt64))))) ((z4 + (own_len6 ((s2.toInt64) - (s1.toInt64)))) + (1 : Int32))) (((z4 + (own_len6 ((s2.toInt64) - (s1.toInt64)))) + (1 : Int32)) + (1 : Int32))).toInt64))), (.long ((((192 : Int32) + (8 : Int32)) + (own_cap (own_cap (own_cap (own_cap c4 z4) (z4 + (own_len6 ((s2.toInt64) - (s1.toInt64))))) ((z4 + (own_len6 ((s2.toInt64) - (s1.toInt64)))) + (1 : Int32))) (((z4 + (own_len6 ((s2.toInt64) - (s1.toInt64)))) + (1 : Int32)) + (1 : Int32)))).toInt64))])
    refine XS.lcmp X315.here hx rfl (hb hby at_333) rfl ?_
    show oS T315 (mkF m 334 lc333 [(.int (lcmpW ((((192 : Int32) + (8 : Int32)) + (own_cap (own_cap (own_cap (own_cap c4 z4) (z4 + (own_len6 ((s2.toInt64) - (s1.toInt64))))) ((z4 + (own_len6 ((s2.toInt64) - (s1.toInt64)))) + (1 : Int32))) (((z4 + (own_len6 ((s2.toInt64) - (s1.toInt64)))) + (1 : Int32)) + (1 : Int32)))).toInt64) (((192 : Int64) + (8 : Int64)) + ((own_cap (own_cap (own_cap (own_cap c4 z4) (z4 + (own_len6 ((s2.toInt64) - (s1.toInt64))))) ((z4 + (own_len6 ((s2.toInt64) - (s1.toInt64)))) + (1 : Int32))) (((z4 + (own_len6 ((s2.toInt64) - (s1.toInt64)))) + (1 : Int32)) + (1 : Int32))).toInt64))))])
    refine XS.ifNo X315.here hx rfl (hb hby at_334) rfl (own_lneF ((own_mem16 hn8 (by decide) (by decide)) : ((((192 : Int32) + (8 : Int32)) + (own_cap (own_cap (own_cap (own_cap c4 z4) (z4 + (own_len6 ((s2.toInt64) - (s1.toInt64))))) ((z4 + (own_len6 ((s2.toInt64) - (s1.toInt64)))) + (1 : Int32))) (((z4 + (own_len6 ((s2.toInt64) - (s1.toInt64)))) + (1 : Int32)) + (1 : Int32)))).toInt64) = (((192 : Int64) + (8 : Int64)) + ((own_cap (own_cap (own_cap (own_cap c4 z4) (z4 + (own_len6 ((s2.toInt64) - (s1.toInt64))))) ((z4 + (own_len6 ((s2.toInt64) - (s1.toInt64)))) + (1 : Int32))) (((z4 + (own_len6 ((s2.toInt64) - (s1.toInt64)))) + (1 : Int32)) + (1 : Int32))).toInt64)))) ?_
    show oS T315 (mkF m 337 lc333 [])
    refine XS.lload X315.here hx rfl (hb hby at_337) rfl ?_
    show oS T315 (mkF m 339 lc333 [(.long ((((192 : Int32) + (16 : Int32)) + (own_cap (own_cap (own_cap (own_cap c4 z4) (z4 + (own_len6 ((s2.toInt64) - (s1.toInt64))))) ((z4 + (own_len6 ((s2.toInt64) - (s1.toInt64)))) + (1 : Int32))) (((z4 + (own_len6 ((s2.toInt64) - (s1.toInt64)))) + (1 : Int32)) + (1 : Int32)))).toInt64))])
    refine X315.ldc2Long hx hown (mvT hZ (own_w hw 232 rfl)) (g := (mkF m 339 lc333 [(.long ((((192 : Int32) + (16 : Int32)) + (own_cap (own_cap (own_cap (own_cap c4 z4) (z4 + (own_len6 ((s2.toInt64) - (s1.toInt64))))) ((z4 + (own_len6 ((s2.toInt64) - (s1.toInt64)))) + (1 : Int32))) (((z4 + (own_len6 ((s2.toInt64) - (s1.toInt64)))) + (1 : Int32)) + (1 : Int32)))).toInt64))])) rfl (hb hby at_339) _ ?_
    show oS T315 (mkF m 342 lc333 [(.long 208), (.long ((((192 : Int32) + (16 : Int32)) + (own_cap (own_cap (own_cap (own_cap c4 z4) (z4 + (own_len6 ((s2.toInt64) - (s1.toInt64))))) ((z4 + (own_len6 ((s2.toInt64) - (s1.toInt64)))) + (1 : Int32))) (((z4 + (own_len6 ((s2.toInt64) - (s1.toInt64)))) + (1 : Int32)) + (1 : Int32)))).toInt64))])
    refine XS.lload X315.here hx rfl (hb hby at_342) rfl ?_
    show oS T315 (mkF m 344 lc333 [(.long ((own_cap (own_cap (own_cap (own_cap c4 z4) (z4 + (own_len6 ((s2.toInt64) - (s1.toInt64))))) ((z4 + (own_len6 ((s2.toInt64) - (s1.toInt64)))) + (1 : Int32))) (((z4 + (own_len6 ((s2.toInt64) - (s1.toInt64)))) + (1 : Int32)) + (1 : Int32))).toInt64)), (.long 208), (.long ((((192 : Int32) + (16 : Int32)) + (own_cap (own_cap (own_cap (own_cap c4 z4) (z4 + (own_len6 ((s2.toInt64) - (s1.toInt64))))) ((z4 + (own_len6 ((s2.toInt64) - (s1.toInt64)))) + (1 : Int32))) (((z4 + (own_len6 ((s2.toInt64) - (s1.toInt64)))) + (1 : Int32)) + (1 : Int32)))).toInt64))])
    refine XS.ladd X315.here hx rfl (hb hby at_344) rfl ?_
    show oS T315 (mkF m 345 lc333 [(.long ((208 : Int64) + ((own_cap (own_cap (own_cap (own_cap c4 z4) (z4 + (own_len6 ((s2.toInt64) - (s1.toInt64))))) ((z4 + (own_len6 ((s2.toInt64) - (s1.toInt64)))) + (1 : Int32))) (((z4 + (own_len6 ((s2.toInt64) - (s1.toInt64)))) + (1 : Int32)) + (1 : Int32))).toInt64))), (.long ((((192 : Int32) + (16 : Int32)) + (own_cap (own_cap (own_cap (own_cap c4 z4) (z4 + (own_len6 ((s2.toInt64) - (s1.toInt64))))) ((z4 + (own_len6 ((s2.toInt64) - (s1.toInt64)))) + (1 : Int32))) (((z4 + (own_len6 ((s2.toInt64) - (s1.toInt64)))) + (1 : Int32)) + (1 : Int32)))).toInt64))])
    refine XS.lcmp X315.here hx rfl (hb hby at_345) rfl ?_
    show oS T315 (mkF m 346 lc333 [(.int (lcmpW ((((192 : Int32) + (16 : Int32)) + (own_cap (own_cap (own_cap (own_cap c4 z4) (z4 + (own_len6 ((s2.toInt64) - (s1.toInt64))))) ((z4 + (own_len6 ((s2.toInt64) - (s1.toInt64)))) + (1 : Int32))) (((z4 + (own_len6 ((s2.toInt64) - (s1.toInt64)))) + (1 : Int32)) + (1 : Int32)))).toInt64) ((208 : Int64) + ((own_cap (own_cap (own_cap (own_cap c4 z4) (z4 + (own_len6 ((s2.toInt64) - (s1.toInt64))))) ((z4 + (own_len6 ((s2.toInt64) - (s1.toInt64)))) + (1 : Int32))) (((z4 + (own_len6 ((s2.toInt64) - (s1.toInt64)))) + (1 : Int32)) + (1 : Int32))).toInt64))))])
    refine XS.ifNo X315.here hx rfl (hb hby at_346) rfl (own_lneF ((own_mem16 hn8 (by decide) (by decide)) : ((((192 : Int32) + (16 : Int32)) + (own_cap (own_cap (own_cap (own_cap c4 z4) (z4 + (own_len6 ((s2.toInt64) - (s1.toInt64))))) ((z4 + (own_len6 ((s2.toInt64) - (s1.toInt64)))) + (1 : Int32))) (((z4 + (own_len6 ((s2.toInt64) - (s1.toInt64)))) + (1 : Int32)) + (1 : Int32)))).toInt64) = ((208 : Int64) + ((own_cap (own_cap (own_cap (own_cap c4 z4) (z4 + (own_len6 ((s2.toInt64) - (s1.toInt64))))) ((z4 + (own_len6 ((s2.toInt64) - (s1.toInt64)))) + (1 : Int32))) (((z4 + (own_len6 ((s2.toInt64) - (s1.toInt64)))) + (1 : Int32)) + (1 : Int32))).toInt64)))) ?_
    show oS T315 (mkF m 349 lc333 [])
    refine XS.iconst X315.here hx rfl (hb hby at_349) ?_
    show oS T315 (mkF m 350 lc333 [(.int 1)])
    refine XS.goto X315.here hx rfl (pc0 := 350) (pc' := 354) rfl (hb hby at_350) (by decide) (by decide) ?_
    show oS T315 (mkF m 354 lc333 [(.int 1)])
    exact retN X315 hx (t := .boolean) Bd.returns (by simp) (hb hby at_354) hr
   ·show Q_rm0 Z p1 p2 p3 p4 p5 wD kD x1 x2 wNo wOt wW we ke ve h0 n0 _ T315.heap _
    exact ⟨rfl, N315⟩
  ·have hdc : d2 = d1 := by rw [h_d2, if_pos hN]
   have hg2 := own_gapS (x := s2) (y := s1) (by omega) hs1.1
   obtain ⟨f2, hf2, hl2, hv2, hu2⟩ := own_lenF (v := s2.toInt64 - s1.toInt64) (by omega) (by omega)
   have hgl : ¬ ((0 : Int64) < s2.toInt64 - s1.toInt64) := by rw [Int64.lt_iff_toInt_lt, Int64.toInt_zero, hg2.2.1, ← hg2.2.2, ← Int32.toInt_zero, ← Int32.lt_iff_toInt_lt]; exact hgp
   have f335 := (t93_24.keep K119q)
   have f336 := (f105.keep K119q)
   have f337 := (f106.keep K119q (ninS ne_b43_b87 (ninS ne_b43_qo_93 (ninS ne_b43_aq_93 (ninS ne_b43_sh_93 nin0)))))
   have f338 := (f107.keep K119q (ninS ne_b43_b87 (ninS ne_b43_qo_93 (ninS ne_b43_aq_93 (ninS ne_b43_sh_93 nin0)))))
   have f339 := (f108.keep K119q (ninS ne_r_61_b87 (ninS ne_r_61_qo_93 (ninS ne_r_61_aq_93 (ninS ne_r_61_sh_93 nin0)))))
   have f340 := (f109.keep K119q)
   have f341 := (f110.keep K119q)
   have f342 := (f111.keep K119q (ninS ne_x1_b87 (ninS ne_x1_qo_93 (ninS ne_x1_aq_93 (ninS ne_x1_sh_93 nin0)))))
   have f343 := (f112.keep K119q (ninS ne_x2_b87 (ninS ne_x2_qo_93 (ninS ne_x2_aq_93 (ninS ne_x2_sh_93 nin0)))))
   have f344 := (own_staKeep f113 K119q (own_nsE t93_12 (own_nsE t93_25 (own_nsV t93_31 (own_nsV t93_32 own_ns0)))))
   have f345 := (own_staKeep f114 K119q (own_nsE t93_12 (own_nsE t93_25 (own_nsV t93_31 (own_nsV t93_32 own_ns0)))))
   have f346 := (f115.keep K119q)
   have f347 := (f116.keep K119q)
   have f348 := (f117.keep K119q (ninS ne_wNo_b87 (ninS ne_wNo_qo_93 (ninS ne_wNo_aq_93 (ninS ne_wNo_sh_93 nin0)))))
   have f349 := (f118.keep K119q (ninS ne_wOt_b87 (ninS ne_wOt_qo_93 (ninS ne_wOt_aq_93 (ninS ne_wOt_sh_93 nin0)))))
   have na351 := (Exa.neArv t119_0 Ve132 (own_w hw 65 rfl)).symm
   have na352 := (Exa.neArv t119_12 Ve132 (own_w hw 72 rfl)).symm
   have f353 := (f127.keep K119q (ninS ne_b25_b87 (ninS ne_b25_qo_93 (ninS ne_b25_aq_93 (ninS ne_b25_sh_93 nin0)))))
   have na354 := own_neVV f353 Ve132 (by decide)
   have na355 := Exa.neArv f336 Ve132 (own_w hw 3 rfl)
   have na356 := Exa.neArv f335 Ve132 (own_w hw 72 rfl)
   have na357 := own_neVV f339 Ve132 (by decide)
   have na358 := own_neVV t119_18 Ve132 (by decide)
   have na359 := Nat.ne_of_lt (Nat.lt_of_lt_of_le lt_wD t119_16)
   have na360 := Nat.ne_of_lt (Nat.lt_of_lt_of_le lt_wNo t119_16)
   have na361 := Nat.ne_of_lt (Nat.lt_of_lt_of_le lt_wOt t119_16)
   have na362 := Nat.ne_of_lt (Nat.lt_of_lt_of_le lt_wW t119_16)
   have na363 := Nat.ne_of_lt (Nat.lt_of_lt_of_le lt_we t119_16)
   have na364 := Nat.ne_of_lt (Nat.lt_of_lt_of_le lt_x1 t119_16)
   have na365 := Nat.ne_of_lt (Nat.lt_of_lt_of_le lt_x2 t119_16)
   have f366 := (f128.keep K119q (ninS ne_wD_b87 (ninS ne_wD_qo_93 (ninS ne_wD_aq_93 (ninS ne_wD_sh_93 nin0)))))
   have f367 := (f129.keep K119q)
   have f368 := (f130.keep K119q (ninS ne_we_b87 (ninS ne_we_qo_93 (ninS ne_we_aq_93 (ninS ne_we_sh_93 nin0)))))
   obtain ⟨cq350, kq350, q350a, q350b, q350c⟩ := isOf hZ e136 t119_0
   obtain ⟨_, _, ⟨T350, L350, k350, n350⟩, -, X350, ⟨Lc350, hQ350, l350, y350, z350⟩, st350⟩ := X136.virtualBack hx (y := mn29) (z := mn29) hown (mvT hZ (own_w hw 115 rfl)) (mvT hZ (own_w hw 116 rfl)) (notFace_of_selects (args := #[]) (mvT hZ (own_w hw 118 rfl))) (mvT hZ (own_w hw 118 rfl)) (mvT hZ (own_w hw 117 rfl)) (by decide) (backOf (W := 0) (rmAdd_same_zero l Z a0 hw [] b87 d2 s2 b2 b43 (.int (-1)) (.int (-1)) po_93 qo_93 ap_93 rq_119 sh_93 kp_93 kq2_119 ks_93 [(.int 0), (.int 0), (.int 0), (.int 0), (.int 0), (.int 0), (.int 0), (.int 0)] vq2_119 ((0 : Int32) + (1 : Int32)) ((0 : Int64) + ((1 : Int32).toInt64)) ((0 : Int64) + (1 : Int64)) f2 (own_len6 ((s2.toInt64) - (s1.toInt64))) c4 z4 d1 s1 (8 : Int32) ((0 : Int64) + ((6 : Int32).toInt64)) (0 : Int64) (0 : Int64) ((0 : Int64) + ((6 : Int32).toInt64)) r_61 x1 x2 kr_61 wNo wOt T119.heap n0 (Nat.le_trans Z0 K119.1) t119_0 t119_1 t119_2 t119_3 t119_4 t119_5 t119_6 t119_7 t119_8 t119_9 t119_10 t119_11 g_b87 f335 t119_12 f134 t119_13 Fz4 f135 Ve132 t93_5 t93_6 t93_7 t119_16 t93_9 t93_10 t119_17 t119_18 f336 f337 f338 f339 f340 f341 f342 f343 lt_x1 lt_x2 f344 f345 f346 f347 f348 f349 lt_wNo lt_wOt hq4 hf2 (by rw [hg2.1]; omega) (by rw [hg2.1]; exact hv2) (by rw [hg2.1]; exact hu2) hl2 hgp hb2 hn4 hy4 hdc) hZ (own_w hw 119 rfl) (own_w hw 66 rfl) (by decide) (by decide)) q350a q350c (g := (mkF m 161 lc137 [(.ref b43), (.int b2), (.int s2), (.int d2), (.ref b87)])) rfl (by rw [hml]; rfl) (Steps.refl _) (argsL := [(.int d2), (.int s2), (.int b2), (.ref b43)]) (rest := []) (lenOf pd__28IIILjava_2futil_2fList_3b_29V rfl) rfl (by show 2 * 0 + _ ≤ _; exact Nat.le_of_eq rfl) (hb hby at_161) (fun _ _ => ⟨rfl, e136, (by decide : 10 + 3 ≤ _), (by decide : 66 + 96 ≤ _)⟩)
   dsimp only [Pt.U, Pt.locs, Pt.cells, Pt.slots] at y350 z350 st350 hQ350
   change Stand p l e _ s m _ below meth c T350 L350 k350 n350 at X350
   change L350 = _ ++ Lc350 at l350
   subst y350 z350
   obtain ⟨rq_350, kq2_350, vq2_350, rfl, N350q, K350q, t350_0, t350_1, t350_2, t350_3, t350_4, t350_5, t350_6, t350_7, t350_8, t350_9, t350_10, t350_11, t350_12, t350_13, t350_14, t350_15, t350_16, t350_17, t350_18, t350_19, t350_20, t350_21⟩ := hQ350
   have N350 : Fr n0 L350 := l350 ▸ Fr.app N136 N350q
   have K350 : Keep h0 T350.heap [] := K119.trans K350q (allS (P := fun xz => xz ∈ [] ∨ h0.size ≤ xz) (Or.inr sz_b87) (allS (P := fun xz => xz ∈ [] ∨ h0.size ≤ xz) (Or.inr sz_qo_93) (allS (P := fun xz => xz ∈ [] ∨ h0.size ≤ xz) (Or.inr bo131) (allS (P := fun xz => xz ∈ [] ∨ h0.size ≤ xz) (Or.inr sz_sh_93) all0))))
   have bo369 := own_bor t350_21 bo131 K119.1
   have f370 := (f134.keep K350q (ninS (Ne.symm ne_b87_po_93) (ninS t93_10 (ninS na356 (ninS na126 nin0)))))
   have f371 := (f135.keep K350q (ninS (Ne.symm ne_b87_ap_93) (ninS na120 (ninS t119_17 (ninS na125 nin0)))))
   obtain ⟨cq372, kq372, q372a, q372b, q372c⟩ := isOf hZ rfl t350_0
   obtain ⟨_, _, ⟨T372, L372, k372, n372⟩, -, X372, ⟨Lc372, hQ372, l372, y372, z372⟩, st372⟩ := X350.virtualBack hx (y := mn27) (z := mn27) hown (mvT hZ (own_w hw 109 rfl)) (mvT hZ (own_w hw 110 rfl)) (notFace_of_selects (args := #[]) (mvT hZ (own_w hw 112 rfl))) (mvT hZ (own_w hw 112 rfl)) (mvT hZ (own_w hw 111 rfl)) (by decide) (backOf (W := 0) (rm13 l Z a0 hw [] b87 po_93 qo_93 ap_93 rq_350 kp_93 kq2_350 (8 : Int32) (own_cap (own_cap (own_cap c4 z4) (z4 + (own_len6 ((s2.toInt64) - (s1.toInt64))))) ((z4 + (own_len6 ((s2.toInt64) - (s1.toInt64)))) + (1 : Int32))) [(.int 0), (.int 0), (.int 0), (.int 0), (.int 0), (.int 0), (.int 0), (.int 0)] vq2_350 T350.heap n0 (Nat.le_trans Z0 K350.1) t350_1 t350_2 f370 t350_13 f371 t350_15) hZ (own_w hw 113 rfl) (own_w hw 66 rfl) (by decide) (by decide)) q372a q372c (g := (mkF m 166 lc137 [(.ref b87)])) rfl (by rw [hml]; rfl) (Steps.refl _) (argsL := []) (rest := []) (lenOf pd__28_29J rfl) rfl (by show 2 * 0 + _ ≤ _; exact Nat.le_of_eq rfl) (hb hby at_166) (fun _ _ => ⟨rfl, rfl, (by decide : 13 + 0 ≤ _), (by decide : 162 + 0 ≤ _)⟩)
   dsimp only [Pt.U, Pt.locs, Pt.cells, Pt.slots] at y372 z372 st372 hQ372
   change Stand p l e _ s m _ below meth c T372 L372 k372 n372 at X372
   change L372 = _ ++ Lc372 at l372
   subst y372 z372
   obtain ⟨rfl, N372q, e372⟩ := hQ372
   have N372 : Fr n0 L372 := l372 ▸ Fr.app N350 N372q
   let lc373 : Array Slot := #[.val (.int p1), .val (.int p2), .val (.int p3), .val (.int p4), .val (.int p5), .val (.int d1), .val (.int s1), .val (.int s2), .val (.int nd), .val (.int d2), .val (.int b1), .val (.int b2), .val (.ref b25), .val (.ref b43), .val (.ref b87), .val (.long ((((192 : Int32) + (8 : Int32)) + (8 : Int32)).toInt64)), .second, .val (.long ((((192 : Int32) + (8 : Int32)) + c4).toInt64)), .second, .val (.long ((((192 : Int32) + (8 : Int32)) + (own_cap (own_cap (own_cap c4 z4) (z4 + (own_len6 ((s2.toInt64) - (s1.toInt64))))) ((z4 + (own_len6 ((s2.toInt64) - (s1.toInt64)))) + (1 : Int32)))).toInt64)), .second, .unset, .unset, .unset, .unset, .unset, .unset, .unset, .unset, .unset, .unset]
   have f374 := (f335.keep K350q)
   have f375 := ((t93_28.keep K119q (ninS (Ne.symm ne_b87_po_93) (ninS t93_10 (ninS na123 (ninS na126 nin0))))).keep K350q (ninS (Ne.symm ne_b87_po_93) (ninS t93_10 (ninS na356 (ninS na126 nin0)))))
   have na377 := (Exa.neArv t350_0 t350_15 (own_w hw 65 rfl)).symm
   have na378 := (Exa.neArv f374 f371 (own_w hw 72 rfl)).symm
   have na379 := (Exa.neArv f374 t350_15 (own_w hw 72 rfl)).symm
   have f380 := (f353.keep K350q (ninS ne_b25_b87 (ninS ne_b25_qo_93 (ninS na354 (ninS ne_b25_sh_93 nin0)))))
   have f381 := (f336.keep K350q)
   have f382 := (f339.keep K350q (ninS ne_r_61_b87 (ninS ne_r_61_qo_93 (ninS na357 (ninS ne_r_61_sh_93 nin0)))))
   have f383 := (f366.keep K350q (ninS ne_wD_b87 (ninS ne_wD_qo_93 (ninS na359 (ninS ne_wD_sh_93 nin0)))))
   have f384 := (f346.keep K350q)
   have f385 := (f347.keep K350q)
   have f386 := (f367.keep K350q)
   have f387 := (f368.keep K350q (ninS ne_we_b87 (ninS ne_we_qo_93 (ninS na363 (ninS ne_we_sh_93 nin0)))))
   have f388 := (f340.keep K350q)
   have f389 := (f341.keep K350q)
   obtain ⟨cq376, kq376, q376a, q376b, q376c⟩ := isOf hZ e372 t350_0
   obtain ⟨_, _, ⟨T376, L376, k376, n376⟩, -, X376, ⟨Lc376, hQ376, l376, y376, z376⟩, st376⟩ := X372.virtualBack hx (y := mn28) (z := mn28) hown (mvT hZ (own_w hw 221 rfl)) (mvT hZ (own_w hw 121 rfl)) (notFace_of_selects (args := #[]) (mvT hZ (own_w hw 123 rfl))) (mvT hZ (own_w hw 123 rfl)) (mvT hZ (own_w hw 122 rfl)) (by decide) (backOf (W := 0) (rmFinA l Z a0 hw [] b87 (.ref qo_93) (.ref sh_93) (.int (-1)) (.int s2) (.int ((0 : Int32) + (1 : Int32))) (.long (((0 : Int64) + ((1 : Int32).toInt64)) + ((1 : Int32).toInt64))) (.long (((0 : Int64) + (1 : Int64)) + (1 : Int64))) po_93 ap_93 kp_93 [(.int 0), (.int 0), (.int 0), (.int 0), (.int 0), (.int 0), (.int 0), (.int 0)] d1 (2 : Int32) T350.heap n0 (Nat.le_trans Z0 K350.1) t350_0 t350_1 t350_2 t350_3 t350_4 t350_5 t350_6 t350_7 t350_8 t350_9 t350_10 t350_11 g_b87 f374 f370 f375 f371 t93_5 t93_7 (by decide) (by decide)) hZ (own_w hw 124 rfl) (own_w hw 66 rfl) (by decide) (by decide)) q376a q376c (g := (mkF m 173 lc373 [(.ref b87)])) rfl (by rw [hml]; rfl) (Steps.refl _) (argsL := []) (rest := []) (lenOf pd__28_29V rfl) rfl (by show 2 * 0 + _ ≤ _; exact Nat.le_of_eq rfl) (hb hby at_173) (fun _ _ => ⟨rfl, e372, (by decide : 13 + 1 ≤ _), (by decide : 162 + 16 ≤ _)⟩)
   dsimp only [Pt.U, Pt.locs, Pt.cells, Pt.slots] at y376 z376 st376 hQ376
   change Stand p l e _ s m _ below meth c T376 L376 k376 n376 at X376
   change L376 = _ ++ Lc376 at l376
   subst y376 z376
   obtain ⟨rp_376, kr_376, vr_376, rfl, N376q, K376q, t376_0, t376_1, t376_2, t376_3, t376_4, t376_5, t376_6, t376_7, t376_8, t376_9, t376_10, t376_11, t376_12, t376_13, t376_14, t376_15, t376_16, t376_17, t376_18⟩ := hQ376
   have N376 : Fr n0 L376 := l376 ▸ Fr.app N372 N376q
   have K376 : Keep h0 T376.heap [] := K350.trans K376q (allS (P := fun xz => xz ∈ [] ∨ h0.size ≤ xz) (Or.inr sz_b87) (allS (P := fun xz => xz ∈ [] ∨ h0.size ≤ xz) (Or.inr sz_po_93) (allS (P := fun xz => xz ∈ [] ∨ h0.size ≤ xz) (Or.inr sz_ap_93) all0)))
   have f390 := (t350_13.keep K376q (ninS (Ne.symm ne_b87_qo_93) (ninS (Ne.symm t93_10) (ninS (Ne.symm na120) nin0))))
   have f391 := (t350_15.keep K376q (ninS na377 (ninS na379 (ninS (Ne.symm t350_17) nin0))))
   obtain ⟨cq392, kq392, q392a, q392b, q392c⟩ := isOf hZ rfl t376_0
   obtain ⟨_, _, ⟨T392, L392, k392, n392⟩, -, X392, ⟨Lc392, hQ392, l392, y392, z392⟩, st392⟩ := X376.virtualBack hx (y := mn27) (z := mn27) hown (mvT hZ (own_w hw 109 rfl)) (mvT hZ (own_w hw 110 rfl)) (notFace_of_selects (args := #[]) (mvT hZ (own_w hw 112 rfl))) (mvT hZ (own_w hw 112 rfl)) (mvT hZ (own_w hw 111 rfl)) (by decide) (backOf (W := 0) (rm13 l Z a0 hw [] b87 po_93 qo_93 rp_376 rq_350 kr_376 kq2_350 (16 : Int32) (own_cap (own_cap (own_cap c4 z4) (z4 + (own_len6 ((s2.toInt64) - (s1.toInt64))))) ((z4 + (own_len6 ((s2.toInt64) - (s1.toInt64)))) + (1 : Int32))) vr_376 vq2_350 T376.heap n0 (Nat.le_trans Z0 K376.1) t376_1 t376_2 t376_13 f390 t376_15 f391) hZ (own_w hw 113 rfl) (own_w hw 66 rfl) (by decide) (by decide)) q392a q392c (g := (mkF m 178 lc373 [(.ref b87)])) rfl (by rw [hml]; rfl) (Steps.refl _) (argsL := []) (rest := []) (lenOf pd__28_29J rfl) rfl (by show 2 * 0 + _ ≤ _; exact Nat.le_of_eq rfl) (hb hby at_178) (fun _ _ => ⟨rfl, rfl, (by decide : 14 + 0 ≤ _), (by decide : 178 + 0 ≤ _)⟩)
   dsimp only [Pt.U, Pt.locs, Pt.cells, Pt.slots] at y392 z392 st392 hQ392
   change Stand p l e _ s m _ below meth c T392 L392 k392 n392 at X392
   change L392 = _ ++ Lc392 at l392
   subst y392 z392
   obtain ⟨rfl, N392q, e392⟩ := hQ392
   have N392 : Fr n0 L392 := l392 ▸ Fr.app N376 N392q
   let lc393 : Array Slot := #[.val (.int p1), .val (.int p2), .val (.int p3), .val (.int p4), .val (.int p5), .val (.int d1), .val (.int s1), .val (.int s2), .val (.int nd), .val (.int d2), .val (.int b1), .val (.int b2), .val (.ref b25), .val (.ref b43), .val (.ref b87), .val (.long ((((192 : Int32) + (8 : Int32)) + (8 : Int32)).toInt64)), .second, .val (.long ((((192 : Int32) + (8 : Int32)) + c4).toInt64)), .second, .val (.long ((((192 : Int32) + (8 : Int32)) + (own_cap (own_cap (own_cap c4 z4) (z4 + (own_len6 ((s2.toInt64) - (s1.toInt64))))) ((z4 + (own_len6 ((s2.toInt64) - (s1.toInt64)))) + (1 : Int32)))).toInt64)), .second, .val (.long ((((192 : Int32) + (16 : Int32)) + (own_cap (own_cap (own_cap c4 z4) (z4 + (own_len6 ((s2.toInt64) - (s1.toInt64))))) ((z4 + (own_len6 ((s2.toInt64) - (s1.toInt64)))) + (1 : Int32)))).toInt64)), .second, .unset, .unset, .unset, .unset, .unset, .unset, .unset, .unset]
   obtain ⟨_, _, ⟨T394, L394, k394, n394⟩, -, X394, ⟨Lc394, hQ394, l394, y394, z394⟩, st394⟩ := Jvm.LawKit.callS X392 hx (y := mn30) hown (mvT hZ (own_w hw 222 rfl)) (mvT hZ (own_w hw 223 rfl)) (mvT hZ (own_w hw 224 rfl)) (mvT hZ (own_w hw 225 rfl)) (by decide) (backOf (W := 1) (rmLen6 l Z a0 hw [] ((s1.toInt64) + (1 : Int64)) T376.heap n0 (Nat.le_trans Z0 K376.1) ) hZ (own_w hw 225 rfl) (own_w hw 224 rfl) (by decide) (by decide)) (g := (mkF m 190 lc393 [(.long ((s1.toInt64) + (1 : Int64))), (.ref b25)])) rfl (by rw [hml]; rfl) (argsL := [(.long ((s1.toInt64) + (1 : Int64)))]) (rest := [(.ref b25)]) (lenOf pd__28J_29I rfl) rfl (by show 2 * 0 + _ ≤ _; exact Nat.le_of_eq rfl) (hb hby at_190) (fun _ _ => ⟨rfl, e392, (by decide : 14 + 0 ≤ _), (by decide : 178 + 0 ≤ _)⟩)
   dsimp only [Pt.U, Pt.locs, Pt.cells, Pt.slots] at y394 z394 st394 hQ394
   change Stand p l e _ s m _ below meth c T394 L394 k394 n394 at X394
   change L394 = _ ++ Lc394 at l394
   subst y394 z394
   obtain ⟨rfl, N394q, e394⟩ := hQ394
   have N394 : Fr n0 L394 := l394 ▸ Fr.app N392 N394q
   have f395 := (f380.keep K376q (ninS ne_b25_b87 (ninS ne_b25_po_93 (ninS ne_b25_ap_93 nin0))))
   have na397 := own_neVV t376_15 f395 (by decide)
   have na398 := own_neVV f391 f395 (by decide)
   have f399 := (f381.keep K376q)
   have f400 := (t350_12.keep K376q)
   have f401 := (f382.keep K376q (ninS ne_r_61_b87 (ninS ne_r_61_po_93 (ninS ne_r_61_ap_93 nin0))))
   have f402 := (t350_18.keep K376q (ninS (Ne.symm ne_b87_sh_93) (ninS (Ne.symm na126) (ninS (Ne.symm na125) nin0))))
   have f403 := (f383.keep K376q (ninS ne_wD_b87 (ninS ne_wD_po_93 (ninS ne_wD_ap_93 nin0))))
   have f404 := (f384.keep K376q)
   have f405 := (f385.keep K376q)
   have f406 := (f386.keep K376q)
   have f407 := (f387.keep K376q (ninS ne_we_b87 (ninS ne_we_po_93 (ninS ne_we_ap_93 nin0))))
   have f408 := (f388.keep K376q)
   have f409 := (f389.keep K376q)
   obtain ⟨_, _, ⟨T396, L396, k396, n396⟩, -, X396, ⟨Lc396, hQ396, l396, y396, z396⟩, st396⟩ := Jvm.LawKit.callS X394 hx (y := mn31) hown (mvT hZ (own_w hw 227 rfl)) (mvT hZ (own_w hw 228 rfl)) (mvT hZ (own_w hw 224 rfl)) (mvT hZ (own_w hw 229 rfl)) (by decide) (backOf (W := 0) (rmPut l Z a0 hw [] b25 (own_len6 ((s1.toInt64) + (1 : Int64))) k25 (8 : Int32) (0 : Int32) T376.heap n0 (Nat.le_trans Z0 K376.1) f395 g_b25) hZ (own_w hw 229 rfl) (own_w hw 224 rfl) (by decide) (by decide)) (g := (mkF m 193 lc393 [(.int (own_len6 ((s1.toInt64) + (1 : Int64)))), (.ref b25)])) rfl (by rw [hml]; rfl) (argsL := [(.ref b25), (.int (own_len6 ((s1.toInt64) + (1 : Int64))))]) (rest := []) (lenOf pd__28_5bII_29V rfl) rfl (by show 2 * 0 + _ ≤ _; exact Nat.le_of_eq rfl) (hb hby at_193) (fun _ _ => ⟨rfl, e394, (by decide : 14 + 0 ≤ _), (by decide : 178 + 0 ≤ _)⟩)
   dsimp only [Pt.U, Pt.locs, Pt.cells, Pt.slots] at y396 z396 st396 hQ396
   change Stand p l e _ s m _ below meth c T396 L396 k396 n396 at X396
   change L396 = _ ++ Lc396 at l396
   subst y396 z396
   obtain ⟨rfl, N396q, K396q, t396_0⟩ := hQ396
   have N396 : Fr n0 L396 := l396 ▸ Fr.app N394 N396q
   have K396 : Keep h0 T396.heap [] := K376.trans K396q (allS (P := fun xz => xz ∈ [] ∨ h0.size ≤ xz) (Or.inr sz_b25) all0)
   have f411 := (f399.keep K396q)
   have f412 := (t376_0.keep K396q)
   have f413 := (t376_12.keep K396q)
   have f414 := (f400.keep K396q)
   have f415 := (f401.keep K396q (ninS (Ne.symm ne_b25_r_61) nin0))
   have f416 := (t376_15.keep K396q (ninS na397 nin0))
   have f417 := (f391.keep K396q (ninS na398 nin0))
   have f418 := (f402.keep K396q (ninS (Ne.symm ne_b25_sh_93) nin0))
   have f419 := (f403.keep K396q (ninS ne_wD_b25 nin0))
   have f420 := (f404.keep K396q)
   have f421 := (f405.keep K396q)
   have f422 := (f406.keep K396q)
   have f423 := (f407.keep K396q (ninS ne_we_b25 nin0))
   have f424 := (f408.keep K396q)
   have f425 := (f409.keep K396q)
   obtain ⟨_, _, ⟨T410, L410, k410, n410⟩, -, X410, ⟨Lc410, hQ410, l410, y410, z410⟩, st410⟩ := Jvm.LawKit.callS X396 hx (y := mn31) hown (mvT hZ (own_w hw 227 rfl)) (mvT hZ (own_w hw 228 rfl)) (mvT hZ (own_w hw 224 rfl)) (mvT hZ (own_w hw 229 rfl)) (by decide) (backOf (W := 0) (rmPut l Z a0 hw [] b25 (1 : Int32) k25 (own_cap (8 : Int32) (0 : Int32)) ((0 : Int32) + (own_len6 ((s1.toInt64) + (1 : Int64)))) T396.heap n0 (Nat.le_trans Z0 K396.1) t396_0 g_b25) hZ (own_w hw 229 rfl) (own_w hw 224 rfl) (by decide) (by decide)) (g := (mkF m 199 lc393 [(.int 1), (.ref b25)])) rfl (by rw [hml]; rfl) (argsL := [(.ref b25), (.int 1)]) (rest := []) (lenOf pd__28_5bII_29V rfl) rfl (by show 2 * 0 + _ ≤ _; exact Nat.le_of_eq rfl) (hb hby at_199) (fun _ _ => ⟨rfl, rfl, (by decide : 14 + 0 ≤ _), (by decide : 178 + 0 ≤ _)⟩)
   dsimp only [Pt.U, Pt.locs, Pt.cells, Pt.slots] at y410 z410 st410 hQ410
   change Stand p l e _ s m _ below meth c T410 L410 k410 n410 at X410
   change L410 = _ ++ Lc410 at l410
   subst y410 z410
   obtain ⟨rfl, N410q, K410q, t410_0⟩ := hQ410
   have N410 : Fr n0 L410 := l410 ▸ Fr.app N396 N410q
   have K410 : Keep h0 T410.heap [] := K396.trans K410q (allS (P := fun xz => xz ∈ [] ∨ h0.size ≤ xz) (Or.inr sz_b25) all0)
   have f427 := (f411.keep K410q)
   have f428 := (f412.keep K410q)
   have f429 := (f413.keep K410q)
   have f430 := (f414.keep K410q)
   have f431 := (f415.keep K410q (ninS (Ne.symm ne_b25_r_61) nin0))
   have f432 := (f416.keep K410q (ninS na397 nin0))
   have f433 := (f417.keep K410q (ninS na398 nin0))
   have f434 := (f418.keep K410q (ninS (Ne.symm ne_b25_sh_93) nin0))
   have f435 := (f419.keep K410q (ninS ne_wD_b25 nin0))
   have f436 := (f420.keep K410q)
   have f437 := (f421.keep K410q)
   have f438 := (f422.keep K410q)
   have f439 := (f423.keep K410q (ninS ne_we_b25 nin0))
   have f440 := (f424.keep K410q)
   have f441 := (f425.keep K410q)
   obtain ⟨_, _, ⟨T426, L426, k426, n426⟩, -, X426, ⟨Lc426, hQ426, l426, y426, z426⟩, st426⟩ := Jvm.LawKit.callS X410 hx (y := mn31) hown (mvT hZ (own_w hw 227 rfl)) (mvT hZ (own_w hw 228 rfl)) (mvT hZ (own_w hw 224 rfl)) (mvT hZ (own_w hw 229 rfl)) (by decide) (backOf (W := 0) (rmPut l Z a0 hw [] b25 (1 : Int32) k25 (own_cap (own_cap (8 : Int32) (0 : Int32)) ((0 : Int32) + (own_len6 ((s1.toInt64) + (1 : Int64))))) (((0 : Int32) + (own_len6 ((s1.toInt64) + (1 : Int64)))) + (1 : Int32)) T410.heap n0 (Nat.le_trans Z0 K410.1) t410_0 g_b25) hZ (own_w hw 229 rfl) (own_w hw 224 rfl) (by decide) (by decide)) (g := (mkF m 205 lc393 [(.int 1), (.ref b25)])) rfl (by rw [hml]; rfl) (argsL := [(.ref b25), (.int 1)]) (rest := []) (lenOf pd__28_5bII_29V rfl) rfl (by show 2 * 0 + _ ≤ _; exact Nat.le_of_eq rfl) (hb hby at_205) (fun _ _ => ⟨rfl, rfl, (by decide : 14 + 0 ≤ _), (by decide : 178 + 0 ≤ _)⟩)
   dsimp only [Pt.U, Pt.locs, Pt.cells, Pt.slots] at y426 z426 st426 hQ426
   change Stand p l e _ s m _ below meth c T426 L426 k426 n426 at X426
   change L426 = _ ++ Lc426 at l426
   subst y426 z426
   obtain ⟨rfl, N426q, K426q, t426_0⟩ := hQ426
   have N426 : Fr n0 L426 := l426 ▸ Fr.app N410 N426q
   have K426 : Keep h0 T426.heap [] := K410.trans K426q (allS (P := fun xz => xz ∈ [] ∨ h0.size ≤ xz) (Or.inr sz_b25) all0)
   have f443 := (f427.keep K426q)
   have f444 := (f428.keep K426q)
   have f445 := (f429.keep K426q)
   have f446 := (f430.keep K426q)
   have f447 := (f431.keep K426q (ninS (Ne.symm ne_b25_r_61) nin0))
   have f448 := (f432.keep K426q (ninS na397 nin0))
   have f449 := (f433.keep K426q (ninS na398 nin0))
   have f450 := (f434.keep K426q (ninS (Ne.symm ne_b25_sh_93) nin0))
   have f451 := (f435.keep K426q (ninS ne_wD_b25 nin0))
   have f452 := (f436.keep K426q)
   have f453 := (f437.keep K426q)
   have f454 := (f438.keep K426q)
   have f455 := (f439.keep K426q (ninS ne_we_b25 nin0))
   have f456 := (f440.keep K426q)
   have f457 := (f441.keep K426q)
   obtain ⟨_, _, ⟨T442, L442, k442, n442⟩, -, X442, ⟨Lc442, hQ442, l442, y442, z442⟩, st442⟩ := Jvm.LawKit.callS X426 hx (y := mn31) hown (mvT hZ (own_w hw 227 rfl)) (mvT hZ (own_w hw 228 rfl)) (mvT hZ (own_w hw 224 rfl)) (mvT hZ (own_w hw 229 rfl)) (by decide) (backOf (W := 0) (rmPut l Z a0 hw [] b25 (1 : Int32) k25 (own_cap (own_cap (own_cap (8 : Int32) (0 : Int32)) ((0 : Int32) + (own_len6 ((s1.toInt64) + (1 : Int64))))) (((0 : Int32) + (own_len6 ((s1.toInt64) + (1 : Int64)))) + (1 : Int32))) ((((0 : Int32) + (own_len6 ((s1.toInt64) + (1 : Int64)))) + (1 : Int32)) + (1 : Int32)) T426.heap n0 (Nat.le_trans Z0 K426.1) t426_0 g_b25) hZ (own_w hw 229 rfl) (own_w hw 224 rfl) (by decide) (by decide)) (g := (mkF m 211 lc393 [(.int 1), (.ref b25)])) rfl (by rw [hml]; rfl) (argsL := [(.ref b25), (.int 1)]) (rest := []) (lenOf pd__28_5bII_29V rfl) rfl (by show 2 * 0 + _ ≤ _; exact Nat.le_of_eq rfl) (hb hby at_211) (fun _ _ => ⟨rfl, rfl, (by decide : 14 + 0 ≤ _), (by decide : 178 + 0 ≤ _)⟩)
   dsimp only [Pt.U, Pt.locs, Pt.cells, Pt.slots] at y442 z442 st442 hQ442
   change Stand p l e _ s m _ below meth c T442 L442 k442 n442 at X442
   change L442 = _ ++ Lc442 at l442
   subst y442 z442
   obtain ⟨rfl, N442q, K442q, t442_0⟩ := hQ442
   have N442 : Fr n0 L442 := l442 ▸ Fr.app N426 N442q
   have K442 : Keep h0 T442.heap [] := K426.trans K442q (allS (P := fun xz => xz ∈ [] ∨ h0.size ≤ xz) (Or.inr sz_b25) all0)
   have Vp4 := t442_0
   rw [hc4, hz4] at Vp4
   obtain ⟨c458, Ac458, qc458, Sc458, Nc458, Hc458, Gc458⟩ := id Vp4
   have hinc458 := inb_of Sc458 (j := (0 : Int32)) ⟨by decide, by decide⟩
   let lc459 : Array Slot := #[.val (.int p1), .val (.int p2), .val (.int p3), .val (.int p4), .val (.int p5), .val (.int d1), .val (.int s1), .val (.int s2), .val (.int nd), .val (.int d2), .val (.int b1), .val (.int b2), .val (.ref b25), .val (.ref b43), .val (.ref b87), .val (.long ((((192 : Int32) + (8 : Int32)) + (8 : Int32)).toInt64)), .second, .val (.long ((((192 : Int32) + (8 : Int32)) + c4).toInt64)), .second, .val (.long ((((192 : Int32) + (8 : Int32)) + (own_cap (own_cap (own_cap c4 z4) (z4 + (own_len6 ((s2.toInt64) - (s1.toInt64))))) ((z4 + (own_len6 ((s2.toInt64) - (s1.toInt64)))) + (1 : Int32)))).toInt64)), .second, .val (.long ((((192 : Int32) + (16 : Int32)) + (own_cap (own_cap (own_cap c4 z4) (z4 + (own_len6 ((s2.toInt64) - (s1.toInt64))))) ((z4 + (own_len6 ((s2.toInt64) - (s1.toInt64)))) + (1 : Int32)))).toInt64)), .second, .val (.long (c4.toInt64)), .second, .unset, .unset, .unset, .unset, .unset, .unset]
   have pre460 : ∀ t, Steps p.tables e below (T442.setTop (mkF m 240 lc459 [(.long (s1.toInt64)), (.long (s2.toInt64))])) t → Steps p.tables e below (s₁.setTop (entryFrame m #[(.int p1), (.int p2), (.int p3), (.int p4), (.int p5)] maxLocals)) t := fun t kt => by
    refine pre138 t ?_
    show oS T136 (mkF m 161 lc137 [(.ref b43), (.int b2), (.int s2), (.int d2), (.ref b87)])
    refine st350.trans ?_
    show oS T350 (mkF m 164 lc137 [])
    refine XS.aload X350.here hx rfl (hb hby at_164) rfl rfl ?_
    show oS T350 (mkF m 166 lc137 [(.ref b87)])
    refine st372.trans ?_
    show oS T372 (mkF m 169 lc137 [(.long ((((192 : Int32) + (8 : Int32)) + (own_cap (own_cap (own_cap c4 z4) (z4 + (own_len6 ((s2.toInt64) - (s1.toInt64))))) ((z4 + (own_len6 ((s2.toInt64) - (s1.toInt64)))) + (1 : Int32)))).toInt64))])
    refine XS.lstore X372.here hx rfl (hb hby at_169) rfl (l' := lc373) rfl ?_
    show oS T372 (mkF m 171 lc373 [])
    refine XS.aload X372.here hx rfl (hb hby at_171) rfl rfl ?_
    show oS T372 (mkF m 173 lc373 [(.ref b87)])
    refine st376.trans ?_
    show oS T376 (mkF m 176 lc373 [])
    refine XS.aload X376.here hx rfl (hb hby at_176) rfl rfl ?_
    show oS T376 (mkF m 178 lc373 [(.ref b87)])
    refine st392.trans ?_
    show oS T392 (mkF m 181 lc373 [(.long ((((192 : Int32) + (16 : Int32)) + (own_cap (own_cap (own_cap c4 z4) (z4 + (own_len6 ((s2.toInt64) - (s1.toInt64))))) ((z4 + (own_len6 ((s2.toInt64) - (s1.toInt64)))) + (1 : Int32)))).toInt64))])
    refine XS.lstore X392.here hx rfl (hb hby at_181) rfl (l' := lc393) rfl ?_
    show oS T392 (mkF m 183 lc393 [])
    refine XS.aload X392.here hx rfl (hb hby at_183) rfl rfl ?_
    show oS T392 (mkF m 185 lc393 [(.ref b25)])
    refine XS.iload X392.here hx rfl (hb hby at_185) rfl ?_
    show oS T392 (mkF m 187 lc393 [(.int s1), (.ref b25)])
    refine XS.i2l X392.here hx rfl (hb hby at_187) rfl ?_
    show oS T392 (mkF m 188 lc393 [(.long (s1.toInt64)), (.ref b25)])
    refine XS.lconst X392.here hx rfl (hb hby at_188) ?_
    show oS T392 (mkF m 189 lc393 [(.long 1), (.long (s1.toInt64)), (.ref b25)])
    refine XS.ladd X392.here hx rfl (hb hby at_189) rfl ?_
    show oS T392 (mkF m 190 lc393 [(.long ((s1.toInt64) + (1 : Int64))), (.ref b25)])
    refine st394 _ ?_
    show oS T394 (mkF m 193 lc393 [(.int (own_len6 ((s1.toInt64) + (1 : Int64)))), (.ref b25)])
    refine st396 _ ?_
    show oS T396 (mkF m 196 lc393 [])
    refine XS.aload X396.here hx rfl (hb hby at_196) rfl rfl ?_
    show oS T396 (mkF m 198 lc393 [(.ref b25)])
    refine XS.iconst X396.here hx rfl (hb hby at_198) ?_
    show oS T396 (mkF m 199 lc393 [(.int 1), (.ref b25)])
    refine st410 _ ?_
    show oS T410 (mkF m 202 lc393 [])
    refine XS.aload X410.here hx rfl (hb hby at_202) rfl rfl ?_
    show oS T410 (mkF m 204 lc393 [(.ref b25)])
    refine XS.iconst X410.here hx rfl (hb hby at_204) ?_
    show oS T410 (mkF m 205 lc393 [(.int 1), (.ref b25)])
    refine st426 _ ?_
    show oS T426 (mkF m 208 lc393 [])
    refine XS.aload X426.here hx rfl (hb hby at_208) rfl rfl ?_
    show oS T426 (mkF m 210 lc393 [(.ref b25)])
    refine XS.iconst X426.here hx rfl (hb hby at_210) ?_
    show oS T426 (mkF m 211 lc393 [(.int 1), (.ref b25)])
    refine st442 _ ?_
    show oS T442 (mkF m 214 lc393 [])
    refine XS.aload X442.here hx rfl (hb hby at_214) rfl rfl ?_
    show oS T442 (mkF m 216 lc393 [(.ref b25)])
    refine XS.iconst X442.here hx rfl (hb hby at_216) ?_
    show oS T442 (mkF m 217 lc393 [(.int 0), (.ref b25)])
    refine X442.iaload hx (j := (0 : Int32)) (v := (.int c4)) Ac458.1 (State.isArrayOf_alike hZ.alike Ac458.2.1) Ac458.2.2 hinc458 (Has.at Hc458 hinc458 rfl) (g := (mkF m 217 lc393 [(.int 0), (.ref b25)])) rfl rfl (hb hby at_217) _ ?_
    show oS T442 (mkF m 218 lc393 [(.int c4)])
    refine XS.i2l X442.here hx rfl (hb hby at_218) rfl ?_
    show oS T442 (mkF m 219 lc393 [(.long (c4.toInt64))])
    refine XS.lstore X442.here hx rfl (hb hby at_219) rfl (l' := lc459) rfl ?_
    show oS T442 (mkF m 221 lc459 [])
    refine XS.iload X442.here hx rfl (hb hby at_221) rfl ?_
    show oS T442 (mkF m 223 lc459 [(.int nd)])
    refine XS.ifYes X442.here hx rfl (pc0 := 223) (pc' := 234) rfl (hb hby at_223) rfl ((if0 _ _).trans (teq hN).1) (by decide) (by decide) ?_
    show oS T442 (mkF m 234 lc459 [])
    refine XS.iload X442.here hx rfl (hb hby at_234) rfl ?_
    show oS T442 (mkF m 236 lc459 [(.int s2)])
    refine XS.i2l X442.here hx rfl (hb hby at_236) rfl ?_
    show oS T442 (mkF m 237 lc459 [(.long (s2.toInt64))])
    refine XS.iload X442.here hx rfl (hb hby at_237) rfl ?_
    show oS T442 (mkF m 239 lc459 [(.int s1), (.long (s2.toInt64))])
    refine XS.i2l X442.here hx rfl (hb hby at_239) rfl ?_
    exact kt
   let lc461 : Array Slot := #[.val (.int p1), .val (.int p2), .val (.int p3), .val (.int p4), .val (.int p5), .val (.int d1), .val (.int s1), .val (.int s2), .val (.int nd), .val (.int d2), .val (.int b1), .val (.int b2), .val (.ref b25), .val (.ref b43), .val (.ref b87), .val (.long ((((192 : Int32) + (8 : Int32)) + (8 : Int32)).toInt64)), .second, .val (.long ((((192 : Int32) + (8 : Int32)) + c4).toInt64)), .second, .val (.long ((((192 : Int32) + (8 : Int32)) + (own_cap (own_cap (own_cap c4 z4) (z4 + (own_len6 ((s2.toInt64) - (s1.toInt64))))) ((z4 + (own_len6 ((s2.toInt64) - (s1.toInt64)))) + (1 : Int32)))).toInt64)), .second, .val (.long ((((192 : Int32) + (16 : Int32)) + (own_cap (own_cap (own_cap c4 z4) (z4 + (own_len6 ((s2.toInt64) - (s1.toInt64))))) ((z4 + (own_len6 ((s2.toInt64) - (s1.toInt64)))) + (1 : Int32)))).toInt64)), .second, .val (.long (c4.toInt64)), .second, .val (.long ((s2.toInt64) - (s1.toInt64))), .second, .unset, .unset, .unset, .unset]
   obtain ⟨_, _, ⟨T462, L462, k462, n462⟩, -, X462, ⟨Lc462, hQ462, l462, y462, z462⟩, st462⟩ := Jvm.LawKit.callS X442 hx (y := mn30) hown (mvT hZ (own_w hw 222 rfl)) (mvT hZ (own_w hw 223 rfl)) (mvT hZ (own_w hw 224 rfl)) (mvT hZ (own_w hw 225 rfl)) (by decide) (backOf (W := 1) (rmLen6 l Z a0 hw [] ((s2.toInt64) - (s1.toInt64)) T442.heap n0 (Nat.le_trans Z0 K442.1) ) hZ (own_w hw 225 rfl) (own_w hw 224 rfl) (by decide) (by decide)) (g := (mkF m 247 lc461 [(.long ((s2.toInt64) - (s1.toInt64))), (.ref b25)])) rfl (by rw [hml]; rfl) (argsL := [(.long ((s2.toInt64) - (s1.toInt64)))]) (rest := [(.ref b25)]) (lenOf pd__28J_29I rfl) rfl (by show 2 * 0 + _ ≤ _; exact Nat.le_of_eq rfl) (hb hby at_247) (fun _ _ => ⟨rfl, rfl, (by decide : 14 + 0 ≤ _), (by decide : 178 + 0 ≤ _)⟩)
   dsimp only [Pt.U, Pt.locs, Pt.cells, Pt.slots] at y462 z462 st462 hQ462
   change Stand p l e _ s m _ below meth c T462 L462 k462 n462 at X462
   change L462 = _ ++ Lc462 at l462
   subst y462 z462
   obtain ⟨rfl, N462q, e462⟩ := hQ462
   have N462 : Fr n0 L462 := l462 ▸ Fr.app N442 N462q
   have f464 := (f443.keep K442q)
   have f465 := (f444.keep K442q)
   have f466 := (f445.keep K442q)
   have f467 := (f446.keep K442q)
   have f468 := (f447.keep K442q (ninS (Ne.symm ne_b25_r_61) nin0))
   have f469 := (f448.keep K442q (ninS na397 nin0))
   have f470 := (f449.keep K442q (ninS na398 nin0))
   have f471 := (f450.keep K442q (ninS (Ne.symm ne_b25_sh_93) nin0))
   have f472 := (f451.keep K442q (ninS ne_wD_b25 nin0))
   have f473 := (f452.keep K442q)
   have f474 := (f453.keep K442q)
   have f475 := (f454.keep K442q)
   have f476 := (f455.keep K442q (ninS ne_we_b25 nin0))
   have f477 := (f456.keep K442q)
   have f478 := (f457.keep K442q)
   obtain ⟨_, _, ⟨T463, L463, k463, n463⟩, -, X463, ⟨Lc463, hQ463, l463, y463, z463⟩, st463⟩ := Jvm.LawKit.callS X462 hx (y := mn31) hown (mvT hZ (own_w hw 227 rfl)) (mvT hZ (own_w hw 228 rfl)) (mvT hZ (own_w hw 224 rfl)) (mvT hZ (own_w hw 229 rfl)) (by decide) (backOf (W := 0) (rmPut l Z a0 hw [] b25 (own_len6 ((s2.toInt64) - (s1.toInt64))) k25 c4 z4 T442.heap n0 (Nat.le_trans Z0 K442.1) Vp4 g_b25) hZ (own_w hw 229 rfl) (own_w hw 224 rfl) (by decide) (by decide)) (g := (mkF m 250 lc461 [(.int (own_len6 ((s2.toInt64) - (s1.toInt64)))), (.ref b25)])) rfl (by rw [hml]; rfl) (argsL := [(.ref b25), (.int (own_len6 ((s2.toInt64) - (s1.toInt64))))]) (rest := []) (lenOf pd__28_5bII_29V rfl) rfl (by show 2 * 0 + _ ≤ _; exact Nat.le_of_eq rfl) (hb hby at_250) (fun _ _ => ⟨rfl, e462, (by decide : 14 + 0 ≤ _), (by decide : 178 + 0 ≤ _)⟩)
   dsimp only [Pt.U, Pt.locs, Pt.cells, Pt.slots] at y463 z463 st463 hQ463
   change Stand p l e _ s m _ below meth c T463 L463 k463 n463 at X463
   change L463 = _ ++ Lc463 at l463
   subst y463 z463
   obtain ⟨rfl, N463q, K463q, t463_0⟩ := hQ463
   have N463 : Fr n0 L463 := l463 ▸ Fr.app N462 N463q
   have K463 : Keep h0 T463.heap [] := K442.trans K463q (allS (P := fun xz => xz ∈ [] ∨ h0.size ≤ xz) (Or.inr sz_b25) all0)
   have f480 := (f464.keep K463q)
   have f481 := (f465.keep K463q)
   have f482 := (f466.keep K463q)
   have f483 := (f467.keep K463q)
   have f484 := (f468.keep K463q (ninS (Ne.symm ne_b25_r_61) nin0))
   have f485 := (f469.keep K463q (ninS na397 nin0))
   have f486 := (f470.keep K463q (ninS na398 nin0))
   have f487 := (f471.keep K463q (ninS (Ne.symm ne_b25_sh_93) nin0))
   have f488 := (f472.keep K463q (ninS ne_wD_b25 nin0))
   have f489 := (f473.keep K463q)
   have f490 := (f474.keep K463q)
   have f491 := (f475.keep K463q)
   have f492 := (f476.keep K463q (ninS ne_we_b25 nin0))
   have f493 := (f477.keep K463q)
   have f494 := (f478.keep K463q)
   obtain ⟨_, _, ⟨T479, L479, k479, n479⟩, -, X479, ⟨Lc479, hQ479, l479, y479, z479⟩, st479⟩ := Jvm.LawKit.callS X463 hx (y := mn31) hown (mvT hZ (own_w hw 227 rfl)) (mvT hZ (own_w hw 228 rfl)) (mvT hZ (own_w hw 224 rfl)) (mvT hZ (own_w hw 229 rfl)) (by decide) (backOf (W := 0) (rmPut l Z a0 hw [] b25 (1 : Int32) k25 (own_cap c4 z4) (z4 + (own_len6 ((s2.toInt64) - (s1.toInt64)))) T463.heap n0 (Nat.le_trans Z0 K463.1) t463_0 g_b25) hZ (own_w hw 229 rfl) (own_w hw 224 rfl) (by decide) (by decide)) (g := (mkF m 269 lc461 [(.int 1), (.ref b25)])) rfl (by rw [hml]; rfl) (argsL := [(.ref b25), (.int 1)]) (rest := []) (lenOf pd__28_5bII_29V rfl) rfl (by show 2 * 0 + _ ≤ _; exact Nat.le_of_eq rfl) (hb hby at_269) (fun _ _ => ⟨rfl, rfl, (by decide : 14 + 0 ≤ _), (by decide : 178 + 0 ≤ _)⟩)
   dsimp only [Pt.U, Pt.locs, Pt.cells, Pt.slots] at y479 z479 st479 hQ479
   change Stand p l e _ s m _ below meth c T479 L479 k479 n479 at X479
   change L479 = _ ++ Lc479 at l479
   subst y479 z479
   obtain ⟨rfl, N479q, K479q, t479_0⟩ := hQ479
   have N479 : Fr n0 L479 := l479 ▸ Fr.app N463 N479q
   have K479 : Keep h0 T479.heap [] := K463.trans K479q (allS (P := fun xz => xz ∈ [] ∨ h0.size ≤ xz) (Or.inr sz_b25) all0)
   have f496 := (f480.keep K479q)
   have f497 := (f481.keep K479q)
   have f498 := (f482.keep K479q)
   have f499 := (f483.keep K479q)
   have f500 := (f484.keep K479q (ninS (Ne.symm ne_b25_r_61) nin0))
   have f501 := (f485.keep K479q (ninS na397 nin0))
   have f502 := (f486.keep K479q (ninS na398 nin0))
   have f503 := (f487.keep K479q (ninS (Ne.symm ne_b25_sh_93) nin0))
   have f504 := (f488.keep K479q (ninS ne_wD_b25 nin0))
   have f505 := (f489.keep K479q)
   have f506 := (f490.keep K479q)
   have f507 := (f491.keep K479q)
   have f508 := (f492.keep K479q (ninS ne_we_b25 nin0))
   have f509 := (f493.keep K479q)
   have f510 := (f494.keep K479q)
   obtain ⟨_, _, ⟨T495, L495, k495, n495⟩, -, X495, ⟨Lc495, hQ495, l495, y495, z495⟩, st495⟩ := Jvm.LawKit.callS X479 hx (y := mn31) hown (mvT hZ (own_w hw 227 rfl)) (mvT hZ (own_w hw 228 rfl)) (mvT hZ (own_w hw 224 rfl)) (mvT hZ (own_w hw 229 rfl)) (by decide) (backOf (W := 0) (rmPut l Z a0 hw [] b25 (1 : Int32) k25 (own_cap (own_cap c4 z4) (z4 + (own_len6 ((s2.toInt64) - (s1.toInt64))))) ((z4 + (own_len6 ((s2.toInt64) - (s1.toInt64)))) + (1 : Int32)) T479.heap n0 (Nat.le_trans Z0 K479.1) t479_0 g_b25) hZ (own_w hw 229 rfl) (own_w hw 224 rfl) (by decide) (by decide)) (g := (mkF m 275 lc461 [(.int 1), (.ref b25)])) rfl (by rw [hml]; rfl) (argsL := [(.ref b25), (.int 1)]) (rest := []) (lenOf pd__28_5bII_29V rfl) rfl (by show 2 * 0 + _ ≤ _; exact Nat.le_of_eq rfl) (hb hby at_275) (fun _ _ => ⟨rfl, rfl, (by decide : 14 + 0 ≤ _), (by decide : 178 + 0 ≤ _)⟩)
   dsimp only [Pt.U, Pt.locs, Pt.cells, Pt.slots] at y495 z495 st495 hQ495
   change Stand p l e _ s m _ below meth c T495 L495 k495 n495 at X495
   change L495 = _ ++ Lc495 at l495
   subst y495 z495
   obtain ⟨rfl, N495q, K495q, t495_0⟩ := hQ495
   have N495 : Fr n0 L495 := l495 ▸ Fr.app N479 N495q
   have K495 : Keep h0 T495.heap [] := K479.trans K495q (allS (P := fun xz => xz ∈ [] ∨ h0.size ≤ xz) (Or.inr sz_b25) all0)
   obtain ⟨c511, Ac511, qc511, Sc511, Nc511, Hc511, Gc511⟩ := id t495_0
   have hinc511 := inb_of Sc511 (j := (0 : Int32)) ⟨by decide, by decide⟩
   let lc512 : Array Slot := #[.val (.int p1), .val (.int p2), .val (.int p3), .val (.int p4), .val (.int p5), .val (.int d1), .val (.int s1), .val (.int s2), .val (.int nd), .val (.int d2), .val (.int b1), .val (.int b2), .val (.ref b25), .val (.ref b43), .val (.ref b87), .val (.long ((((192 : Int32) + (8 : Int32)) + (8 : Int32)).toInt64)), .second, .val (.long ((((192 : Int32) + (8 : Int32)) + c4).toInt64)), .second, .val (.long ((((192 : Int32) + (8 : Int32)) + (own_cap (own_cap (own_cap c4 z4) (z4 + (own_len6 ((s2.toInt64) - (s1.toInt64))))) ((z4 + (own_len6 ((s2.toInt64) - (s1.toInt64)))) + (1 : Int32)))).toInt64)), .second, .val (.long ((((192 : Int32) + (16 : Int32)) + (own_cap (own_cap (own_cap c4 z4) (z4 + (own_len6 ((s2.toInt64) - (s1.toInt64))))) ((z4 + (own_len6 ((s2.toInt64) - (s1.toInt64)))) + (1 : Int32)))).toInt64)), .second, .val (.long (c4.toInt64)), .second, .val (.long ((s2.toInt64) - (s1.toInt64))), .second, .val (.long ((own_cap (own_cap (own_cap c4 z4) (z4 + (own_len6 ((s2.toInt64) - (s1.toInt64))))) ((z4 + (own_len6 ((s2.toInt64) - (s1.toInt64)))) + (1 : Int32))).toInt64)), .second, .unset, .unset]
   let lc513 : Array Slot := #[.val (.int p1), .val (.int p2), .val (.int p3), .val (.int p4), .val (.int p5), .val (.int d1), .val (.int s1), .val (.int s2), .val (.int nd), .val (.int d2), .val (.int b1), .val (.int b2), .val (.ref b25), .val (.ref b43), .val (.ref b87), .val (.long ((((192 : Int32) + (8 : Int32)) + (8 : Int32)).toInt64)), .second, .val (.long ((((192 : Int32) + (8 : Int32)) + c4).toInt64)), .second, .val (.long ((((192 : Int32) + (8 : Int32)) + (own_cap (own_cap (own_cap c4 z4) (z4 + (own_len6 ((s2.toInt64) - (s1.toInt64))))) ((z4 + (own_len6 ((s2.toInt64) - (s1.toInt64)))) + (1 : Int32)))).toInt64)), .second, .val (.long ((((192 : Int32) + (16 : Int32)) + (own_cap (own_cap (own_cap c4 z4) (z4 + (own_len6 ((s2.toInt64) - (s1.toInt64))))) ((z4 + (own_len6 ((s2.toInt64) - (s1.toInt64)))) + (1 : Int32)))).toInt64)), .second, .val (.long (c4.toInt64)), .second, .val (.long ((s2.toInt64) - (s1.toInt64))), .second, .val (.long ((own_cap (own_cap (own_cap c4 z4) (z4 + (own_len6 ((s2.toInt64) - (s1.toInt64))))) ((z4 + (own_len6 ((s2.toInt64) - (s1.toInt64)))) + (1 : Int32))).toInt64)), .second, .val (.long 8), .second]
   have hn8 := t350_20
   have pre514 : ∀ t, Steps p.tables e below (T495.setTop (mkF m 324 lc513 [(.long ((((192 : Int32) + (8 : Int32)) + (own_cap (own_cap (own_cap c4 z4) (z4 + (own_len6 ((s2.toInt64) - (s1.toInt64))))) ((z4 + (own_len6 ((s2.toInt64) - (s1.toInt64)))) + (1 : Int32)))).toInt64))])) t → Steps p.tables e below (s₁.setTop (entryFrame m #[(.int p1), (.int p2), (.int p3), (.int p4), (.int p5)] maxLocals)) t := fun t kt => by
    refine pre460 t ?_
    show oS T442 (mkF m 240 lc459 [(.long (s1.toInt64)), (.long (s2.toInt64))])
    refine XS.lsub X442.here hx rfl (hb hby at_240) rfl ?_
    show oS T442 (mkF m 241 lc459 [(.long ((s2.toInt64) - (s1.toInt64)))])
    refine XS.lstore X442.here hx rfl (hb hby at_241) rfl (l' := lc461) rfl ?_
    show oS T442 (mkF m 243 lc461 [])
    refine XS.aload X442.here hx rfl (hb hby at_243) rfl rfl ?_
    show oS T442 (mkF m 245 lc461 [(.ref b25)])
    refine XS.lload X442.here hx rfl (hb hby at_245) rfl ?_
    show oS T442 (mkF m 247 lc461 [(.long ((s2.toInt64) - (s1.toInt64))), (.ref b25)])
    refine st462 _ ?_
    show oS T462 (mkF m 250 lc461 [(.int (own_len6 ((s2.toInt64) - (s1.toInt64)))), (.ref b25)])
    refine st463 _ ?_
    show oS T463 (mkF m 253 lc461 [])
    refine XS.lload X463.here hx rfl (hb hby at_253) rfl ?_
    show oS T463 (mkF m 255 lc461 [(.long ((s2.toInt64) - (s1.toInt64)))])
    refine XS.lconst X463.here hx rfl (hb hby at_255) ?_
    show oS T463 (mkF m 256 lc461 [(.long 0), (.long ((s2.toInt64) - (s1.toInt64)))])
    refine XS.lcmp X463.here hx rfl (hb hby at_256) rfl ?_
    show oS T463 (mkF m 257 lc461 [(.int (lcmpW ((s2.toInt64) - (s1.toInt64)) (0 : Int64)))])
    refine XS.ifYes X463.here hx rfl (pc0 := 257) (pc' := 266) rfl (hb hby at_257) rfl (own_lleT hgl) (by decide) (by decide) ?_
    show oS T463 (mkF m 266 lc461 [])
    refine XS.aload X463.here hx rfl (hb hby at_266) rfl rfl ?_
    show oS T463 (mkF m 268 lc461 [(.ref b25)])
    refine XS.iconst X463.here hx rfl (hb hby at_268) ?_
    show oS T463 (mkF m 269 lc461 [(.int 1), (.ref b25)])
    refine st479 _ ?_
    show oS T479 (mkF m 272 lc461 [])
    refine XS.aload X479.here hx rfl (hb hby at_272) rfl rfl ?_
    show oS T479 (mkF m 274 lc461 [(.ref b25)])
    refine XS.iconst X479.here hx rfl (hb hby at_274) ?_
    show oS T479 (mkF m 275 lc461 [(.int 1), (.ref b25)])
    refine st495 _ ?_
    show oS T495 (mkF m 278 lc461 [])
    refine XS.aload X495.here hx rfl (hb hby at_278) rfl rfl ?_
    show oS T495 (mkF m 280 lc461 [(.ref b25)])
    refine XS.iconst X495.here hx rfl (hb hby at_280) ?_
    show oS T495 (mkF m 281 lc461 [(.int 0), (.ref b25)])
    refine X495.iaload hx (j := (0 : Int32)) (v := (.int (own_cap (own_cap (own_cap c4 z4) (z4 + (own_len6 ((s2.toInt64) - (s1.toInt64))))) ((z4 + (own_len6 ((s2.toInt64) - (s1.toInt64)))) + (1 : Int32))))) Ac511.1 (State.isArrayOf_alike hZ.alike Ac511.2.1) Ac511.2.2 hinc511 (Has.at Hc511 hinc511 rfl) (g := (mkF m 281 lc461 [(.int 0), (.ref b25)])) rfl rfl (hb hby at_281) _ ?_
    show oS T495 (mkF m 282 lc461 [(.int (own_cap (own_cap (own_cap c4 z4) (z4 + (own_len6 ((s2.toInt64) - (s1.toInt64))))) ((z4 + (own_len6 ((s2.toInt64) - (s1.toInt64)))) + (1 : Int32))))])
    refine XS.i2l X495.here hx rfl (hb hby at_282) rfl ?_
    show oS T495 (mkF m 283 lc461 [(.long ((own_cap (own_cap (own_cap c4 z4) (z4 + (own_len6 ((s2.toInt64) - (s1.toInt64))))) ((z4 + (own_len6 ((s2.toInt64) - (s1.toInt64)))) + (1 : Int32))).toInt64))])
    refine XS.lstore X495.here hx rfl (hb hby at_283) rfl (l' := lc512) rfl ?_
    show oS T495 (mkF m 285 lc512 [])
    refine XS.iload X495.here hx rfl (hb hby at_285) rfl ?_
    show oS T495 (mkF m 287 lc512 [(.int nd)])
    refine XS.ifYes X495.here hx rfl (pc0 := 287) (pc' := 296) rfl (hb hby at_287) rfl ((if0 _ _).trans (teq hN).1) (by decide) (by decide) ?_
    show oS T495 (mkF m 296 lc512 [])
    refine X495.ldc2Long hx hown (mvT hZ (own_w hw 231 rfl)) (g := (mkF m 296 lc512 [])) rfl (hb hby at_296) _ ?_
    show oS T495 (mkF m 299 lc512 [(.long 8)])
    refine XS.lstore X495.here hx rfl (hb hby at_299) rfl (l' := lc513) rfl ?_
    show oS T495 (mkF m 301 lc513 [])
    refine XS.lload X495.here hx rfl (hb hby at_301) rfl ?_
    show oS T495 (mkF m 303 lc513 [(.long ((((192 : Int32) + (8 : Int32)) + (8 : Int32)).toInt64))])
    refine X495.ldc2Long hx hown (mvT hZ (own_w hw 232 rfl)) (g := (mkF m 303 lc513 [(.long ((((192 : Int32) + (8 : Int32)) + (8 : Int32)).toInt64))])) rfl (hb hby at_303) _ ?_
    show oS T495 (mkF m 306 lc513 [(.long 208), (.long ((((192 : Int32) + (8 : Int32)) + (8 : Int32)).toInt64))])
    refine XS.lcmp X495.here hx rfl (hb hby at_306) rfl ?_
    show oS T495 (mkF m 307 lc513 [(.int (lcmpW ((((192 : Int32) + (8 : Int32)) + (8 : Int32)).toInt64) (208 : Int64)))])
    refine XS.ifNo X495.here hx rfl (hb hby at_307) rfl (own_lneF ((by decide) : ((((192 : Int32) + (8 : Int32)) + (8 : Int32)).toInt64) = (208 : Int64))) ?_
    show oS T495 (mkF m 310 lc513 [])
    refine XS.lload X495.here hx rfl (hb hby at_310) rfl ?_
    show oS T495 (mkF m 312 lc513 [(.long ((((192 : Int32) + (8 : Int32)) + c4).toInt64))])
    refine X495.ldc2Long hx hown (mvT hZ (own_w hw 233 rfl)) (g := (mkF m 312 lc513 [(.long ((((192 : Int32) + (8 : Int32)) + c4).toInt64))])) rfl (hb hby at_312) _ ?_
    show oS T495 (mkF m 315 lc513 [(.long 200), (.long ((((192 : Int32) + (8 : Int32)) + c4).toInt64))])
    refine XS.lload X495.here hx rfl (hb hby at_315) rfl ?_
    show oS T495 (mkF m 317 lc513 [(.long (c4.toInt64)), (.long 200), (.long ((((192 : Int32) + (8 : Int32)) + c4).toInt64))])
    refine XS.ladd X495.here hx rfl (hb hby at_317) rfl ?_
    show oS T495 (mkF m 318 lc513 [(.long ((200 : Int64) + (c4.toInt64))), (.long ((((192 : Int32) + (8 : Int32)) + c4).toInt64))])
    refine XS.lcmp X495.here hx rfl (hb hby at_318) rfl ?_
    show oS T495 (mkF m 319 lc513 [(.int (lcmpW ((((192 : Int32) + (8 : Int32)) + c4).toInt64) ((200 : Int64) + (c4.toInt64))))])
    refine XS.ifNo X495.here hx rfl (hb hby at_319) rfl (own_lneF ((own_mem16 hn4 (by decide) (by decide)) : ((((192 : Int32) + (8 : Int32)) + c4).toInt64) = ((200 : Int64) + (c4.toInt64)))) ?_
    show oS T495 (mkF m 322 lc513 [])
    refine XS.lload X495.here hx rfl (hb hby at_322) rfl ?_
    exact kt
   obtain ⟨fs, hr, hrun, hended, hW, hsame⟩ := X495.leave (v := some (.int 1)) (fun h => by rw [Bd.returns] at h; cases h)
   refine ⟨_, _, pre514 _ ?_, hrun, hended, _, _, rfl, ?_, ⟨_, rfl⟩, hW, hsame.mono (by decide) (by decide)⟩
   ·show oS T495 (mkF m 324 lc513 [(.long ((((192 : Int32) + (8 : Int32)) + (own_cap (own_cap (own_cap c4 z4) (z4 + (own_len6 ((s2.toInt64) - (s1.toInt64))))) ((z4 + (own_len6 ((s2.toInt64) - (s1.toInt64)))) + (1 : Int32)))).toInt64))])
    refine X495.ldc2Long hx hown (mvT hZ (own_w hw 234 rfl)) (g := (mkF m 324 lc513 [(.long ((((192 : Int32) + (8 : Int32)) + (own_cap (own_cap (own_cap c4 z4) (z4 + (own_len6 ((s2.toInt64) - (s1.toInt64))))) ((z4 + (own_len6 ((s2.toInt64) - (s1.toInt64)))) + (1 : Int32)))).toInt64))])) rfl (hb hby at_324) _ ?_
    show oS T495 (mkF m 327 lc513 [(.long 192), (.long ((((192 : Int32) + (8 : Int32)) + (own_cap (own_cap (own_cap c4 z4) (z4 + (own_len6 ((s2.toInt64) - (s1.toInt64))))) ((z4 + (own_len6 ((s2.toInt64) - (s1.toInt64)))) + (1 : Int32)))).toInt64))])
    refine XS.lload X495.here hx rfl (hb hby at_327) rfl ?_
    show oS T495 (mkF m 329 lc513 [(.long 8), (.long 192), (.long ((((192 : Int32) + (8 : Int32)) + (own_cap (own_cap (own_cap c4 z4) (z4 + (own_len6 ((s2.toInt64) - (s1.toInt64))))) ((z4 + (own_len6 ((s2.toInt64) - (s1.toInt64)))) + (1 : Int32)))).toInt64))])
    refine XS.ladd X495.here hx rfl (hb hby at_329) rfl ?_
    show oS T495 (mkF m 330 lc513 [(.long ((192 : Int64) + (8 : Int64))), (.long ((((192 : Int32) + (8 : Int32)) + (own_cap (own_cap (own_cap c4 z4) (z4 + (own_len6 ((s2.toInt64) - (s1.toInt64))))) ((z4 + (own_len6 ((s2.toInt64) - (s1.toInt64)))) + (1 : Int32)))).toInt64))])
    refine XS.lload X495.here hx rfl (hb hby at_330) rfl ?_
    show oS T495 (mkF m 332 lc513 [(.long ((own_cap (own_cap (own_cap c4 z4) (z4 + (own_len6 ((s2.toInt64) - (s1.toInt64))))) ((z4 + (own_len6 ((s2.toInt64) - (s1.toInt64)))) + (1 : Int32))).toInt64)), (.long ((192 : Int64) + (8 : Int64))), (.long ((((192 : Int32) + (8 : Int32)) + (own_cap (own_cap (own_cap c4 z4) (z4 + (own_len6 ((s2.toInt64) - (s1.toInt64))))) ((z4 + (own_len6 ((s2.toInt64) - (s1.toInt64)))) + (1 : Int32)))).toInt64))])
    refine XS.ladd X495.here hx rfl (hb hby at_332) rfl ?_
    show oS T495 (mkF m 333 lc513 [(.long (((192 : Int64) + (8 : Int64)) + ((own_cap (own_cap (own_cap c4 z4) (z4 + (own_len6 ((s2.toInt64) - (s1.toInt64))))) ((z4 + (own_len6 ((s2.toInt64) - (s1.toInt64)))) + (1 : Int32))).toInt64))), (.long ((((192 : Int32) + (8 : Int32)) + (own_cap (own_cap (own_cap c4 z4) (z4 + (own_len6 ((s2.toInt64) - (s1.toInt64))))) ((z4 + (own_len6 ((s2.toInt64) - (s1.toInt64)))) + (1 : Int32)))).toInt64))])
    refine XS.lcmp X495.here hx rfl (hb hby at_333) rfl ?_
    show oS T495 (mkF m 334 lc513 [(.int (lcmpW ((((192 : Int32) + (8 : Int32)) + (own_cap (own_cap (own_cap c4 z4) (z4 + (own_len6 ((s2.toInt64) - (s1.toInt64))))) ((z4 + (own_len6 ((s2.toInt64) - (s1.toInt64)))) + (1 : Int32)))).toInt64) (((192 : Int64) + (8 : Int64)) + ((own_cap (own_cap (own_cap c4 z4) (z4 + (own_len6 ((s2.toInt64) - (s1.toInt64))))) ((z4 + (own_len6 ((s2.toInt64) - (s1.toInt64)))) + (1 : Int32))).toInt64))))])
    refine XS.ifNo X495.here hx rfl (hb hby at_334) rfl (own_lneF ((own_mem16 hn8 (by decide) (by decide)) : ((((192 : Int32) + (8 : Int32)) + (own_cap (own_cap (own_cap c4 z4) (z4 + (own_len6 ((s2.toInt64) - (s1.toInt64))))) ((z4 + (own_len6 ((s2.toInt64) - (s1.toInt64)))) + (1 : Int32)))).toInt64) = (((192 : Int64) + (8 : Int64)) + ((own_cap (own_cap (own_cap c4 z4) (z4 + (own_len6 ((s2.toInt64) - (s1.toInt64))))) ((z4 + (own_len6 ((s2.toInt64) - (s1.toInt64)))) + (1 : Int32))).toInt64)))) ?_
    show oS T495 (mkF m 337 lc513 [])
    refine XS.lload X495.here hx rfl (hb hby at_337) rfl ?_
    show oS T495 (mkF m 339 lc513 [(.long ((((192 : Int32) + (16 : Int32)) + (own_cap (own_cap (own_cap c4 z4) (z4 + (own_len6 ((s2.toInt64) - (s1.toInt64))))) ((z4 + (own_len6 ((s2.toInt64) - (s1.toInt64)))) + (1 : Int32)))).toInt64))])
    refine X495.ldc2Long hx hown (mvT hZ (own_w hw 232 rfl)) (g := (mkF m 339 lc513 [(.long ((((192 : Int32) + (16 : Int32)) + (own_cap (own_cap (own_cap c4 z4) (z4 + (own_len6 ((s2.toInt64) - (s1.toInt64))))) ((z4 + (own_len6 ((s2.toInt64) - (s1.toInt64)))) + (1 : Int32)))).toInt64))])) rfl (hb hby at_339) _ ?_
    show oS T495 (mkF m 342 lc513 [(.long 208), (.long ((((192 : Int32) + (16 : Int32)) + (own_cap (own_cap (own_cap c4 z4) (z4 + (own_len6 ((s2.toInt64) - (s1.toInt64))))) ((z4 + (own_len6 ((s2.toInt64) - (s1.toInt64)))) + (1 : Int32)))).toInt64))])
    refine XS.lload X495.here hx rfl (hb hby at_342) rfl ?_
    show oS T495 (mkF m 344 lc513 [(.long ((own_cap (own_cap (own_cap c4 z4) (z4 + (own_len6 ((s2.toInt64) - (s1.toInt64))))) ((z4 + (own_len6 ((s2.toInt64) - (s1.toInt64)))) + (1 : Int32))).toInt64)), (.long 208), (.long ((((192 : Int32) + (16 : Int32)) + (own_cap (own_cap (own_cap c4 z4) (z4 + (own_len6 ((s2.toInt64) - (s1.toInt64))))) ((z4 + (own_len6 ((s2.toInt64) - (s1.toInt64)))) + (1 : Int32)))).toInt64))])
    refine XS.ladd X495.here hx rfl (hb hby at_344) rfl ?_
    show oS T495 (mkF m 345 lc513 [(.long ((208 : Int64) + ((own_cap (own_cap (own_cap c4 z4) (z4 + (own_len6 ((s2.toInt64) - (s1.toInt64))))) ((z4 + (own_len6 ((s2.toInt64) - (s1.toInt64)))) + (1 : Int32))).toInt64))), (.long ((((192 : Int32) + (16 : Int32)) + (own_cap (own_cap (own_cap c4 z4) (z4 + (own_len6 ((s2.toInt64) - (s1.toInt64))))) ((z4 + (own_len6 ((s2.toInt64) - (s1.toInt64)))) + (1 : Int32)))).toInt64))])
    refine XS.lcmp X495.here hx rfl (hb hby at_345) rfl ?_
    show oS T495 (mkF m 346 lc513 [(.int (lcmpW ((((192 : Int32) + (16 : Int32)) + (own_cap (own_cap (own_cap c4 z4) (z4 + (own_len6 ((s2.toInt64) - (s1.toInt64))))) ((z4 + (own_len6 ((s2.toInt64) - (s1.toInt64)))) + (1 : Int32)))).toInt64) ((208 : Int64) + ((own_cap (own_cap (own_cap c4 z4) (z4 + (own_len6 ((s2.toInt64) - (s1.toInt64))))) ((z4 + (own_len6 ((s2.toInt64) - (s1.toInt64)))) + (1 : Int32))).toInt64))))])
    refine XS.ifNo X495.here hx rfl (hb hby at_346) rfl (own_lneF ((own_mem16 hn8 (by decide) (by decide)) : ((((192 : Int32) + (16 : Int32)) + (own_cap (own_cap (own_cap c4 z4) (z4 + (own_len6 ((s2.toInt64) - (s1.toInt64))))) ((z4 + (own_len6 ((s2.toInt64) - (s1.toInt64)))) + (1 : Int32)))).toInt64) = ((208 : Int64) + ((own_cap (own_cap (own_cap c4 z4) (z4 + (own_len6 ((s2.toInt64) - (s1.toInt64))))) ((z4 + (own_len6 ((s2.toInt64) - (s1.toInt64)))) + (1 : Int32))).toInt64)))) ?_
    show oS T495 (mkF m 349 lc513 [])
    refine XS.iconst X495.here hx rfl (hb hby at_349) ?_
    show oS T495 (mkF m 350 lc513 [(.int 1)])
    refine XS.goto X495.here hx rfl (pc0 := 350) (pc' := 354) rfl (hb hby at_350) (by decide) (by decide) ?_
    show oS T495 (mkF m 354 lc513 [(.int 1)])
    exact retN X495 hx (t := .boolean) Bd.returns (by simp) (hb hby at_354) hr
   ·show Q_rm0 Z p1 p2 p3 p4 p5 wD kD x1 x2 wNo wOt wW we ke ve h0 n0 _ T495.heap _
    exact ⟨rfl, N495⟩
 ·have hN1 : nd = (1 : Int32) := hnd.resolve_left hN
  have hd2 : d2 = d1 + (1 : Int32) + (p4 &&& (1073741823 : Int32)) := by rw [h_d2, if_neg hN]
  have hm4 := own_msk p4
  have o1 : (1 : Int32).toInt = 1 := by decide
  have hd3 : d2.toInt = d1.toInt + 1 + (p4 &&& (1073741823 : Int32)).toInt := by rw [hd2, Jvm.Kit.i32_add (by rw [Jvm.Kit.i32_add (by omega) (by omega)]; omega) (by rw [Jvm.Kit.i32_add (by omega) (by omega)]; omega), Jvm.Kit.i32_add (by omega) (by omega), o1]
  have hdc : ¬ (d2 = d1) := own_neI (by omega)
  have hg2 := own_gapN (x := s2) (by omega) (by omega)
  have hgp : (0 : Int32) < s2 - (-1 : Int32) := by rw [Int32.lt_iff_toInt_lt, Int32.toInt_zero, ← Jvm.Kit.i64_of_i32, hg2.1]; omega
  obtain ⟨f2, hf2, hl2, hv2, hu2⟩ := own_lenF (v := s2.toInt64 + (1 : Int64)) (by omega) (by omega)
  have hdd := own_gapS (x := d2) (y := d1) (by omega) (by omega)
  have hj3 : 0 ≤ ((d2 - d1).toInt64).toInt := by rw [hdd.1, hdd.2.1]; omega
  obtain ⟨f3, hf3, hl3, hv3, hu3⟩ := own_lenF (v := (d2 - d1).toInt64) hj3 (by rw [hdd.1, hdd.2.1]; omega)
  have hgl : (0 : Int64) < s2.toInt64 + (1 : Int64) := by rw [Int64.lt_iff_toInt_lt, Int64.toInt_zero]; omega
  have f515 := (t93_24.keep K119q)
  have f516 := (t93_28.keep K119q (ninS (Ne.symm ne_b87_po_93) (ninS t93_10 (ninS na123 (ninS na126 nin0)))))
  have f517 := (f105.keep K119q)
  have f518 := (f106.keep K119q (ninS ne_b43_b87 (ninS ne_b43_qo_93 (ninS ne_b43_aq_93 (ninS ne_b43_sh_93 nin0)))))
  have f519 := (f107.keep K119q (ninS ne_b43_b87 (ninS ne_b43_qo_93 (ninS ne_b43_aq_93 (ninS ne_b43_sh_93 nin0)))))
  have f520 := (f108.keep K119q (ninS ne_r_61_b87 (ninS ne_r_61_qo_93 (ninS ne_r_61_aq_93 (ninS ne_r_61_sh_93 nin0)))))
  have f521 := (f109.keep K119q)
  have f522 := (f110.keep K119q)
  have f523 := (f111.keep K119q (ninS ne_x1_b87 (ninS ne_x1_qo_93 (ninS ne_x1_aq_93 (ninS ne_x1_sh_93 nin0)))))
  have f524 := (f112.keep K119q (ninS ne_x2_b87 (ninS ne_x2_qo_93 (ninS ne_x2_aq_93 (ninS ne_x2_sh_93 nin0)))))
  have f525 := (own_staKeep f113 K119q (own_nsE t93_12 (own_nsE t93_25 (own_nsV t93_31 (own_nsV t93_32 own_ns0)))))
  have f526 := (own_staKeep f114 K119q (own_nsE t93_12 (own_nsE t93_25 (own_nsV t93_31 (own_nsV t93_32 own_ns0)))))
  have f527 := (f115.keep K119q)
  have f528 := (f116.keep K119q)
  have f529 := (f117.keep K119q (ninS ne_wNo_b87 (ninS ne_wNo_qo_93 (ninS ne_wNo_aq_93 (ninS ne_wNo_sh_93 nin0)))))
  have f530 := (f118.keep K119q (ninS ne_wOt_b87 (ninS ne_wOt_qo_93 (ninS ne_wOt_aq_93 (ninS ne_wOt_sh_93 nin0)))))
  have na532 := (Exa.neArv t119_0 Ve132 (own_w hw 65 rfl)).symm
  have na533 := (Exa.neArv f515 f135 (own_w hw 72 rfl)).symm
  have na534 := (Exa.neArv f515 Ve132 (own_w hw 72 rfl)).symm
  have na535 := (Exa.neArv t119_12 Ve132 (own_w hw 72 rfl)).symm
  have f536 := (f127.keep K119q (ninS ne_b25_b87 (ninS ne_b25_qo_93 (ninS ne_b25_aq_93 (ninS ne_b25_sh_93 nin0)))))
  have na537 := own_neVV f536 Ve132 (by decide)
  have na538 := Exa.neArv f517 Ve132 (own_w hw 3 rfl)
  have na539 := own_neVV f520 Ve132 (by decide)
  have na540 := own_neVV t119_18 Ve132 (by decide)
  have na541 := Nat.ne_of_lt (Nat.lt_of_lt_of_le lt_wD t119_16)
  have na542 := Nat.ne_of_lt (Nat.lt_of_lt_of_le lt_wNo t119_16)
  have na543 := Nat.ne_of_lt (Nat.lt_of_lt_of_le lt_wOt t119_16)
  have na544 := Nat.ne_of_lt (Nat.lt_of_lt_of_le lt_wW t119_16)
  have na545 := Nat.ne_of_lt (Nat.lt_of_lt_of_le lt_we t119_16)
  have na546 := Nat.ne_of_lt (Nat.lt_of_lt_of_le lt_x1 t119_16)
  have na547 := Nat.ne_of_lt (Nat.lt_of_lt_of_le lt_x2 t119_16)
  have f548 := (f128.keep K119q (ninS ne_wD_b87 (ninS ne_wD_qo_93 (ninS ne_wD_aq_93 (ninS ne_wD_sh_93 nin0)))))
  have f549 := (f129.keep K119q)
  have f550 := (f130.keep K119q (ninS ne_we_b87 (ninS ne_we_qo_93 (ninS ne_we_aq_93 (ninS ne_we_sh_93 nin0)))))
  obtain ⟨cq531, kq531, q531a, q531b, q531c⟩ := isOf hZ e136 t119_0
  obtain ⟨_, _, ⟨T531, L531, k531, n531⟩, -, X531, ⟨Lc531, hQ531, l531, y531, z531⟩, st531⟩ := X136.virtualBack hx (y := mn29) (z := mn29) hown (mvT hZ (own_w hw 115 rfl)) (mvT hZ (own_w hw 116 rfl)) (notFace_of_selects (args := #[]) (mvT hZ (own_w hw 118 rfl))) (mvT hZ (own_w hw 118 rfl)) (mvT hZ (own_w hw 117 rfl)) (by decide) (backOf (W := 0) (rmAdd_new_pos l Z a0 hw [] b87 d2 s2 b2 b43 (.int (-1)) po_93 qo_93 ap_93 rq_119 sh_93 kp_93 kq2_119 ks_93 [(.int 0), (.int 0), (.int 0), (.int 0), (.int 0), (.int 0), (.int 0), (.int 0)] vq2_119 ((0 : Int32) + (1 : Int32)) ((0 : Int64) + ((1 : Int32).toInt64)) ((0 : Int64) + (1 : Int64)) f2 (own_len6 ((s2.toInt64) + (1 : Int64))) c4 z4 d1 s1 ((0 : Int64) + ((6 : Int32).toInt64)) (0 : Int64) (0 : Int64) ((0 : Int64) + ((6 : Int32).toInt64)) r_61 x1 x2 kr_61 wNo wOt T119.heap n0 (Nat.le_trans Z0 K119.1) t119_0 t119_1 t119_2 t119_3 t119_4 t119_5 t119_6 t119_7 t119_8 t119_9 t119_10 t119_11 g_b87 f515 t119_12 f134 t119_13 Fz4 f135 Ve132 t93_5 t93_6 t93_7 t119_16 t93_9 t93_10 t119_17 t119_18 f516 f517 f518 f519 f520 f521 f522 f523 f524 lt_x1 lt_x2 f525 f526 f527 f528 f529 f530 lt_wNo lt_wOt hq4 hf2 (by rw [hg2.1]; omega) (by rw [hg2.1]; exact hv2) (by rw [hg2.1]; exact hu2) hl2 hgp hb2 hn4 hy4 hdc (by decide)) hZ (own_w hw 119 rfl) (own_w hw 66 rfl) (by decide) (by decide)) q531a q531c (g := (mkF m 161 lc137 [(.ref b43), (.int b2), (.int s2), (.int d2), (.ref b87)])) rfl (by rw [hml]; rfl) (Steps.refl _) (argsL := [(.int d2), (.int s2), (.int b2), (.ref b43)]) (rest := []) (lenOf pd__28IIILjava_2futil_2fList_3b_29V rfl) rfl (by show 2 * 0 + _ ≤ _; exact Nat.le_of_eq rfl) (hb hby at_161) (fun _ _ => ⟨rfl, e136, (by decide : 10 + 5 ≤ _), (by decide : 66 + 144 ≤ _)⟩)
  dsimp only [Pt.U, Pt.locs, Pt.cells, Pt.slots] at y531 z531 st531 hQ531
  change Stand p l e _ s m _ below meth c T531 L531 k531 n531 at X531
  change L531 = _ ++ Lc531 at l531
  subst y531 z531
  obtain ⟨rp_531, kp2_531, vp2_531, rq_531, kq2_531, vq2_531, rfl, N531q, K531q, t531_0, t531_1, t531_2, t531_3, t531_4, t531_5, t531_6, t531_7, t531_8, t531_9, t531_10, t531_11, t531_12, t531_13, t531_14, t531_15, t531_16, t531_17, t531_18, t531_19, t531_20, t531_21, t531_22, t531_23, t531_24, t531_25, t531_26, t531_27, t531_28⟩ := hQ531
  have N531 : Fr n0 L531 := l531 ▸ Fr.app N136 N531q
  have K531 : Keep h0 T531.heap [] := K119.trans K531q (allS (P := fun xz => xz ∈ [] ∨ h0.size ≤ xz) (Or.inr sz_b87) (allS (P := fun xz => xz ∈ [] ∨ h0.size ≤ xz) (Or.inr sz_po_93) (allS (P := fun xz => xz ∈ [] ∨ h0.size ≤ xz) (Or.inr sz_ap_93) (allS (P := fun xz => xz ∈ [] ∨ h0.size ≤ xz) (Or.inr sz_qo_93) (allS (P := fun xz => xz ∈ [] ∨ h0.size ≤ xz) (Or.inr bo131) (allS (P := fun xz => xz ∈ [] ∨ h0.size ≤ xz) (Or.inr sz_sh_93) all0))))))
  have bo551 := own_bor t531_27 bo131 K119.1
  have bo552 := own_bor t531_28 sz_ap_93 K119.1
  obtain ⟨cq553, kq553, q553a, q553b, q553c⟩ := isOf hZ rfl t531_0
  obtain ⟨_, _, ⟨T553, L553, k553, n553⟩, -, X553, ⟨Lc553, hQ553, l553, y553, z553⟩, st553⟩ := X531.virtualBack hx (y := mn27) (z := mn27) hown (mvT hZ (own_w hw 109 rfl)) (mvT hZ (own_w hw 110 rfl)) (notFace_of_selects (args := #[]) (mvT hZ (own_w hw 112 rfl))) (mvT hZ (own_w hw 112 rfl)) (mvT hZ (own_w hw 111 rfl)) (by decide) (backOf (W := 0) (rm13 l Z a0 hw [] b87 po_93 qo_93 rp_531 rq_531 kp2_531 kq2_531 (16 : Int32) (own_cap (own_cap (own_cap (own_cap c4 z4) (z4 + (own_len6 ((s2.toInt64) + (1 : Int64))))) ((z4 + (own_len6 ((s2.toInt64) + (1 : Int64)))) + (1 : Int32))) (((z4 + (own_len6 ((s2.toInt64) + (1 : Int64)))) + (1 : Int32)) + (1 : Int32))) vp2_531 vq2_531 T531.heap n0 (Nat.le_trans Z0 K531.1) t531_1 t531_2 t531_20 t531_13 t531_22 t531_15) hZ (own_w hw 113 rfl) (own_w hw 66 rfl) (by decide) (by decide)) q553a q553c (g := (mkF m 166 lc137 [(.ref b87)])) rfl (by rw [hml]; rfl) (Steps.refl _) (argsL := []) (rest := []) (lenOf pd__28_29J rfl) rfl (by show 2 * 0 + _ ≤ _; exact Nat.le_of_eq rfl) (hb hby at_166) (fun _ _ => ⟨rfl, rfl, (by decide : 15 + 0 ≤ _), (by decide : 210 + 0 ≤ _)⟩)
  dsimp only [Pt.U, Pt.locs, Pt.cells, Pt.slots] at y553 z553 st553 hQ553
  change Stand p l e _ s m _ below meth c T553 L553 k553 n553 at X553
  change L553 = _ ++ Lc553 at l553
  subst y553 z553
  obtain ⟨rfl, N553q, e553⟩ := hQ553
  have N553 : Fr n0 L553 := l553 ▸ Fr.app N531 N553q
  let lc554 : Array Slot := #[.val (.int p1), .val (.int p2), .val (.int p3), .val (.int p4), .val (.int p5), .val (.int d1), .val (.int s1), .val (.int s2), .val (.int nd), .val (.int d2), .val (.int b1), .val (.int b2), .val (.ref b25), .val (.ref b43), .val (.ref b87), .val (.long ((((192 : Int32) + (8 : Int32)) + (8 : Int32)).toInt64)), .second, .val (.long ((((192 : Int32) + (8 : Int32)) + c4).toInt64)), .second, .val (.long ((((192 : Int32) + (16 : Int32)) + (own_cap (own_cap (own_cap (own_cap c4 z4) (z4 + (own_len6 ((s2.toInt64) + (1 : Int64))))) ((z4 + (own_len6 ((s2.toInt64) + (1 : Int64)))) + (1 : Int32))) (((z4 + (own_len6 ((s2.toInt64) + (1 : Int64)))) + (1 : Int32)) + (1 : Int32)))).toInt64)), .second, .unset, .unset, .unset, .unset, .unset, .unset, .unset, .unset, .unset, .unset]
  have na556 := (Exa.neArv t531_0 t531_22 (own_w hw 65 rfl)).symm
  have na557 := (Exa.neArv t531_0 t531_15 (own_w hw 65 rfl)).symm
  have na558 := (Exa.neArv t531_19 t531_22 (own_w hw 72 rfl)).symm
  have na559 := (Exa.neArv t531_19 t531_15 (own_w hw 72 rfl)).symm
  have f560 := (f536.keep K531q (ninS ne_b25_b87 (ninS ne_b25_po_93 (ninS ne_b25_ap_93 (ninS ne_b25_qo_93 (ninS na537 (ninS ne_b25_sh_93 nin0)))))))
  have na561 := own_neVV f560 t531_22 (by decide)
  have f562 := (f517.keep K531q)
  have na563 := Exa.neArv f562 t531_22 (own_w hw 3 rfl)
  have na564 := Exa.neArv t531_12 t531_22 (own_w hw 72 rfl)
  have f565 := (f520.keep K531q (ninS ne_r_61_b87 (ninS ne_r_61_po_93 (ninS ne_r_61_ap_93 (ninS ne_r_61_qo_93 (ninS na539 (ninS ne_r_61_sh_93 nin0)))))))
  have na566 := own_neVV f565 t531_22 (by decide)
  have na567 := own_neVV t531_18 t531_22 (by decide)
  have na568 := Nat.ne_of_lt (Nat.lt_of_lt_of_le lt_wD t531_23)
  have na569 := Nat.ne_of_lt (Nat.lt_of_lt_of_le lt_wNo t531_23)
  have na570 := Nat.ne_of_lt (Nat.lt_of_lt_of_le lt_wOt t531_23)
  have na571 := Nat.ne_of_lt (Nat.lt_of_lt_of_le lt_wW t531_23)
  have na572 := Nat.ne_of_lt (Nat.lt_of_lt_of_le lt_we t531_23)
  have na573 := Nat.ne_of_lt (Nat.lt_of_lt_of_le lt_x1 t531_23)
  have na574 := Nat.ne_of_lt (Nat.lt_of_lt_of_le lt_x2 t531_23)
  have f575 := (f548.keep K531q (ninS ne_wD_b87 (ninS ne_wD_po_93 (ninS ne_wD_ap_93 (ninS ne_wD_qo_93 (ninS na541 (ninS ne_wD_sh_93 nin0)))))))
  have f576 := (f527.keep K531q)
  have f577 := (f528.keep K531q)
  have f578 := (f549.keep K531q)
  have f579 := (f550.keep K531q (ninS ne_we_b87 (ninS ne_we_po_93 (ninS ne_we_ap_93 (ninS ne_we_qo_93 (ninS na545 (ninS ne_we_sh_93 nin0)))))))
  have f580 := (f521.keep K531q)
  have f581 := (f522.keep K531q)
  obtain ⟨cq555, kq555, q555a, q555b, q555c⟩ := isOf hZ e553 t531_0
  obtain ⟨_, _, ⟨T555, L555, k555, n555⟩, -, X555, ⟨Lc555, hQ555, l555, y555, z555⟩, st555⟩ := X553.virtualBack hx (y := mn28) (z := mn28) hown (mvT hZ (own_w hw 221 rfl)) (mvT hZ (own_w hw 121 rfl)) (notFace_of_selects (args := #[]) (mvT hZ (own_w hw 123 rfl))) (mvT hZ (own_w hw 123 rfl)) (mvT hZ (own_w hw 122 rfl)) (by decide) (backOf (W := 0) (rmFinB l Z a0 hw [] b87 (.ref qo_93) (.ref sh_93) (.int d1) (.int s2) (.int (((0 : Int32) + (1 : Int32)) + (1 : Int32))) (.long (((0 : Int64) + ((1 : Int32).toInt64)) + ((1 : Int32).toInt64))) (.long (((0 : Int64) + (1 : Int64)) + (1 : Int64))) po_93 rp_531 kp2_531 vp2_531 d2 d1 (1 : Int32) f3 (own_len6 (d2 - d1).toInt64) T531.heap n0 (Nat.le_trans Z0 K531.1) t531_0 t531_1 t531_2 t531_3 t531_4 t531_5 t531_6 t531_7 t531_8 t531_9 t531_10 t531_11 g_b87 t531_19 t531_20 t531_21 t531_22 t93_5 t531_23 t531_24 (by decide) (own_nneg hd1.1) hf3 hj3 hv3 hu3 hl3) hZ (own_w hw 124 rfl) (own_w hw 66 rfl) (by decide) (by decide)) q555a q555c (g := (mkF m 173 lc554 [(.ref b87)])) rfl (by rw [hml]; rfl) (Steps.refl _) (argsL := []) (rest := []) (lenOf pd__28_29V rfl) rfl (by show 2 * 0 + _ ≤ _; exact Nat.le_of_eq rfl) (hb hby at_173) (fun _ _ => ⟨rfl, e553, (by decide : 15 + 0 ≤ _), (by decide : 210 + 0 ≤ _)⟩)
  dsimp only [Pt.U, Pt.locs, Pt.cells, Pt.slots] at y555 z555 st555 hQ555
  change Stand p l e _ s m _ below meth c T555 L555 k555 n555 at X555
  change L555 = _ ++ Lc555 at l555
  subst y555 z555
  obtain ⟨rp_555, kr_555, vr_555, rfl, N555q, K555q, t555_0, t555_1, t555_2, t555_3, t555_4, t555_5, t555_6, t555_7, t555_8, t555_9, t555_10, t555_11, t555_12, t555_13, t555_14⟩ := hQ555
  have N555 : Fr n0 L555 := l555 ▸ Fr.app N553 N555q
  have K555 : Keep h0 T555.heap [] := K531.trans K555q (allS (P := fun xz => xz ∈ [] ∨ h0.size ≤ xz) (Or.inr sz_b87) (allS (P := fun xz => xz ∈ [] ∨ h0.size ≤ xz) (Or.inr sz_po_93) (allS (P := fun xz => xz ∈ [] ∨ h0.size ≤ xz) (Or.inr bo552) all0)))
  have f582 := (t531_13.keep K555q (ninS (Ne.symm ne_b87_qo_93) (ninS (Ne.symm t93_10) (ninS na564 nin0))))
  have f583 := (t531_15.keep K555q (ninS na557 (ninS na559 (ninS (Ne.symm t531_17) nin0))))
  obtain ⟨cq584, kq584, q584a, q584b, q584c⟩ := isOf hZ rfl t555_0
  obtain ⟨_, _, ⟨T584, L584, k584, n584⟩, -, X584, ⟨Lc584, hQ584, l584, y584, z584⟩, st584⟩ := X555.virtualBack hx (y := mn27) (z := mn27) hown (mvT hZ (own_w hw 109 rfl)) (mvT hZ (own_w hw 110 rfl)) (notFace_of_selects (args := #[]) (mvT hZ (own_w hw 112 rfl))) (mvT hZ (own_w hw 112 rfl)) (mvT hZ (own_w hw 111 rfl)) (by decide) (backOf (W := 0) (rm13 l Z a0 hw [] b87 po_93 qo_93 rp_555 rq_531 kr_555 kq2_531 (16 : Int32) (own_cap (own_cap (own_cap (own_cap c4 z4) (z4 + (own_len6 ((s2.toInt64) + (1 : Int64))))) ((z4 + (own_len6 ((s2.toInt64) + (1 : Int64)))) + (1 : Int32))) (((z4 + (own_len6 ((s2.toInt64) + (1 : Int64)))) + (1 : Int32)) + (1 : Int32))) vr_555 vq2_531 T555.heap n0 (Nat.le_trans Z0 K555.1) t555_1 t555_2 t555_13 f582 t555_14 f583) hZ (own_w hw 113 rfl) (own_w hw 66 rfl) (by decide) (by decide)) q584a q584c (g := (mkF m 178 lc554 [(.ref b87)])) rfl (by rw [hml]; rfl) (Steps.refl _) (argsL := []) (rest := []) (lenOf pd__28_29J rfl) rfl (by show 2 * 0 + _ ≤ _; exact Nat.le_of_eq rfl) (hb hby at_178) (fun _ _ => ⟨rfl, rfl, (by decide : 15 + 0 ≤ _), (by decide : 210 + 0 ≤ _)⟩)
  dsimp only [Pt.U, Pt.locs, Pt.cells, Pt.slots] at y584 z584 st584 hQ584
  change Stand p l e _ s m _ below meth c T584 L584 k584 n584 at X584
  change L584 = _ ++ Lc584 at l584
  subst y584 z584
  obtain ⟨rfl, N584q, e584⟩ := hQ584
  have N584 : Fr n0 L584 := l584 ▸ Fr.app N555 N584q
  let lc585 : Array Slot := #[.val (.int p1), .val (.int p2), .val (.int p3), .val (.int p4), .val (.int p5), .val (.int d1), .val (.int s1), .val (.int s2), .val (.int nd), .val (.int d2), .val (.int b1), .val (.int b2), .val (.ref b25), .val (.ref b43), .val (.ref b87), .val (.long ((((192 : Int32) + (8 : Int32)) + (8 : Int32)).toInt64)), .second, .val (.long ((((192 : Int32) + (8 : Int32)) + c4).toInt64)), .second, .val (.long ((((192 : Int32) + (16 : Int32)) + (own_cap (own_cap (own_cap (own_cap c4 z4) (z4 + (own_len6 ((s2.toInt64) + (1 : Int64))))) ((z4 + (own_len6 ((s2.toInt64) + (1 : Int64)))) + (1 : Int32))) (((z4 + (own_len6 ((s2.toInt64) + (1 : Int64)))) + (1 : Int32)) + (1 : Int32)))).toInt64)), .second, .val (.long ((((192 : Int32) + (16 : Int32)) + (own_cap (own_cap (own_cap (own_cap c4 z4) (z4 + (own_len6 ((s2.toInt64) + (1 : Int64))))) ((z4 + (own_len6 ((s2.toInt64) + (1 : Int64)))) + (1 : Int32))) (((z4 + (own_len6 ((s2.toInt64) + (1 : Int64)))) + (1 : Int32)) + (1 : Int32)))).toInt64)), .second, .unset, .unset, .unset, .unset, .unset, .unset, .unset, .unset]
  obtain ⟨_, _, ⟨T586, L586, k586, n586⟩, -, X586, ⟨Lc586, hQ586, l586, y586, z586⟩, st586⟩ := Jvm.LawKit.callS X584 hx (y := mn30) hown (mvT hZ (own_w hw 222 rfl)) (mvT hZ (own_w hw 223 rfl)) (mvT hZ (own_w hw 224 rfl)) (mvT hZ (own_w hw 225 rfl)) (by decide) (backOf (W := 1) (rmLen6 l Z a0 hw [] ((s1.toInt64) + (1 : Int64)) T555.heap n0 (Nat.le_trans Z0 K555.1) ) hZ (own_w hw 225 rfl) (own_w hw 224 rfl) (by decide) (by decide)) (g := (mkF m 190 lc585 [(.long ((s1.toInt64) + (1 : Int64))), (.ref b25)])) rfl (by rw [hml]; rfl) (argsL := [(.long ((s1.toInt64) + (1 : Int64)))]) (rest := [(.ref b25)]) (lenOf pd__28J_29I rfl) rfl (by show 2 * 0 + _ ≤ _; exact Nat.le_of_eq rfl) (hb hby at_190) (fun _ _ => ⟨rfl, e584, (by decide : 15 + 0 ≤ _), (by decide : 210 + 0 ≤ _)⟩)
  dsimp only [Pt.U, Pt.locs, Pt.cells, Pt.slots] at y586 z586 st586 hQ586
  change Stand p l e _ s m _ below meth c T586 L586 k586 n586 at X586
  change L586 = _ ++ Lc586 at l586
  subst y586 z586
  obtain ⟨rfl, N586q, e586⟩ := hQ586
  have N586 : Fr n0 L586 := l586 ▸ Fr.app N584 N586q
  have f587 := (f560.keep K555q (ninS ne_b25_b87 (ninS ne_b25_po_93 (ninS na561 nin0))))
  have na589 := own_neVV t555_14 f587 (by decide)
  have na590 := own_neVV f583 f587 (by decide)
  have f591 := (f562.keep K555q)
  have f592 := (t531_12.keep K555q)
  have f593 := (f565.keep K555q (ninS ne_r_61_b87 (ninS ne_r_61_po_93 (ninS na566 nin0))))
  have f594 := (t531_18.keep K555q (ninS (Ne.symm ne_b87_sh_93) (ninS (Ne.symm na126) (ninS na567 nin0))))
  have f595 := (f575.keep K555q (ninS ne_wD_b87 (ninS ne_wD_po_93 (ninS na568 nin0))))
  have f596 := (f576.keep K555q)
  have f597 := (f577.keep K555q)
  have f598 := (f578.keep K555q)
  have f599 := (f579.keep K555q (ninS ne_we_b87 (ninS ne_we_po_93 (ninS na572 nin0))))
  have f600 := (f580.keep K555q)
  have f601 := (f581.keep K555q)
  obtain ⟨_, _, ⟨T588, L588, k588, n588⟩, -, X588, ⟨Lc588, hQ588, l588, y588, z588⟩, st588⟩ := Jvm.LawKit.callS X586 hx (y := mn31) hown (mvT hZ (own_w hw 227 rfl)) (mvT hZ (own_w hw 228 rfl)) (mvT hZ (own_w hw 224 rfl)) (mvT hZ (own_w hw 229 rfl)) (by decide) (backOf (W := 0) (rmPut l Z a0 hw [] b25 (own_len6 ((s1.toInt64) + (1 : Int64))) k25 (8 : Int32) (0 : Int32) T555.heap n0 (Nat.le_trans Z0 K555.1) f587 g_b25) hZ (own_w hw 229 rfl) (own_w hw 224 rfl) (by decide) (by decide)) (g := (mkF m 193 lc585 [(.int (own_len6 ((s1.toInt64) + (1 : Int64)))), (.ref b25)])) rfl (by rw [hml]; rfl) (argsL := [(.ref b25), (.int (own_len6 ((s1.toInt64) + (1 : Int64))))]) (rest := []) (lenOf pd__28_5bII_29V rfl) rfl (by show 2 * 0 + _ ≤ _; exact Nat.le_of_eq rfl) (hb hby at_193) (fun _ _ => ⟨rfl, e586, (by decide : 15 + 0 ≤ _), (by decide : 210 + 0 ≤ _)⟩)
  dsimp only [Pt.U, Pt.locs, Pt.cells, Pt.slots] at y588 z588 st588 hQ588
  change Stand p l e _ s m _ below meth c T588 L588 k588 n588 at X588
  change L588 = _ ++ Lc588 at l588
  subst y588 z588
  obtain ⟨rfl, N588q, K588q, t588_0⟩ := hQ588
  have N588 : Fr n0 L588 := l588 ▸ Fr.app N586 N588q
  have K588 : Keep h0 T588.heap [] := K555.trans K588q (allS (P := fun xz => xz ∈ [] ∨ h0.size ≤ xz) (Or.inr sz_b25) all0)
  have f603 := (f591.keep K588q)
  have f604 := (t555_0.keep K588q)
  have f605 := (t555_12.keep K588q)
  have f606 := (f592.keep K588q)
  have f607 := (f593.keep K588q (ninS (Ne.symm ne_b25_r_61) nin0))
  have f608 := (t555_14.keep K588q (ninS na589 nin0))
  have f609 := (f583.keep K588q (ninS na590 nin0))
  have f610 := (f594.keep K588q (ninS (Ne.symm ne_b25_sh_93) nin0))
  have f611 := (f595.keep K588q (ninS ne_wD_b25 nin0))
  have f612 := (f596.keep K588q)
  have f613 := (f597.keep K588q)
  have f614 := (f598.keep K588q)
  have f615 := (f599.keep K588q (ninS ne_we_b25 nin0))
  have f616 := (f600.keep K588q)
  have f617 := (f601.keep K588q)
  obtain ⟨_, _, ⟨T602, L602, k602, n602⟩, -, X602, ⟨Lc602, hQ602, l602, y602, z602⟩, st602⟩ := Jvm.LawKit.callS X588 hx (y := mn31) hown (mvT hZ (own_w hw 227 rfl)) (mvT hZ (own_w hw 228 rfl)) (mvT hZ (own_w hw 224 rfl)) (mvT hZ (own_w hw 229 rfl)) (by decide) (backOf (W := 0) (rmPut l Z a0 hw [] b25 (1 : Int32) k25 (own_cap (8 : Int32) (0 : Int32)) ((0 : Int32) + (own_len6 ((s1.toInt64) + (1 : Int64)))) T588.heap n0 (Nat.le_trans Z0 K588.1) t588_0 g_b25) hZ (own_w hw 229 rfl) (own_w hw 224 rfl) (by decide) (by decide)) (g := (mkF m 199 lc585 [(.int 1), (.ref b25)])) rfl (by rw [hml]; rfl) (argsL := [(.ref b25), (.int 1)]) (rest := []) (lenOf pd__28_5bII_29V rfl) rfl (by show 2 * 0 + _ ≤ _; exact Nat.le_of_eq rfl) (hb hby at_199) (fun _ _ => ⟨rfl, rfl, (by decide : 15 + 0 ≤ _), (by decide : 210 + 0 ≤ _)⟩)
  dsimp only [Pt.U, Pt.locs, Pt.cells, Pt.slots] at y602 z602 st602 hQ602
  change Stand p l e _ s m _ below meth c T602 L602 k602 n602 at X602
  change L602 = _ ++ Lc602 at l602
  subst y602 z602
  obtain ⟨rfl, N602q, K602q, t602_0⟩ := hQ602
  have N602 : Fr n0 L602 := l602 ▸ Fr.app N588 N602q
  have K602 : Keep h0 T602.heap [] := K588.trans K602q (allS (P := fun xz => xz ∈ [] ∨ h0.size ≤ xz) (Or.inr sz_b25) all0)
  have f619 := (f603.keep K602q)
  have f620 := (f604.keep K602q)
  have f621 := (f605.keep K602q)
  have f622 := (f606.keep K602q)
  have f623 := (f607.keep K602q (ninS (Ne.symm ne_b25_r_61) nin0))
  have f624 := (f608.keep K602q (ninS na589 nin0))
  have f625 := (f609.keep K602q (ninS na590 nin0))
  have f626 := (f610.keep K602q (ninS (Ne.symm ne_b25_sh_93) nin0))
  have f627 := (f611.keep K602q (ninS ne_wD_b25 nin0))
  have f628 := (f612.keep K602q)
  have f629 := (f613.keep K602q)
  have f630 := (f614.keep K602q)
  have f631 := (f615.keep K602q (ninS ne_we_b25 nin0))
  have f632 := (f616.keep K602q)
  have f633 := (f617.keep K602q)
  obtain ⟨_, _, ⟨T618, L618, k618, n618⟩, -, X618, ⟨Lc618, hQ618, l618, y618, z618⟩, st618⟩ := Jvm.LawKit.callS X602 hx (y := mn31) hown (mvT hZ (own_w hw 227 rfl)) (mvT hZ (own_w hw 228 rfl)) (mvT hZ (own_w hw 224 rfl)) (mvT hZ (own_w hw 229 rfl)) (by decide) (backOf (W := 0) (rmPut l Z a0 hw [] b25 (1 : Int32) k25 (own_cap (own_cap (8 : Int32) (0 : Int32)) ((0 : Int32) + (own_len6 ((s1.toInt64) + (1 : Int64))))) (((0 : Int32) + (own_len6 ((s1.toInt64) + (1 : Int64)))) + (1 : Int32)) T602.heap n0 (Nat.le_trans Z0 K602.1) t602_0 g_b25) hZ (own_w hw 229 rfl) (own_w hw 224 rfl) (by decide) (by decide)) (g := (mkF m 205 lc585 [(.int 1), (.ref b25)])) rfl (by rw [hml]; rfl) (argsL := [(.ref b25), (.int 1)]) (rest := []) (lenOf pd__28_5bII_29V rfl) rfl (by show 2 * 0 + _ ≤ _; exact Nat.le_of_eq rfl) (hb hby at_205) (fun _ _ => ⟨rfl, rfl, (by decide : 15 + 0 ≤ _), (by decide : 210 + 0 ≤ _)⟩)
  dsimp only [Pt.U, Pt.locs, Pt.cells, Pt.slots] at y618 z618 st618 hQ618
  change Stand p l e _ s m _ below meth c T618 L618 k618 n618 at X618
  change L618 = _ ++ Lc618 at l618
  subst y618 z618
  obtain ⟨rfl, N618q, K618q, t618_0⟩ := hQ618
  have N618 : Fr n0 L618 := l618 ▸ Fr.app N602 N618q
  have K618 : Keep h0 T618.heap [] := K602.trans K618q (allS (P := fun xz => xz ∈ [] ∨ h0.size ≤ xz) (Or.inr sz_b25) all0)
  have f635 := (f619.keep K618q)
  have f636 := (f620.keep K618q)
  have f637 := (f621.keep K618q)
  have f638 := (f622.keep K618q)
  have f639 := (f623.keep K618q (ninS (Ne.symm ne_b25_r_61) nin0))
  have f640 := (f624.keep K618q (ninS na589 nin0))
  have f641 := (f625.keep K618q (ninS na590 nin0))
  have f642 := (f626.keep K618q (ninS (Ne.symm ne_b25_sh_93) nin0))
  have f643 := (f627.keep K618q (ninS ne_wD_b25 nin0))
  have f644 := (f628.keep K618q)
  have f645 := (f629.keep K618q)
  have f646 := (f630.keep K618q)
  have f647 := (f631.keep K618q (ninS ne_we_b25 nin0))
  have f648 := (f632.keep K618q)
  have f649 := (f633.keep K618q)
  obtain ⟨_, _, ⟨T634, L634, k634, n634⟩, -, X634, ⟨Lc634, hQ634, l634, y634, z634⟩, st634⟩ := Jvm.LawKit.callS X618 hx (y := mn31) hown (mvT hZ (own_w hw 227 rfl)) (mvT hZ (own_w hw 228 rfl)) (mvT hZ (own_w hw 224 rfl)) (mvT hZ (own_w hw 229 rfl)) (by decide) (backOf (W := 0) (rmPut l Z a0 hw [] b25 (1 : Int32) k25 (own_cap (own_cap (own_cap (8 : Int32) (0 : Int32)) ((0 : Int32) + (own_len6 ((s1.toInt64) + (1 : Int64))))) (((0 : Int32) + (own_len6 ((s1.toInt64) + (1 : Int64)))) + (1 : Int32))) ((((0 : Int32) + (own_len6 ((s1.toInt64) + (1 : Int64)))) + (1 : Int32)) + (1 : Int32)) T618.heap n0 (Nat.le_trans Z0 K618.1) t618_0 g_b25) hZ (own_w hw 229 rfl) (own_w hw 224 rfl) (by decide) (by decide)) (g := (mkF m 211 lc585 [(.int 1), (.ref b25)])) rfl (by rw [hml]; rfl) (argsL := [(.ref b25), (.int 1)]) (rest := []) (lenOf pd__28_5bII_29V rfl) rfl (by show 2 * 0 + _ ≤ _; exact Nat.le_of_eq rfl) (hb hby at_211) (fun _ _ => ⟨rfl, rfl, (by decide : 15 + 0 ≤ _), (by decide : 210 + 0 ≤ _)⟩)
  dsimp only [Pt.U, Pt.locs, Pt.cells, Pt.slots] at y634 z634 st634 hQ634
  change Stand p l e _ s m _ below meth c T634 L634 k634 n634 at X634
  change L634 = _ ++ Lc634 at l634
  subst y634 z634
  obtain ⟨rfl, N634q, K634q, t634_0⟩ := hQ634
  have N634 : Fr n0 L634 := l634 ▸ Fr.app N618 N634q
  have K634 : Keep h0 T634.heap [] := K618.trans K634q (allS (P := fun xz => xz ∈ [] ∨ h0.size ≤ xz) (Or.inr sz_b25) all0)
  have Vp4 := t634_0
  rw [hc4, hz4] at Vp4
  obtain ⟨c650, Ac650, qc650, Sc650, Nc650, Hc650, Gc650⟩ := id Vp4
  have hinc650 := inb_of Sc650 (j := (0 : Int32)) ⟨by decide, by decide⟩
  let lc651 : Array Slot := #[.val (.int p1), .val (.int p2), .val (.int p3), .val (.int p4), .val (.int p5), .val (.int d1), .val (.int s1), .val (.int s2), .val (.int nd), .val (.int d2), .val (.int b1), .val (.int b2), .val (.ref b25), .val (.ref b43), .val (.ref b87), .val (.long ((((192 : Int32) + (8 : Int32)) + (8 : Int32)).toInt64)), .second, .val (.long ((((192 : Int32) + (8 : Int32)) + c4).toInt64)), .second, .val (.long ((((192 : Int32) + (16 : Int32)) + (own_cap (own_cap (own_cap (own_cap c4 z4) (z4 + (own_len6 ((s2.toInt64) + (1 : Int64))))) ((z4 + (own_len6 ((s2.toInt64) + (1 : Int64)))) + (1 : Int32))) (((z4 + (own_len6 ((s2.toInt64) + (1 : Int64)))) + (1 : Int32)) + (1 : Int32)))).toInt64)), .second, .val (.long ((((192 : Int32) + (16 : Int32)) + (own_cap (own_cap (own_cap (own_cap c4 z4) (z4 + (own_len6 ((s2.toInt64) + (1 : Int64))))) ((z4 + (own_len6 ((s2.toInt64) + (1 : Int64)))) + (1 : Int32))) (((z4 + (own_len6 ((s2.toInt64) + (1 : Int64)))) + (1 : Int32)) + (1 : Int32)))).toInt64)), .second, .val (.long (c4.toInt64)), .second, .unset, .unset, .unset, .unset, .unset, .unset]
  have pre652 : ∀ t, Steps p.tables e below (T634.setTop (mkF m 231 lc651 [(.long ((s2.toInt64) + (1 : Int64)))])) t → Steps p.tables e below (s₁.setTop (entryFrame m #[(.int p1), (.int p2), (.int p3), (.int p4), (.int p5)] maxLocals)) t := fun t kt => by
   refine pre138 t ?_
   show oS T136 (mkF m 161 lc137 [(.ref b43), (.int b2), (.int s2), (.int d2), (.ref b87)])
   refine st531.trans ?_
   show oS T531 (mkF m 164 lc137 [])
   refine XS.aload X531.here hx rfl (hb hby at_164) rfl rfl ?_
   show oS T531 (mkF m 166 lc137 [(.ref b87)])
   refine st553.trans ?_
   show oS T553 (mkF m 169 lc137 [(.long ((((192 : Int32) + (16 : Int32)) + (own_cap (own_cap (own_cap (own_cap c4 z4) (z4 + (own_len6 ((s2.toInt64) + (1 : Int64))))) ((z4 + (own_len6 ((s2.toInt64) + (1 : Int64)))) + (1 : Int32))) (((z4 + (own_len6 ((s2.toInt64) + (1 : Int64)))) + (1 : Int32)) + (1 : Int32)))).toInt64))])
   refine XS.lstore X553.here hx rfl (hb hby at_169) rfl (l' := lc554) rfl ?_
   show oS T553 (mkF m 171 lc554 [])
   refine XS.aload X553.here hx rfl (hb hby at_171) rfl rfl ?_
   show oS T553 (mkF m 173 lc554 [(.ref b87)])
   refine st555.trans ?_
   show oS T555 (mkF m 176 lc554 [])
   refine XS.aload X555.here hx rfl (hb hby at_176) rfl rfl ?_
   show oS T555 (mkF m 178 lc554 [(.ref b87)])
   refine st584.trans ?_
   show oS T584 (mkF m 181 lc554 [(.long ((((192 : Int32) + (16 : Int32)) + (own_cap (own_cap (own_cap (own_cap c4 z4) (z4 + (own_len6 ((s2.toInt64) + (1 : Int64))))) ((z4 + (own_len6 ((s2.toInt64) + (1 : Int64)))) + (1 : Int32))) (((z4 + (own_len6 ((s2.toInt64) + (1 : Int64)))) + (1 : Int32)) + (1 : Int32)))).toInt64))])
   refine XS.lstore X584.here hx rfl (hb hby at_181) rfl (l' := lc585) rfl ?_
   show oS T584 (mkF m 183 lc585 [])
   refine XS.aload X584.here hx rfl (hb hby at_183) rfl rfl ?_
   show oS T584 (mkF m 185 lc585 [(.ref b25)])
   refine XS.iload X584.here hx rfl (hb hby at_185) rfl ?_
   show oS T584 (mkF m 187 lc585 [(.int s1), (.ref b25)])
   refine XS.i2l X584.here hx rfl (hb hby at_187) rfl ?_
   show oS T584 (mkF m 188 lc585 [(.long (s1.toInt64)), (.ref b25)])
   refine XS.lconst X584.here hx rfl (hb hby at_188) ?_
   show oS T584 (mkF m 189 lc585 [(.long 1), (.long (s1.toInt64)), (.ref b25)])
   refine XS.ladd X584.here hx rfl (hb hby at_189) rfl ?_
   show oS T584 (mkF m 190 lc585 [(.long ((s1.toInt64) + (1 : Int64))), (.ref b25)])
   refine st586 _ ?_
   show oS T586 (mkF m 193 lc585 [(.int (own_len6 ((s1.toInt64) + (1 : Int64)))), (.ref b25)])
   refine st588 _ ?_
   show oS T588 (mkF m 196 lc585 [])
   refine XS.aload X588.here hx rfl (hb hby at_196) rfl rfl ?_
   show oS T588 (mkF m 198 lc585 [(.ref b25)])
   refine XS.iconst X588.here hx rfl (hb hby at_198) ?_
   show oS T588 (mkF m 199 lc585 [(.int 1), (.ref b25)])
   refine st602 _ ?_
   show oS T602 (mkF m 202 lc585 [])
   refine XS.aload X602.here hx rfl (hb hby at_202) rfl rfl ?_
   show oS T602 (mkF m 204 lc585 [(.ref b25)])
   refine XS.iconst X602.here hx rfl (hb hby at_204) ?_
   show oS T602 (mkF m 205 lc585 [(.int 1), (.ref b25)])
   refine st618 _ ?_
   show oS T618 (mkF m 208 lc585 [])
   refine XS.aload X618.here hx rfl (hb hby at_208) rfl rfl ?_
   show oS T618 (mkF m 210 lc585 [(.ref b25)])
   refine XS.iconst X618.here hx rfl (hb hby at_210) ?_
   show oS T618 (mkF m 211 lc585 [(.int 1), (.ref b25)])
   refine st634 _ ?_
   show oS T634 (mkF m 214 lc585 [])
   refine XS.aload X634.here hx rfl (hb hby at_214) rfl rfl ?_
   show oS T634 (mkF m 216 lc585 [(.ref b25)])
   refine XS.iconst X634.here hx rfl (hb hby at_216) ?_
   show oS T634 (mkF m 217 lc585 [(.int 0), (.ref b25)])
   refine X634.iaload hx (j := (0 : Int32)) (v := (.int c4)) Ac650.1 (State.isArrayOf_alike hZ.alike Ac650.2.1) Ac650.2.2 hinc650 (Has.at Hc650 hinc650 rfl) (g := (mkF m 217 lc585 [(.int 0), (.ref b25)])) rfl rfl (hb hby at_217) _ ?_
   show oS T634 (mkF m 218 lc585 [(.int c4)])
   refine XS.i2l X634.here hx rfl (hb hby at_218) rfl ?_
   show oS T634 (mkF m 219 lc585 [(.long (c4.toInt64))])
   refine XS.lstore X634.here hx rfl (hb hby at_219) rfl (l' := lc651) rfl ?_
   show oS T634 (mkF m 221 lc651 [])
   refine XS.iload X634.here hx rfl (hb hby at_221) rfl ?_
   show oS T634 (mkF m 223 lc651 [(.int nd)])
   refine XS.ifNo X634.here hx rfl (hb hby at_223) rfl ((if0 _ _).trans (feq hN).1) ?_
   show oS T634 (mkF m 226 lc651 [])
   refine XS.iload X634.here hx rfl (hb hby at_226) rfl ?_
   show oS T634 (mkF m 228 lc651 [(.int s2)])
   refine XS.i2l X634.here hx rfl (hb hby at_228) rfl ?_
   show oS T634 (mkF m 229 lc651 [(.long (s2.toInt64))])
   refine XS.lconst X634.here hx rfl (hb hby at_229) ?_
   show oS T634 (mkF m 230 lc651 [(.long 1), (.long (s2.toInt64))])
   refine XS.ladd X634.here hx rfl (hb hby at_230) rfl ?_
   exact kt
  let lc653 : Array Slot := #[.val (.int p1), .val (.int p2), .val (.int p3), .val (.int p4), .val (.int p5), .val (.int d1), .val (.int s1), .val (.int s2), .val (.int nd), .val (.int d2), .val (.int b1), .val (.int b2), .val (.ref b25), .val (.ref b43), .val (.ref b87), .val (.long ((((192 : Int32) + (8 : Int32)) + (8 : Int32)).toInt64)), .second, .val (.long ((((192 : Int32) + (8 : Int32)) + c4).toInt64)), .second, .val (.long ((((192 : Int32) + (16 : Int32)) + (own_cap (own_cap (own_cap (own_cap c4 z4) (z4 + (own_len6 ((s2.toInt64) + (1 : Int64))))) ((z4 + (own_len6 ((s2.toInt64) + (1 : Int64)))) + (1 : Int32))) (((z4 + (own_len6 ((s2.toInt64) + (1 : Int64)))) + (1 : Int32)) + (1 : Int32)))).toInt64)), .second, .val (.long ((((192 : Int32) + (16 : Int32)) + (own_cap (own_cap (own_cap (own_cap c4 z4) (z4 + (own_len6 ((s2.toInt64) + (1 : Int64))))) ((z4 + (own_len6 ((s2.toInt64) + (1 : Int64)))) + (1 : Int32))) (((z4 + (own_len6 ((s2.toInt64) + (1 : Int64)))) + (1 : Int32)) + (1 : Int32)))).toInt64)), .second, .val (.long (c4.toInt64)), .second, .val (.long ((s2.toInt64) + (1 : Int64))), .second, .unset, .unset, .unset, .unset]
  obtain ⟨_, _, ⟨T654, L654, k654, n654⟩, -, X654, ⟨Lc654, hQ654, l654, y654, z654⟩, st654⟩ := Jvm.LawKit.callS X634 hx (y := mn30) hown (mvT hZ (own_w hw 222 rfl)) (mvT hZ (own_w hw 223 rfl)) (mvT hZ (own_w hw 224 rfl)) (mvT hZ (own_w hw 225 rfl)) (by decide) (backOf (W := 1) (rmLen6 l Z a0 hw [] ((s2.toInt64) + (1 : Int64)) T634.heap n0 (Nat.le_trans Z0 K634.1) ) hZ (own_w hw 225 rfl) (own_w hw 224 rfl) (by decide) (by decide)) (g := (mkF m 247 lc653 [(.long ((s2.toInt64) + (1 : Int64))), (.ref b25)])) rfl (by rw [hml]; rfl) (argsL := [(.long ((s2.toInt64) + (1 : Int64)))]) (rest := [(.ref b25)]) (lenOf pd__28J_29I rfl) rfl (by show 2 * 0 + _ ≤ _; exact Nat.le_of_eq rfl) (hb hby at_247) (fun _ _ => ⟨rfl, rfl, (by decide : 15 + 0 ≤ _), (by decide : 210 + 0 ≤ _)⟩)
  dsimp only [Pt.U, Pt.locs, Pt.cells, Pt.slots] at y654 z654 st654 hQ654
  change Stand p l e _ s m _ below meth c T654 L654 k654 n654 at X654
  change L654 = _ ++ Lc654 at l654
  subst y654 z654
  obtain ⟨rfl, N654q, e654⟩ := hQ654
  have N654 : Fr n0 L654 := l654 ▸ Fr.app N634 N654q
  have f656 := (f635.keep K634q)
  have f657 := (f636.keep K634q)
  have f658 := (f637.keep K634q)
  have f659 := (f638.keep K634q)
  have f660 := (f639.keep K634q (ninS (Ne.symm ne_b25_r_61) nin0))
  have f661 := (f640.keep K634q (ninS na589 nin0))
  have f662 := (f641.keep K634q (ninS na590 nin0))
  have f663 := (f642.keep K634q (ninS (Ne.symm ne_b25_sh_93) nin0))
  have f664 := (f643.keep K634q (ninS ne_wD_b25 nin0))
  have f665 := (f644.keep K634q)
  have f666 := (f645.keep K634q)
  have f667 := (f646.keep K634q)
  have f668 := (f647.keep K634q (ninS ne_we_b25 nin0))
  have f669 := (f648.keep K634q)
  have f670 := (f649.keep K634q)
  obtain ⟨_, _, ⟨T655, L655, k655, n655⟩, -, X655, ⟨Lc655, hQ655, l655, y655, z655⟩, st655⟩ := Jvm.LawKit.callS X654 hx (y := mn31) hown (mvT hZ (own_w hw 227 rfl)) (mvT hZ (own_w hw 228 rfl)) (mvT hZ (own_w hw 224 rfl)) (mvT hZ (own_w hw 229 rfl)) (by decide) (backOf (W := 0) (rmPut l Z a0 hw [] b25 (own_len6 ((s2.toInt64) + (1 : Int64))) k25 c4 z4 T634.heap n0 (Nat.le_trans Z0 K634.1) Vp4 g_b25) hZ (own_w hw 229 rfl) (own_w hw 224 rfl) (by decide) (by decide)) (g := (mkF m 250 lc653 [(.int (own_len6 ((s2.toInt64) + (1 : Int64)))), (.ref b25)])) rfl (by rw [hml]; rfl) (argsL := [(.ref b25), (.int (own_len6 ((s2.toInt64) + (1 : Int64))))]) (rest := []) (lenOf pd__28_5bII_29V rfl) rfl (by show 2 * 0 + _ ≤ _; exact Nat.le_of_eq rfl) (hb hby at_250) (fun _ _ => ⟨rfl, e654, (by decide : 15 + 0 ≤ _), (by decide : 210 + 0 ≤ _)⟩)
  dsimp only [Pt.U, Pt.locs, Pt.cells, Pt.slots] at y655 z655 st655 hQ655
  change Stand p l e _ s m _ below meth c T655 L655 k655 n655 at X655
  change L655 = _ ++ Lc655 at l655
  subst y655 z655
  obtain ⟨rfl, N655q, K655q, t655_0⟩ := hQ655
  have N655 : Fr n0 L655 := l655 ▸ Fr.app N654 N655q
  have K655 : Keep h0 T655.heap [] := K634.trans K655q (allS (P := fun xz => xz ∈ [] ∨ h0.size ≤ xz) (Or.inr sz_b25) all0)
  have f672 := (f656.keep K655q)
  have f673 := (f657.keep K655q)
  have f674 := (f658.keep K655q)
  have f675 := (f659.keep K655q)
  have f676 := (f660.keep K655q (ninS (Ne.symm ne_b25_r_61) nin0))
  have f677 := (f661.keep K655q (ninS na589 nin0))
  have f678 := (f662.keep K655q (ninS na590 nin0))
  have f679 := (f663.keep K655q (ninS (Ne.symm ne_b25_sh_93) nin0))
  have f680 := (f664.keep K655q (ninS ne_wD_b25 nin0))
  have f681 := (f665.keep K655q)
  have f682 := (f666.keep K655q)
  have f683 := (f667.keep K655q)
  have f684 := (f668.keep K655q (ninS ne_we_b25 nin0))
  have f685 := (f669.keep K655q)
  have f686 := (f670.keep K655q)
  obtain ⟨_, _, ⟨T671, L671, k671, n671⟩, -, X671, ⟨Lc671, hQ671, l671, y671, z671⟩, st671⟩ := Jvm.LawKit.callS X655 hx (y := mn31) hown (mvT hZ (own_w hw 227 rfl)) (mvT hZ (own_w hw 228 rfl)) (mvT hZ (own_w hw 224 rfl)) (mvT hZ (own_w hw 229 rfl)) (by decide) (backOf (W := 0) (rmPut l Z a0 hw [] b25 (1 : Int32) k25 (own_cap c4 z4) (z4 + (own_len6 ((s2.toInt64) + (1 : Int64)))) T655.heap n0 (Nat.le_trans Z0 K655.1) t655_0 g_b25) hZ (own_w hw 229 rfl) (own_w hw 224 rfl) (by decide) (by decide)) (g := (mkF m 263 lc653 [(.int 1), (.ref b25)])) rfl (by rw [hml]; rfl) (argsL := [(.ref b25), (.int 1)]) (rest := []) (lenOf pd__28_5bII_29V rfl) rfl (by show 2 * 0 + _ ≤ _; exact Nat.le_of_eq rfl) (hb hby at_263) (fun _ _ => ⟨rfl, rfl, (by decide : 15 + 0 ≤ _), (by decide : 210 + 0 ≤ _)⟩)
  dsimp only [Pt.U, Pt.locs, Pt.cells, Pt.slots] at y671 z671 st671 hQ671
  change Stand p l e _ s m _ below meth c T671 L671 k671 n671 at X671
  change L671 = _ ++ Lc671 at l671
  subst y671 z671
  obtain ⟨rfl, N671q, K671q, t671_0⟩ := hQ671
  have N671 : Fr n0 L671 := l671 ▸ Fr.app N655 N671q
  have K671 : Keep h0 T671.heap [] := K655.trans K671q (allS (P := fun xz => xz ∈ [] ∨ h0.size ≤ xz) (Or.inr sz_b25) all0)
  have f688 := (f672.keep K671q)
  have f689 := (f673.keep K671q)
  have f690 := (f674.keep K671q)
  have f691 := (f675.keep K671q)
  have f692 := (f676.keep K671q (ninS (Ne.symm ne_b25_r_61) nin0))
  have f693 := (f677.keep K671q (ninS na589 nin0))
  have f694 := (f678.keep K671q (ninS na590 nin0))
  have f695 := (f679.keep K671q (ninS (Ne.symm ne_b25_sh_93) nin0))
  have f696 := (f680.keep K671q (ninS ne_wD_b25 nin0))
  have f697 := (f681.keep K671q)
  have f698 := (f682.keep K671q)
  have f699 := (f683.keep K671q)
  have f700 := (f684.keep K671q (ninS ne_we_b25 nin0))
  have f701 := (f685.keep K671q)
  have f702 := (f686.keep K671q)
  obtain ⟨_, _, ⟨T687, L687, k687, n687⟩, -, X687, ⟨Lc687, hQ687, l687, y687, z687⟩, st687⟩ := Jvm.LawKit.callS X671 hx (y := mn31) hown (mvT hZ (own_w hw 227 rfl)) (mvT hZ (own_w hw 228 rfl)) (mvT hZ (own_w hw 224 rfl)) (mvT hZ (own_w hw 229 rfl)) (by decide) (backOf (W := 0) (rmPut l Z a0 hw [] b25 (1 : Int32) k25 (own_cap (own_cap c4 z4) (z4 + (own_len6 ((s2.toInt64) + (1 : Int64))))) ((z4 + (own_len6 ((s2.toInt64) + (1 : Int64)))) + (1 : Int32)) T671.heap n0 (Nat.le_trans Z0 K671.1) t671_0 g_b25) hZ (own_w hw 229 rfl) (own_w hw 224 rfl) (by decide) (by decide)) (g := (mkF m 269 lc653 [(.int 1), (.ref b25)])) rfl (by rw [hml]; rfl) (argsL := [(.ref b25), (.int 1)]) (rest := []) (lenOf pd__28_5bII_29V rfl) rfl (by show 2 * 0 + _ ≤ _; exact Nat.le_of_eq rfl) (hb hby at_269) (fun _ _ => ⟨rfl, rfl, (by decide : 15 + 0 ≤ _), (by decide : 210 + 0 ≤ _)⟩)
  dsimp only [Pt.U, Pt.locs, Pt.cells, Pt.slots] at y687 z687 st687 hQ687
  change Stand p l e _ s m _ below meth c T687 L687 k687 n687 at X687
  change L687 = _ ++ Lc687 at l687
  subst y687 z687
  obtain ⟨rfl, N687q, K687q, t687_0⟩ := hQ687
  have N687 : Fr n0 L687 := l687 ▸ Fr.app N671 N687q
  have K687 : Keep h0 T687.heap [] := K671.trans K687q (allS (P := fun xz => xz ∈ [] ∨ h0.size ≤ xz) (Or.inr sz_b25) all0)
  have f704 := (f688.keep K687q)
  have f705 := (f689.keep K687q)
  have f706 := (f690.keep K687q)
  have f707 := (f691.keep K687q)
  have f708 := (f692.keep K687q (ninS (Ne.symm ne_b25_r_61) nin0))
  have f709 := (f693.keep K687q (ninS na589 nin0))
  have f710 := (f694.keep K687q (ninS na590 nin0))
  have f711 := (f695.keep K687q (ninS (Ne.symm ne_b25_sh_93) nin0))
  have f712 := (f696.keep K687q (ninS ne_wD_b25 nin0))
  have f713 := (f697.keep K687q)
  have f714 := (f698.keep K687q)
  have f715 := (f699.keep K687q)
  have f716 := (f700.keep K687q (ninS ne_we_b25 nin0))
  have f717 := (f701.keep K687q)
  have f718 := (f702.keep K687q)
  obtain ⟨_, _, ⟨T703, L703, k703, n703⟩, -, X703, ⟨Lc703, hQ703, l703, y703, z703⟩, st703⟩ := Jvm.LawKit.callS X687 hx (y := mn31) hown (mvT hZ (own_w hw 227 rfl)) (mvT hZ (own_w hw 228 rfl)) (mvT hZ (own_w hw 224 rfl)) (mvT hZ (own_w hw 229 rfl)) (by decide) (backOf (W := 0) (rmPut l Z a0 hw [] b25 (1 : Int32) k25 (own_cap (own_cap (own_cap c4 z4) (z4 + (own_len6 ((s2.toInt64) + (1 : Int64))))) ((z4 + (own_len6 ((s2.toInt64) + (1 : Int64)))) + (1 : Int32))) (((z4 + (own_len6 ((s2.toInt64) + (1 : Int64)))) + (1 : Int32)) + (1 : Int32)) T687.heap n0 (Nat.le_trans Z0 K687.1) t687_0 g_b25) hZ (own_w hw 229 rfl) (own_w hw 224 rfl) (by decide) (by decide)) (g := (mkF m 275 lc653 [(.int 1), (.ref b25)])) rfl (by rw [hml]; rfl) (argsL := [(.ref b25), (.int 1)]) (rest := []) (lenOf pd__28_5bII_29V rfl) rfl (by show 2 * 0 + _ ≤ _; exact Nat.le_of_eq rfl) (hb hby at_275) (fun _ _ => ⟨rfl, rfl, (by decide : 15 + 0 ≤ _), (by decide : 210 + 0 ≤ _)⟩)
  dsimp only [Pt.U, Pt.locs, Pt.cells, Pt.slots] at y703 z703 st703 hQ703
  change Stand p l e _ s m _ below meth c T703 L703 k703 n703 at X703
  change L703 = _ ++ Lc703 at l703
  subst y703 z703
  obtain ⟨rfl, N703q, K703q, t703_0⟩ := hQ703
  have N703 : Fr n0 L703 := l703 ▸ Fr.app N687 N703q
  have K703 : Keep h0 T703.heap [] := K687.trans K703q (allS (P := fun xz => xz ∈ [] ∨ h0.size ≤ xz) (Or.inr sz_b25) all0)
  obtain ⟨c719, Ac719, qc719, Sc719, Nc719, Hc719, Gc719⟩ := id t703_0
  have hinc719 := inb_of Sc719 (j := (0 : Int32)) ⟨by decide, by decide⟩
  let lc720 : Array Slot := #[.val (.int p1), .val (.int p2), .val (.int p3), .val (.int p4), .val (.int p5), .val (.int d1), .val (.int s1), .val (.int s2), .val (.int nd), .val (.int d2), .val (.int b1), .val (.int b2), .val (.ref b25), .val (.ref b43), .val (.ref b87), .val (.long ((((192 : Int32) + (8 : Int32)) + (8 : Int32)).toInt64)), .second, .val (.long ((((192 : Int32) + (8 : Int32)) + c4).toInt64)), .second, .val (.long ((((192 : Int32) + (16 : Int32)) + (own_cap (own_cap (own_cap (own_cap c4 z4) (z4 + (own_len6 ((s2.toInt64) + (1 : Int64))))) ((z4 + (own_len6 ((s2.toInt64) + (1 : Int64)))) + (1 : Int32))) (((z4 + (own_len6 ((s2.toInt64) + (1 : Int64)))) + (1 : Int32)) + (1 : Int32)))).toInt64)), .second, .val (.long ((((192 : Int32) + (16 : Int32)) + (own_cap (own_cap (own_cap (own_cap c4 z4) (z4 + (own_len6 ((s2.toInt64) + (1 : Int64))))) ((z4 + (own_len6 ((s2.toInt64) + (1 : Int64)))) + (1 : Int32))) (((z4 + (own_len6 ((s2.toInt64) + (1 : Int64)))) + (1 : Int32)) + (1 : Int32)))).toInt64)), .second, .val (.long (c4.toInt64)), .second, .val (.long ((s2.toInt64) + (1 : Int64))), .second, .val (.long ((own_cap (own_cap (own_cap (own_cap c4 z4) (z4 + (own_len6 ((s2.toInt64) + (1 : Int64))))) ((z4 + (own_len6 ((s2.toInt64) + (1 : Int64)))) + (1 : Int32))) (((z4 + (own_len6 ((s2.toInt64) + (1 : Int64)))) + (1 : Int32)) + (1 : Int32))).toInt64)), .second, .unset, .unset]
  let lc721 : Array Slot := #[.val (.int p1), .val (.int p2), .val (.int p3), .val (.int p4), .val (.int p5), .val (.int d1), .val (.int s1), .val (.int s2), .val (.int nd), .val (.int d2), .val (.int b1), .val (.int b2), .val (.ref b25), .val (.ref b43), .val (.ref b87), .val (.long ((((192 : Int32) + (8 : Int32)) + (8 : Int32)).toInt64)), .second, .val (.long ((((192 : Int32) + (8 : Int32)) + c4).toInt64)), .second, .val (.long ((((192 : Int32) + (16 : Int32)) + (own_cap (own_cap (own_cap (own_cap c4 z4) (z4 + (own_len6 ((s2.toInt64) + (1 : Int64))))) ((z4 + (own_len6 ((s2.toInt64) + (1 : Int64)))) + (1 : Int32))) (((z4 + (own_len6 ((s2.toInt64) + (1 : Int64)))) + (1 : Int32)) + (1 : Int32)))).toInt64)), .second, .val (.long ((((192 : Int32) + (16 : Int32)) + (own_cap (own_cap (own_cap (own_cap c4 z4) (z4 + (own_len6 ((s2.toInt64) + (1 : Int64))))) ((z4 + (own_len6 ((s2.toInt64) + (1 : Int64)))) + (1 : Int32))) (((z4 + (own_len6 ((s2.toInt64) + (1 : Int64)))) + (1 : Int32)) + (1 : Int32)))).toInt64)), .second, .val (.long (c4.toInt64)), .second, .val (.long ((s2.toInt64) + (1 : Int64))), .second, .val (.long ((own_cap (own_cap (own_cap (own_cap c4 z4) (z4 + (own_len6 ((s2.toInt64) + (1 : Int64))))) ((z4 + (own_len6 ((s2.toInt64) + (1 : Int64)))) + (1 : Int32))) (((z4 + (own_len6 ((s2.toInt64) + (1 : Int64)))) + (1 : Int32)) + (1 : Int32))).toInt64)), .second, .val (.long 16), .second]
  have hn8 := t531_26
  have pre722 : ∀ t, Steps p.tables e below (T703.setTop (mkF m 317 lc721 [(.long (c4.toInt64)), (.long 200), (.long ((((192 : Int32) + (8 : Int32)) + c4).toInt64))])) t → Steps p.tables e below (s₁.setTop (entryFrame m #[(.int p1), (.int p2), (.int p3), (.int p4), (.int p5)] maxLocals)) t := fun t kt => by
   refine pre652 t ?_
   show oS T634 (mkF m 231 lc651 [(.long ((s2.toInt64) + (1 : Int64)))])
   refine XS.goto X634.here hx rfl (pc0 := 231) (pc' := 241) rfl (hb hby at_231) (by decide) (by decide) ?_
   show oS T634 (mkF m 241 lc651 [(.long ((s2.toInt64) + (1 : Int64)))])
   refine XS.lstore X634.here hx rfl (hb hby at_241) rfl (l' := lc653) rfl ?_
   show oS T634 (mkF m 243 lc653 [])
   refine XS.aload X634.here hx rfl (hb hby at_243) rfl rfl ?_
   show oS T634 (mkF m 245 lc653 [(.ref b25)])
   refine XS.lload X634.here hx rfl (hb hby at_245) rfl ?_
   show oS T634 (mkF m 247 lc653 [(.long ((s2.toInt64) + (1 : Int64))), (.ref b25)])
   refine st654 _ ?_
   show oS T654 (mkF m 250 lc653 [(.int (own_len6 ((s2.toInt64) + (1 : Int64)))), (.ref b25)])
   refine st655 _ ?_
   show oS T655 (mkF m 253 lc653 [])
   refine XS.lload X655.here hx rfl (hb hby at_253) rfl ?_
   show oS T655 (mkF m 255 lc653 [(.long ((s2.toInt64) + (1 : Int64)))])
   refine XS.lconst X655.here hx rfl (hb hby at_255) ?_
   show oS T655 (mkF m 256 lc653 [(.long 0), (.long ((s2.toInt64) + (1 : Int64)))])
   refine XS.lcmp X655.here hx rfl (hb hby at_256) rfl ?_
   show oS T655 (mkF m 257 lc653 [(.int (lcmpW ((s2.toInt64) + (1 : Int64)) (0 : Int64)))])
   refine XS.ifNo X655.here hx rfl (hb hby at_257) rfl (own_lleF hgl) ?_
   show oS T655 (mkF m 260 lc653 [])
   refine XS.aload X655.here hx rfl (hb hby at_260) rfl rfl ?_
   show oS T655 (mkF m 262 lc653 [(.ref b25)])
   refine XS.iconst X655.here hx rfl (hb hby at_262) ?_
   show oS T655 (mkF m 263 lc653 [(.int 1), (.ref b25)])
   refine st671 _ ?_
   show oS T671 (mkF m 266 lc653 [])
   refine XS.aload X671.here hx rfl (hb hby at_266) rfl rfl ?_
   show oS T671 (mkF m 268 lc653 [(.ref b25)])
   refine XS.iconst X671.here hx rfl (hb hby at_268) ?_
   show oS T671 (mkF m 269 lc653 [(.int 1), (.ref b25)])
   refine st687 _ ?_
   show oS T687 (mkF m 272 lc653 [])
   refine XS.aload X687.here hx rfl (hb hby at_272) rfl rfl ?_
   show oS T687 (mkF m 274 lc653 [(.ref b25)])
   refine XS.iconst X687.here hx rfl (hb hby at_274) ?_
   show oS T687 (mkF m 275 lc653 [(.int 1), (.ref b25)])
   refine st703 _ ?_
   show oS T703 (mkF m 278 lc653 [])
   refine XS.aload X703.here hx rfl (hb hby at_278) rfl rfl ?_
   show oS T703 (mkF m 280 lc653 [(.ref b25)])
   refine XS.iconst X703.here hx rfl (hb hby at_280) ?_
   show oS T703 (mkF m 281 lc653 [(.int 0), (.ref b25)])
   refine X703.iaload hx (j := (0 : Int32)) (v := (.int (own_cap (own_cap (own_cap (own_cap c4 z4) (z4 + (own_len6 ((s2.toInt64) + (1 : Int64))))) ((z4 + (own_len6 ((s2.toInt64) + (1 : Int64)))) + (1 : Int32))) (((z4 + (own_len6 ((s2.toInt64) + (1 : Int64)))) + (1 : Int32)) + (1 : Int32))))) Ac719.1 (State.isArrayOf_alike hZ.alike Ac719.2.1) Ac719.2.2 hinc719 (Has.at Hc719 hinc719 rfl) (g := (mkF m 281 lc653 [(.int 0), (.ref b25)])) rfl rfl (hb hby at_281) _ ?_
   show oS T703 (mkF m 282 lc653 [(.int (own_cap (own_cap (own_cap (own_cap c4 z4) (z4 + (own_len6 ((s2.toInt64) + (1 : Int64))))) ((z4 + (own_len6 ((s2.toInt64) + (1 : Int64)))) + (1 : Int32))) (((z4 + (own_len6 ((s2.toInt64) + (1 : Int64)))) + (1 : Int32)) + (1 : Int32))))])
   refine XS.i2l X703.here hx rfl (hb hby at_282) rfl ?_
   show oS T703 (mkF m 283 lc653 [(.long ((own_cap (own_cap (own_cap (own_cap c4 z4) (z4 + (own_len6 ((s2.toInt64) + (1 : Int64))))) ((z4 + (own_len6 ((s2.toInt64) + (1 : Int64)))) + (1 : Int32))) (((z4 + (own_len6 ((s2.toInt64) + (1 : Int64)))) + (1 : Int32)) + (1 : Int32))).toInt64))])
   refine XS.lstore X703.here hx rfl (hb hby at_283) rfl (l' := lc720) rfl ?_
   show oS T703 (mkF m 285 lc720 [])
   refine XS.iload X703.here hx rfl (hb hby at_285) rfl ?_
   show oS T703 (mkF m 287 lc720 [(.int nd)])
   refine XS.ifNo X703.here hx rfl (hb hby at_287) rfl ((if0 _ _).trans (feq hN).1) ?_
   show oS T703 (mkF m 290 lc720 [])
   refine X703.ldc2Long hx hown (mvT hZ (own_w hw 235 rfl)) (g := (mkF m 290 lc720 [])) rfl (hb hby at_290) _ ?_
   show oS T703 (mkF m 293 lc720 [(.long 16)])
   refine XS.goto X703.here hx rfl (pc0 := 293) (pc' := 299) rfl (hb hby at_293) (by decide) (by decide) ?_
   show oS T703 (mkF m 299 lc720 [(.long 16)])
   refine XS.lstore X703.here hx rfl (hb hby at_299) rfl (l' := lc721) rfl ?_
   show oS T703 (mkF m 301 lc721 [])
   refine XS.lload X703.here hx rfl (hb hby at_301) rfl ?_
   show oS T703 (mkF m 303 lc721 [(.long ((((192 : Int32) + (8 : Int32)) + (8 : Int32)).toInt64))])
   refine X703.ldc2Long hx hown (mvT hZ (own_w hw 232 rfl)) (g := (mkF m 303 lc721 [(.long ((((192 : Int32) + (8 : Int32)) + (8 : Int32)).toInt64))])) rfl (hb hby at_303) _ ?_
   show oS T703 (mkF m 306 lc721 [(.long 208), (.long ((((192 : Int32) + (8 : Int32)) + (8 : Int32)).toInt64))])
   refine XS.lcmp X703.here hx rfl (hb hby at_306) rfl ?_
   show oS T703 (mkF m 307 lc721 [(.int (lcmpW ((((192 : Int32) + (8 : Int32)) + (8 : Int32)).toInt64) (208 : Int64)))])
   refine XS.ifNo X703.here hx rfl (hb hby at_307) rfl (own_lneF ((by decide) : ((((192 : Int32) + (8 : Int32)) + (8 : Int32)).toInt64) = (208 : Int64))) ?_
   show oS T703 (mkF m 310 lc721 [])
   refine XS.lload X703.here hx rfl (hb hby at_310) rfl ?_
   show oS T703 (mkF m 312 lc721 [(.long ((((192 : Int32) + (8 : Int32)) + c4).toInt64))])
   refine X703.ldc2Long hx hown (mvT hZ (own_w hw 233 rfl)) (g := (mkF m 312 lc721 [(.long ((((192 : Int32) + (8 : Int32)) + c4).toInt64))])) rfl (hb hby at_312) _ ?_
   show oS T703 (mkF m 315 lc721 [(.long 200), (.long ((((192 : Int32) + (8 : Int32)) + c4).toInt64))])
   refine XS.lload X703.here hx rfl (hb hby at_315) rfl ?_
   exact kt
  obtain ⟨fs, hr, hrun, hended, hW, hsame⟩ := X703.leave (v := some (.int 1)) (fun h => by rw [Bd.returns] at h; cases h)
  refine ⟨_, _, pre722 _ ?_, hrun, hended, _, _, rfl, ?_, ⟨_, rfl⟩, hW, hsame.mono (by decide) (by decide)⟩
  ·show oS T703 (mkF m 317 lc721 [(.long (c4.toInt64)), (.long 200), (.long ((((192 : Int32) + (8 : Int32)) + c4).toInt64))])
   refine XS.ladd X703.here hx rfl (hb hby at_317) rfl ?_
   show oS T703 (mkF m 318 lc721 [(.long ((200 : Int64) + (c4.toInt64))), (.long ((((192 : Int32) + (8 : Int32)) + c4).toInt64))])
   refine XS.lcmp X703.here hx rfl (hb hby at_318) rfl ?_
   show oS T703 (mkF m 319 lc721 [(.int (lcmpW ((((192 : Int32) + (8 : Int32)) + c4).toInt64) ((200 : Int64) + (c4.toInt64))))])
   refine XS.ifNo X703.here hx rfl (hb hby at_319) rfl (own_lneF ((own_mem16 hn4 (by decide) (by decide)) : ((((192 : Int32) + (8 : Int32)) + c4).toInt64) = ((200 : Int64) + (c4.toInt64)))) ?_
   show oS T703 (mkF m 322 lc721 [])
   refine XS.lload X703.here hx rfl (hb hby at_322) rfl ?_
   show oS T703 (mkF m 324 lc721 [(.long ((((192 : Int32) + (16 : Int32)) + (own_cap (own_cap (own_cap (own_cap c4 z4) (z4 + (own_len6 ((s2.toInt64) + (1 : Int64))))) ((z4 + (own_len6 ((s2.toInt64) + (1 : Int64)))) + (1 : Int32))) (((z4 + (own_len6 ((s2.toInt64) + (1 : Int64)))) + (1 : Int32)) + (1 : Int32)))).toInt64))])
   refine X703.ldc2Long hx hown (mvT hZ (own_w hw 234 rfl)) (g := (mkF m 324 lc721 [(.long ((((192 : Int32) + (16 : Int32)) + (own_cap (own_cap (own_cap (own_cap c4 z4) (z4 + (own_len6 ((s2.toInt64) + (1 : Int64))))) ((z4 + (own_len6 ((s2.toInt64) + (1 : Int64)))) + (1 : Int32))) (((z4 + (own_len6 ((s2.toInt64) + (1 : Int64)))) + (1 : Int32)) + (1 : Int32)))).toInt64))])) rfl (hb hby at_324) _ ?_
   show oS T703 (mkF m 327 lc721 [(.long 192), (.long ((((192 : Int32) + (16 : Int32)) + (own_cap (own_cap (own_cap (own_cap c4 z4) (z4 + (own_len6 ((s2.toInt64) + (1 : Int64))))) ((z4 + (own_len6 ((s2.toInt64) + (1 : Int64)))) + (1 : Int32))) (((z4 + (own_len6 ((s2.toInt64) + (1 : Int64)))) + (1 : Int32)) + (1 : Int32)))).toInt64))])
   refine XS.lload X703.here hx rfl (hb hby at_327) rfl ?_
   show oS T703 (mkF m 329 lc721 [(.long 16), (.long 192), (.long ((((192 : Int32) + (16 : Int32)) + (own_cap (own_cap (own_cap (own_cap c4 z4) (z4 + (own_len6 ((s2.toInt64) + (1 : Int64))))) ((z4 + (own_len6 ((s2.toInt64) + (1 : Int64)))) + (1 : Int32))) (((z4 + (own_len6 ((s2.toInt64) + (1 : Int64)))) + (1 : Int32)) + (1 : Int32)))).toInt64))])
   refine XS.ladd X703.here hx rfl (hb hby at_329) rfl ?_
   show oS T703 (mkF m 330 lc721 [(.long ((192 : Int64) + (16 : Int64))), (.long ((((192 : Int32) + (16 : Int32)) + (own_cap (own_cap (own_cap (own_cap c4 z4) (z4 + (own_len6 ((s2.toInt64) + (1 : Int64))))) ((z4 + (own_len6 ((s2.toInt64) + (1 : Int64)))) + (1 : Int32))) (((z4 + (own_len6 ((s2.toInt64) + (1 : Int64)))) + (1 : Int32)) + (1 : Int32)))).toInt64))])
   refine XS.lload X703.here hx rfl (hb hby at_330) rfl ?_
   show oS T703 (mkF m 332 lc721 [(.long ((own_cap (own_cap (own_cap (own_cap c4 z4) (z4 + (own_len6 ((s2.toInt64) + (1 : Int64))))) ((z4 + (own_len6 ((s2.toInt64) + (1 : Int64)))) + (1 : Int32))) (((z4 + (own_len6 ((s2.toInt64) + (1 : Int64)))) + (1 : Int32)) + (1 : Int32))).toInt64)), (.long ((192 : Int64) + (16 : Int64))), (.long ((((192 : Int32) + (16 : Int32)) + (own_cap (own_cap (own_cap (own_cap c4 z4) (z4 + (own_len6 ((s2.toInt64) + (1 : Int64))))) ((z4 + (own_len6 ((s2.toInt64) + (1 : Int64)))) + (1 : Int32))) (((z4 + (own_len6 ((s2.toInt64) + (1 : Int64)))) + (1 : Int32)) + (1 : Int32)))).toInt64))])
   refine XS.ladd X703.here hx rfl (hb hby at_332) rfl ?_
   show oS T703 (mkF m 333 lc721 [(.long (((192 : Int64) + (16 : Int64)) + ((own_cap (own_cap (own_cap (own_cap c4 z4) (z4 + (own_len6 ((s2.toInt64) + (1 : Int64))))) ((z4 + (own_len6 ((s2.toInt64) + (1 : Int64)))) + (1 : Int32))) (((z4 + (own_len6 ((s2.toInt64) + (1 : Int64)))) + (1 : Int32)) + (1 : Int32))).toInt64))), (.long ((((192 : Int32) + (16 : Int32)) + (own_cap (own_cap (own_cap (own_cap c4 z4) (z4 + (own_len6 ((s2.toInt64) + (1 : Int64))))) ((z4 + (own_len6 ((s2.toInt64) + (1 : Int64)))) + (1 : Int32))) (((z4 + (own_len6 ((s2.toInt64) + (1 : Int64)))) + (1 : Int32)) + (1 : Int32)))).toInt64))])
   refine XS.lcmp X703.here hx rfl (hb hby at_333) rfl ?_
   show oS T703 (mkF m 334 lc721 [(.int (lcmpW ((((192 : Int32) + (16 : Int32)) + (own_cap (own_cap (own_cap (own_cap c4 z4) (z4 + (own_len6 ((s2.toInt64) + (1 : Int64))))) ((z4 + (own_len6 ((s2.toInt64) + (1 : Int64)))) + (1 : Int32))) (((z4 + (own_len6 ((s2.toInt64) + (1 : Int64)))) + (1 : Int32)) + (1 : Int32)))).toInt64) (((192 : Int64) + (16 : Int64)) + ((own_cap (own_cap (own_cap (own_cap c4 z4) (z4 + (own_len6 ((s2.toInt64) + (1 : Int64))))) ((z4 + (own_len6 ((s2.toInt64) + (1 : Int64)))) + (1 : Int32))) (((z4 + (own_len6 ((s2.toInt64) + (1 : Int64)))) + (1 : Int32)) + (1 : Int32))).toInt64))))])
   refine XS.ifNo X703.here hx rfl (hb hby at_334) rfl (own_lneF ((own_mem16 hn8 (by decide) (by decide)) : ((((192 : Int32) + (16 : Int32)) + (own_cap (own_cap (own_cap (own_cap c4 z4) (z4 + (own_len6 ((s2.toInt64) + (1 : Int64))))) ((z4 + (own_len6 ((s2.toInt64) + (1 : Int64)))) + (1 : Int32))) (((z4 + (own_len6 ((s2.toInt64) + (1 : Int64)))) + (1 : Int32)) + (1 : Int32)))).toInt64) = (((192 : Int64) + (16 : Int64)) + ((own_cap (own_cap (own_cap (own_cap c4 z4) (z4 + (own_len6 ((s2.toInt64) + (1 : Int64))))) ((z4 + (own_len6 ((s2.toInt64) + (1 : Int64)))) + (1 : Int32))) (((z4 + (own_len6 ((s2.toInt64) + (1 : Int64)))) + (1 : Int32)) + (1 : Int32))).toInt64)))) ?_
   show oS T703 (mkF m 337 lc721 [])
   refine XS.lload X703.here hx rfl (hb hby at_337) rfl ?_
   show oS T703 (mkF m 339 lc721 [(.long ((((192 : Int32) + (16 : Int32)) + (own_cap (own_cap (own_cap (own_cap c4 z4) (z4 + (own_len6 ((s2.toInt64) + (1 : Int64))))) ((z4 + (own_len6 ((s2.toInt64) + (1 : Int64)))) + (1 : Int32))) (((z4 + (own_len6 ((s2.toInt64) + (1 : Int64)))) + (1 : Int32)) + (1 : Int32)))).toInt64))])
   refine X703.ldc2Long hx hown (mvT hZ (own_w hw 232 rfl)) (g := (mkF m 339 lc721 [(.long ((((192 : Int32) + (16 : Int32)) + (own_cap (own_cap (own_cap (own_cap c4 z4) (z4 + (own_len6 ((s2.toInt64) + (1 : Int64))))) ((z4 + (own_len6 ((s2.toInt64) + (1 : Int64)))) + (1 : Int32))) (((z4 + (own_len6 ((s2.toInt64) + (1 : Int64)))) + (1 : Int32)) + (1 : Int32)))).toInt64))])) rfl (hb hby at_339) _ ?_
   show oS T703 (mkF m 342 lc721 [(.long 208), (.long ((((192 : Int32) + (16 : Int32)) + (own_cap (own_cap (own_cap (own_cap c4 z4) (z4 + (own_len6 ((s2.toInt64) + (1 : Int64))))) ((z4 + (own_len6 ((s2.toInt64) + (1 : Int64)))) + (1 : Int32))) (((z4 + (own_len6 ((s2.toInt64) + (1 : Int64)))) + (1 : Int32)) + (1 : Int32)))).toInt64))])
   refine XS.lload X703.here hx rfl (hb hby at_342) rfl ?_
   show oS T703 (mkF m 344 lc721 [(.long ((own_cap (own_cap (own_cap (own_cap c4 z4) (z4 + (own_len6 ((s2.toInt64) + (1 : Int64))))) ((z4 + (own_len6 ((s2.toInt64) + (1 : Int64)))) + (1 : Int32))) (((z4 + (own_len6 ((s2.toInt64) + (1 : Int64)))) + (1 : Int32)) + (1 : Int32))).toInt64)), (.long 208), (.long ((((192 : Int32) + (16 : Int32)) + (own_cap (own_cap (own_cap (own_cap c4 z4) (z4 + (own_len6 ((s2.toInt64) + (1 : Int64))))) ((z4 + (own_len6 ((s2.toInt64) + (1 : Int64)))) + (1 : Int32))) (((z4 + (own_len6 ((s2.toInt64) + (1 : Int64)))) + (1 : Int32)) + (1 : Int32)))).toInt64))])
   refine XS.ladd X703.here hx rfl (hb hby at_344) rfl ?_
   show oS T703 (mkF m 345 lc721 [(.long ((208 : Int64) + ((own_cap (own_cap (own_cap (own_cap c4 z4) (z4 + (own_len6 ((s2.toInt64) + (1 : Int64))))) ((z4 + (own_len6 ((s2.toInt64) + (1 : Int64)))) + (1 : Int32))) (((z4 + (own_len6 ((s2.toInt64) + (1 : Int64)))) + (1 : Int32)) + (1 : Int32))).toInt64))), (.long ((((192 : Int32) + (16 : Int32)) + (own_cap (own_cap (own_cap (own_cap c4 z4) (z4 + (own_len6 ((s2.toInt64) + (1 : Int64))))) ((z4 + (own_len6 ((s2.toInt64) + (1 : Int64)))) + (1 : Int32))) (((z4 + (own_len6 ((s2.toInt64) + (1 : Int64)))) + (1 : Int32)) + (1 : Int32)))).toInt64))])
   refine XS.lcmp X703.here hx rfl (hb hby at_345) rfl ?_
   show oS T703 (mkF m 346 lc721 [(.int (lcmpW ((((192 : Int32) + (16 : Int32)) + (own_cap (own_cap (own_cap (own_cap c4 z4) (z4 + (own_len6 ((s2.toInt64) + (1 : Int64))))) ((z4 + (own_len6 ((s2.toInt64) + (1 : Int64)))) + (1 : Int32))) (((z4 + (own_len6 ((s2.toInt64) + (1 : Int64)))) + (1 : Int32)) + (1 : Int32)))).toInt64) ((208 : Int64) + ((own_cap (own_cap (own_cap (own_cap c4 z4) (z4 + (own_len6 ((s2.toInt64) + (1 : Int64))))) ((z4 + (own_len6 ((s2.toInt64) + (1 : Int64)))) + (1 : Int32))) (((z4 + (own_len6 ((s2.toInt64) + (1 : Int64)))) + (1 : Int32)) + (1 : Int32))).toInt64))))])
   refine XS.ifNo X703.here hx rfl (hb hby at_346) rfl (own_lneF ((own_mem16 hn8 (by decide) (by decide)) : ((((192 : Int32) + (16 : Int32)) + (own_cap (own_cap (own_cap (own_cap c4 z4) (z4 + (own_len6 ((s2.toInt64) + (1 : Int64))))) ((z4 + (own_len6 ((s2.toInt64) + (1 : Int64)))) + (1 : Int32))) (((z4 + (own_len6 ((s2.toInt64) + (1 : Int64)))) + (1 : Int32)) + (1 : Int32)))).toInt64) = ((208 : Int64) + ((own_cap (own_cap (own_cap (own_cap c4 z4) (z4 + (own_len6 ((s2.toInt64) + (1 : Int64))))) ((z4 + (own_len6 ((s2.toInt64) + (1 : Int64)))) + (1 : Int32))) (((z4 + (own_len6 ((s2.toInt64) + (1 : Int64)))) + (1 : Int32)) + (1 : Int32))).toInt64)))) ?_
   show oS T703 (mkF m 349 lc721 [])
   refine XS.iconst X703.here hx rfl (hb hby at_349) ?_
   show oS T703 (mkF m 350 lc721 [(.int 1)])
   refine XS.goto X703.here hx rfl (pc0 := 350) (pc' := 354) rfl (hb hby at_350) (by decide) (by decide) ?_
   show oS T703 (mkF m 354 lc721 [(.int 1)])
   exact retN X703 hx (t := .boolean) Bd.returns (by simp) (hb hby at_354) hr
  ·show Q_rm0 Z p1 p2 p3 p4 p5 wD kD x1 x2 wNo wOt wW we ke ve h0 n0 _ T703.heap _
   exact ⟨rfl, N703⟩
theorem own_hasL (c : Cell) : ∀ (r : List Value) (i : Nat), c.slots.toList.drop i = r → HasL c i r
  | [], _, _ => trivial
  | v :: r, i, h => ⟨by
      have q : c.slots.toList[i]? = some v := by rw [← List.head?_drop, h]; rfl
      simpa using q, own_hasL c r (i + 1) (by rw [← List.tail_drop, h]; rfl)⟩
theorem own_arr {s : State} {args : Array Value} {t : Term} {ty : FieldType} {k : Int32} {a : Addr} (ev : t.eval args s none [] s = some (.ref a)) (hx : (Cond.arrayOf t ty).value args s none s [] = some true) (hl : (Cond.eq (Term.length t) (Term.int k)).value args s none s [] = some true) : ∃ c, Arr s s.heap a c ty ∧ c.slots.size < 2 ^ 31 ∧ c.slots.size.toInt32 = k := by
  obtain ⟨c, A⟩ := Arr.start ev hx
  obtain ⟨x, y, hx', hy, K1, K2⟩ := cmp_v (Or.inl hl)
  cases (Term.int_eval k).symm.trans hy
  obtain ⟨z, rfl⟩ := K2
  have q := gotT (Cond.eq_ints hx' hy) hl
  subst q
  obtain ⟨b, cell, g1, g2, g3, g4⟩ := Jvm.Lib.length_spec hx'
  have g5 := Value.ref.inj (Option.some.inj (ev.symm.trans g1))
  subst g5
  have g6 := Option.some.inj (A.1.symm.trans (State.arrayAt?_spec g2).1)
  subst g6
  exact ⟨_, A, g3, (Value.int.inj g4).symm⟩
theorem own_sz {n : Nat} {k : Int32} (q : n < 2 ^ 31) (e : n.toInt32 = k) : k.toNatClampNeg = n := by
  subst e
  exact Int32.toNatClampNeg_ofNat_of_lt q
set_option maxRecDepth 65536 in
set_option maxHeartbeats 40000000 in
theorem comes_1 {Post : Tables → Env → Array Value → State → Outcome → State → Prop} (hpost : ∀ tb e args s v u, (limb_1_1.after args s (.returned v) u = true ∧ limb_1_2.after args s (.returned v) u = true ∧ True) → FrameEnd s (.returned v) u (Jvm.fieldLocs frame_1_writes args s ++ Jvm.arrayLocs frame_1_arrays args s ++ Jvm.staticLocs frame_1_statics s) 32 320 → Post tb e args s (.returned v) u) :
    ArmFor flags0 classFile x code maxLocals ret World_1 tables_1 room_1 Calls_1 rest_1 Pre_1 Post := by
  intro l hfl _ _ p e ha hc hk s m args below hf hA hF happ hP
  obtain ⟨hcalls, hrest, hpre⟩ := hP
  obtain ⟨-, -, -, hnamed, -, -, -, hat⟩ := (Spec.applies_iff hf).mp happ
  obtain ⟨hg, hn⟩ := and_e (Cond.before_iff.mp (show (Jvm.Cond.and given_1 narrow_1).before args s = true from hpre))
  obtain ⟨gc, gr0⟩ := and_e hg
  obtain ⟨ga0, gr1⟩ := and_e gr0
  obtain ⟨ga1, gr2⟩ := and_e gr1
  obtain ⟨ga2, gr3⟩ := and_e gr2
  obtain ⟨ga3, gr4⟩ := and_e gr3
  obtain ⟨w0, w1, w2, w3, w4, rfl⟩ : ∃ w0 w1 w2 w3 w4 : Value, args = #[w0, w1, w2, w3, w4] := by
    have hs : args.size = 5 := by simpa [Cond.value, given_1] using gc
    obtain ⟨L⟩ := args
    match L, hs with
    | [w0, w1, w2, w3, w4], _ => exact ⟨w0, w1, w2, w3, w4, rfl⟩
  have hw := fun d (hd : d ∈ tables_1) => atoms_spec (ws := Jvm.Cond.code x code maxLocals ret :: tables_1) hat d (List.mem_cons_of_mem _ hd)
  have hfit : Fit s := fun {y c} hc i hi => by
    obtain ⟨ha, rfl⟩ := Array.getElem?_eq_some_iff.mp hc
    have q := List.all_eq_true.mp ((Array.all_eq_true_iff_forall_mem.mp hF) _ (Array.getElem_mem ha)) i (List.mem_range.mpr hi)
    simpa [Array.getElem?_eq_getElem hi] using q
  obtain ⟨hsets, hown0⟩ := atoms_of _ (rest_1_c_eq ▸ (show rest_1_c.before _ s = true from hrest))
  have hr0 := Cond.before_iff.mp hown0
  obtain ⟨i0, ei0⟩ := is_v ga0
  obtain rfl : w0 = (.int i0) := Option.some.inj ei0
  obtain ⟨i1, ei1⟩ := is_v ga1
  obtain rfl : w1 = (.int i1) := Option.some.inj ei1
  obtain ⟨i2, ei2⟩ := is_v ga2
  obtain rfl : w2 = (.int i2) := Option.some.inj ei2
  obtain ⟨i3, ei3⟩ := is_v ga3
  obtain rfl : w3 = (.int i3) := Option.some.inj ei3
  obtain ⟨i4, ei4⟩ := is_v gr4
  obtain rfl : w4 = (.int i4) := Option.some.inj ei4
  obtain ⟨c0, hn0⟩ := and_e hn
  obtain ⟨c1, hn1⟩ := and_e hn0
  obtain ⟨c2, hn2⟩ := and_e hn1
  obtain ⟨c3, hn3⟩ := and_e hn2
  obtain ⟨c4, hn4⟩ := and_e hn3
  obtain ⟨c5, hn5⟩ := and_e hn4
  obtain ⟨c6, hn6⟩ := and_e hn5
  obtain ⟨c7, hn7⟩ := and_e hn6
  obtain ⟨c8, hn8⟩ := and_e hn7
  obtain ⟨c9, hn9⟩ := and_e hn8
  have c10 := hn9
  obtain ⟨w_NN, ev_NN⟩ := exa_v c0
  have S_NN : Sta s s.heap "com/example/morro/morro/analysis/PennTag" "NN" "Lcom/example/morro/morro/analysis/PennTag;" (.ref w_NN) := Sta.start ev_NN (Or.inr ⟨(hw _ (List.mem_of_getElem? (i := 29) rfl)), (hw _ (List.mem_of_getElem? (i := 30) rfl))⟩)
  have E_NN : Exa s s.heap w_NN "com/example/morro/morro/analysis/PennTag" := Exa.start ev_NN c0
  obtain ⟨w_CLOSING_QUOTE, ev_CLOSING_QUOTE⟩ := exa_v c1
  have S_CLOSING_QUOTE : Sta s s.heap "com/example/morro/morro/analysis/PennTag" "CLOSING_QUOTE" "Lcom/example/morro/morro/analysis/PennTag;" (.ref w_CLOSING_QUOTE) := Sta.start ev_CLOSING_QUOTE (Or.inr ⟨(hw _ (List.mem_of_getElem? (i := 29) rfl)), (hw _ (List.mem_of_getElem? (i := 63) rfl))⟩)
  have E_CLOSING_QUOTE : Exa s s.heap w_CLOSING_QUOTE "com/example/morro/morro/analysis/PennTag" := Exa.start ev_CLOSING_QUOTE c1
  obtain ⟨w_WORD_CLASSES, ev_WORD_CLASSES⟩ := exa_v c2
  have S_WORD_CLASSES : Sta s s.heap "com/example/morro/morro/index/IndexFormat" "WORD_CLASSES" "Ljava/util/List;" (.ref w_WORD_CLASSES) := Sta.start ev_WORD_CLASSES (Or.inr ⟨(hw _ (List.mem_of_getElem? (i := 86) rfl)), (hw _ (List.mem_of_getElem? (i := 87) rfl))⟩)
  have E_WORD_CLASSES : Exa s s.heap w_WORD_CLASSES "java/util/ImmutableCollections$ListN" := Exa.start ev_WORD_CLASSES c2
  obtain ⟨w_NOUN, ev_NOUN⟩ := exa_v c6
  have S_NOUN : Sta s s.heap "com/example/morro/morro/analysis/WordClass" "NOUN" "Lcom/example/morro/morro/analysis/WordClass;" (.ref w_NOUN) := Sta.start ev_NOUN (Or.inr ⟨(hw _ (List.mem_of_getElem? (i := 211) rfl)), (hw _ (List.mem_of_getElem? (i := 212) rfl))⟩)
  have E_NOUN : Exa s s.heap w_NOUN "com/example/morro/morro/analysis/WordClass" := Exa.start ev_NOUN c6
  obtain ⟨w_OTHER, ev_OTHER⟩ := exa_v c9
  have S_OTHER : Sta s s.heap "com/example/morro/morro/analysis/WordClass" "OTHER" "Lcom/example/morro/morro/analysis/WordClass;" (.ref w_OTHER) := Sta.start ev_OTHER (Or.inr ⟨(hw _ (List.mem_of_getElem? (i := 211) rfl)), (hw _ (List.mem_of_getElem? (i := 218) rfl))⟩)
  have E_OTHER : Exa s s.heap w_OTHER "com/example/morro/morro/analysis/WordClass" := Exa.start ev_OTHER c9
  have F_ordinal_NN : Fld s s.heap w_NN "java/lang/Enum" "ordinal" "I" (.int (11 : Int32)) := own_fldI ev_NN c5
  have F_ordinal_NOUN : Fld s s.heap w_NOUN "java/lang/Enum" "ordinal" "I" (.int (0 : Int32)) := own_fldI ev_NOUN c7
  have F_ordinal_CLOSING_QUOTE : Fld s s.heap w_CLOSING_QUOTE "java/lang/Enum" "ordinal" "I" (.int (44 : Int32)) := own_fldI ev_CLOSING_QUOTE c8
  have F_ordinal_OTHER : Fld s s.heap w_OTHER "java/lang/Enum" "ordinal" "I" (.int (3 : Int32)) := own_fldI ev_OTHER c10
  obtain ⟨we, ev_we⟩ := arr_v c3
  obtain ⟨cE, AE, qE, zE⟩ := own_arr ev_we c3 c4
  have V_we : Arv s s.heap we cE.cls (.object "java/lang/Object") (4 : Int32) cE.slots.toList .null := Arv.start hfit AE qE zE (by decide) (by rw [own_sz qE zE, Array.length_toList]) (own_hasL cE _ 0 rfl)
  have F_we : Fld s s.heap w_WORD_CLASSES "java/util/ImmutableCollections$ListN" "elements" "[Ljava/lang/Object;" (.ref we) := Fld.start (by rw [fld_at ev_WORD_CLASSES] at ev_we; exact ev_we)
  obtain ⟨wD, ev_wD⟩ := arr_v (Cond.before_iff.mp (hsets _ (List.mem_of_getElem? (i := 6) rfl)))
  obtain ⟨cD, AD, qD, zD⟩ := own_arr ev_wD (Cond.before_iff.mp (hsets _ (List.mem_of_getElem? (i := 6) rfl))) (Cond.before_iff.mp (hsets _ (List.mem_of_getElem? (i := 8) rfl)))
  have V_wD : Arv s s.heap wD cD.cls (.object "java/lang/Object") (0 : Int32) [] .null := Arv.start hfit AD qD zD (by decide) (by decide) trivial
  have S_wD : Sta s s.heap "java/util/ArrayList" "DEFAULTCAPACITY_EMPTY_ELEMENTDATA" "[Ljava/lang/Object;" (.ref wD) := Sta.start ev_wD (Or.inr ⟨(hw _ (List.mem_of_getElem? (i := 4) rfl)), (hsets _ (List.mem_of_getElem? (i := 2) rfl))⟩)
  obtain ⟨n, o, h1, h2, h3, _, L, rfl, ⟨rfl, N⟩, hq⟩ := rm0 l s _ hw tables_1 i0 i1 i2 i3 i4 wD cD.cls w_NN w_CLOSING_QUOTE w_NOUN w_OTHER w_WORD_CLASSES we cE.cls cE.slots.toList s.heap s.heap.size (Nat.le_refl _) S_wD V_wD V_wD.lt S_NN S_CLOSING_QUOTE E_NN E_CLOSING_QUOTE F_ordinal_NN F_ordinal_CLOSING_QUOTE E_NN.lt E_CLOSING_QUOTE.lt S_NOUN S_OTHER E_NOUN E_OTHER F_ordinal_NOUN F_ordinal_OTHER E_NOUN.lt E_OTHER.lt S_WORD_CLASSES E_WORD_CLASSES F_we V_we E_WORD_CLASSES.lt V_we.lt p e ha hc hk s m _ below hf ((Spec.applies_iff_loose hf).mp happ).1 ⟨rfl, State.Warmed39.refl s, rfl⟩ trivial
  refine ⟨n, _, h1, h2, h3, hpost _ _ _ _ _ _ ⟨Cond.after_iff.mpr rfl, Cond.after_iff.mpr (eq_i res_at (Term.int_eval (1)) rfl), trivial⟩ ⟨hq.1, hq.2.1, (hq.2.2.sift fun y hy => Or.inr (N y hy)).mono (by decide) (by decide)⟩⟩
theorem main_1_1 : Claimed_1_1 := comes_1 fun _ _ _ _ _ _ h hF => ⟨h.1, hF⟩
theorem main_1_2 : Claimed_1_2 := comes_1 fun _ _ _ _ _ _ h hF => ⟨h.2.1, hF⟩
end Jvm.Pilot.@@N@@
namespace Jvm.Pilot.@@N@@
open Jvm Jvm.ClassFile Sem Op Lib Jvm.Free Jvm.Stand Jvm.Pilot.@@N@@.Jvm.D
/-! MADE BY PROGRAM (witnessworld.py) out of the Statement's table words and the real class files: 39 classes; the members and pool entries that the words name. The judged class is class 1, her method 3. -/
namespace start1
open Jvm.ClassFile
def own_fd (n : String) (t : Jvm.ClassFile.FieldType) (a s : Nat) : Field := { name := n, type := t, accessFlags := a, slot := s, constantValue := 0 }
abbrev oPT : Jvm.ClassFile.FieldType := .object "com/example/morro/morro/analysis/PennTag"
def u (s : String) : CpInfo := .utf8 (stringToUtf16 s)
/-- a pool by its gaps: so many unusable entries, then the entry; so many at the end -/
def gap : Nat → List CpInfo → List CpInfo
  | 0, r => r
  | n + 1, r => .unusable :: gap n r
def poolList (es : List (Nat × CpInfo)) (last : Nat) : List CpInfo := es.foldr (fun e r => gap e.1 (e.2 :: r)) (gap last [])
def pool (es : List (Nat × CpInfo)) (last : Nat) : Array CpInfo := ⟨poolList es last⟩
def fileOf (pool : Array CpInfo) (this : Nat) (attrs : Array Attribute := #[]) (ms : Array MethodInfo := #[]) (fl : Nat := 33) (sup : Nat := 0) (ifs : Array Nat := #[]) (fds : Array FieldInfo := #[]) : ClassFile where
  minorVersion := 0
  majorVersion := 65
  constantPool := pool
  accessFlags := fl
  thisClass := this
  superClass := sup
  interfaces := ifs
  fields := fds
  methods := ms
  attributes := attrs
def plain (name : String) (sup : Option ClassId) : Class where
  name := name
  kind := .ordinary
  loader := none
  accessFlags := 33
  super := sup
  interfaces := #[]
  cf := none
  fields := #[]
  methods := #[]
  instanceTypes := #[]
  staticTypes := #[]
  resolved := #[]
  callSites := []
  init := .initialized
  statics := none
  mirror := none

def pool0 : Array CpInfo := pool [(5, u "<init>"), (0, u "()V"), (1, .class_ 10), (1, u "java/lang/Object")] 113

def k0c0 : Code := { maxStack := 0, maxLocals := 1, code := object_method_1_code, exceptionTable := #[], attributes := #[] }
def k0m0 : Method := { name := "<init>", desc := "()V", sig := { parameters := [], returnType := none }, accessFlags := 1, code := some k0c0 }
/-- java/lang/Object -/
def k0 : Class := { plain "java/lang/Object" none with
  accessFlags := 33
  interfaces := #[]
  cf := some (fileOf pool0 8 #[] #[⟨1, 5, 6, #[]⟩] 33 0 #[] #[])
  fields := #[]
  methods := #[k0m0]
  instanceTypes := #[]
  staticTypes := #[]
  resolved := Array.replicate 124 none
  statics := none }

def pool1 : Array CpInfo := pool [(2, .class_ 4), (0, .nameAndType 5 6), (0, u "java/lang/Object"), (0, u "<init>"), (0, u "()V"), (0, .long 128), (1, .long 16384), (1, .long 2097152), (1, .long 268435456), (1, .long 34359738368), (1, .methodref 18 19), (0, .class_ 20), (0, .nameAndType 21 22), (0, u "java/lang/Math"), (0, u "max"), (0, u "(II)I"), (0, .integer 1073741823), (0, .class_ 25), (0, u "java/util/ArrayList"), (0, .methodref 24 3), (0, .fieldref 28 29), (0, .class_ 30), (0, .nameAndType 31 32), (0, u "com/example/morro/morro/analysis/PennTag"), (0, u "NN"), (0, u "Lcom/example/morro/morro/analysis/PennTag;"), (0, .methodref 24 34), (0, .nameAndType 35 36), (0, u "add"), (0, u "(Ljava/lang/Object;)Z"), (0, .fieldref 28 38), (0, .nameAndType 39 32), (0, u "CLOSING_QUOTE"), (0, .class_ 41), (0, u "com/example/morro/morro/index/TermPostings"), (0, .methodref 40 3), (0, .methodref 40 44), (0, .nameAndType 45 46), (0, u "memory"), (0, u "()J"), (0, .methodref 40 48), (0, .nameAndType 35 49), (0, u "(IIILjava/util/List;)V"), (0, .methodref 40 51), (0, .nameAndType 52 6), (0, u "finishDocument"), (0, .methodref 54 55), (0, .class_ 56), (0, .nameAndType 57 58), (0, u "com/example/morro/morro/index/TermPostingsMemoryPinLaw"), (0, u "len"), (0, u "(J)I"), (0, .methodref 54 60), (0, .nameAndType 61 62), (0, u "put"), (0, u "([II)V"), (0, .long 16), (1, .long 8), (1, .long 208), (1, .long 200), (1, .long 192), (4, u "law"), (0, u "(IIIII)Z")] 4

def k1m0 : Method := { name := "<init>", desc := "()V", sig := { parameters := [], returnType := none }, accessFlags := 1, code := none }
def k1c1 : Code := { maxStack := 4, maxLocals := 2, code := method_2_code, exceptionTable := #[], attributes := #[] }
def k1m1 : Method := { name := "len", desc := "(J)I", sig := { parameters := [.long], returnType := some .int }, accessFlags := 10, code := some k1c1 }
def k1c2 : Code := { maxStack := 5, maxLocals := 2, code := method_3_code, exceptionTable := #[], attributes := #[] }
def k1m2 : Method := { name := "put", desc := "([II)V", sig := { parameters := [(.array .int), .int], returnType := none }, accessFlags := 10, code := some k1c2 }
def k1c3 : Code := { maxStack := 6, maxLocals := 31, code := code, exceptionTable := #[], attributes := #[] }
def k1m3 : Method := { name := "law", desc := "(IIIII)Z", sig := { parameters := [.int, .int, .int, .int, .int], returnType := some .boolean }, accessFlags := 9, code := some k1c3 }
/-- com/example/morro/morro/index/TermPostingsMemoryPinLaw -/
def k1 : Class := { plain "com/example/morro/morro/index/TermPostingsMemoryPinLaw" (some 0) with
  accessFlags := 49
  interfaces := #[]
  cf := some (fileOf pool1 54 #[] #[⟨1, 5, 6, #[]⟩, ⟨10, 57, 58, #[]⟩, ⟨10, 61, 62, #[]⟩, ⟨9, 76, 77, #[]⟩] 49 2 #[] #[])
  fields := #[]
  methods := #[k1m0, k1m1, k1m2, k1m3]
  instanceTypes := #[]
  staticTypes := #[]
  resolved := Array.replicate 82 none
  statics := none }

def pool2 : Array CpInfo := pool [(8, .class_ 10), (1, u "java/lang/Iterable"), (24, .class_ 36), (0, u "java/lang/Object")] 25

/-- java/lang/Iterable -/
def k2 : Class := { plain "java/lang/Iterable" (some 0) with
  accessFlags := 1537
  interfaces := #[]
  cf := some (fileOf pool2 8 #[] #[] 1537 35 #[] #[])
  fields := #[]
  methods := #[]
  instanceTypes := #[]
  staticTypes := #[]
  resolved := Array.replicate 62 none
  statics := none }

def pool3 : Array CpInfo := pool [(10, .class_ 12), (1, u "java/util/Collection"), (47, .class_ 61), (0, u "java/lang/Object"), (0, .class_ 63), (0, u "java/lang/Iterable")] 51

/-- java/util/Collection -/
def k3 : Class := { plain "java/util/Collection" (some 0) with
  accessFlags := 1537
  interfaces := #[2]
  cf := some (fileOf pool3 10 #[] #[] 1537 60 #[62] #[])
  fields := #[]
  methods := #[]
  instanceTypes := #[]
  staticTypes := #[]
  resolved := Array.replicate 115 none
  statics := none }

def pool4 : Array CpInfo := pool [(1, .methodref 2 3), (0, .class_ 4), (0, .nameAndType 5 6), (0, u "java/lang/Object"), (0, u "<init>"), (0, u "()V"), (1, .class_ 10), (1, u "java/util/AbstractCollection"), (66, .class_ 78), (0, u "java/util/Collection")] 81

def k4c0 : Code := { maxStack := 1, maxLocals := 1, code := jdk_22_method_1_code, exceptionTable := #[], attributes := #[] }
def k4m0 : Method := { name := "<init>", desc := "()V", sig := { parameters := [], returnType := none }, accessFlags := 4, code := some k4c0 }
/-- java/util/AbstractCollection -/
def k4 : Class := { plain "java/util/AbstractCollection" (some 0) with
  accessFlags := 1057
  interfaces := #[3]
  cf := some (fileOf pool4 8 #[] #[⟨4, 5, 6, #[]⟩] 1057 2 #[77] #[])
  fields := #[]
  methods := #[k4m0]
  instanceTypes := #[]
  staticTypes := #[]
  resolved := Array.replicate 160 none
  statics := none }

def pool5 : Array CpInfo := pool [(8, .class_ 10), (1, u "java/util/SequencedCollection"), (15, .class_ 27), (0, u "java/lang/Object"), (0, .class_ 29), (0, u "java/util/Collection")] 27

/-- java/util/SequencedCollection -/
def k5 : Class := { plain "java/util/SequencedCollection" (some 0) with
  accessFlags := 1537
  interfaces := #[3]
  cf := some (fileOf pool5 8 #[] #[] 1537 26 #[28] #[])
  fields := #[]
  methods := #[]
  instanceTypes := #[]
  staticTypes := #[]
  resolved := Array.replicate 57 none
  statics := none }

def pool6 : Array CpInfo := pool [(8, .class_ 10), (1, u "java/util/List"), (64, u "get"), (0, u "(I)Ljava/lang/Object;"), (2, u "size"), (0, u "()I"), (22, .class_ 104), (0, u "java/lang/Object"), (15, .class_ 121), (0, u "java/util/SequencedCollection")] 129

def k6m0 : Method := { name := "size", desc := "()I", sig := { parameters := [], returnType := some .int }, accessFlags := 1025, code := none }
def k6m1 : Method := { name := "get", desc := "(I)Ljava/lang/Object;", sig := { parameters := [.int], returnType := some (.object "java/lang/Object") }, accessFlags := 1025, code := none }
/-- java/util/List -/
def k6 : Class := { plain "java/util/List" (some 0) with
  accessFlags := 1537
  interfaces := #[5]
  cf := some (fileOf pool6 8 #[] #[⟨1025, 79, 80, #[]⟩, ⟨1025, 75, 76, #[]⟩] 1537 103 #[120] #[])
  fields := #[]
  methods := #[k6m0, k6m1]
  instanceTypes := #[]
  staticTypes := #[]
  resolved := Array.replicate 251 none
  statics := none }

def pool7 : Array CpInfo := pool [(1, .methodref 2 3), (0, .class_ 4), (0, .nameAndType 5 6), (0, u "java/util/AbstractCollection"), (0, u "<init>"), (0, u "()V"), (0, .fieldref 8 9), (0, .class_ 10), (0, .nameAndType 11 12), (0, u "java/util/AbstractList"), (0, u "modCount"), (0, u "I"), (64, .class_ 78), (0, u "java/util/AbstractList$Itr"), (3, .class_ 83), (0, u "java/util/AbstractList$ListItr"), (9, .class_ 94), (0, u "java/util/AbstractList$RandomAccessSubList"), (3, .class_ 99), (0, u "java/util/AbstractList$SubList"), (33, .class_ 134), (0, u "java/util/List"), (73, .class_ 209), (0, u "java/util/AbstractList$SubList$1"), (0, .class_ 211), (0, u "java/util/AbstractList$RandomAccessSpliterator")] 6

def k7c0 : Code := { maxStack := 2, maxLocals := 1, code := jdk_39_method_1_code, exceptionTable := #[], attributes := #[] }
def k7m0 : Method := { name := "<init>", desc := "()V", sig := { parameters := [], returnType := none }, accessFlags := 4, code := some k7c0 }
/-- java/util/AbstractList -/
def k7 : Class := { plain "java/util/AbstractList" (some 4) with
  accessFlags := 1057
  interfaces := #[6]
  cf := some (fileOf pool7 8 #[.nestMembers #[93, 98, 208, 210, 82, 77]] #[⟨4, 5, 6, #[]⟩] 1057 2 #[133] #[⟨132, 11, 12, #[]⟩])
  fields := #[own_fd "modCount" .int 132 0]
  methods := #[k7m0]
  instanceTypes := #[.int]
  staticTypes := #[]
  resolved := Array.replicate 218 none
  statics := none }

def pool8 : Array CpInfo := pool [(1, .class_ 2), (0, u "java/util/RandomAccess"), (0, .class_ 4), (0, u "java/lang/Object")] 2

/-- java/util/RandomAccess -/
def k8 : Class := { plain "java/util/RandomAccess" (some 0) with
  accessFlags := 1537
  interfaces := #[]
  cf := some (fileOf pool8 1 #[] #[] 1537 3 #[] #[])
  fields := #[]
  methods := #[]
  instanceTypes := #[]
  staticTypes := #[]
  resolved := Array.replicate 7 none
  statics := none }

def pool9 : Array CpInfo := pool [(1, .class_ 2), (0, u "java/lang/Cloneable"), (0, .class_ 4), (0, u "java/lang/Object")] 2

/-- java/lang/Cloneable -/
def k9 : Class := { plain "java/lang/Cloneable" (some 0) with
  accessFlags := 1537
  interfaces := #[]
  cf := some (fileOf pool9 1 #[] #[] 1537 3 #[] #[])
  fields := #[]
  methods := #[]
  instanceTypes := #[]
  staticTypes := #[]
  resolved := Array.replicate 7 none
  statics := none }

def pool10 : Array CpInfo := pool [(1, .class_ 2), (0, u "java/io/Serializable"), (0, .class_ 4), (0, u "java/lang/Object")] 2

/-- java/io/Serializable -/
def k10 : Class := { plain "java/io/Serializable" (some 0) with
  accessFlags := 1537
  interfaces := #[]
  cf := some (fileOf pool10 1 #[] #[] 1537 3 #[] #[])
  fields := #[]
  methods := #[]
  instanceTypes := #[]
  staticTypes := #[]
  resolved := Array.replicate 7 none
  statics := none }

def pool11 : Array CpInfo := pool [(1, .methodref 2 3), (0, .class_ 4), (0, .nameAndType 5 6), (0, u "java/util/AbstractList"), (0, u "<init>"), (0, u "()V"), (0, .class_ 8), (0, u "java/lang/Object"), (0, .fieldref 10 11), (0, .class_ 12), (0, .nameAndType 13 14), (0, u "java/util/ArrayList"), (0, u "elementData"), (0, u "[Ljava/lang/Object;"), (2, u "EMPTY_ELEMENTDATA"), (21, .fieldref 10 40), (0, .nameAndType 41 14), (0, u "DEFAULTCAPACITY_EMPTY_ELEMENTDATA"), (5, u "()[Ljava/lang/Object;"), (0, .fieldref 10 49), (0, .nameAndType 50 51), (0, u "size"), (0, u "I"), (11, .fieldref 10 64), (0, .nameAndType 65 51), (0, u "modCount"), (3, .methodref 10 70), (0, .nameAndType 71 72), (0, u "grow"), (0, u "(I)[Ljava/lang/Object;"), (6, .methodref 80 81), (0, .class_ 82), (0, .nameAndType 83 84), (0, u "java/lang/Math"), (0, u "max"), (0, u "(II)I"), (11, u "(Ljava/lang/Object;)Z"), (21, .methodref 119 120), (0, .class_ 121), (0, .nameAndType 122 84), (0, u "java/util/Objects"), (0, u "checkIndex"), (0, .methodref 10 124), (0, .nameAndType 13 125), (0, u "(I)Ljava/lang/Object;"), (3, .methodref 10 130), (0, .nameAndType 71 47), (0, .methodref 10 132), (0, .nameAndType 133 134), (0, u "add"), (0, u "(Ljava/lang/Object;[Ljava/lang/Object;I)V"), (13, .class_ 149), (0, u "java/util/List"), (36, u "()I"), (75, .class_ 263), (0, u "java/util/ArrayList$ListItr"), (3, .class_ 268), (0, u "java/util/ArrayList$Itr"), (7, .class_ 277), (0, u "java/util/ArrayList$SubList"), (12, .class_ 291), (0, u "java/util/ArrayList$ArrayListSpliterator"), (37, .class_ 330), (0, u "java/util/RandomAccess"), (0, .class_ 332), (0, u "java/lang/Cloneable"), (0, .class_ 334), (0, u "java/io/Serializable"), (0, u "serialVersionUID"), (0, u "J"), (3, u "DEFAULT_CAPACITY"), (40, u "get"), (118, .class_ 501), (0, u "java/util/ArrayList$SubList$2"), (0, .class_ 503), (0, u "java/util/ArrayList$SubList$1")] 5

def k11c0 : Code := { maxStack := 2, maxLocals := 1, code := jdk_38_method_2_code, exceptionTable := #[], attributes := #[] }
def k11m0 : Method := { name := "<init>", desc := "()V", sig := { parameters := [], returnType := none }, accessFlags := 1, code := some k11c0 }
def k11c1 : Code := { maxStack := 4, maxLocals := 4, code := jdk_38_method_6_code, exceptionTable := #[], attributes := #[] }
def k11m1 : Method := { name := "grow", desc := "(I)[Ljava/lang/Object;", sig := { parameters := [.int], returnType := some (.array (.object "java/lang/Object")) }, accessFlags := 2, code := some k11c1 }
def k11c2 : Code := { maxStack := 3, maxLocals := 1, code := jdk_38_method_7_code, exceptionTable := #[], attributes := #[] }
def k11m2 : Method := { name := "grow", desc := "()[Ljava/lang/Object;", sig := { parameters := [], returnType := some (.array (.object "java/lang/Object")) }, accessFlags := 2, code := some k11c2 }
def k11c3 : Code := { maxStack := 1, maxLocals := 1, code := jdk_38_method_8_code, exceptionTable := #[], attributes := #[] }
def k11m3 : Method := { name := "size", desc := "()I", sig := { parameters := [], returnType := some .int }, accessFlags := 1, code := some k11c3 }
def k11c4 : Code := { maxStack := 2, maxLocals := 2, code := jdk_38_method_18_code, exceptionTable := #[], attributes := #[] }
def k11m4 : Method := { name := "elementData", desc := "(I)Ljava/lang/Object;", sig := { parameters := [.int], returnType := some (.object "java/lang/Object") }, accessFlags := 0, code := some k11c4 }
def k11c5 : Code := { maxStack := 2, maxLocals := 2, code := jdk_38_method_20_code, exceptionTable := #[], attributes := #[] }
def k11m5 : Method := { name := "get", desc := "(I)Ljava/lang/Object;", sig := { parameters := [.int], returnType := some (.object "java/lang/Object") }, accessFlags := 1, code := some k11c5 }
def k11c6 : Code := { maxStack := 3, maxLocals := 4, code := jdk_38_method_24_code, exceptionTable := #[], attributes := #[] }
def k11m6 : Method := { name := "add", desc := "(Ljava/lang/Object;[Ljava/lang/Object;I)V", sig := { parameters := [(.object "java/lang/Object"), (.array (.object "java/lang/Object")), .int], returnType := none }, accessFlags := 2, code := some k11c6 }
def k11c7 : Code := { maxStack := 4, maxLocals := 2, code := jdk_38_method_25_code, exceptionTable := #[], attributes := #[] }
def k11m7 : Method := { name := "add", desc := "(Ljava/lang/Object;)Z", sig := { parameters := [(.object "java/lang/Object")], returnType := some .boolean }, accessFlags := 1, code := some k11c7 }
/-- java/util/ArrayList -/
def k11 : Class := { plain "java/util/ArrayList" (some 7) with
  accessFlags := 33
  interfaces := #[6, 8, 9, 10]
  cf := some (fileOf pool11 10 #[.nestMembers #[290, 276, 500, 502, 262, 267]] #[⟨1, 5, 6, #[]⟩, ⟨2, 71, 72, #[]⟩, ⟨2, 71, 47, #[]⟩, ⟨1, 50, 186, #[]⟩, ⟨0, 13, 125, #[]⟩, ⟨1, 381, 125, #[]⟩, ⟨2, 133, 134, #[]⟩, ⟨1, 133, 96, #[]⟩] 33 2 #[148, 329, 331, 333] #[⟨26, 335, 336, #[]⟩, ⟨26, 340, 51, #[]⟩, ⟨26, 17, 14, #[]⟩, ⟨26, 41, 14, #[]⟩, ⟨128, 13, 14, #[]⟩, ⟨2, 50, 51, #[]⟩])
  fields := #[own_fd "serialVersionUID" .long 26 0, own_fd "DEFAULT_CAPACITY" .int 26 1, own_fd "EMPTY_ELEMENTDATA" (.array (.object "java/lang/Object")) 26 2, own_fd "DEFAULTCAPACITY_EMPTY_ELEMENTDATA" (.array (.object "java/lang/Object")) 26 3, own_fd "elementData" (.array (.object "java/lang/Object")) 128 1, own_fd "size" .int 2 2]
  methods := #[k11m0, k11m1, k11m2, k11m3, k11m4, k11m5, k11m6, k11m7]
  instanceTypes := #[.int, (.array (.object "java/lang/Object")), .int]
  staticTypes := #[.long, .int, (.array (.object "java/lang/Object")), (.array (.object "java/lang/Object"))]
  resolved := Array.replicate 509 none
  statics := some 0 }

def pool12 : Array CpInfo := pool [(1, .class_ 2), (0, u "java/lang/constant/Constable"), (0, .class_ 4), (0, u "java/lang/Object")] 6

/-- java/lang/constant/Constable -/
def k12 : Class := { plain "java/lang/constant/Constable" (some 0) with
  accessFlags := 1537
  interfaces := #[]
  cf := some (fileOf pool12 1 #[] #[] 1537 3 #[] #[])
  fields := #[]
  methods := #[]
  instanceTypes := #[]
  staticTypes := #[]
  resolved := Array.replicate 11 none
  statics := none }

def pool13 : Array CpInfo := pool [(1, .class_ 2), (0, u "java/lang/Comparable"), (0, .class_ 4), (0, u "java/lang/Object")] 7

/-- java/lang/Comparable -/
def k13 : Class := { plain "java/lang/Comparable" (some 0) with
  accessFlags := 1537
  interfaces := #[]
  cf := some (fileOf pool13 1 #[] #[] 1537 3 #[] #[])
  fields := #[]
  methods := #[]
  instanceTypes := #[]
  staticTypes := #[]
  resolved := Array.replicate 12 none
  statics := none }

def pool14 : Array CpInfo := pool [(2, .class_ 4), (1, u "java/lang/Enum"), (0, u "name"), (0, u "Ljava/lang/String;"), (0, .fieldref 2 8), (0, .nameAndType 9 10), (0, u "ordinal"), (0, u "I"), (1, .class_ 14), (1, u "java/lang/Object"), (4, u "hash"), (86, .class_ 108), (1, u "java/lang/Enum$EnumDesc"), (2, .class_ 112), (0, u "java/lang/constant/Constable"), (0, .class_ 114), (0, u "java/lang/Comparable"), (0, .class_ 116), (0, u "java/io/Serializable"), (9, u "()I")] 77

def k14c0 : Code := { maxStack := 1, maxLocals := 1, code := jdk_37_method_2_code, exceptionTable := #[], attributes := #[] }
def k14m0 : Method := { name := "ordinal", desc := "()I", sig := { parameters := [], returnType := some .int }, accessFlags := 17, code := some k14c0 }
/-- java/lang/Enum -/
def k14 : Class := { plain "java/lang/Enum" (some 0) with
  accessFlags := 1057
  interfaces := #[12, 13, 10]
  cf := some (fileOf pool14 2 #[.nestMembers #[106]] #[⟨17, 9, 126, #[]⟩] 1057 12 #[111, 113, 115] #[⟨18, 5, 6, #[]⟩, ⟨18, 9, 10, #[]⟩, ⟨2, 19, 10, #[]⟩])
  fields := #[own_fd "name" (.object "java/lang/String") 18 0, own_fd "ordinal" .int 18 1, own_fd "hash" .int 2 2]
  methods := #[k14m0]
  instanceTypes := #[(.object "java/lang/String"), .int, .int]
  staticTypes := #[]
  resolved := Array.replicate 204 none
  statics := none }

def pool15 : Array CpInfo := pool [(1, .class_ 2), (0, u "com/example/morro/morro/analysis/PennTag"), (2, u "CC"), (0, u "Lcom/example/morro/morro/analysis/PennTag;"), (2, u "CD"), (2, u "DT"), (2, u "EX"), (2, u "FW"), (2, u "IN"), (2, u "JJ"), (2, u "JJR"), (2, u "JJS"), (2, u "LS"), (2, u "MD"), (2, u "NN"), (2, u "NNS"), (2, u "NNP"), (2, u "NNPS"), (2, u "PDT"), (2, u "POS"), (2, u "PRP"), (2, u "PRP_POSSESSIVE"), (2, u "RB"), (2, u "RBR"), (2, u "RBS"), (2, u "RP"), (2, u "SYM"), (2, u "TO"), (2, u "UH"), (2, u "VB"), (2, u "VBD"), (2, u "VBG"), (2, u "VBN"), (2, u "VBP"), (2, u "VBZ"), (2, u "WDT"), (2, u "WP"), (2, u "WP_POSSESSIVE"), (2, u "WRB"), (2, u "POUND"), (2, u "DOLLAR"), (2, u "SENTENCE_END"), (2, u "COMMA"), (2, u "COLON"), (2, u "LEFT_BRACKET"), (2, u "RIGHT_BRACKET"), (2, u "OPENING_QUOTE"), (2, u "CLOSING_QUOTE"), (2, u "$VALUES"), (0, u "[Lcom/example/morro/morro/analysis/PennTag;"), (6, .class_ 151), (1, u "java/lang/Enum"), (12, u "label"), (0, u "Ljava/lang/String;"), (0, .methodref 1 167), (0, .nameAndType 168 169), (0, u "ordinal"), (0, u "()I"), (0, .fieldref 171 172), (0, .class_ 173), (0, .nameAndType 174 175), (0, u "com/example/morro/morro/analysis/WordClass"), (0, u "NOUN"), (0, u "Lcom/example/morro/morro/analysis/WordClass;"), (6, .fieldref 171 183), (0, .nameAndType 184 175), (0, u "OTHER"), (2, u "BY_LABEL"), (0, u "Ljava/util/Map;"), (116, u "wordClass"), (0, u "()Lcom/example/morro/morro/analysis/WordClass;")] 22

def k15c0 : Code := { maxStack := 1, maxLocals := 1, code := prog_9_method_6_code, exceptionTable := #[], attributes := #[] }
def k15m0 : Method := { name := "wordClass", desc := "()Lcom/example/morro/morro/analysis/WordClass;", sig := { parameters := [], returnType := some (.object "com/example/morro/morro/analysis/WordClass") }, accessFlags := 1, code := some k15c0 }
/-- com/example/morro/morro/analysis/PennTag -/
def k15 : Class := { plain "com/example/morro/morro/analysis/PennTag" (some 14) with
  accessFlags := 16433
  interfaces := #[]
  cf := some (fileOf pool15 1 #[] #[⟨1, 305, 306, #[]⟩] 16433 149 #[] #[⟨16409, 5, 6, #[]⟩, ⟨16409, 9, 6, #[]⟩, ⟨16409, 12, 6, #[]⟩, ⟨16409, 15, 6, #[]⟩, ⟨16409, 18, 6, #[]⟩, ⟨16409, 21, 6, #[]⟩, ⟨16409, 24, 6, #[]⟩, ⟨16409, 27, 6, #[]⟩, ⟨16409, 30, 6, #[]⟩, ⟨16409, 33, 6, #[]⟩, ⟨16409, 36, 6, #[]⟩, ⟨16409, 39, 6, #[]⟩, ⟨16409, 42, 6, #[]⟩, ⟨16409, 45, 6, #[]⟩, ⟨16409, 48, 6, #[]⟩, ⟨16409, 51, 6, #[]⟩, ⟨16409, 54, 6, #[]⟩, ⟨16409, 57, 6, #[]⟩, ⟨16409, 60, 6, #[]⟩, ⟨16409, 63, 6, #[]⟩, ⟨16409, 66, 6, #[]⟩, ⟨16409, 69, 6, #[]⟩, ⟨16409, 72, 6, #[]⟩, ⟨16409, 75, 6, #[]⟩, ⟨16409, 78, 6, #[]⟩, ⟨16409, 81, 6, #[]⟩, ⟨16409, 84, 6, #[]⟩, ⟨16409, 87, 6, #[]⟩, ⟨16409, 90, 6, #[]⟩, ⟨16409, 93, 6, #[]⟩, ⟨16409, 96, 6, #[]⟩, ⟨16409, 99, 6, #[]⟩, ⟨16409, 102, 6, #[]⟩, ⟨16409, 105, 6, #[]⟩, ⟨16409, 108, 6, #[]⟩, ⟨16409, 111, 6, #[]⟩, ⟨16409, 114, 6, #[]⟩, ⟨16409, 117, 6, #[]⟩, ⟨16409, 120, 6, #[]⟩, ⟨16409, 123, 6, #[]⟩, ⟨16409, 126, 6, #[]⟩, ⟨16409, 129, 6, #[]⟩, ⟨16409, 132, 6, #[]⟩, ⟨16409, 135, 6, #[]⟩, ⟨16409, 138, 6, #[]⟩, ⟨26, 187, 188, #[]⟩, ⟨18, 164, 165, #[]⟩, ⟨4122, 141, 142, #[]⟩])
  fields := #[own_fd "CC" oPT 16409 0, own_fd "CD" oPT 16409 1, own_fd "DT" oPT 16409 2, own_fd "EX" oPT 16409 3, own_fd "FW" oPT 16409 4, own_fd "IN" oPT 16409 5, own_fd "JJ" oPT 16409 6, own_fd "JJR" oPT 16409 7, own_fd "JJS" oPT 16409 8, own_fd "LS" oPT 16409 9, own_fd "MD" oPT 16409 10, own_fd "NN" oPT 16409 11, own_fd "NNS" oPT 16409 12, own_fd "NNP" oPT 16409 13, own_fd "NNPS" oPT 16409 14, own_fd "PDT" oPT 16409 15, own_fd "POS" oPT 16409 16, own_fd "PRP" oPT 16409 17, own_fd "PRP_POSSESSIVE" oPT 16409 18, own_fd "RB" oPT 16409 19, own_fd "RBR" oPT 16409 20, own_fd "RBS" oPT 16409 21, own_fd "RP" oPT 16409 22, own_fd "SYM" oPT 16409 23, own_fd "TO" oPT 16409 24, own_fd "UH" oPT 16409 25, own_fd "VB" oPT 16409 26, own_fd "VBD" oPT 16409 27, own_fd "VBG" oPT 16409 28, own_fd "VBN" oPT 16409 29, own_fd "VBP" oPT 16409 30, own_fd "VBZ" oPT 16409 31, own_fd "WDT" oPT 16409 32, own_fd "WP" oPT 16409 33, own_fd "WP_POSSESSIVE" oPT 16409 34, own_fd "WRB" oPT 16409 35, own_fd "POUND" oPT 16409 36, own_fd "DOLLAR" oPT 16409 37, own_fd "SENTENCE_END" oPT 16409 38, own_fd "COMMA" oPT 16409 39, own_fd "COLON" oPT 16409 40, own_fd "LEFT_BRACKET" oPT 16409 41, own_fd "RIGHT_BRACKET" oPT 16409 42, own_fd "OPENING_QUOTE" oPT 16409 43, own_fd "CLOSING_QUOTE" oPT 16409 44, own_fd "BY_LABEL" (.object "java/util/Map") 26 45, own_fd "label" (.object "java/lang/String") 18 3, own_fd "$VALUES" (.array oPT) 4122 46]
  methods := #[k15m0]
  instanceTypes := #[(.object "java/lang/String"), .int, .int, (.object "java/lang/String")]
  staticTypes := #[oPT, oPT, oPT, oPT, oPT, oPT, oPT, oPT, oPT, oPT, oPT, oPT, oPT, oPT, oPT, oPT, oPT, oPT, oPT, oPT, oPT, oPT, oPT, oPT, oPT, oPT, oPT, oPT, oPT, oPT, oPT, oPT, oPT, oPT, oPT, oPT, oPT, oPT, oPT, oPT, oPT, oPT, oPT, oPT, oPT, (.object "java/util/Map"), (.array oPT)]
  resolved := Array.replicate 329 none
  statics := some 1 }

def pool16 : Array CpInfo := pool [(1, .class_ 2), (0, u "java/lang/Math"), (1, .class_ 6), (1, u "java/lang/Object"), (0, u "<init>"), (0, u "()V"), (89, .class_ 100), (1, u "java/lang/Math$RandomNumberGeneratorHolder"), (71, u "negativeZeroFloatBits"), (0, u "J"), (2, u "negativeZeroDoubleBits"), (21, u "max"), (2, u "min"), (43, u "$assertionsDisabled"), (0, u "Z"), (88, u "(II)I"), (2, u "twoToTheDoubleScaleDown"), (0, u "D"), (4, u "twoToTheDoubleScaleUp"), (9, u "E"), (3, u "PI"), (2, u "TAU"), (2, u "DEGREES_TO_RADIANS"), (0, u "RADIANS_TO_DEGREES")] 94

def k16m0 : Method := { name := "<init>", desc := "()V", sig := { parameters := [], returnType := none }, accessFlags := 2, code := none }
def k16c1 : Code := { maxStack := 2, maxLocals := 2, code := jdk_29_method_65_code, exceptionTable := #[], attributes := #[] }
def k16m1 : Method := { name := "max", desc := "(II)I", sig := { parameters := [.int, .int], returnType := some .int }, accessFlags := 9, code := some k16c1 }
def k16c2 : Code := { maxStack := 2, maxLocals := 2, code := jdk_29_method_69_code, exceptionTable := #[], attributes := #[] }
def k16m2 : Method := { name := "min", desc := "(II)I", sig := { parameters := [.int, .int], returnType := some .int }, accessFlags := 9, code := some k16c2 }
/-- java/lang/Math -/
def k16 : Class := { plain "java/lang/Math" (some 0) with
  accessFlags := 49
  interfaces := #[]
  cf := some (fileOf pool16 1 #[.nestMembers #[98]] #[⟨2, 7, 8, #[]⟩, ⟨9, 198, 335, #[]⟩, ⟨9, 201, 335, #[]⟩] 49 4 #[] #[⟨25, 354, 339, #[]⟩, ⟨25, 358, 339, #[]⟩, ⟨25, 361, 339, #[]⟩, ⟨26, 364, 339, #[]⟩, ⟨26, 365, 339, #[]⟩, ⟨26, 172, 173, #[]⟩, ⟨26, 176, 173, #[]⟩, ⟨8, 344, 339, #[]⟩, ⟨8, 338, 339, #[]⟩, ⟨4120, 245, 246, #[]⟩])
  fields := #[own_fd "E" .double 25 0, own_fd "PI" .double 25 1, own_fd "TAU" .double 25 2, own_fd "DEGREES_TO_RADIANS" .double 26 3, own_fd "RADIANS_TO_DEGREES" .double 26 4, own_fd "negativeZeroFloatBits" .long 26 5, own_fd "negativeZeroDoubleBits" .long 26 6, own_fd "twoToTheDoubleScaleUp" .double 8 7, own_fd "twoToTheDoubleScaleDown" .double 8 8, own_fd "$assertionsDisabled" .boolean 4120 9]
  methods := #[k16m0, k16m1, k16m2]
  instanceTypes := #[]
  staticTypes := #[.double, .double, .double, .double, .double, .long, .long, .double, .double, .boolean]
  resolved := Array.replicate 460 none
  statics := none }

def pool17 : Array CpInfo := pool [(1, .methodref 2 3), (0, .class_ 4), (0, .nameAndType 5 6), (0, u "java/lang/Object"), (0, u "<init>"), (0, u "()V"), (0, .class_ 8), (0, u "com/example/morro/morro/index/TermPostings$EncodedNumbers"), (0, .methodref 7 3), (0, .fieldref 11 12), (0, .class_ 13), (0, .nameAndType 14 15), (0, u "com/example/morro/morro/index/TermPostings"), (0, u "postings"), (0, u "Lcom/example/morro/morro/index/TermPostings$EncodedNumbers;"), (0, .fieldref 11 17), (0, .nameAndType 18 15), (0, u "positions"), (0, .fieldref 20 21), (0, .class_ 22), (0, .nameAndType 23 24), (0, u "com/example/morro/morro/index/IndexFormat"), (0, u "WORD_CLASSES"), (0, u "Ljava/util/List;"), (0, .interfaceMethodref 26 27), (0, .class_ 28), (0, .nameAndType 29 30), (0, u "java/util/List"), (0, u "size"), (0, u "()I"), (0, .fieldref 11 32), (0, .nameAndType 33 34), (0, u "shares"), (0, u "[J"), (0, .fieldref 11 36), (0, .nameAndType 37 38), (0, u "firstDocument"), (0, u "I"), (0, .fieldref 11 40), (0, .nameAndType 41 38), (0, u "lastDocument"), (0, .fieldref 11 43), (0, .nameAndType 44 38), (0, u "document"), (0, .methodref 11 46), (0, .nameAndType 47 6), (0, u "finishDocument"), (0, .fieldref 11 49), (0, .nameAndType 50 38), (0, u "sentence"), (0, .fieldref 11 52), (0, .nameAndType 53 38), (0, u "documentFrequency"), (0, .methodref 7 55), (0, .nameAndType 56 57), (0, u "add"), (0, u "(J)V"), (0, .interfaceMethodref 26 59), (0, .nameAndType 60 61), (0, u "get"), (0, u "(I)Ljava/lang/Object;"), (0, .class_ 63), (0, u "com/example/morro/morro/analysis/PennTag"), (0, .methodref 62 65), (0, .nameAndType 66 30), (0, u "ordinal"), (0, .fieldref 11 68), (0, .nameAndType 69 70), (0, u "windows"), (0, u "J"), (0, .methodref 72 73), (0, .class_ 74), (0, .nameAndType 75 76), (0, u "com/example/morro/morro/index/WordClassShares"), (0, u "count"), (0, u "(Ljava/util/List;I[J)I"), (0, .fieldref 11 78), (0, .nameAndType 79 38), (0, u "frequency"), (0, .fieldref 11 81), (0, .nameAndType 82 70), (0, u "collectionFrequency"), (0, .fieldref 7 84), (0, .nameAndType 85 86), (0, u "bytes"), (0, u "[B"), (19, u "OBJECT_BYTES"), (4, u "(IIILjava/util/List;)V"), (3, u "memory"), (0, u "()J")] 15

def k17c0 : Code := { maxStack := 3, maxLocals := 1, code := prog_35_method_1_code, exceptionTable := #[], attributes := #[] }
def k17m0 : Method := { name := "<init>", desc := "()V", sig := { parameters := [], returnType := none }, accessFlags := 0, code := some k17c0 }
def k17c1 : Code := { maxStack := 6, maxLocals := 6, code := prog_35_method_2_code, exceptionTable := #[], attributes := #[] }
def k17m1 : Method := { name := "add", desc := "(IIILjava/util/List;)V", sig := { parameters := [.int, .int, .int, (.object "java/util/List")], returnType := none }, accessFlags := 0, code := some k17c1 }
def k17c2 : Code := { maxStack := 3, maxLocals := 1, code := prog_35_method_3_code, exceptionTable := #[], attributes := #[] }
def k17m2 : Method := { name := "finishDocument", desc := "()V", sig := { parameters := [], returnType := none }, accessFlags := 0, code := some k17c2 }
def k17c3 : Code := { maxStack := 2, maxLocals := 1, code := prog_35_method_4_code, exceptionTable := #[], attributes := #[] }
def k17m3 : Method := { name := "memory", desc := "()J", sig := { parameters := [], returnType := some .long }, accessFlags := 0, code := some k17c3 }
/-- com/example/morro/morro/index/TermPostings -/
def k17 : Class := { plain "com/example/morro/morro/index/TermPostings" (some 0) with
  accessFlags := 48
  interfaces := #[]
  cf := some (fileOf pool17 11 #[.nestMembers #[7]] #[⟨0, 5, 6, #[]⟩, ⟨0, 56, 111, #[]⟩, ⟨0, 47, 6, #[]⟩, ⟨0, 115, 116, #[]⟩] 48 2 #[] #[⟨26, 106, 38, #[]⟩, ⟨18, 14, 15, #[]⟩, ⟨18, 18, 15, #[]⟩, ⟨2, 53, 38, #[]⟩, ⟨2, 82, 70, #[]⟩, ⟨2, 69, 70, #[]⟩, ⟨18, 33, 34, #[]⟩, ⟨2, 37, 38, #[]⟩, ⟨2, 41, 38, #[]⟩, ⟨2, 44, 38, #[]⟩, ⟨2, 79, 38, #[]⟩, ⟨2, 50, 38, #[]⟩])
  fields := #[own_fd "OBJECT_BYTES" .int 26 0, own_fd "postings" (.object "com/example/morro/morro/index/TermPostings$EncodedNumbers") 18 0, own_fd "positions" (.object "com/example/morro/morro/index/TermPostings$EncodedNumbers") 18 1, own_fd "documentFrequency" .int 2 2, own_fd "collectionFrequency" .long 2 3, own_fd "windows" .long 2 4, own_fd "shares" (.array .long) 18 5, own_fd "firstDocument" .int 2 6, own_fd "lastDocument" .int 2 7, own_fd "document" .int 2 8, own_fd "frequency" .int 2 9, own_fd "sentence" .int 2 10]
  methods := #[k17m0, k17m1, k17m2, k17m3]
  instanceTypes := #[(.object "com/example/morro/morro/index/TermPostings$EncodedNumbers"), (.object "com/example/morro/morro/index/TermPostings$EncodedNumbers"), .int, .long, .long, (.array .long), .int, .int, .int, .int, .int]
  staticTypes := #[.int]
  resolved := (((Array.replicate 132 none).set! 7 (some (.cls 18))).set! 9 (some (.method ⟨18, 0⟩))).set! 83 (some (.field 18 1))
  statics := none }

def pool18 : Array CpInfo := pool [(1, .methodref 2 3), (0, .class_ 4), (0, .nameAndType 5 6), (0, u "java/lang/Object"), (0, u "<init>"), (0, u "()V"), (0, .class_ 8), (0, u "com/example/morro/morro/index/TermPostings$EncodedNumbers"), (0, .fieldref 7 10), (0, .nameAndType 11 12), (0, u "bytes"), (0, u "[B"), (0, .fieldref 7 14), (0, .nameAndType 15 16), (0, u "size"), (0, u "I"), (2, .methodref 20 21), (0, .class_ 22), (0, .nameAndType 23 24), (0, u "java/lang/Math"), (0, u "max"), (0, u "(II)I"), (0, .methodref 26 27), (0, .class_ 28), (0, .nameAndType 29 30), (0, u "java/util/Arrays"), (0, u "copyOf"), (0, u "([BI)[B"), (0, .methodref 32 33), (0, .class_ 34), (0, .nameAndType 35 36), (0, u "com/example/morro/morro/index/IndexOutput"), (0, u "encodeNumber"), (0, u "(J[BI)I"), (4, u "INITIAL_BYTES"), (4, u "add"), (0, u "(J)V"), (9, .class_ 58), (0, u "com/example/morro/morro/index/TermPostings")] 2

def k18c0 : Code := { maxStack := 2, maxLocals := 1, code := prog_36_method_1_code, exceptionTable := #[], attributes := #[] }
def k18m0 : Method := { name := "<init>", desc := "()V", sig := { parameters := [], returnType := none }, accessFlags := 2, code := some k18c0 }
def k18c1 : Code := { maxStack := 5, maxLocals := 3, code := prog_36_method_2_code, exceptionTable := #[], attributes := #[] }
def k18m1 : Method := { name := "add", desc := "(J)V", sig := { parameters := [.long], returnType := none }, accessFlags := 0, code := some k18c1 }
/-- com/example/morro/morro/index/TermPostings$EncodedNumbers -/
def k18 : Class := { plain "com/example/morro/morro/index/TermPostings$EncodedNumbers" (some 0) with
  accessFlags := 48
  interfaces := #[]
  cf := some (fileOf pool18 7 #[.nestHost 57] #[⟨2, 5, 6, #[]⟩, ⟨0, 46, 47, #[]⟩] 48 2 #[] #[⟨26, 41, 16, #[]⟩, ⟨2, 11, 12, #[]⟩, ⟨2, 15, 16, #[]⟩])
  fields := #[own_fd "INITIAL_BYTES" .int 26 0, own_fd "bytes" (.array .byte) 2 0, own_fd "size" .int 2 1]
  methods := #[k18m0, k18m1]
  instanceTypes := #[(.array .byte), .int]
  staticTypes := #[.int]
  resolved := Array.replicate 61 none
  statics := none }

def pool19 : Array CpInfo := pool [(1, .class_ 2), (0, u "com/example/morro/morro/index/IndexFormat"), (1, .class_ 6), (1, u "java/lang/Object"), (0, u "<init>"), (0, u "()V"), (6, u "RUN_NAME"), (0, u "Ljava/util/regex/Pattern;"), (68, u "TAGS"), (0, u "Ljava/util/List;"), (7, u "WORD_CLASSES"), (21, u "FILES"), (0, u "Ljava/util/Set;"), (17, u "MANIFEST_KEYS"), (0, u "VERSION"), (0, u "I"), (5, u "MAX_NUMBER_BYTES"), (1, u "MANIFEST"), (0, u "Ljava/lang/String;"), (0, u "MANIFEST_BEING_WRITTEN"), (0, u "DOCUMENTS"), (0, u "LEXICON"), (0, u "POSTINGS"), (0, u "POSITIONS"), (0, u "RUNS"), (1, u "FORMAT_KEY"), (0, u "DOCUMENTS_KEY"), (0, u "TOKENS_KEY"), (0, u "TERMS_KEY")] 33

def k19m0 : Method := { name := "<init>", desc := "()V", sig := { parameters := [], returnType := none }, accessFlags := 2, code := none }
/-- com/example/morro/morro/index/IndexFormat -/
def k19 : Class := { plain "com/example/morro/morro/index/IndexFormat" (some 0) with
  accessFlags := 48
  interfaces := #[]
  cf := some (fileOf pool19 1 #[] #[⟨2, 7, 8, #[]⟩] 48 4 #[] #[⟨24, 136, 137, #[]⟩, ⟨24, 85, 86, #[]⟩, ⟨24, 94, 86, #[]⟩, ⟨24, 143, 137, #[]⟩, ⟨24, 145, 146, #[]⟩, ⟨24, 147, 146, #[]⟩, ⟨24, 148, 146, #[]⟩, ⟨24, 149, 146, #[]⟩, ⟨24, 150, 146, #[]⟩, ⟨24, 151, 146, #[]⟩, ⟨24, 152, 146, #[]⟩, ⟨24, 116, 117, #[]⟩, ⟨26, 15, 16, #[]⟩, ⟨24, 154, 146, #[]⟩, ⟨24, 155, 146, #[]⟩, ⟨24, 156, 146, #[]⟩, ⟨24, 157, 146, #[]⟩, ⟨24, 135, 117, #[]⟩])
  fields := #[own_fd "VERSION" .int 24 0, own_fd "TAGS" (.object "java/util/List") 24 1, own_fd "WORD_CLASSES" (.object "java/util/List") 24 2, own_fd "MAX_NUMBER_BYTES" .int 24 3, own_fd "MANIFEST" (.object "java/lang/String") 24 4, own_fd "MANIFEST_BEING_WRITTEN" (.object "java/lang/String") 24 5, own_fd "DOCUMENTS" (.object "java/lang/String") 24 6, own_fd "LEXICON" (.object "java/lang/String") 24 7, own_fd "POSTINGS" (.object "java/lang/String") 24 8, own_fd "POSITIONS" (.object "java/lang/String") 24 9, own_fd "RUNS" (.object "java/lang/String") 24 10, own_fd "FILES" (.object "java/util/Set") 24 11, own_fd "RUN_NAME" (.object "java/util/regex/Pattern") 26 12, own_fd "FORMAT_KEY" (.object "java/lang/String") 24 13, own_fd "DOCUMENTS_KEY" (.object "java/lang/String") 24 14, own_fd "TOKENS_KEY" (.object "java/lang/String") 24 15, own_fd "TERMS_KEY" (.object "java/lang/String") 24 16, own_fd "MANIFEST_KEYS" (.object "java/util/Set") 24 17]
  methods := #[k19m0]
  instanceTypes := #[]
  staticTypes := #[.int, (.object "java/util/List"), (.object "java/util/List"), .int, (.object "java/lang/String"), (.object "java/lang/String"), (.object "java/lang/String"), (.object "java/lang/String"), (.object "java/lang/String"), (.object "java/lang/String"), (.object "java/lang/String"), (.object "java/util/Set"), (.object "java/util/regex/Pattern"), (.object "java/lang/String"), (.object "java/lang/String"), (.object "java/lang/String"), (.object "java/lang/String"), (.object "java/util/Set")]
  resolved := Array.replicate 191 none
  statics := some 2 }

def pool20 : Array CpInfo := pool [(2, .class_ 4), (1, u "java/util/AbstractCollection"), (0, u "<init>"), (0, u "()V"), (1, .class_ 10), (1, u "java/util/ImmutableCollections"), (2, .class_ 14), (0, u "java/util/ImmutableCollections$AbstractImmutableCollection")] 41

def k20m0 : Method := { name := "<init>", desc := "()V", sig := { parameters := [], returnType := none }, accessFlags := 0, code := none }
/-- java/util/ImmutableCollections$AbstractImmutableCollection -/
def k20 : Class := { plain "java/util/ImmutableCollections$AbstractImmutableCollection" (some 4) with
  accessFlags := 1056
  interfaces := #[]
  cf := some (fileOf pool20 13 #[.nestHost 8] #[⟨0, 5, 6, #[]⟩] 1056 2 #[] #[])
  fields := #[]
  methods := #[k20m0]
  instanceTypes := #[]
  staticTypes := #[]
  resolved := Array.replicate 56 none
  statics := none }

def pool21 : Array CpInfo := pool [(2, .class_ 4), (1, u "java/util/ImmutableCollections$AbstractImmutableCollection"), (0, u "<init>"), (0, u "()V"), (1, .class_ 10), (1, u "java/util/ImmutableCollections"), (3, .class_ 16), (1, u "java/util/ImmutableCollections$AbstractImmutableList"), (60, .class_ 78), (0, u "java/util/List"), (45, .class_ 125), (0, u "java/util/RandomAccess")] 70

def k21m0 : Method := { name := "<init>", desc := "()V", sig := { parameters := [], returnType := none }, accessFlags := 0, code := none }
/-- java/util/ImmutableCollections$AbstractImmutableList -/
def k21 : Class := { plain "java/util/ImmutableCollections$AbstractImmutableList" (some 20) with
  accessFlags := 1056
  interfaces := #[6, 8]
  cf := some (fileOf pool21 14 #[.nestHost 8] #[⟨0, 5, 6, #[]⟩] 1056 2 #[77, 124] #[])
  fields := #[]
  methods := #[k21m0]
  instanceTypes := #[]
  staticTypes := #[]
  resolved := Array.replicate 196 none
  statics := none }

def pool22 : Array CpInfo := pool [(2, .class_ 4), (1, u "java/util/ImmutableCollections$AbstractImmutableList"), (2, .fieldref 8 9), (0, .class_ 10), (0, .nameAndType 11 12), (0, u "java/util/ImmutableCollections$ListN"), (0, u "elements"), (0, u "[Ljava/lang/Object;"), (2, u "allowNulls"), (0, u "Z"), (42, .class_ 60), (0, u "java/io/Serializable"), (16, u "size"), (0, u "()I"), (35, .class_ 115), (0, u "java/util/ImmutableCollections")] 3

def k22c0 : Code := { maxStack := 1, maxLocals := 1, code := jdk_45_method_3_code, exceptionTable := #[], attributes := #[] }
def k22m0 : Method := { name := "size", desc := "()I", sig := { parameters := [], returnType := some .int }, accessFlags := 1, code := some k22c0 }
/-- java/util/ImmutableCollections$ListN -/
def k22 : Class := { plain "java/util/ImmutableCollections$ListN" (some 21) with
  accessFlags := 48
  interfaces := #[10]
  cf := some (fileOf pool22 8 #[.nestHost 114] #[⟨1, 77, 78, #[]⟩] 48 2 #[59] #[⟨18, 11, 12, #[]⟩, ⟨18, 15, 16, #[]⟩])
  fields := #[own_fd "elements" (.array (.object "java/lang/Object")) 18 0, own_fd "allowNulls" .boolean 18 1]
  methods := #[k22m0]
  instanceTypes := #[(.array (.object "java/lang/Object")), .boolean]
  staticTypes := #[]
  resolved := Array.replicate 119 none
  statics := none }

def pool23 : Array CpInfo := pool [(2, .class_ 4), (1, u "java/lang/Object"), (0, u "<init>"), (0, u "()V"), (7, .class_ 16), (1, u "java/util/Arrays"), (57, .class_ 76), (1, u "java/util/Arrays$NaturalOrder"), (36, .class_ 115), (1, u "java/util/Arrays$LegacyMergeSort"), (1, u "Z"), (32, .methodref 151 152), (0, .class_ 153), (0, .nameAndType 154 155), (0, u "java/lang/System"), (0, u "arraycopy"), (0, u "(Ljava/lang/Object;ILjava/lang/Object;II)V"), (146, u "copyOf"), (1, .methodref 305 306), (0, .class_ 307), (0, .nameAndType 308 309), (0, u "java/lang/Math"), (0, u "min"), (0, u "(II)I"), (65, .class_ 376), (0, u "java/util/Arrays$ArrayList"), (68, u "$assertionsDisabled"), (269, u "MIN_ARRAY_SORT_GRAN"), (0, u "I"), (2, u "INSERTIONSORT_THRESHOLD"), (149, u "([BI)[B"), (105, .class_ 976), (0, u "java/util/Arrays$ArrayItr")] 52

def k23m0 : Method := { name := "<init>", desc := "()V", sig := { parameters := [], returnType := none }, accessFlags := 2, code := none }
def k23c1 : Code := { maxStack := 6, maxLocals := 3, code := jdk_65_method_121_code, exceptionTable := #[], attributes := #[] }
def k23m1 : Method := { name := "copyOf", desc := "([BI)[B", sig := { parameters := [(.array .byte), .int], returnType := some (.array .byte) }, accessFlags := 9, code := some k23c1 }
/-- java/util/Arrays -/
def k23 : Class := { plain "java/util/Arrays" (some 0) with
  accessFlags := 49
  interfaces := #[]
  cf := some (fileOf pool23 14 #[.nestMembers #[975, 375, 113, 74]] #[⟨2, 5, 6, #[]⟩, ⟨9, 302, 869, #[]⟩] 49 2 #[] #[⟨26, 715, 716, #[]⟩, ⟨26, 719, 716, #[]⟩, ⟨4120, 445, 117, #[]⟩])
  fields := #[own_fd "MIN_ARRAY_SORT_GRAN" .int 26 0, own_fd "INSERTIONSORT_THRESHOLD" .int 26 1, own_fd "$assertionsDisabled" .boolean 4120 2]
  methods := #[k23m0, k23m1]
  instanceTypes := #[]
  staticTypes := #[.int, .int, .boolean]
  resolved := Array.replicate 1029 none
  statics := none }

def pool24 : Array CpInfo := pool [(2, .class_ 4), (1, u "java/lang/Object"), (0, u "<init>"), (0, u "()V"), (1, .class_ 10), (1, u "java/lang/System"), (0, u "allowSecurityManager"), (0, u "I"), (16, u "cons"), (0, u "Ljava/io/Console;"), (77, .class_ 110), (1, u "java/lang/System$CallersHolder"), (43, u "initialErrStream"), (0, u "Ljava/io/PrintStream;"), (19, u "security"), (0, u "Ljava/lang/SecurityManager;"), (31, .class_ 209), (0, u "java/lang/System$1"), (7, u "props"), (0, u "Ljava/util/Properties;"), (2, u "lineSeparator"), (0, u "Ljava/lang/String;"), (96, .class_ 321), (1, u "java/lang/System$LoggerFinder"), (5, .class_ 328), (0, u "java/lang/System$Logger"), (67, u "err"), (2, u "out"), (91, u "notSupportedJnuEncoding"), (15, u "in"), (17, u "initialIn"), (0, u "Ljava/io/InputStream;"), (35, u "bootLayer"), (0, u "Ljava/lang/ModuleLayer;"), (99, .class_ 664), (0, u "java/lang/System$2"), (9, u "NEVER"), (2, u "MAYBE"), (49, u "arraycopy"), (0, u "(Ljava/lang/Object;ILjava/lang/Object;II)V"), (72, .class_ 802), (0, u "java/lang/System$Logger$Level")] 31

def k24m0 : Method := { name := "<init>", desc := "()V", sig := { parameters := [], returnType := none }, accessFlags := 2, code := none }
def k24m1 : Method := { name := "arraycopy", desc := "(Ljava/lang/Object;ILjava/lang/Object;II)V", sig := { parameters := [(.object "java/lang/Object"), .int, (.object "java/lang/Object"), .int, .int], returnType := none }, accessFlags := 265, code := none }
/-- java/lang/System -/
def k24 : Class := { plain "java/lang/System" (some 0) with
  accessFlags := 49
  interfaces := #[]
  cf := some (fileOf pool24 8 #[.nestMembers #[319, 327, 801, 108, 663, 208]] #[⟨2, 5, 6, #[]⟩, ⟨265, 727, 728, #[]⟩] 49 2 #[] #[⟨25, 507, 526, #[]⟩, ⟨25, 399, 155, #[]⟩, ⟨25, 396, 155, #[]⟩, ⟨10, 525, 526, #[]⟩, ⟨26, 674, 12, #[]⟩, ⟨26, 677, 12, #[]⟩, ⟨10, 11, 12, #[]⟩, ⟨74, 175, 176, #[]⟩, ⟨10, 491, 222, #[]⟩, ⟨74, 29, 30, #[]⟩, ⟨74, 154, 155, #[]⟩, ⟨10, 217, 218, #[]⟩, ⟨10, 221, 222, #[]⟩, ⟨8, 562, 563, #[]⟩])
  fields := #[own_fd "in" (.object "java/io/InputStream") 25 0, own_fd "out" (.object "java/io/PrintStream") 25 1, own_fd "err" (.object "java/io/PrintStream") 25 2, own_fd "initialIn" (.object "java/io/InputStream") 10 3, own_fd "NEVER" .int 26 4, own_fd "MAYBE" .int 26 5, own_fd "allowSecurityManager" .int 10 6, own_fd "security" (.object "java/lang/SecurityManager") 74 7, own_fd "notSupportedJnuEncoding" (.object "java/lang/String") 10 8, own_fd "cons" (.object "java/io/Console") 74 9, own_fd "initialErrStream" (.object "java/io/PrintStream") 74 10, own_fd "props" (.object "java/util/Properties") 10 11, own_fd "lineSeparator" (.object "java/lang/String") 10 12, own_fd "bootLayer" (.object "java/lang/ModuleLayer") 8 13]
  methods := #[k24m0, k24m1]
  instanceTypes := #[]
  staticTypes := #[(.object "java/io/InputStream"), (.object "java/io/PrintStream"), (.object "java/io/PrintStream"), (.object "java/io/InputStream"), .int, .int, .int, (.object "java/lang/SecurityManager"), (.object "java/lang/String"), (.object "java/io/Console"), (.object "java/io/PrintStream"), (.object "java/util/Properties"), (.object "java/lang/String"), (.object "java/lang/ModuleLayer")]
  resolved := Array.replicate 834 none
  statics := none }

def pool25 : Array CpInfo := pool [(1, .class_ 2), (0, u "java/lang/AutoCloseable"), (0, .class_ 4), (0, u "java/lang/Object")] 7

/-- java/lang/AutoCloseable -/
def k25 : Class := { plain "java/lang/AutoCloseable" (some 0) with
  accessFlags := 1537
  interfaces := #[]
  cf := some (fileOf pool25 1 #[] #[] 1537 3 #[] #[])
  fields := #[]
  methods := #[]
  instanceTypes := #[]
  staticTypes := #[]
  resolved := Array.replicate 12 none
  statics := none }

def pool26 : Array CpInfo := pool [(1, .class_ 2), (0, u "java/io/Closeable"), (0, .class_ 4), (0, u "java/lang/Object"), (0, .class_ 6), (0, u "java/lang/AutoCloseable")] 7

/-- java/io/Closeable -/
def k26 : Class := { plain "java/io/Closeable" (some 0) with
  accessFlags := 1537
  interfaces := #[25]
  cf := some (fileOf pool26 1 #[] #[] 1537 3 #[5] #[])
  fields := #[]
  methods := #[]
  instanceTypes := #[]
  staticTypes := #[]
  resolved := Array.replicate 14 none
  statics := none }

def pool27 : Array CpInfo := pool [(2, .class_ 4), (1, u "java/lang/Object"), (5, .class_ 12), (1, u "com/example/morro/morro/index/IndexOutput"), (0, u "number"), (0, u "[B"), (2, u "channel"), (0, u "Ljava/nio/channels/FileChannel;"), (14, u "out"), (0, u "Ljava/io/OutputStream;"), (2, u "forced"), (0, u "Z"), (26, .long 18446744073709551488), (1, .long 127), (1, .long 128), (3, u "encodeNumber"), (0, u "(J[BI)I"), (27, u "size"), (0, u "J"), (16, .class_ 121), (0, u "java/io/Closeable"), (0, u "BUFFER_SIZE"), (0, u "I")] 17

def k27c0 : Code := { maxStack := 6, maxLocals := 7, code := prog_24_method_5_code, exceptionTable := #[], attributes := #[] }
def k27m0 : Method := { name := "encodeNumber", desc := "(J[BI)I", sig := { parameters := [.long, (.array .byte), .int], returnType := some .int }, accessFlags := 8, code := some k27c0 }
/-- com/example/morro/morro/index/IndexOutput -/
def k27 : Class := { plain "com/example/morro/morro/index/IndexOutput" (some 0) with
  accessFlags := 48
  interfaces := #[26]
  cf := some (fileOf pool27 10 #[] #[⟨8, 73, 74, #[]⟩] 48 2 #[120] #[⟨26, 122, 123, #[]⟩, ⟨18, 17, 18, #[]⟩, ⟨18, 33, 34, #[]⟩, ⟨18, 37, 38, #[]⟩, ⟨18, 13, 14, #[]⟩, ⟨2, 102, 103, #[]⟩])
  fields := #[own_fd "BUFFER_SIZE" .int 26 0, own_fd "channel" (.object "java/nio/channels/FileChannel") 18 0, own_fd "out" (.object "java/io/OutputStream") 18 1, own_fd "forced" .boolean 18 2, own_fd "number" (.array .byte) 18 3, own_fd "size" .long 2 4]
  methods := #[k27m0]
  instanceTypes := #[(.object "java/nio/channels/FileChannel"), (.object "java/io/OutputStream"), .boolean, (.array .byte), .long]
  staticTypes := #[.int]
  resolved := Array.replicate 141 none
  statics := none }

def pool28 : Array CpInfo := pool [(2, .class_ 4), (1, u "java/lang/Object"), (0, u "<init>"), (0, u "()V"), (35, .class_ 44), (1, u "java/util/Objects"), (60, .methodref 106 107), (0, .class_ 108), (0, .nameAndType 109 110), (0, u "jdk/internal/util/Preconditions"), (0, u "checkIndex"), (0, u "(IILjava/util/function/BiFunction;)I"), (60, u "(II)I")] 12

def k28m0 : Method := { name := "<init>", desc := "()V", sig := { parameters := [], returnType := none }, accessFlags := 2, code := none }
def k28c1 : Code := { maxStack := 3, maxLocals := 2, code := jdk_31_method_17_code, exceptionTable := #[], attributes := #[] }
def k28m1 : Method := { name := "checkIndex", desc := "(II)I", sig := { parameters := [.int, .int], returnType := some .int }, accessFlags := 9, code := some k28c1 }
/-- java/util/Objects -/
def k28 : Class := { plain "java/util/Objects" (some 0) with
  accessFlags := 49
  interfaces := #[]
  cf := some (fileOf pool28 42 #[] #[⟨2, 5, 6, #[]⟩, ⟨9, 109, 171, #[]⟩] 49 2 #[] #[])
  fields := #[]
  methods := #[k28m0, k28m1]
  instanceTypes := #[]
  staticTypes := #[]
  resolved := Array.replicate 184 none
  statics := none }

def pool29 : Array CpInfo := pool [(2, .class_ 4), (1, u "java/lang/Object"), (0, u "<init>"), (0, u "()V"), (17, .class_ 26), (1, u "jdk/internal/util/Preconditions"), (6, u "checkIndex"), (21, .class_ 56), (0, u "jdk/internal/util/Preconditions$4"), (57, .class_ 115), (0, u "jdk/internal/util/Preconditions$1"), (7, u "SIOOBE_FORMATTER"), (0, u "Ljava/util/function/BiFunction;"), (0, .class_ 126), (0, u "jdk/internal/util/Preconditions$2"), (3, u "AIOOBE_FORMATTER"), (0, .class_ 132), (0, u "jdk/internal/util/Preconditions$3"), (3, u "IOOBE_FORMATTER"), (41, u "(IILjava/util/function/BiFunction;)I")] 15

def k29m0 : Method := { name := "<init>", desc := "()V", sig := { parameters := [], returnType := none }, accessFlags := 1, code := none }
def k29c1 : Code := { maxStack := 3, maxLocals := 3, code := jdk_41_method_11_code, exceptionTable := #[], attributes := #[] }
def k29m1 : Method := { name := "checkIndex", desc := "(IILjava/util/function/BiFunction;)I", sig := { parameters := [.int, .int, (.object "java/util/function/BiFunction")], returnType := some .int }, accessFlags := 9, code := some k29c1 }
/-- jdk/internal/util/Preconditions -/
def k29 : Class := { plain "jdk/internal/util/Preconditions" (some 0) with
  accessFlags := 33
  interfaces := #[]
  cf := some (fileOf pool29 24 #[.nestMembers #[55, 131, 125, 114]] #[⟨1, 5, 6, #[]⟩, ⟨9, 33, 178, #[]⟩] 33 2 #[] #[⟨25, 123, 124, #[]⟩, ⟨25, 130, 124, #[]⟩, ⟨25, 136, 124, #[]⟩])
  fields := #[own_fd "SIOOBE_FORMATTER" (.object "java/util/function/BiFunction") 25 0, own_fd "AIOOBE_FORMATTER" (.object "java/util/function/BiFunction") 25 1, own_fd "IOOBE_FORMATTER" (.object "java/util/function/BiFunction") 25 2]
  methods := #[k29m0, k29m1]
  instanceTypes := #[]
  staticTypes := #[(.object "java/util/function/BiFunction"), (.object "java/util/function/BiFunction"), (.object "java/util/function/BiFunction")]
  resolved := Array.replicate 194 none
  statics := none }

def pool30 : Array CpInfo := pool [(2, .class_ 4), (1, u "java/lang/Object"), (3, .class_ 10), (1, u "com/example/morro/morro/index/WordClassShares"), (0, u "windows"), (0, u "J"), (2, u "shares"), (0, u "[J"), (0, .methodref 18 19), (0, .class_ 20), (0, .nameAndType 21 22), (0, u "com/example/morro/morro/analysis/WordClass"), (0, u "ordinal"), (0, u "()I"), (2, .interfaceMethodref 26 27), (0, .class_ 28), (0, .nameAndType 29 22), (0, u "java/util/List"), (0, u "size"), (0, .methodref 31 32), (0, .class_ 33), (0, .nameAndType 34 35), (0, u "java/lang/Math"), (0, u "min"), (0, u "(II)I"), (0, .methodref 31 37), (0, .nameAndType 38 35), (0, u "max"), (0, .interfaceMethodref 26 40), (0, .nameAndType 41 42), (0, u "get"), (0, u "(I)Ljava/lang/Object;"), (0, .class_ 44), (0, u "com/example/morro/morro/analysis/PennTag"), (0, .methodref 43 46), (0, .nameAndType 47 48), (0, u "wordClass"), (0, u "()Lcom/example/morro/morro/analysis/WordClass;"), (35, u "WIDTH"), (0, u "I"), (2, u "SHARE_UNIT"), (5, u "count"), (0, u "(Ljava/util/List;I[J)I")] 17

def k30c0 : Code := { maxStack := 6, maxLocals := 9, code := prog_38_method_3_code, exceptionTable := #[], attributes := #[] }
def k30m0 : Method := { name := "count", desc := "(Ljava/util/List;I[J)I", sig := { parameters := [(.object "java/util/List"), .int, (.array .long)], returnType := some .int }, accessFlags := 8, code := some k30c0 }
/-- com/example/morro/morro/index/WordClassShares -/
def k30 : Class := { plain "com/example/morro/morro/index/WordClassShares" (some 0) with
  accessFlags := 49
  interfaces := #[]
  cf := some (fileOf pool30 8 #[] #[⟨8, 94, 95, #[]⟩] 49 2 #[] #[⟨24, 84, 85, #[]⟩, ⟨24, 88, 85, #[]⟩, ⟨18, 11, 12, #[]⟩, ⟨18, 15, 16, #[]⟩])
  fields := #[own_fd "WIDTH" .int 24 0, own_fd "SHARE_UNIT" .int 24 1, own_fd "windows" .long 18 0, own_fd "shares" (.array .long) 18 1]
  methods := #[k30m0]
  instanceTypes := #[.long, (.array .long)]
  staticTypes := #[.int, .int]
  resolved := Array.replicate 113 none
  statics := none }

def pool31 : Array CpInfo := pool [(1, .class_ 2), (0, u "com/example/morro/morro/analysis/WordClass"), (2, u "NOUN"), (0, u "Lcom/example/morro/morro/analysis/WordClass;"), (2, u "VERB"), (2, u "ADJECTIVE"), (2, u "OTHER"), (2, u "$VALUES"), (0, u "[Lcom/example/morro/morro/analysis/WordClass;"), (6, .class_ 28), (1, u "java/lang/Enum")] 26

/-- com/example/morro/morro/analysis/WordClass -/
def k31 : Class := { plain "com/example/morro/morro/analysis/WordClass" (some 14) with
  accessFlags := 16433
  interfaces := #[]
  cf := some (fileOf pool31 1 #[] #[] 16433 26 #[] #[⟨16409, 5, 6, #[]⟩, ⟨16409, 9, 6, #[]⟩, ⟨16409, 12, 6, #[]⟩, ⟨16409, 15, 6, #[]⟩, ⟨4122, 18, 19, #[]⟩])
  fields := #[own_fd "NOUN" (.object "com/example/morro/morro/analysis/WordClass") 16409 0, own_fd "VERB" (.object "com/example/morro/morro/analysis/WordClass") 16409 1, own_fd "ADJECTIVE" (.object "com/example/morro/morro/analysis/WordClass") 16409 2, own_fd "OTHER" (.object "com/example/morro/morro/analysis/WordClass") 16409 3, own_fd "$VALUES" (.array (.object "com/example/morro/morro/analysis/WordClass")) 4122 4]
  methods := #[]
  instanceTypes := #[(.object "java/lang/String"), .int, .int]
  staticTypes := #[(.object "com/example/morro/morro/analysis/WordClass"), (.object "com/example/morro/morro/analysis/WordClass"), (.object "com/example/morro/morro/analysis/WordClass"), (.object "com/example/morro/morro/analysis/WordClass"), (.array (.object "com/example/morro/morro/analysis/WordClass"))]
  resolved := Array.replicate 55 none
  statics := some 3 }

/-- the primitive byte -/
def k32 : Class := { plain "byte" none with kind := .primitive 'B', accessFlags := 0x411 }
/-- [B -/
def k33 : Class := { plain "[B" (some 0) with kind := .array 32 .byte, interfaces := #[9, 10], accessFlags := 1041 }

/-- the primitive int -/
def k34 : Class := { plain "int" none with kind := .primitive 'I', accessFlags := 0x411 }
/-- [I -/
def k35 : Class := { plain "[I" (some 0) with kind := .array 34 .int, interfaces := #[9, 10], accessFlags := 1041 }

/-- the primitive long -/
def k36 : Class := { plain "long" none with kind := .primitive 'J', accessFlags := 0x411 }
/-- [J -/
def k37 : Class := { plain "[J" (some 0) with kind := .array 36 .long, interfaces := #[9, 10], accessFlags := 1041 }

/-- [Ljava/lang/Object; -/
def k38 : Class := { plain "[Ljava/lang/Object;" (some 0) with kind := .array 0 (.object "java/lang/Object"), interfaces := #[9, 10], accessFlags := 1041 }

def heap : Heap := #[{ cls := 11, slots := #[.long 0, .int 0, .ref 10, .ref 11], vm := .statics 11 },
  { cls := 15, slots := #[.null, .null, .null, .null, .null, .null, .null, .null, .null, .null, .null, .ref 5, .null, .null, .null, .null, .null, .null, .null, .null, .null, .null, .null, .null, .null, .null, .null, .null, .null, .null, .null, .null, .null, .null, .null, .null, .null, .null, .null, .null, .null, .null, .null, .null, .ref 6, .null, .null], vm := .statics 15 },
  { cls := 19, slots := #[.int 0, .null, .ref 9, .int 0, .null, .null, .null, .null, .null, .null, .null, .null, .null, .null, .null, .null, .null, .null], vm := .statics 19 },
  { cls := 31, slots := #[.ref 7, .null, .null, .ref 8, .null], vm := .statics 31 },
  { cls := 38, slots := #[.null, .null, .null, .null], vm := .none },
  { cls := 15, slots := #[.null, .int 11, .int 0, .null], vm := .none },
  { cls := 15, slots := #[.null, .int 44, .int 0, .null], vm := .none },
  { cls := 31, slots := #[.null, .int 0, .int 0], vm := .none },
  { cls := 31, slots := #[.null, .int 3, .int 0], vm := .none },
  { cls := 22, slots := #[.ref 4, .int 0], vm := .none },
  { cls := 38, slots := #[], vm := .none },
  { cls := 38, slots := #[], vm := .none }]
def classes : Array Class := #[k0, k1, k2, k3, k4, k5, k6, k7, k8, k9, k10, k11, k12, k13, k14, k15, k16, k17, k18, k19, k20, k21, k22, k23, k24, k25, k26, k27, k28, k29, k30, k31, k32, k33, k34, k35, k36, k37, k38]
def interned : List (Array UInt16 × Addr) := []
def slotsUsed : Nat := 94
def theMethod : MethodId := ⟨1, 3⟩
def args0 : Array Value := #[.int 3, .int 4, .int 5, .int 6, .int 1]
def aboutOver (below : List Frame) : State where
  vm := { classes := classes, interned := interned.toArray }
  heap := heap
  slotsUsed := slotsUsed
  threads := #[{ frames := .invoking theMethod args0 :: below }]
def below0 : List Frame := [.native { method := ⟨0, 0⟩, args := #[] }]
def about1 : State := aboutOver below0
def p0 : Program := .bare "" "" ""
def e0 : Env := launch0.env 0 0 0
theorem w_frames : about1.frames = Frame.invoking theMethod args0 :: below0 := rfl
set_option maxRecDepth 65536 in
theorem w_args : argsFit about1.vm theMethod args0 = true := by decide +kernel
set_option maxRecDepth 65536 in
theorem w_heap : heapFits about1 = true := by decide +kernel
set_option maxRecDepth 65536 in
theorem w_runnable : about1.curStatus? = some .runnable := by decide +kernel
set_option maxRecDepth 65536 in
theorem w_alone : about1.alone = true := by decide +kernel
set_option maxRecDepth 65536 in
theorem w_named : about1.methodNamed? x = some theMethod := by decide +kernel
set_option maxRecDepth 65536 in
theorem w_hears : about1.hears theMethod below0 = true := by decide +kernel
set_option maxRecDepth 65536 in
theorem w_ripe : about1.ripe theMethod args0 below0 = true := by decide +kernel
theorem w_running : about1.status = .running := rfl
set_option maxRecDepth 65536 in
theorem w_room : about1.hasRoom e0.platform room_1 = true :=
  launch0.hasRoom_least _ room_1 (by decide +kernel) (by decide +kernel) (by decide +kernel) (by decide +kernel) (by decide +kernel) (by decide +kernel)
theorem allAtoms_all (ts : List Jvm.Cond) (a : Array Jvm.Value) (st : Jvm.State) : (allAtoms ts).before a st = ts.all (fun c => c.before a st) := by
  induction ts with
  | nil => rfl
  | cons c t ih =>
    show (Jvm.Cond.and c (allAtoms t)).before a st = _
    rw [Jvm.Cond.before_and, ih, List.all_cons]
def words1 : List Jvm.Cond := Jvm.Cond.code x code maxLocals ret :: tables_1
/-- a 'code' word, met by the world's own term for the bytes: nothing is compared byte by byte -/
theorem code_word {y : MethodName} {bytes : ByteArray} {mx : Nat} {rt : Option FieldType} {a : Array Value} {s : State} {m : MethodId} {meth : Method} {c : Code} (h1 : s.methodNamed? y = some m) (h2 : s.vm.method? m = some meth) (h3 : meth.code = some c) (h4 : c.code = bytes)
    (h5 : (c.maxLocals == mx && c.exceptionTable.isEmpty && decide (c.maxStack ≤ mostOperands) && decide (meth.sig.returnType = rt) && !meth.locks && decide (parseMethodDescriptor y.desc = some meth.sig)) = true) : (Jvm.Cond.code y bytes mx rt).before a s = true := by
  simp only [Bool.and_eq_true, beq_iff_eq, Bool.not_eq_true', decide_eq_true_eq] at h5
  obtain ⟨⟨⟨⟨⟨g1, g2⟩, g3⟩, g4⟩, g5⟩, g6⟩ := h5
  simp [Cond.before, Cond.holds, Cond.value, h1, h2, h3, h4, g1, g2, g3, g4, g5, g6]
def isCode : Jvm.Cond → Bool
  | .code _ _ _ _ => true
  | _ => false
theorem all_split {L : List Jvm.Cond} {P : Jvm.Cond → Bool} (h1 : L.all (fun c => isCode c || P c) = true) (h2 : ∀ c ∈ L.filter isCode, P c = true) : L.all P = true := by
  refine List.all_eq_true.mpr fun c hc => ?_
  have h := List.all_eq_true.mp h1 c hc
  rcases Bool.eq_false_or_eq_true (isCode c) with hi | hi
  · exact h2 c (List.mem_filter.mpr ⟨hc, hi⟩)
  · simpa [hi] using h
set_option maxRecDepth 65536 in
theorem w_c0 : (Jvm.Cond.code x code maxLocals ret).before args0 about1 = true := code_word (m := ⟨1, 3⟩) (meth := k1m3) (c := k1c3) (by decide +kernel) rfl rfl rfl (by decide +kernel)
set_option maxRecDepth 65536 in
theorem w_c1 : (Jvm.Cond.code ({ cls := "java/util/ArrayList", name := "<init>", desc := "()V" } : Jvm.MethodName) jdk_38_method_2_code (1 : Nat) (Option.none : Option Jvm.ClassFile.FieldType)).before args0 about1 = true := code_word (m := ⟨11, 0⟩) (meth := k11m0) (c := k11c0) (by decide +kernel) rfl rfl rfl (by decide +kernel)
set_option maxRecDepth 65536 in
theorem w_c2 : (Jvm.Cond.code ({ cls := "java/util/AbstractList", name := "<init>", desc := "()V" } : Jvm.MethodName) jdk_39_method_1_code (1 : Nat) (Option.none : Option Jvm.ClassFile.FieldType)).before args0 about1 = true := code_word (m := ⟨7, 0⟩) (meth := k7m0) (c := k7c0) (by decide +kernel) rfl rfl rfl (by decide +kernel)
set_option maxRecDepth 65536 in
theorem w_c3 : (Jvm.Cond.code ({ cls := "java/util/AbstractCollection", name := "<init>", desc := "()V" } : Jvm.MethodName) jdk_22_method_1_code (1 : Nat) (Option.none : Option Jvm.ClassFile.FieldType)).before args0 about1 = true := code_word (m := ⟨4, 0⟩) (meth := k4m0) (c := k4c0) (by decide +kernel) rfl rfl rfl (by decide +kernel)
set_option maxRecDepth 65536 in
theorem w_c4 : (Jvm.Cond.code ({ cls := "java/lang/Object", name := "<init>", desc := "()V" } : Jvm.MethodName) object_method_1_code (1 : Nat) (Option.none : Option Jvm.ClassFile.FieldType)).before args0 about1 = true := code_word (m := ⟨0, 0⟩) (meth := k0m0) (c := k0c0) (by decide +kernel) rfl rfl rfl (by decide +kernel)
set_option maxRecDepth 65536 in
theorem w_c5 : (Jvm.Cond.code ({ cls := "java/util/ArrayList", name := "add", desc := "(Ljava/lang/Object;)Z" } : Jvm.MethodName) jdk_38_method_25_code (2 : Nat) (Option.some Jvm.ClassFile.FieldType.boolean)).before args0 about1 = true := code_word (m := ⟨11, 7⟩) (meth := k11m7) (c := k11c7) (by decide +kernel) rfl rfl rfl (by decide +kernel)
set_option maxRecDepth 65536 in
theorem w_c6 : (Jvm.Cond.code ({ cls := "java/util/ArrayList", name := "add", desc := "(Ljava/lang/Object;[Ljava/lang/Object;I)V" } : Jvm.MethodName) jdk_38_method_24_code (4 : Nat) (Option.none : Option Jvm.ClassFile.FieldType)).before args0 about1 = true := code_word (m := ⟨11, 6⟩) (meth := k11m6) (c := k11c6) (by decide +kernel) rfl rfl rfl (by decide +kernel)
set_option maxRecDepth 65536 in
theorem w_c7 : (Jvm.Cond.code ({ cls := "java/util/ArrayList", name := "grow", desc := "()[Ljava/lang/Object;" } : Jvm.MethodName) jdk_38_method_7_code (1 : Nat) (Option.some (Jvm.ClassFile.FieldType.array (Jvm.ClassFile.FieldType.object "java/lang/Object")))).before args0 about1 = true := code_word (m := ⟨11, 2⟩) (meth := k11m2) (c := k11c2) (by decide +kernel) rfl rfl rfl (by decide +kernel)
set_option maxRecDepth 65536 in
theorem w_c8 : (Jvm.Cond.code ({ cls := "java/util/ArrayList", name := "grow", desc := "(I)[Ljava/lang/Object;" } : Jvm.MethodName) jdk_38_method_6_code (4 : Nat) (Option.some (Jvm.ClassFile.FieldType.array (Jvm.ClassFile.FieldType.object "java/lang/Object")))).before args0 about1 = true := code_word (m := ⟨11, 1⟩) (meth := k11m1) (c := k11c1) (by decide +kernel) rfl rfl rfl (by decide +kernel)
set_option maxRecDepth 65536 in
theorem w_c9 : (Jvm.Cond.code ({ cls := "java/lang/Math", name := "max", desc := "(II)I" } : Jvm.MethodName) jdk_29_method_65_code (2 : Nat) (Option.some Jvm.ClassFile.FieldType.int)).before args0 about1 = true := code_word (m := ⟨16, 1⟩) (meth := k16m1) (c := k16c1) (by decide +kernel) rfl rfl rfl (by decide +kernel)
set_option maxRecDepth 65536 in
theorem w_c10 : (Jvm.Cond.code ({ cls := "com/example/morro/morro/index/TermPostings", name := "<init>", desc := "()V" } : Jvm.MethodName) prog_35_method_1_code (1 : Nat) (Option.none : Option Jvm.ClassFile.FieldType)).before args0 about1 = true := code_word (m := ⟨17, 0⟩) (meth := k17m0) (c := k17c0) (by decide +kernel) rfl rfl rfl (by decide +kernel)
set_option maxRecDepth 65536 in
theorem w_c11 : (Jvm.Cond.code ({ cls := "com/example/morro/morro/index/TermPostings$EncodedNumbers", name := "<init>", desc := "()V" } : Jvm.MethodName) prog_36_method_1_code (1 : Nat) (Option.none : Option Jvm.ClassFile.FieldType)).before args0 about1 = true := code_word (m := ⟨18, 0⟩) (meth := k18m0) (c := k18c0) (by decide +kernel) rfl rfl rfl (by decide +kernel)
set_option maxRecDepth 65536 in
theorem w_c12 : (Jvm.Cond.code ({ cls := "java/util/ImmutableCollections$ListN", name := "size", desc := "()I" } : Jvm.MethodName) jdk_45_method_3_code (1 : Nat) (Option.some Jvm.ClassFile.FieldType.int)).before args0 about1 = true := code_word (m := ⟨22, 0⟩) (meth := k22m0) (c := k22c0) (by decide +kernel) rfl rfl rfl (by decide +kernel)
set_option maxRecDepth 65536 in
theorem w_c13 : (Jvm.Cond.code ({ cls := "com/example/morro/morro/index/TermPostings", name := "memory", desc := "()J" } : Jvm.MethodName) prog_35_method_4_code (1 : Nat) (Option.some Jvm.ClassFile.FieldType.long)).before args0 about1 = true := code_word (m := ⟨17, 3⟩) (meth := k17m3) (c := k17c3) (by decide +kernel) rfl rfl rfl (by decide +kernel)
set_option maxRecDepth 65536 in
theorem w_c14 : (Jvm.Cond.code ({ cls := "com/example/morro/morro/index/TermPostings", name := "add", desc := "(IIILjava/util/List;)V" } : Jvm.MethodName) prog_35_method_2_code (6 : Nat) (Option.none : Option Jvm.ClassFile.FieldType)).before args0 about1 = true := code_word (m := ⟨17, 1⟩) (meth := k17m1) (c := k17c1) (by decide +kernel) rfl rfl rfl (by decide +kernel)
set_option maxRecDepth 65536 in
theorem w_c15 : (Jvm.Cond.code ({ cls := "com/example/morro/morro/index/TermPostings", name := "finishDocument", desc := "()V" } : Jvm.MethodName) prog_35_method_3_code (1 : Nat) (Option.none : Option Jvm.ClassFile.FieldType)).before args0 about1 = true := code_word (m := ⟨17, 2⟩) (meth := k17m2) (c := k17c2) (by decide +kernel) rfl rfl rfl (by decide +kernel)
set_option maxRecDepth 65536 in
theorem w_c16 : (Jvm.Cond.code ({ cls := "com/example/morro/morro/index/TermPostings$EncodedNumbers", name := "add", desc := "(J)V" } : Jvm.MethodName) prog_36_method_2_code (3 : Nat) (Option.none : Option Jvm.ClassFile.FieldType)).before args0 about1 = true := code_word (m := ⟨18, 1⟩) (meth := k18m1) (c := k18c1) (by decide +kernel) rfl rfl rfl (by decide +kernel)
set_option maxRecDepth 65536 in
theorem w_c17 : (Jvm.Cond.code ({ cls := "java/util/Arrays", name := "copyOf", desc := "([BI)[B" } : Jvm.MethodName) jdk_65_method_121_code (3 : Nat) (Option.some (Jvm.ClassFile.FieldType.array Jvm.ClassFile.FieldType.byte))).before args0 about1 = true := code_word (m := ⟨23, 1⟩) (meth := k23m1) (c := k23c1) (by decide +kernel) rfl rfl rfl (by decide +kernel)
set_option maxRecDepth 65536 in
theorem w_c18 : (Jvm.Cond.code ({ cls := "java/lang/Math", name := "min", desc := "(II)I" } : Jvm.MethodName) jdk_29_method_69_code (2 : Nat) (Option.some Jvm.ClassFile.FieldType.int)).before args0 about1 = true := code_word (m := ⟨16, 2⟩) (meth := k16m2) (c := k16c2) (by decide +kernel) rfl rfl rfl (by decide +kernel)
set_option maxRecDepth 65536 in
theorem w_c19 : (Jvm.Cond.code ({ cls := "com/example/morro/morro/index/IndexOutput", name := "encodeNumber", desc := "(J[BI)I" } : Jvm.MethodName) prog_24_method_5_code (7 : Nat) (Option.some Jvm.ClassFile.FieldType.int)).before args0 about1 = true := code_word (m := ⟨27, 0⟩) (meth := k27m0) (c := k27c0) (by decide +kernel) rfl rfl rfl (by decide +kernel)
set_option maxRecDepth 65536 in
theorem w_c20 : (Jvm.Cond.code ({ cls := "java/util/ArrayList", name := "size", desc := "()I" } : Jvm.MethodName) jdk_38_method_8_code (1 : Nat) (Option.some Jvm.ClassFile.FieldType.int)).before args0 about1 = true := code_word (m := ⟨11, 3⟩) (meth := k11m3) (c := k11c3) (by decide +kernel) rfl rfl rfl (by decide +kernel)
set_option maxRecDepth 65536 in
theorem w_c21 : (Jvm.Cond.code ({ cls := "java/util/ArrayList", name := "get", desc := "(I)Ljava/lang/Object;" } : Jvm.MethodName) jdk_38_method_20_code (2 : Nat) (Option.some (Jvm.ClassFile.FieldType.object "java/lang/Object"))).before args0 about1 = true := code_word (m := ⟨11, 5⟩) (meth := k11m5) (c := k11c5) (by decide +kernel) rfl rfl rfl (by decide +kernel)
set_option maxRecDepth 65536 in
theorem w_c22 : (Jvm.Cond.code ({ cls := "java/util/Objects", name := "checkIndex", desc := "(II)I" } : Jvm.MethodName) jdk_31_method_17_code (2 : Nat) (Option.some Jvm.ClassFile.FieldType.int)).before args0 about1 = true := code_word (m := ⟨28, 1⟩) (meth := k28m1) (c := k28c1) (by decide +kernel) rfl rfl rfl (by decide +kernel)
set_option maxRecDepth 65536 in
theorem w_c23 : (Jvm.Cond.code ({ cls := "jdk/internal/util/Preconditions", name := "checkIndex", desc := "(IILjava/util/function/BiFunction;)I" } : Jvm.MethodName) jdk_41_method_11_code (3 : Nat) (Option.some Jvm.ClassFile.FieldType.int)).before args0 about1 = true := code_word (m := ⟨29, 1⟩) (meth := k29m1) (c := k29c1) (by decide +kernel) rfl rfl rfl (by decide +kernel)
set_option maxRecDepth 65536 in
theorem w_c24 : (Jvm.Cond.code ({ cls := "java/util/ArrayList", name := "elementData", desc := "(I)Ljava/lang/Object;" } : Jvm.MethodName) jdk_38_method_18_code (2 : Nat) (Option.some (Jvm.ClassFile.FieldType.object "java/lang/Object"))).before args0 about1 = true := code_word (m := ⟨11, 4⟩) (meth := k11m4) (c := k11c4) (by decide +kernel) rfl rfl rfl (by decide +kernel)
set_option maxRecDepth 65536 in
theorem w_c25 : (Jvm.Cond.code ({ cls := "java/lang/Enum", name := "ordinal", desc := "()I" } : Jvm.MethodName) jdk_37_method_2_code (1 : Nat) (Option.some Jvm.ClassFile.FieldType.int)).before args0 about1 = true := code_word (m := ⟨14, 0⟩) (meth := k14m0) (c := k14c0) (by decide +kernel) rfl rfl rfl (by decide +kernel)
set_option maxRecDepth 65536 in
theorem w_c26 : (Jvm.Cond.code ({ cls := "com/example/morro/morro/index/WordClassShares", name := "count", desc := "(Ljava/util/List;I[J)I" } : Jvm.MethodName) prog_38_method_3_code (9 : Nat) (Option.some Jvm.ClassFile.FieldType.int)).before args0 about1 = true := code_word (m := ⟨30, 0⟩) (meth := k30m0) (c := k30c0) (by decide +kernel) rfl rfl rfl (by decide +kernel)
set_option maxRecDepth 65536 in
theorem w_c27 : (Jvm.Cond.code ({ cls := "com/example/morro/morro/analysis/PennTag", name := "wordClass", desc := "()Lcom/example/morro/morro/analysis/WordClass;" } : Jvm.MethodName) prog_9_method_6_code (1 : Nat) (Option.some (Jvm.ClassFile.FieldType.object "com/example/morro/morro/analysis/WordClass"))).before args0 about1 = true := code_word (m := ⟨15, 0⟩) (meth := k15m0) (c := k15c0) (by decide +kernel) rfl rfl rfl (by decide +kernel)
set_option maxRecDepth 65536 in
theorem w_c28 : (Jvm.Cond.code ({ cls := "com/example/morro/morro/index/TermPostingsMemoryPinLaw", name := "len", desc := "(J)I" } : Jvm.MethodName) method_2_code (2 : Nat) (Option.some Jvm.ClassFile.FieldType.int)).before args0 about1 = true := code_word (m := ⟨1, 1⟩) (meth := k1m1) (c := k1c1) (by decide +kernel) rfl rfl rfl (by decide +kernel)
set_option maxRecDepth 65536 in
theorem w_c29 : (Jvm.Cond.code ({ cls := "com/example/morro/morro/index/TermPostingsMemoryPinLaw", name := "put", desc := "([II)V" } : Jvm.MethodName) method_3_code (2 : Nat) (Option.none : Option Jvm.ClassFile.FieldType)).before args0 about1 = true := code_word (m := ⟨1, 2⟩) (meth := k1m2) (c := k1c2) (by decide +kernel) rfl rfl rfl (by decide +kernel)
def codes1 : List Jvm.Cond := [Jvm.Cond.code x code maxLocals ret, Jvm.Cond.code ({ cls := "java/util/ArrayList", name := "<init>", desc := "()V" } : Jvm.MethodName) jdk_38_method_2_code (1 : Nat) (Option.none : Option Jvm.ClassFile.FieldType), Jvm.Cond.code ({ cls := "java/util/AbstractList", name := "<init>", desc := "()V" } : Jvm.MethodName) jdk_39_method_1_code (1 : Nat) (Option.none : Option Jvm.ClassFile.FieldType), Jvm.Cond.code ({ cls := "java/util/AbstractCollection", name := "<init>", desc := "()V" } : Jvm.MethodName) jdk_22_method_1_code (1 : Nat) (Option.none : Option Jvm.ClassFile.FieldType), Jvm.Cond.code ({ cls := "java/lang/Object", name := "<init>", desc := "()V" } : Jvm.MethodName) object_method_1_code (1 : Nat) (Option.none : Option Jvm.ClassFile.FieldType), Jvm.Cond.code ({ cls := "java/util/ArrayList", name := "add", desc := "(Ljava/lang/Object;)Z" } : Jvm.MethodName) jdk_38_method_25_code (2 : Nat) (Option.some Jvm.ClassFile.FieldType.boolean), Jvm.Cond.code ({ cls := "java/util/ArrayList", name := "add", desc := "(Ljava/lang/Object;[Ljava/lang/Object;I)V" } : Jvm.MethodName) jdk_38_method_24_code (4 : Nat) (Option.none : Option Jvm.ClassFile.FieldType), Jvm.Cond.code ({ cls := "java/util/ArrayList", name := "grow", desc := "()[Ljava/lang/Object;" } : Jvm.MethodName) jdk_38_method_7_code (1 : Nat) (Option.some (Jvm.ClassFile.FieldType.array (Jvm.ClassFile.FieldType.object "java/lang/Object"))), Jvm.Cond.code ({ cls := "java/util/ArrayList", name := "grow", desc := "(I)[Ljava/lang/Object;" } : Jvm.MethodName) jdk_38_method_6_code (4 : Nat) (Option.some (Jvm.ClassFile.FieldType.array (Jvm.ClassFile.FieldType.object "java/lang/Object"))), Jvm.Cond.code ({ cls := "java/lang/Math", name := "max", desc := "(II)I" } : Jvm.MethodName) jdk_29_method_65_code (2 : Nat) (Option.some Jvm.ClassFile.FieldType.int), Jvm.Cond.code ({ cls := "com/example/morro/morro/index/TermPostings", name := "<init>", desc := "()V" } : Jvm.MethodName) prog_35_method_1_code (1 : Nat) (Option.none : Option Jvm.ClassFile.FieldType), Jvm.Cond.code ({ cls := "com/example/morro/morro/index/TermPostings$EncodedNumbers", name := "<init>", desc := "()V" } : Jvm.MethodName) prog_36_method_1_code (1 : Nat) (Option.none : Option Jvm.ClassFile.FieldType), Jvm.Cond.code ({ cls := "java/util/ImmutableCollections$ListN", name := "size", desc := "()I" } : Jvm.MethodName) jdk_45_method_3_code (1 : Nat) (Option.some Jvm.ClassFile.FieldType.int), Jvm.Cond.code ({ cls := "com/example/morro/morro/index/TermPostings", name := "memory", desc := "()J" } : Jvm.MethodName) prog_35_method_4_code (1 : Nat) (Option.some Jvm.ClassFile.FieldType.long), Jvm.Cond.code ({ cls := "com/example/morro/morro/index/TermPostings", name := "add", desc := "(IIILjava/util/List;)V" } : Jvm.MethodName) prog_35_method_2_code (6 : Nat) (Option.none : Option Jvm.ClassFile.FieldType), Jvm.Cond.code ({ cls := "com/example/morro/morro/index/TermPostings", name := "finishDocument", desc := "()V" } : Jvm.MethodName) prog_35_method_3_code (1 : Nat) (Option.none : Option Jvm.ClassFile.FieldType), Jvm.Cond.code ({ cls := "com/example/morro/morro/index/TermPostings$EncodedNumbers", name := "add", desc := "(J)V" } : Jvm.MethodName) prog_36_method_2_code (3 : Nat) (Option.none : Option Jvm.ClassFile.FieldType), Jvm.Cond.code ({ cls := "java/util/Arrays", name := "copyOf", desc := "([BI)[B" } : Jvm.MethodName) jdk_65_method_121_code (3 : Nat) (Option.some (Jvm.ClassFile.FieldType.array Jvm.ClassFile.FieldType.byte)), Jvm.Cond.code ({ cls := "java/lang/Math", name := "min", desc := "(II)I" } : Jvm.MethodName) jdk_29_method_69_code (2 : Nat) (Option.some Jvm.ClassFile.FieldType.int), Jvm.Cond.code ({ cls := "com/example/morro/morro/index/IndexOutput", name := "encodeNumber", desc := "(J[BI)I" } : Jvm.MethodName) prog_24_method_5_code (7 : Nat) (Option.some Jvm.ClassFile.FieldType.int), Jvm.Cond.code ({ cls := "java/util/ArrayList", name := "size", desc := "()I" } : Jvm.MethodName) jdk_38_method_8_code (1 : Nat) (Option.some Jvm.ClassFile.FieldType.int), Jvm.Cond.code ({ cls := "java/util/ArrayList", name := "get", desc := "(I)Ljava/lang/Object;" } : Jvm.MethodName) jdk_38_method_20_code (2 : Nat) (Option.some (Jvm.ClassFile.FieldType.object "java/lang/Object")), Jvm.Cond.code ({ cls := "java/util/Objects", name := "checkIndex", desc := "(II)I" } : Jvm.MethodName) jdk_31_method_17_code (2 : Nat) (Option.some Jvm.ClassFile.FieldType.int), Jvm.Cond.code ({ cls := "jdk/internal/util/Preconditions", name := "checkIndex", desc := "(IILjava/util/function/BiFunction;)I" } : Jvm.MethodName) jdk_41_method_11_code (3 : Nat) (Option.some Jvm.ClassFile.FieldType.int), Jvm.Cond.code ({ cls := "java/util/ArrayList", name := "elementData", desc := "(I)Ljava/lang/Object;" } : Jvm.MethodName) jdk_38_method_18_code (2 : Nat) (Option.some (Jvm.ClassFile.FieldType.object "java/lang/Object")), Jvm.Cond.code ({ cls := "java/lang/Enum", name := "ordinal", desc := "()I" } : Jvm.MethodName) jdk_37_method_2_code (1 : Nat) (Option.some Jvm.ClassFile.FieldType.int), Jvm.Cond.code ({ cls := "com/example/morro/morro/index/WordClassShares", name := "count", desc := "(Ljava/util/List;I[J)I" } : Jvm.MethodName) prog_38_method_3_code (9 : Nat) (Option.some Jvm.ClassFile.FieldType.int), Jvm.Cond.code ({ cls := "com/example/morro/morro/analysis/PennTag", name := "wordClass", desc := "()Lcom/example/morro/morro/analysis/WordClass;" } : Jvm.MethodName) prog_9_method_6_code (1 : Nat) (Option.some (Jvm.ClassFile.FieldType.object "com/example/morro/morro/analysis/WordClass")), Jvm.Cond.code ({ cls := "com/example/morro/morro/index/TermPostingsMemoryPinLaw", name := "len", desc := "(J)I" } : Jvm.MethodName) method_2_code (2 : Nat) (Option.some Jvm.ClassFile.FieldType.int), Jvm.Cond.code ({ cls := "com/example/morro/morro/index/TermPostingsMemoryPinLaw", name := "put", desc := "([II)V" } : Jvm.MethodName) method_3_code (2 : Nat) (Option.none : Option Jvm.ClassFile.FieldType)]
set_option maxRecDepth 65536 in
theorem codes_eq : words1.filter isCode = codes1 := rfl
theorem w_codes : ∀ c ∈ words1.filter isCode, c.before args0 about1 = true := by
  rw [codes_eq]
  intro c hc
  simp only [codes1, List.mem_cons, List.not_mem_nil, or_false] at hc
  rcases hc with rfl | rfl | rfl | rfl | rfl | rfl | rfl | rfl | rfl | rfl | rfl | rfl | rfl | rfl | rfl | rfl | rfl | rfl | rfl | rfl | rfl | rfl | rfl | rfl | rfl | rfl | rfl | rfl | rfl | rfl
  · exact w_c0
  · exact w_c1
  · exact w_c2
  · exact w_c3
  · exact w_c4
  · exact w_c5
  · exact w_c6
  · exact w_c7
  · exact w_c8
  · exact w_c9
  · exact w_c10
  · exact w_c11
  · exact w_c12
  · exact w_c13
  · exact w_c14
  · exact w_c15
  · exact w_c16
  · exact w_c17
  · exact w_c18
  · exact w_c19
  · exact w_c20
  · exact w_c21
  · exact w_c22
  · exact w_c23
  · exact w_c24
  · exact w_c25
  · exact w_c26
  · exact w_c27
  · exact w_c28
  · exact w_c29
set_option maxRecDepth 65536 in
theorem w_t1 : (words1.take 24).all (fun c => isCode c || c.before args0 about1) = true := by decide +kernel
set_option maxRecDepth 65536 in
theorem w_t2 : ((words1.drop 24).take 24).all (fun c => isCode c || c.before args0 about1) = true := by decide +kernel
set_option maxRecDepth 65536 in
theorem w_t3 : (((words1.drop 24).drop 24).take 24).all (fun c => isCode c || c.before args0 about1) = true := by decide +kernel
set_option maxRecDepth 65536 in
theorem w_t4 : ((((words1.drop 24).drop 24).drop 24).take 24).all (fun c => isCode c || c.before args0 about1) = true := by decide +kernel
set_option maxRecDepth 65536 in
theorem w_t5 : (((((words1.drop 24).drop 24).drop 24).drop 24).take 24).all (fun c => isCode c || c.before args0 about1) = true := by decide +kernel
set_option maxRecDepth 65536 in
theorem w_t6 : ((((((words1.drop 24).drop 24).drop 24).drop 24).drop 24).take 24).all (fun c => isCode c || c.before args0 about1) = true := by decide +kernel
set_option maxRecDepth 65536 in
theorem w_t7 : (((((((words1.drop 24).drop 24).drop 24).drop 24).drop 24).drop 24).take 24).all (fun c => isCode c || c.before args0 about1) = true := by decide +kernel
set_option maxRecDepth 65536 in
theorem w_t8 : ((((((((words1.drop 24).drop 24).drop 24).drop 24).drop 24).drop 24).drop 24).take 24).all (fun c => isCode c || c.before args0 about1) = true := by decide +kernel
set_option maxRecDepth 65536 in
theorem w_t9 : (((((((((words1.drop 24).drop 24).drop 24).drop 24).drop 24).drop 24).drop 24).drop 24).take 24).all (fun c => isCode c || c.before args0 about1) = true := by decide +kernel
set_option maxRecDepth 65536 in
theorem w_t10 : ((((((((((words1.drop 24).drop 24).drop 24).drop 24).drop 24).drop 24).drop 24).drop 24).drop 24).take 24).all (fun c => isCode c || c.before args0 about1) = true := by decide +kernel
set_option maxRecDepth 65536 in
theorem w_t11 : ((((((((((words1.drop 24).drop 24).drop 24).drop 24).drop 24).drop 24).drop 24).drop 24).drop 24).drop 24).all (fun c => isCode c || c.before args0 about1) = true := by decide +kernel
theorem w_tables : (allAtoms (Jvm.Cond.code x code maxLocals ret :: tables_1)).before args0 about1 = true := by
  rw [allAtoms_all]
  show words1.all (fun c => c.before args0 about1) = true
  refine all_split ?_ w_codes
  rw [← List.take_append_drop 24 words1, List.all_append, w_t1, ← List.take_append_drop 24 (words1.drop 24), List.all_append, w_t2, ← List.take_append_drop 24 ((words1.drop 24).drop 24), List.all_append, w_t3, ← List.take_append_drop 24 (((words1.drop 24).drop 24).drop 24), List.all_append, w_t4, ← List.take_append_drop 24 ((((words1.drop 24).drop 24).drop 24).drop 24), List.all_append, w_t5, ← List.take_append_drop 24 (((((words1.drop 24).drop 24).drop 24).drop 24).drop 24), List.all_append, w_t6, ← List.take_append_drop 24 ((((((words1.drop 24).drop 24).drop 24).drop 24).drop 24).drop 24), List.all_append, w_t7, ← List.take_append_drop 24 (((((((words1.drop 24).drop 24).drop 24).drop 24).drop 24).drop 24).drop 24), List.all_append, w_t8, ← List.take_append_drop 24 ((((((((words1.drop 24).drop 24).drop 24).drop 24).drop 24).drop 24).drop 24).drop 24), List.all_append, w_t9, ← List.take_append_drop 24 (((((((((words1.drop 24).drop 24).drop 24).drop 24).drop 24).drop 24).drop 24).drop 24).drop 24), List.all_append, w_t10, w_t11]
  rfl
set_option maxRecDepth 65536 in
theorem w_rest : rest_1_c.before args0 about1 = true := by decide +kernel
set_option maxRecDepth 65536 in
theorem w_case : (Jvm.Cond.and given_1 narrow_1).before args0 about1 = true := by decide +kernel
theorem w_applies : (headSpec (Jvm.Cond.code x code maxLocals ret :: tables_1) room_1).applies x e0.platform about1 = true :=
  (Spec.applies_iff w_frames).mpr ⟨w_running, w_runnable, w_alone, w_named, w_hears, w_ripe, w_room, w_tables⟩
theorem atStart : AtStart classFile x code maxLocals ret World_1 tables_1 room_1 Calls_1 rest_1 Pre_1 launch0 p0 e0 about1 theMethod args0 below0 :=
  ⟨lists_1, trivial, launch0.admits_env _ _ _, launch0.least_env, fairChoices_fair.cas, fairChoices_fair.clock, w_frames, w_args, w_heap, w_applies, trivial, w_rest, w_case⟩
end start1
theorem witness_1 : WitnessClaimed_1 := ⟨start1.p0, start1.e0, start1.about1, start1.theMethod, start1.args0, start1.below0, start1.atStart⟩
end Jvm.Pilot.@@N@@
