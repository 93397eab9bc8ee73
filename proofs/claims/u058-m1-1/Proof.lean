import JvmDerived
import JvmDerived.Pilot.@@N@@Statement
import JvmDerived.Pilot.@@N@@Code
set_option linter.unusedVariables false
set_option linter.unusedSimpArgs false
@@BLOCK:NumsL.lean.txt@@
namespace Jvm.RoadKit
open Sem ClassFile Op Lib Jvm.Stand Jvm.Free Jvm.LawKit
section New
variable {p : Program} {l : Launch} {e : Env} {R : Room} {s : State} {m : MethodId} {args : Array Value} {below : List Frame} {meth : Method} {c : Code} {T : State} {locs : List Loc} {cells slots : Nat}
theorem retI (X : Stand p l e R s m args below meth c T locs cells slots) (hx : p.tables.exec = Jvm.exec) {pc : Nat} {Ls : Array Slot} {z : Int32} {rest : List Value} (hret : meth.sig.returnType = some .int) (hd : decode c.code pc = .ok (.ireturn, 1)) {fs : List Frame}
    (hl : ∀ (f : JFrame) (acts : List Action), f.method = m → f.locked = none → f.entered = [] → (doReturn e (T.setTop f) acts (some (.int z))).1 = T.setFrames fs) : Steps p.tables e below (T.setTop (mkF m pc Ls (.int z :: rest))) (T.setFrames fs) := by
  have hm' : T.vm.method? m = some meth := X.method'
  have hn : narrow .int (.int z) = .int z := rfl
  show Steps p.tables e below (T.setTop { method := m, pc := pc, locals := Ls, stack := _ :: rest, locked := none }) _
  jvm_step X.here [X.here.top, hx, hd, hm', hret, hn]
  first | (intro acts; rw [hl _ acts rfl rfl rfl]) | rw [hl _ _ rfl rfl rfl]
  exact Steps.refl _
end New
end Jvm.RoadKit
/- laws to paste: Road.backV, Road.codOf, Road.chN (cut by pick.py; bodies as the Statement names them) -/
namespace Jvm.Pilot.@@N@@
namespace StrChars
open Jvm Sem ClassFile Op Lib Jvm.Stand Jvm.Free.XT Jvm.Free.ALB Jvm.Free.JM Jvm.Free
open Jvm.Lib.Cold (StaticIs)
/-- a char array whose places are chars -/
def Ch (a : Addr) (A : Cell) (U : State) : Prop := Arr .char a A U ∧ Typed .char A
theorem Ch.mv {a : Addr} {A : Cell} {U U' : State} (h : Ch a A U) (hal : U.vm.Alike U'.vm) (hh : U'.heap = U.heap) : Ch a A U' := ⟨h.1.mv hal hh, h.2⟩
theorem Ch.keep {a : Addr} {A : Cell} {U U' : State} (h : Ch a A U) (hal : U.vm.Alike U'.vm) (hk : U'.heap[a]? = some A) : Ch a A U' := ⟨h.1.keep hal hk, h.2⟩
/-- what place i of a char[]'s cell holds -/
def cv (A : Cell) (i : Nat) : Int32 := match A.slots[i]? with | some (.int x) => x | _ => 0
theorem Ch.get {a : Addr} {A : Cell} {U : State} (h : Ch a A U) {i : Nat} (hi : i < A.slots.size) : A.slots[i]? = some (.int (cv A i)) := by
  have e := Array.getElem?_eq_getElem hi
  have f := h.2 i _ e
  unfold cv; rw [e]
  generalize A.slots[i] = v at f
  cases v <;> simp [fits] at f ⊢
/-- the byte that i2b leaves of a char -/
def lo8 (x : Int32) : Int32 := x.toInt8.toInt32
theorem fits_lo8 (y : Int32) : fits .byte (.int (lo8 y)) = true := by
  have h1 := y.toInt8.le_toInt
  have h2 := y.toInt8.toInt_lt
  simp only [lo8, fits, Bool.and_eq_true, decide_eq_true_eq, Int32.le_iff_toInt_le, Int8.toInt_toInt32, show (-128 : Int32).toInt = -128 from by decide, show (127 : Int32).toInt = 127 from by decide]
  omega
/-- A' is A but that each place j of lo .. hi - 1 holds f j -/
def Laid (A A' : Cell) (lo hi : Nat) (f : Nat → Value) : Prop := A'.cls = A.cls ∧ A'.vm = A.vm ∧ A'.slots.size = A.slots.size ∧ ∀ i, A'.slots[i]? = if lo ≤ i ∧ i < hi then some (f i) else A.slots[i]?
theorem Laid.zero (A : Cell) (lo : Nat) (f : Nat → Value) : Laid A A lo (lo + 0) f := ⟨rfl, rfl, rfl, fun i => by rw [if_neg (by omega)]⟩
theorem Laid.step {A Ak : Cell} {lo k : Nat} {f : Nat → Value} {v : Value} (h : Laid A Ak lo k f) (hlo : lo ≤ k) (hk : k < Ak.slots.size) (hv : v = f k) : Laid A (Ak.setSlot k v) lo (k + 1) f := by
  refine ⟨h.1, h.2.1, by simpa [Cell.setSlot] using h.2.2.1, fun i => ?_⟩
  by_cases e : k = i
  · subst e; rw [Cell.slots_setSlot_self v hk, if_pos (by omega), hv]
  · rw [Cell.slots_setSlot_ne v e, h.2.2.2 i]
    by_cases q : lo ≤ i ∧ i < k
    · rw [if_pos q, if_pos (by omega)]
    · rw [if_neg q, if_neg (by omega)]
def U16 : String := "java/lang/StringUTF16"
namespace Cmp5
def yN : MethodName := ⟨"java/lang/StringUTF16", "compress", "([CI[BII)I"⟩
abbrev yB : ByteArray := jdk_52_method_21_code
theorem d0 : decode yB 0 = .ok (.iconst 0, 1) := by decide +kernel
theorem d1 : decode yB 1 = .ok (.istore 5, 2) := by decide +kernel
theorem d3 : decode yB 3 = .ok (.iload 5, 2) := by decide +kernel
theorem d5 : decode yB 5 = .ok (.iload 4, 2) := by decide +kernel
theorem d7 : decode yB 7 = .ok (.if_icmp (.ge) 37, 3) := by decide +kernel
theorem d10 : decode yB 10 = .ok (.aload_n 0, 1) := by decide +kernel
theorem d11 : decode yB 11 = .ok (.iload_n 1, 1) := by decide +kernel
theorem d12 : decode yB 12 = .ok (.caload, 1) := by decide +kernel
theorem d13 : decode yB 13 = .ok (.istore 6, 2) := by decide +kernel
theorem d15 : decode yB 15 = .ok (.iload 6, 2) := by decide +kernel
theorem d17 : decode yB 17 = .ok (.sipush 255, 3) := by decide +kernel
theorem d20 : decode yB 20 = .ok (.if_icmp (.le) 6, 3) := by decide +kernel
theorem d26 : decode yB 26 = .ok (.aload_n 2, 1) := by decide +kernel
theorem d27 : decode yB 27 = .ok (.iload_n 3, 1) := by decide +kernel
theorem d28 : decode yB 28 = .ok (.iload 6, 2) := by decide +kernel
theorem d30 : decode yB 30 = .ok (.i2b, 1) := by decide +kernel
theorem d31 : decode yB 31 = .ok (.bastore, 1) := by decide +kernel
theorem d32 : decode yB 32 = .ok (.iinc 1 1, 3) := by decide +kernel
theorem d35 : decode yB 35 = .ok (.iinc 3 1, 3) := by decide +kernel
theorem d38 : decode yB 38 = .ok (.iinc 5 1, 3) := by decide +kernel
theorem d41 : decode yB 41 = .ok (.goto (-38), 3) := by decide +kernel
theorem d44 : decode yB 44 = .ok (.iload 4, 2) := by decide +kernel
theorem d46 : decode yB 46 = .ok (.ireturn, 1) := by decide +kernel
def site : List Cond := []
def tab : Cond := tabOf yN yB 7 (some .int) site
def P (b : Addr) (A : Cell) (d : Addr) (B : Cell) (o q len : Nat) (args : Array Value) (s : State) : Prop := args = #[.ref b, .int (Int32.ofNat o), .ref d, .int (Int32.ofNat q), .int (Int32.ofNat len)] ∧ Ch b A s ∧ Arr .byte d B s ∧ b ≠ d ∧ o + len ≤ A.slots.size ∧ q + len ≤ B.slots.size ∧ ∀ i, i < len → ¬ 255 < cv A (o + i)
def E (b : Addr) (A : Cell) (d : Addr) (B : Cell) (o q len : Nat) (r : Option Value) (s u : State) : Prop := r = some (.int (Int32.ofNat len)) ∧ ∃ B', Put d B' s u ∧ Laid B B' q (q + len) (fun j => Value.int (lo8 (cv A (o + (j - q)))))
/-- no char of the range above 255: len; the places written hold each char's low byte -/
theorem law (l : Launch) (b : Addr) (A : Cell) (d : Addr) (B : Cell) (o q len : Nat) : Law l yN 5 5 0 0 yB 7 (some .int) site (P b A d B o q len) (E b A d B o q len) (copyLocs d q len) 0 0 := by
  refine Law.of_walk (plainFor_of_name (by decide +kernel)) (by decide +kernel) (by decide +kernel) (by decide) (fun _ _ h => by rw [h.1]; rfl) (fun _ U U' hal hh h => ⟨h.1, h.2.1.mv hal hh, h.2.2.1.mv hal hh, h.2.2.2⟩) (fun r U U' V V' h1 hal h2 h => ⟨h.1, h.2.elim fun B' q => ⟨B', q.1.mv h1 h2, q.2⟩⟩) ?_
  intro p e s m args below meth c s₁ X0 hexec hbytes hml hret hlk hnm hown hh0 W hP
  obtain ⟨rfl, hA, hB, hne, l1, l2, hp⟩ := hP
  have c1 : Steps p.tables e below (s₁.setTop (entryFrame m #[.ref b, .int (Int32.ofNat o), .ref d, .int (Int32.ofNat q), .int (Int32.ofNat len)] 7)) (s₁.setTop (mkF m 0 #[.val (.ref b), .val (.int (Int32.ofNat o)), .val (.ref d), .val (.int (Int32.ofNat q)), .val (.int (Int32.ofNat len)), .unset, .unset] [])) := entry rfl
  have hA0 := hA.1.mv X0.warmed.alike hh0
  have hB0 := hB.mv X0.warmed.alike hh0
  have a31 := hA.1.2.2.2
  have c2 : Steps p.tables e below (s₁.setTop (entryFrame m #[.ref b, .int (Int32.ofNat o), .ref d, .int (Int32.ofNat q), .int (Int32.ofNat len)] 7)) (s₁.setTop (mkF m 3 #[.val (.ref b), .val (.int (Int32.ofNat o)), .val (.ref d), .val (.int (Int32.ofNat q)), .val (.int (Int32.ofNat len)), .val (.int 0), .unset] [])) := c1.trans (by
    refine iconstV X0.here hexec rfl 0 (hb hbytes d0) (by decide) ?_
    refine XS.istore X0.here hexec rfl (hb hbytes d1) rfl rfl ?_
    exact Steps.refl _)
  have loop : ∀ (r i : Nat), i + r = len → ∀ (z : Slot), (z = .unset ∨ ∃ w, z = .val w ∧ w.category = 1) → ∀ (Tl : State) (Bk : Cell), Stand p l e { frames := 0, locals := 0, cells := 0, slots := 0 } s m #[.ref b, .int (Int32.ofNat o), .ref d, .int (Int32.ofNat q), .int (Int32.ofNat len)] below meth c Tl ([] ++ copyLocs d q i) 0 0 → Put d Bk s₁ Tl → Laid B Bk q (q + i) (fun j => Value.int (lo8 (cv A (o + (j - q))))) →
      Steps p.tables e below (s₁.setTop (entryFrame m #[.ref b, .int (Int32.ofNat o), .ref d, .int (Int32.ofNat q), .int (Int32.ofNat len)] 7)) (Tl.setTop (mkF m 3 #[.val (.ref b), .val (.int (Int32.ofNat (o + i))), .val (.ref d), .val (.int (Int32.ofNat (q + i))), .val (.int (Int32.ofNat len)), .val (.int (Int32.ofNat i)), z] [])) → ∃ (T' : State) (B' : Cell) (z' : Slot), Stand p l e { frames := 0, locals := 0, cells := 0, slots := 0 } s m #[.ref b, .int (Int32.ofNat o), .ref d, .int (Int32.ofNat q), .int (Int32.ofNat len)] below meth c T' ([] ++ copyLocs d q len) 0 0 ∧ Put d B' s₁ T' ∧ Laid B B' q (q + len) (fun j => Value.int (lo8 (cv A (o + (j - q))))) ∧
      Steps p.tables e below (s₁.setTop (entryFrame m #[.ref b, .int (Int32.ofNat o), .ref d, .int (Int32.ofNat q), .int (Int32.ofNat len)] 7)) (T'.setTop (mkF m 3 #[.val (.ref b), .val (.int (Int32.ofNat (o + len))), .val (.ref d), .val (.int (Int32.ofNat (q + len))), .val (.int (Int32.ofNat len)), .val (.int (Int32.ofNat len)), z'] [])) := by
    intro r
    induction r with
    | zero =>
      intro i hi z hz Tl Bk Xl pl fl cl
      have hil : i = len := by omega
      rw [hil] at Xl fl cl
      exact ⟨Tl, Bk, z, Xl, pl, fl, cl⟩
    | succ r ih =>
      intro i hi z hz Tl Bk Xl pl fl cl
      have all := X0.warmed.alike.symm.trans Xl.warmed.alike
      have hAl := hA0.keep all (pl.other hne hA0.1)
      have hBk := hB0.like all pl.1 fl.1 fl.2.1 fl.2.2.1
      have hlt : q + i < Bk.slots.size := by rw [fl.2.2.1]; omega
      have c3 : Steps p.tables e below (s₁.setTop (entryFrame m #[.ref b, .int (Int32.ofNat o), .ref d, .int (Int32.ofNat q), .int (Int32.ofNat len)] 7)) (Tl.setTop (mkF m 12 #[.val (.ref b), .val (.int (Int32.ofNat (o + i))), .val (.ref d), .val (.int (Int32.ofNat (q + i))), .val (.int (Int32.ofNat len)), .val (.int (Int32.ofNat i)), z] [.int (Int32.ofNat (o + i)), .ref b])) := cl.trans (by
        refine XS.iload Xl.here hexec rfl (hb hbytes d3) rfl ?_
        refine XS.iload Xl.here hexec rfl (hb hbytes d5) rfl ?_
        refine XS.icmpNo Xl.here hexec rfl (hb hbytes d7) rfl (ii_ge_f (lt32 (by omega) (by omega))) ?_
        refine XS.aloadN Xl.here hexec rfl (hb hbytes d10) rfl rfl ?_
        refine XS.iloadN Xl.here hexec rfl (hb hbytes d11) rfl ?_
        exact Steps.refl _)
      have c4 : Steps p.tables e below (s₁.setTop (entryFrame m #[.ref b, .int (Int32.ofNat o), .ref d, .int (Int32.ofNat q), .int (Int32.ofNat len)] 7)) (Tl.setTop (mkF m 13 #[.val (.ref b), .val (.int (Int32.ofNat (o + i))), .val (.ref d), .val (.int (Int32.ofNat (q + i))), .val (.int (Int32.ofNat len)), .val (.int (Int32.ofNat i)), z] [.int (cv A (o + i))])) := c3.trans (by
        refine Xl.aget hexec hAl rfl (hA.get (i := o + i) (by omega)) rfl rfl (hb hbytes d12) ?_
        exact Steps.refl _)
      have c5 : Steps p.tables e below (s₁.setTop (entryFrame m #[.ref b, .int (Int32.ofNat o), .ref d, .int (Int32.ofNat q), .int (Int32.ofNat len)] 7)) (Tl.setTop (mkF m 15 #[.val (.ref b), .val (.int (Int32.ofNat (o + i))), .val (.ref d), .val (.int (Int32.ofNat (q + i))), .val (.int (Int32.ofNat len)), .val (.int (Int32.ofNat i)), .val (.int (cv A (o + i)))] [])) := c4.trans (by
        refine XS.istoreS Xl.here hexec rfl (hb hbytes d13) rfl rfl hz ?_
        exact Steps.refl _)
      have c6 : Steps p.tables e below (s₁.setTop (entryFrame m #[.ref b, .int (Int32.ofNat o), .ref d, .int (Int32.ofNat q), .int (Int32.ofNat len)] 7)) (Tl.setTop (mkF m 31 #[.val (.ref b), .val (.int (Int32.ofNat (o + i))), .val (.ref d), .val (.int (Int32.ofNat (q + i))), .val (.int (Int32.ofNat len)), .val (.int (Int32.ofNat i)), .val (.int (cv A (o + i)))] [.int (lo8 (cv A (o + i))), .int (Int32.ofNat (q + i)), .ref d])) := c5.trans (by
        refine XS.iload Xl.here hexec rfl (hb hbytes d15) rfl ?_
        refine sipushV Xl.here hexec rfl 255 (hb hbytes d17) (by decide) ?_
        refine XS.icmpYes Xl.here hexec rfl (pc0 := 20) rfl (hb hbytes d20) rfl (ii_le_t (hp i (by omega))) (by decide) rfl ?_
        refine XS.aloadN Xl.here hexec rfl (hb hbytes d26) rfl rfl ?_
        refine XS.iloadN Xl.here hexec rfl (hb hbytes d27) rfl ?_
        refine XS.iload Xl.here hexec rfl (hb hbytes d28) rfl ?_
        refine i2b Xl.here hexec rfl (hb hbytes d30) rfl ?_
        exact Steps.refl _)
      obtain ⟨T7, X7, p7, st7⟩ := Xl.aput hexec hBk rfl hlt rfl (fits_lo8 (cv A (o + i))) (g := (mkF m 31 #[.val (.ref b), .val (.int (Int32.ofNat (o + i))), .val (.ref d), .val (.int (Int32.ofNat (q + i))), .val (.int (Int32.ofNat len)), .val (.int (Int32.ofNat i)), .val (.int (cv A (o + i)))] [.int (lo8 (cv A (o + i))), .int (Int32.ofNat (q + i)), .ref d])) rfl (rest := []) rfl (hb hbytes d31)
      have c8 : Steps p.tables e below (s₁.setTop (entryFrame m #[.ref b, .int (Int32.ofNat o), .ref d, .int (Int32.ofNat q), .int (Int32.ofNat len)] 7)) (T7.setTop (mkF m 32 #[.val (.ref b), .val (.int (Int32.ofNat (o + i))), .val (.ref d), .val (.int (Int32.ofNat (q + i))), .val (.int (Int32.ofNat len)), .val (.int (Int32.ofNat i)), .val (.int (cv A (o + i)))] [])) := c6.trans (st7 _ (Steps.refl _))
      have c9 : Steps p.tables e below (s₁.setTop (entryFrame m #[.ref b, .int (Int32.ofNat o), .ref d, .int (Int32.ofNat q), .int (Int32.ofNat len)] 7)) (T7.setTop (mkF m 3 #[.val (.ref b), .val (.int (Int32.ofNat (o + i) + 1)), .val (.ref d), .val (.int (Int32.ofNat (q + i) + 1)), .val (.int (Int32.ofNat len)), .val (.int (Int32.ofNat i + 1)), .val (.int (cv A (o + i)))] [])) := c8.trans (by
        refine iincV X7.here hexec rfl 1 (hb hbytes d32) (by decide) rfl rfl ?_
        refine iincV X7.here hexec rfl 1 (hb hbytes d35) (by decide) rfl rfl ?_
        refine iincV X7.here hexec rfl 1 (hb hbytes d38) (by decide) rfl rfl ?_
        refine XS.goto X7.here hexec rfl (pc0 := 41) rfl (hb hbytes d41) (by decide) rfl ?_
        exact Steps.refl _)
      have c10 : Steps p.tables e below (s₁.setTop (entryFrame m #[.ref b, .int (Int32.ofNat o), .ref d, .int (Int32.ofNat q), .int (Int32.ofNat len)] 7)) (T7.setTop (mkF m 3 #[.val (.ref b), .val (.int (Int32.ofNat (o + (i + 1)))), .val (.ref d), .val (.int (Int32.ofNat (q + (i + 1)))), .val (.int (Int32.ofNat len)), .val (.int (Int32.ofNat (i + 1))), .val (.int (cv A (o + i)))] [])) := by
        have := c9
        rw [succ32, succ32, succ32] at this
        exact this
      exact ih (i + 1) (by omega) _ (Or.inr ⟨_, rfl, rfl⟩) T7 _ (by rw [copyLocs_step, ← List.append_assoc]; exact X7) (pl.trans p7) (fl.step (by omega) hlt (by simp)) c10
  obtain ⟨T9, B9, z9, X9, p9, f9, g9⟩ := loop len 0 (by omega) .unset (Or.inl rfl) s₁ B (by simpa [copyLocs] using X0) ⟨hB0.1, fun _ _ => rfl, rfl⟩ (Laid.zero _ _ _) c2
  have c11 : Steps p.tables e below (s₁.setTop (entryFrame m #[.ref b, .int (Int32.ofNat o), .ref d, .int (Int32.ofNat q), .int (Int32.ofNat len)] 7)) (T9.setTop (mkF m 46 #[.val (.ref b), .val (.int (Int32.ofNat (o + len))), .val (.ref d), .val (.int (Int32.ofNat (q + len))), .val (.int (Int32.ofNat len)), .val (.int (Int32.ofNat len)), z9] [.int (Int32.ofNat len)])) := g9.trans (by
    refine XS.iload X9.here hexec rfl (hb hbytes d3) rfl ?_
    refine XS.iload X9.here hexec rfl (hb hbytes d5) rfl ?_
    refine XS.icmpYes X9.here hexec rfl (pc0 := 7) rfl (hb hbytes d7) rfl (ii_ge_t (nlt32 (by omega) (Nat.le_refl _))) (by decide) rfl ?_
    refine XS.iload X9.here hexec rfl (hb hbytes d44) rfl ?_
    exact Steps.refl _)
  exact ⟨T9, some (.int (Int32.ofNat len)), _, _, _, X9, by simp, rfl, rfl, (fun h => by cases h), ⟨rfl, B9, p9.from hh0, f9⟩, fun fs hl => c11.trans (X9.ireturnOut hexec hret rfl (Or.inl rfl) (hb hbytes d46) hl)⟩
end Cmp5
namespace Cmp3
def yN : MethodName := ⟨"java/lang/StringUTF16", "compress", "([CII)[B"⟩
abbrev yB : ByteArray := jdk_52_method_16_code
theorem d0 : decode yB 0 = .ok (.iload_n 2, 1) := by decide +kernel
theorem d1 : decode yB 1 = .ok (.newarray .byte, 2) := by decide +kernel
theorem d3 : decode yB 3 = .ok (.astore_n 3, 1) := by decide +kernel
theorem d4 : decode yB 4 = .ok (.aload_n 0, 1) := by decide +kernel
theorem d5 : decode yB 5 = .ok (.iload_n 1, 1) := by decide +kernel
theorem d6 : decode yB 6 = .ok (.aload_n 3, 1) := by decide +kernel
theorem d7 : decode yB 7 = .ok (.iconst 0, 1) := by decide +kernel
theorem d8 : decode yB 8 = .ok (.iload_n 2, 1) := by decide +kernel
theorem d9 : decode yB 9 = .ok (.invokestatic 115, 3) := by decide +kernel
theorem d12 : decode yB 12 = .ok (.istore 4, 2) := by decide +kernel
theorem d14 : decode yB 14 = .ok (.iload 4, 2) := by decide +kernel
theorem d16 : decode yB 16 = .ok (.iload_n 2, 1) := by decide +kernel
theorem d17 : decode yB 17 = .ok (.if_icmp (.eq) 40, 3) := by decide +kernel
theorem d57 : decode yB 57 = .ok (.aload_n 3, 1) := by decide +kernel
theorem d58 : decode yB 58 = .ok (.areturn, 1) := by decide +kernel
def site : List Cond := [.arrayClass .byte, Cmp5.tab] ++ staticW U16 115 Cmp5.yN
def tab : Cond := tabOf yN yB 6 (some (.array .byte)) site
def P (b : Addr) (A : Cell) (o len : Nat) (args : Array Value) (s : State) : Prop := args = #[.ref b, .int (Int32.ofNat o), .int (Int32.ofNat len)] ∧ Ch b A s ∧ o + len ≤ A.slots.size ∧ len ≤ 536870912 ∧ ∀ i, i < len → ¬ 255 < cv A (o + i)
def E (b : Addr) (A : Cell) (o len : Nat) (r : Option Value) (s u : State) : Prop := NewArr .byte "[B" len (fun j => .int (lo8 (cv A (o + j)))) r s u ∧ u.heap.size = s.heap.size + 1
/-- no char of the range above 255: a new byte[] of their low bytes -/
theorem law (l : Launch) (b : Addr) (A : Cell) (o len : Nat) : Law l yN 3 3 1 18 yB 6 (some (.array .byte)) site (P b A o len) (E b A o len) [] 1 len := by
  refine Law.of_walk (plainFor_of_name (by decide +kernel)) (by decide +kernel) (by decide +kernel) (by decide) (fun _ _ h => by rw [h.1]; rfl) (fun _ U U' hal hh h => ⟨h.1, h.2.1.mv hal hh, h.2.2⟩) (fun r U U' V V' h1 hal h2 h => ⟨NewArr.mv r U U' V V' h1 hal h2 h.1, by rw [h1, h2]; exact h.2⟩) ?_
  intro p e s m args below meth c s₁ X0 hexec hbytes hml hret hlk hnm hown hh0 W hP
  obtain ⟨rfl, hA, l1, l2, hp⟩ := hP
  have a31 := hA.1.2.2.2
  have c1 : Steps p.tables e below (s₁.setTop (entryFrame m #[.ref b, .int (Int32.ofNat o), .int (Int32.ofNat len)] 6)) (s₁.setTop (mkF m 0 #[.val (.ref b), .val (.int (Int32.ofNat o)), .val (.int (Int32.ofNat len)), .unset, .unset, .unset] [])) := entry rfl
  have c2 : Steps p.tables e below (s₁.setTop (entryFrame m #[.ref b, .int (Int32.ofNat o), .int (Int32.ofNat len)] 6)) (s₁.setTop (mkF m 1 #[.val (.ref b), .val (.int (Int32.ofNat o)), .val (.int (Int32.ofNat len)), .unset, .unset, .unset] [.int (Int32.ofNat len)])) := c1.trans (by
    refine XS.iloadN X0.here hexec rfl (hb hbytes d0) rfl ?_
    exact Steps.refl _)
  obtain ⟨T3, B3, X3, ba3, bs3, bv3, bh3, bf3, st3⟩ := X0.anew hexec (atype := .byte) (wk W (.arrayClass .byte)) rfl (by show len * 1 ≤ _; omega) (by omega) (g := (mkF m 1 #[.val (.ref b), .val (.int (Int32.ofNat o)), .val (.int (Int32.ofNat len)), .unset, .unset, .unset] [.int (Int32.ofNat len)])) rfl (hb hbytes d1) (rest := []) rfl (Nat.le_refl _) (by show 0 + len ≤ len; omega)
  rw [hh0] at ba3 st3
  have kp3 : XT.Kept s T3 := (XT.Kept.of_eq hh0).push bh3
  have hA3 := hA.keep X3.warmed.alike (kp3 _ _ hA.1.1)
  have hne : b ≠ s.heap.size := hA.1.ne
  have c4 : Steps p.tables e below (s₁.setTop (entryFrame m #[.ref b, .int (Int32.ofNat o), .int (Int32.ofNat len)] 6)) (T3.setTop (mkF m 3 #[.val (.ref b), .val (.int (Int32.ofNat o)), .val (.int (Int32.ofNat len)), .unset, .unset, .unset] [.ref s.heap.size])) := c2.trans (st3 _ (Steps.refl _))
  have c5 : Steps p.tables e below (s₁.setTop (entryFrame m #[.ref b, .int (Int32.ofNat o), .int (Int32.ofNat len)] 6)) (T3.setTop (mkF m 9 #[.val (.ref b), .val (.int (Int32.ofNat o)), .val (.int (Int32.ofNat len)), .val (.ref s.heap.size), .unset, .unset] [.int (Int32.ofNat len), .int 0, .ref s.heap.size, .int (Int32.ofNat o), .ref b])) := c4.trans (by
    refine XS.astoreN X3.here hexec rfl (hb hbytes d3) rfl rfl rfl ?_
    refine XS.aloadN X3.here hexec rfl (hb hbytes d4) rfl rfl ?_
    refine XS.iloadN X3.here hexec rfl (hb hbytes d5) rfl ?_
    refine XS.aloadN X3.here hexec rfl (hb hbytes d6) rfl rfl ?_
    refine iconstV X3.here hexec rfl 0 (hb hbytes d7) (by decide) ?_
    refine XS.iloadN X3.here hexec rfl (hb hbytes d8) rfl ?_
    exact Steps.refl _)
  obtain ⟨v6, T6, X6, E6, g6⟩ := X3.callS hexec (Cmp5.law l b A s.heap.size B3 o 0 len) hown (wks W (staticW U16 115 Cmp5.yN)) (wk W Cmp5.tab) (W := 0) (Nat.le_of_ble_eq_true rfl) (Nat.le_of_ble_eq_true rfl) (Nat.le_refl _) (by show 0 + len + 0 ≤ len; omega) (g := (mkF m 9 #[.val (.ref b), .val (.int (Int32.ofNat o)), .val (.int (Int32.ofNat len)), .val (.ref s.heap.size), .unset, .unset] [.int (Int32.ofNat len), .int (Int32.ofNat 0), .ref s.heap.size, .int (Int32.ofNat o), .ref b])) rfl (by rw [hml]; rfl) c5 (argsL := [.ref b, .int (Int32.ofNat o), .ref s.heap.size, .int (Int32.ofNat 0), .int (Int32.ofNat len)]) (rest := []) rfl rfl (by show 2 * 0 + 0 ≤ _; decide) (hb hbytes d9) (⟨rfl, hA3, ba3, hne, l1, by rw [bs3]; simp, hp⟩)
  obtain ⟨rfl, B6, p6, f6⟩ := E6
  have c7 : Steps p.tables e below (s₁.setTop (entryFrame m #[.ref b, .int (Int32.ofNat o), .int (Int32.ofNat len)] 6)) (T6.setTop (mkF m 12 #[.val (.ref b), .val (.int (Int32.ofNat o)), .val (.int (Int32.ofNat len)), .val (.ref s.heap.size), .unset, .unset] [.int (Int32.ofNat len)])) := g6
  have c8 : Steps p.tables e below (s₁.setTop (entryFrame m #[.ref b, .int (Int32.ofNat o), .int (Int32.ofNat len)] 6)) (T6.setTop (mkF m 58 #[.val (.ref b), .val (.int (Int32.ofNat o)), .val (.int (Int32.ofNat len)), .val (.ref s.heap.size), .val (.int (Int32.ofNat len)), .unset] [.ref s.heap.size])) := c7.trans (by
    refine XS.istore X6.here hexec rfl (hb hbytes d12) rfl rfl ?_
    refine XS.iload X6.here hexec rfl (hb hbytes d14) rfl ?_
    refine XS.iloadN X6.here hexec rfl (hb hbytes d16) rfl ?_
    refine XS.icmpYes X6.here hexec rfl (pc0 := 17) rfl (hb hbytes d17) rfl (ii_eq_t rfl) (by decide) rfl ?_
    refine XS.aloadN X6.here hexec rfl (hb hbytes d57) rfl rfl ?_
    exact Steps.refl _)
  have X8 := X6.wide (L' := []) (cells' := 1) (slots' := len) (fun x hx hlt => by
    simp only [List.nil_append, copyLocs, List.mem_map, List.mem_range] at hx
    obtain ⟨i, -, rfl⟩ := hx
    exact absurd hlt (Nat.lt_irrefl _)) (Nat.le_refl _) (by omega)
  exact ⟨T6, some (.ref s.heap.size), _, _, _, X8, rfl, rfl, rfl, (fun h => by cases h), ⟨⟨rfl, B6, ba3.like (X3.warmed.alike.symm.trans X6.warmed.alike) p6.1 f6.1 f6.2.1 f6.2.2.1, f6.2.1.trans bv3, by rw [X6.warmed.alike.findClass, f6.1]; exact bf3, by rw [f6.2.2.1, bs3]; simp, fun j hj => by rw [f6.2.2.2 j, if_pos (by omega)]; rfl, kp3.put p6 (Nat.le_refl _)⟩, by rw [p6.2.2, bh3, hh0]; simp⟩, fun fs hl => c8.trans (X8.areturnOut hexec rfl hret rfl (hb hbytes d58) hl)⟩
end Cmp3
namespace CodL
def yN : MethodName := ⟨"java/lang/StringUTF16", "coderFromArrayLen", "([BI)B"⟩
abbrev yB : ByteArray := jdk_52_method_15_code
theorem d0 : decode yB 0 = .ok (.iload_n 1, 1) := by decide +kernel
theorem d1 : decode yB 1 = .ok (.aload_n 0, 1) := by decide +kernel
theorem d2 : decode yB 2 = .ok (.arraylength, 1) := by decide +kernel
theorem d3 : decode yB 3 = .ok (.isub, 1) := by decide +kernel
theorem d4 : decode yB 4 = .ok (.bipush 31, 2) := by decide +kernel
theorem d6 : decode yB 6 = .ok (.iushr, 1) := by decide +kernel
theorem d7 : decode yB 7 = .ok (.i2b, 1) := by decide +kernel
theorem d8 : decode yB 8 = .ok (.ireturn, 1) := by decide +kernel
def site : List Cond := []
def tab : Cond := tabOf yN yB 2 (some .byte) site
def P (d : Addr) (B : Cell) (args : Array Value) (s : State) : Prop := args = #[.ref d, .int (Int32.ofNat B.slots.size)] ∧ Arr .byte d B s
def E (r : Option Value) (s u : State) : Prop := XT.PureE (some (.int 0)) r s u
/-- an array as long as the number of chars: LATIN1 -/
theorem law (l : Launch) (d : Addr) (B : Cell) : Law l yN 2 2 0 0 yB 2 (some .byte) site (P d B) E [] 0 0 := by
  refine Law.of_walk (plainFor_of_name (by decide +kernel)) (by decide +kernel) (by decide +kernel) (by decide) (fun _ _ h => by rw [h.1]; rfl) (fun _ U U' hal hh h => ⟨h.1, h.2.mv hal hh⟩) (fun r U U' V V' h1 hal h2 h => XT.PureE.mv r U U' V V' h1 hal h2 h) ?_
  intro p e s m args below meth c s₁ X0 hexec hbytes hml hret hlk hnm hown hh0 W hP
  obtain ⟨rfl, hB⟩ := hP
  have hB0 := hB.mv X0.warmed.alike hh0
  have c1 : Steps p.tables e below (s₁.setTop (entryFrame m #[.ref d, .int (Int32.ofNat B.slots.size)] 2)) (s₁.setTop (mkF m 0 #[.val (.ref d), .val (.int (Int32.ofNat B.slots.size))] [])) := entry rfl
  have c2 : Steps p.tables e below (s₁.setTop (entryFrame m #[.ref d, .int (Int32.ofNat B.slots.size)] 2)) (s₁.setTop (mkF m 2 #[.val (.ref d), .val (.int (Int32.ofNat B.slots.size))] [.ref d, .int (Int32.ofNat B.slots.size)])) := c1.trans (by
    refine XS.iloadN X0.here hexec rfl (hb hbytes d0) rfl ?_
    refine XS.aloadN X0.here hexec rfl (hb hbytes d1) rfl rfl ?_
    exact Steps.refl _)
  have c3 : Steps p.tables e below (s₁.setTop (entryFrame m #[.ref d, .int (Int32.ofNat B.slots.size)] 2)) (s₁.setTop (mkF m 8 #[.val (.ref d), .val (.int (Int32.ofNat B.slots.size))] [.int (lo8 (ushr (Int32.ofNat B.slots.size - Int32.ofNat B.slots.size) 31))])) := c2.trans (by
    refine X0.alen hexec hB0 rfl rfl (hb hbytes d2) ?_
    refine XS.isub X0.here hexec rfl (hb hbytes d3) rfl ?_
    refine bipushV X0.here hexec rfl 31 (hb hbytes d4) (by decide) ?_
    refine iushr X0.here hexec rfl (hb hbytes d6) rfl ?_
    refine i2b X0.here hexec rfl (hb hbytes d7) rfl ?_
    exact Steps.refl _)
  have e0 : lo8 (ushr (Int32.ofNat B.slots.size - Int32.ofNat B.slots.size) 31) = 0 := by rw [Int32.sub_self]; decide
  rw [e0] at c3
  exact ⟨s₁, some (.int 0), _, _, _, X0, rfl, rfl, rfl, (fun h => by cases h), ⟨rfl, hh0⟩, fun fs hl => c3.trans (X0.ireturnOut hexec hret rfl (Or.inr (Or.inr (Or.inl rfl))) (hb hbytes d8) hl)⟩
end CodL
/-- the String at a is Latin-1 over a new byte[] (the heap's one new cell): the low bytes of the len chars of A from o on; every cell but a is kept -/
def Got (a : Addr) (D : Cell) (fV fC : Field) (A : Cell) (o len : Nat) (r : Option Value) (s u : State) : Prop := r = none ∧ ∃ D' V : Cell, Blank "java/lang/String" a D' u ∧ Same D D' [fV.slot, fC.slot] ∧ D'.slots[fV.slot]? = some (.ref s.heap.size) ∧ D'.slots[fC.slot]? = some (.int 0) ∧ Arr .byte s.heap.size V u ∧ V.vm = .none ∧ u.vm.findClass "[B" = some V.cls ∧ V.slots.size = len ∧ (∀ j, j < len → V.slots[j]? = some (.int (lo8 (cv A (o + j))))) ∧ (∀ (y : Addr) (c : Cell), y ≠ a → s.heap[y]? = some c → u.heap[y]? = some c) ∧ u.heap.size = s.heap.size + 1
theorem Got.mv {a : Addr} {D A : Cell} {fV fC : Field} {o len : Nat} : ∀ r (U U' V V' : State), U'.heap = U.heap → V.vm.Alike V'.vm → V'.heap = V.heap → Got a D fV fC A o len r U V → Got a D fV fC A o len r U' V' :=
  fun r U U' V V' h1 hal h2 ⟨e0, D', X, a1, a2, a3, a4, a5, a6, a7, a8, a9, a10, a11⟩ => ⟨e0, D', X, a1.mv hal h2, a2, by rw [h1]; exact a3, a4, by rw [h1]; exact a5.mv hal h2, a6, by rw [hal.findClass]; exact a7, a8, a9, by rw [h1, h2]; exact a10, by rw [h1, h2]; exact a11⟩
namespace New4
def yN : MethodName := ⟨"java/lang/String", "<init>", "([CIILjava/lang/Void;)V"⟩
abbrev yB : ByteArray := jdk_42_method_149_code
theorem d0 : decode yB 0 = .ok (.aload_n 0, 1) := by decide +kernel
theorem d1 : decode yB 1 = .ok (.invokespecial 1, 3) := by decide +kernel
theorem d4 : decode yB 4 = .ok (.iload_n 3, 1) := by decide +kernel
theorem d5 : decode yB 5 = .ok (.ifCond (.ne) 22, 3) := by decide +kernel
theorem d27 : decode yB 27 = .ok (.getstatic 38, 3) := by decide +kernel
theorem d30 : decode yB 30 = .ok (.ifCond (.eq) 28, 3) := by decide +kernel
theorem d33 : decode yB 33 = .ok (.aload_n 1, 1) := by decide +kernel
theorem d34 : decode yB 34 = .ok (.iload_n 2, 1) := by decide +kernel
theorem d35 : decode yB 35 = .ok (.iload_n 3, 1) := by decide +kernel
theorem d36 : decode yB 36 = .ok (.invokestatic 177, 3) := by decide +kernel
theorem d39 : decode yB 39 = .ok (.astore 5, 2) := by decide +kernel
theorem d41 : decode yB 41 = .ok (.aload_n 0, 1) := by decide +kernel
theorem d42 : decode yB 42 = .ok (.aload 5, 2) := by decide +kernel
theorem d44 : decode yB 44 = .ok (.iload_n 3, 1) := by decide +kernel
theorem d45 : decode yB 45 = .ok (.invokestatic 47, 3) := by decide +kernel
theorem d48 : decode yB 48 = .ok (.putfield 15, 3) := by decide +kernel
theorem d51 : decode yB 51 = .ok (.aload_n 0, 1) := by decide +kernel
theorem d52 : decode yB 52 = .ok (.aload 5, 2) := by decide +kernel
theorem d54 : decode yB 54 = .ok (.putfield 9, 3) := by decide +kernel
theorem d57 : decode yB 57 = .ok (.return_, 1) := by decide +kernel
def site : List Cond := [.fieldLink "java/lang/String" 38 "java/lang/String" "COMPACT_STRINGS" "Z", Cmp3.tab, CodL.tab, .laysFinal "java/lang/String" "java/lang/String" "value" "[B", .fieldLink "java/lang/String" 9 "java/lang/String" "value" "[B", .laysFinal "java/lang/String" "java/lang/String" "coder" "B", .fieldLink "java/lang/String" 15 "java/lang/String" "coder" "B"] ++ objW "java/lang/String" 1 ++ staticW "java/lang/String" 177 Cmp3.yN ++ staticW "java/lang/String" 47 CodL.yN
def tab : Cond := tabOf yN yB 6 none site
def P (a : Addr) (D : Cell) (fV fC : Field) (b : Addr) (A : Cell) (z : Int32) (o len : Nat) (args : Array Value) (s : State) : Prop := args = #[.ref a, .ref b, .int (Int32.ofNat o), .int (Int32.ofNat len), .null] ∧ Blank "java/lang/String" a D s ∧ Found "java/lang/String" "value" "[B" fV s ∧ Found "java/lang/String" "coder" "B" fC s ∧ Ch b A s ∧ StaticIs s "java/lang/String" "COMPACT_STRINGS" "Z" (.int z) ∧ ¬ z = 0 ∧ 0 < len ∧ o + len ≤ A.slots.size ∧ len ≤ 536870912 ∧ ∀ i, i < len → ¬ 255 < cv A (o + i)
def E (a : Addr) (D : Cell) (fV fC : Field) (A : Cell) (o len : Nat) (r : Option Value) (s u : State) : Prop := Got a D fV fC A o len r s u
/-- len > 0, no char of the range above 255: a Latin-1 String of their low bytes -/
theorem law (l : Launch) (a : Addr) (D : Cell) (fV fC : Field) (b : Addr) (A : Cell) (z : Int32) (o len : Nat) : Law l yN 5 4 2 35 yB 6 none site (P a D fV fC b A z o len) (E a D fV fC A o len) [⟨a, fC.slot⟩, ⟨a, fV.slot⟩] 1 len := by
  refine Law.of_walk (plainFor_of_name (by decide +kernel)) (by decide +kernel) (by decide +kernel) (by decide) (fun _ _ h => by rw [h.1]; rfl) (fun _ U U' hal hh h => ⟨h.1, h.2.1.mv hal hh, h.2.2.1.al hal, h.2.2.2.1.al hal, h.2.2.2.2.1.mv hal hh, h.2.2.2.2.2.1.there hal hh, h.2.2.2.2.2.2⟩) (fun r U U' V V' h1 hal h2 h => Got.mv r U U' V V' h1 hal h2 h) ?_
  intro p e s m args below meth c s₁ X0 hexec hbytes hml hret hlk hnm hown hh0 W hP
  obtain ⟨rfl, hB, f1, f2, hA, s1, hz, l0, l1, l2, hp⟩ := hP
  have a31 := hA.1.2.2.2
  have c1 : Steps p.tables e below (s₁.setTop (entryFrame m #[.ref a, .ref b, .int (Int32.ofNat o), .int (Int32.ofNat len), .null] 6)) (s₁.setTop (mkF m 0 #[.val (.ref a), .val (.ref b), .val (.int (Int32.ofNat o)), .val (.int (Int32.ofNat len)), .val .null, .unset] [])) := entry rfl
  have c2 : Steps p.tables e below (s₁.setTop (entryFrame m #[.ref a, .ref b, .int (Int32.ofNat o), .int (Int32.ofNat len), .null] 6)) (s₁.setTop (mkF m 1 #[.val (.ref a), .val (.ref b), .val (.int (Int32.ofNat o)), .val (.int (Int32.ofNat len)), .val .null, .unset] [.ref a])) := c1.trans (by
    refine XS.aloadN X0.here hexec rfl (hb hbytes d0) rfl rfl ?_
    exact Steps.refl _)
  obtain ⟨T3, X3, q3, st3⟩ := X0.oinit hexec hown (wks W (objW "java/lang/String" 1)) (g := (mkF m 1 #[.val (.ref a), .val (.ref b), .val (.int (Int32.ofNat o)), .val (.int (Int32.ofNat len)), .val .null, .unset] [.ref a])) rfl (by rw [hml]; rfl) (rest := []) rfl (hb hbytes d1) (W := 0) (by show 2 * 0 + 0 ≤ _; decide) (Nat.le_of_ble_eq_true rfl) (Nat.le_of_ble_eq_true rfl)
  have hh3 := q3.trans hh0
  have c4 : Steps p.tables e below (s₁.setTop (entryFrame m #[.ref a, .ref b, .int (Int32.ofNat o), .int (Int32.ofNat len), .null] 6)) (T3.setTop (mkF m 27 #[.val (.ref a), .val (.ref b), .val (.int (Int32.ofNat o)), .val (.int (Int32.ofNat len)), .val .null, .unset] [])) := (c2.trans (st3 _ (Steps.refl _))).trans (by
    refine XS.iloadN X3.here hexec rfl (hb hbytes d4) rfl ?_
    refine XS.ifYes X3.here hexec rfl (pc0 := 5) rfl (hb hbytes d5) rfl (i0_ne_t (nz32 (by omega) l0)) (by decide) rfl ?_
    exact Steps.refl _)
  obtain ⟨T5, X5, q5, st5⟩ := X3.sget hexec hown (wk W (.fieldLink "java/lang/String" 38 "java/lang/String" "COMPACT_STRINGS" "Z")) s1 (fun _ _ h => by rw [hh3]; exact h) (g := (mkF m 27 #[.val (.ref a), .val (.ref b), .val (.int (Int32.ofNat o)), .val (.int (Int32.ofNat len)), .val .null, .unset] [])) rfl (hb hbytes d27)
  have hh5 := q5.trans hh3
  have c6 : Steps p.tables e below (s₁.setTop (entryFrame m #[.ref a, .ref b, .int (Int32.ofNat o), .int (Int32.ofNat len), .null] 6)) (T5.setTop (mkF m 30 #[.val (.ref a), .val (.ref b), .val (.int (Int32.ofNat o)), .val (.int (Int32.ofNat len)), .val .null, .unset] [.int z])) := c4.trans (st5 _ (Steps.refl _))
  have c7 : Steps p.tables e below (s₁.setTop (entryFrame m #[.ref a, .ref b, .int (Int32.ofNat o), .int (Int32.ofNat len), .null] 6)) (T5.setTop (mkF m 36 #[.val (.ref a), .val (.ref b), .val (.int (Int32.ofNat o)), .val (.int (Int32.ofNat len)), .val .null, .unset] [.int (Int32.ofNat len), .int (Int32.ofNat o), .ref b])) := c6.trans (by
    refine XS.ifNo X5.here hexec rfl (hb hbytes d30) rfl (i0_eq_f hz) ?_
    refine XS.aloadN X5.here hexec rfl (hb hbytes d33) rfl rfl ?_
    refine XS.iloadN X5.here hexec rfl (hb hbytes d34) rfl ?_
    refine XS.iloadN X5.here hexec rfl (hb hbytes d35) rfl ?_
    exact Steps.refl _)
  obtain ⟨v8, T8, X8, E8, g8⟩ := X5.callS hexec (Cmp3.law l b A o len) hown (wks W (staticW "java/lang/String" 177 Cmp3.yN)) (wk W Cmp3.tab) (W := 0) (Nat.le_of_ble_eq_true rfl) (Nat.le_of_ble_eq_true rfl) (Nat.le_refl _) (by show 0 + len ≤ len; omega) (g := (mkF m 36 #[.val (.ref a), .val (.ref b), .val (.int (Int32.ofNat o)), .val (.int (Int32.ofNat len)), .val .null, .unset] [.int (Int32.ofNat len), .int (Int32.ofNat o), .ref b])) rfl (by rw [hml]; rfl) c7 (argsL := [.ref b, .int (Int32.ofNat o), .int (Int32.ofNat len)]) (rest := []) rfl rfl (by show 2 * 0 + 0 ≤ _; decide) (hb hbytes d36) (⟨rfl, hA.mv X5.warmed.alike hh5, l1, l2, hp⟩)
  obtain ⟨e8, z8⟩ := E8
  obtain ⟨rfl, N, n1, n2, n3, n4, n5, n6⟩ := NewArr.mv _ T5 s _ _ hh5.symm (Vm.Alike.refl _) rfl e8
  rw [hh5] at z8
  have hB1 := hB.keep X8.warmed.alike (n6 _ _ hB.1)
  have hne : s.heap.size ≠ a := (Nat.ne_of_lt (Array.getElem?_eq_some_iff.mp hB.1).1).symm
  have c9 : Steps p.tables e below (s₁.setTop (entryFrame m #[.ref a, .ref b, .int (Int32.ofNat o), .int (Int32.ofNat len), .null] 6)) (T8.setTop (mkF m 39 #[.val (.ref a), .val (.ref b), .val (.int (Int32.ofNat o)), .val (.int (Int32.ofNat len)), .val .null, .unset] [.ref s.heap.size])) := g8
  have c10 : Steps p.tables e below (s₁.setTop (entryFrame m #[.ref a, .ref b, .int (Int32.ofNat o), .int (Int32.ofNat len), .null] 6)) (T8.setTop (mkF m 45 #[.val (.ref a), .val (.ref b), .val (.int (Int32.ofNat o)), .val (.int (Int32.ofNat len)), .val .null, .val (.ref s.heap.size)] [.int (Int32.ofNat N.slots.size), .ref s.heap.size, .ref a])) := by
    have hc : Steps p.tables e below (s₁.setTop (entryFrame m #[.ref a, .ref b, .int (Int32.ofNat o), .int (Int32.ofNat len), .null] 6)) (T8.setTop (mkF m 45 #[.val (.ref a), .val (.ref b), .val (.int (Int32.ofNat o)), .val (.int (Int32.ofNat len)), .val .null, .val (.ref s.heap.size)] [.int (Int32.ofNat len), .ref s.heap.size, .ref a])) := c9.trans (by
      refine XS.astore X8.here hexec rfl (hb hbytes d39) rfl rfl rfl ?_
      refine XS.aloadN X8.here hexec rfl (hb hbytes d41) rfl rfl ?_
      refine XS.aload X8.here hexec rfl (hb hbytes d42) rfl rfl ?_
      refine XS.iloadN X8.here hexec rfl (hb hbytes d44) rfl ?_
      exact Steps.refl _)
    rw [n4]; exact hc
  obtain ⟨v11, T11, X11, E11, g11⟩ := X8.callS hexec (CodL.law l s.heap.size N) hown (wks W (staticW "java/lang/String" 47 CodL.yN)) (wk W CodL.tab) (W := 1) (Nat.le_of_ble_eq_true rfl) (Nat.le_of_ble_eq_true rfl) (Nat.le_refl _) (by show 0 + len + 0 ≤ len; omega) (g := (mkF m 45 #[.val (.ref a), .val (.ref b), .val (.int (Int32.ofNat o)), .val (.int (Int32.ofNat len)), .val .null, .val (.ref s.heap.size)] [.int (Int32.ofNat N.slots.size), .ref s.heap.size, .ref a])) rfl (by rw [hml]; rfl) c10 (argsL := [.ref s.heap.size, .int (Int32.ofNat N.slots.size)]) (rest := [.ref a]) rfl rfl (by show 2 * 0 + (1 + 0) ≤ _; decide) (hb hbytes d45) (⟨rfl, n1⟩)
  obtain ⟨rfl, q11⟩ := E11
  have hB11 := hB1.mv (X8.warmed.alike.symm.trans X11.warmed.alike) q11
  have c12 : Steps p.tables e below (s₁.setTop (entryFrame m #[.ref a, .ref b, .int (Int32.ofNat o), .int (Int32.ofNat len), .null] 6)) (T11.setTop (mkF m 48 #[.val (.ref a), .val (.ref b), .val (.int (Int32.ofNat o)), .val (.int (Int32.ofNat len)), .val .null, .val (.ref s.heap.size)] [.int 0, .ref a])) := g11
  obtain ⟨T13, X13, p13, bl13, sl13, st13⟩ := X11.finit hexec hown (wk W (.fieldLink "java/lang/String" 15 "java/lang/String" "coder" "B")) (Or.inr ⟨_, (wk W (.laysFinal "java/lang/String" "java/lang/String" "coder" "B"))⟩) (Or.inl ⟨rfl, hnm⟩) f2 (Or.inl rfl) hB11 (t := .byte) (by decide +kernel) rfl (g := (mkF m 48 #[.val (.ref a), .val (.ref b), .val (.int (Int32.ofNat o)), .val (.int (Int32.ofNat len)), .val .null, .val (.ref s.heap.size)] [.int 0, .ref a])) rfl (rest := []) rfl (hb hbytes d48)
  have c14 : Steps p.tables e below (s₁.setTop (entryFrame m #[.ref a, .ref b, .int (Int32.ofNat o), .int (Int32.ofNat len), .null] 6)) (T13.setTop (mkF m 54 #[.val (.ref a), .val (.ref b), .val (.int (Int32.ofNat o)), .val (.int (Int32.ofNat len)), .val .null, .val (.ref s.heap.size)] [.ref s.heap.size, .ref a])) := (c12.trans (st13 _ (Steps.refl _))).trans (by
    refine XS.aloadN X13.here hexec rfl (hb hbytes d51) rfl rfl ?_
    refine XS.aload X13.here hexec rfl (hb hbytes d52) rfl rfl ?_
    exact Steps.refl _)
  obtain ⟨T15, X15, p15, bl15, sl15, st15⟩ := X13.finit hexec hown (wk W (.fieldLink "java/lang/String" 9 "java/lang/String" "value" "[B")) (Or.inr ⟨_, (wk W (.laysFinal "java/lang/String" "java/lang/String" "value" "[B"))⟩) (Or.inl ⟨rfl, hnm⟩) f1 (Or.inl rfl) bl13 (t := (.array .byte)) (by decide +kernel) rfl (g := (mkF m 54 #[.val (.ref a), .val (.ref b), .val (.int (Int32.ofNat o)), .val (.int (Int32.ofNat len)), .val .null, .val (.ref s.heap.size)] [.ref s.heap.size, .ref a])) rfl (rest := []) rfl (hb hbytes d54)
  have c16 : Steps p.tables e below (s₁.setTop (entryFrame m #[.ref a, .ref b, .int (Int32.ofNat o), .int (Int32.ofNat len), .null] 6)) (T15.setTop (mkF m 57 #[.val (.ref a), .val (.ref b), .val (.int (Int32.ofNat o)), .val (.int (Int32.ofNat len)), .val .null, .val (.ref s.heap.size)] [])) := c14.trans (st15 _ (Steps.refl _))
  have ap := apart (Or.inr ⟨_, (wk W (.laysFinal "java/lang/String" "java/lang/String" "value" "[B"))⟩) (Or.inr ⟨_, (wk W (.laysFinal "java/lang/String" "java/lang/String" "coder" "B"))⟩) f1 f2 (t₁ := .array .byte) (t₂ := .byte) (by decide +kernel) (by decide +kernel) (by decide)
  have al := X8.warmed.alike.symm.trans X15.warmed.alike
  have n7 : T11.heap[s.heap.size]? = some N := by rw [q11]; exact n1.1
  exact ⟨T15, none, _, _, _, X15, by simp, rfl, by omega, (fun _ => rfl), ⟨rfl, _, N, bl15, ((Same.refl D _).set _ (by simp)).set _ (by simp), sl15, (Cell.slots_setSlot_ne _ ap).trans sl13, n1.keep al (p15.other hne (p13.other hne n7)), n2, by rw [al.findClass]; exact n3, n4, n5, fun y c h1 h2 => p15.other h1 (p13.other h1 (by rw [q11]; exact n6 y c h2)), by rw [p15.2.2, p13.2.2, q11]; exact z8⟩, fun fs hl => c16.trans (X15.returnOut hexec hret (hb hbytes d57) hl)⟩
end New4
namespace New1
def yN : MethodName := ⟨"java/lang/String", "<init>", "([C)V"⟩
abbrev yB : ByteArray := jdk_42_method_3_code
theorem d0 : decode yB 0 = .ok (.aload_n 0, 1) := by decide +kernel
theorem d1 : decode yB 1 = .ok (.aload_n 1, 1) := by decide +kernel
theorem d2 : decode yB 2 = .ok (.iconst 0, 1) := by decide +kernel
theorem d3 : decode yB 3 = .ok (.aload_n 1, 1) := by decide +kernel
theorem d4 : decode yB 4 = .ok (.arraylength, 1) := by decide +kernel
theorem d5 : decode yB 5 = .ok (.aconst_null, 1) := by decide +kernel
theorem d6 : decode yB 6 = .ok (.invokespecial 27, 3) := by decide +kernel
theorem d9 : decode yB 9 = .ok (.return_, 1) := by decide +kernel
def site : List Cond := [New4.tab] ++ initW "java/lang/String" 27 New4.yN
def tab : Cond := tabOf yN yB 2 none site
def P (a : Addr) (D : Cell) (fV fC : Field) (b : Addr) (A : Cell) (z : Int32) (args : Array Value) (s : State) : Prop := args = #[.ref a, .ref b] ∧ Blank "java/lang/String" a D s ∧ Found "java/lang/String" "value" "[B" fV s ∧ Found "java/lang/String" "coder" "B" fC s ∧ Ch b A s ∧ StaticIs s "java/lang/String" "COMPACT_STRINGS" "Z" (.int z) ∧ ¬ z = 0 ∧ 0 < A.slots.size ∧ A.slots.size ≤ 536870912 ∧ ∀ i, i < A.slots.size → ¬ 255 < cv A i
def E (a : Addr) (D : Cell) (fV fC : Field) (A : Cell) (r : Option Value) (s u : State) : Prop := Got a D fV fC A 0 A.slots.size r s u
/-- new String(chars), not empty, no char above 255: a Latin-1 String of their low bytes -/
theorem law (l : Launch) (a : Addr) (D : Cell) (fV fC : Field) (b : Addr) (A : Cell) (z : Int32) : Law l yN 2 1 3 52 yB 2 none site (P a D fV fC b A z) (E a D fV fC A) [⟨a, fC.slot⟩, ⟨a, fV.slot⟩] 1 A.slots.size := by
  refine Law.of_walk (plainFor_of_name (by decide +kernel)) (by decide +kernel) (by decide +kernel) (by decide) (fun _ _ h => by rw [h.1]; rfl) (fun _ U U' hal hh h => ⟨h.1, h.2.1.mv hal hh, h.2.2.1.al hal, h.2.2.2.1.al hal, h.2.2.2.2.1.mv hal hh, h.2.2.2.2.2.1.there hal hh, h.2.2.2.2.2.2⟩) (fun r U U' V V' h1 hal h2 h => Got.mv r U U' V V' h1 hal h2 h) ?_
  intro p e s m args below meth c s₁ X0 hexec hbytes hml hret hlk hnm hown hh0 W hP
  obtain ⟨rfl, hB, f1, f2, hA, s1, hz, l0, l2, hp⟩ := hP
  have c1 : Steps p.tables e below (s₁.setTop (entryFrame m #[.ref a, .ref b] 2)) (s₁.setTop (mkF m 0 #[.val (.ref a), .val (.ref b)] [])) := entry rfl
  have c2 : Steps p.tables e below (s₁.setTop (entryFrame m #[.ref a, .ref b] 2)) (s₁.setTop (mkF m 6 #[.val (.ref a), .val (.ref b)] [.null, .int (Int32.ofNat A.slots.size), .int 0, .ref b, .ref a])) := c1.trans (by
    refine XS.aloadN X0.here hexec rfl (hb hbytes d0) rfl rfl ?_
    refine XS.aloadN X0.here hexec rfl (hb hbytes d1) rfl rfl ?_
    refine iconstV X0.here hexec rfl 0 (hb hbytes d2) (by decide) ?_
    refine XS.aloadN X0.here hexec rfl (hb hbytes d3) rfl rfl ?_
    refine X0.alen hexec (hA.1.mv X0.warmed.alike hh0) rfl rfl (hb hbytes d4) ?_
    refine XS.aconstNull X0.here hexec rfl (hb hbytes d5) ?_
    exact Steps.refl _)
  obtain ⟨v3, T3, X3, E3, g3⟩ := X0.callN hexec (New4.law l a D fV fC b A z 0 A.slots.size) rfl hown (wks W (initW "java/lang/String" 27 New4.yN)) (W New4.tab (by simp only [site, List.mem_cons, List.mem_append, true_or, or_true])) (W := 0) (Nat.le_of_ble_eq_true rfl) (Nat.le_of_ble_eq_true rfl) (Nat.le_refl _) (by show 0 + A.slots.size ≤ A.slots.size; omega) (g := (mkF m 6 #[.val (.ref a), .val (.ref b)] [.null, .int (Int32.ofNat A.slots.size), .int (Int32.ofNat 0), .ref b, .ref a])) rfl (by rw [hml]; rfl) c2 (argsL := [.ref b, .int (Int32.ofNat 0), .int (Int32.ofNat A.slots.size), .null]) (rest := []) rfl rfl (by show 2 * 0 + 0 ≤ _; decide) (hb hbytes d6) (⟨rfl, hB.mv X0.warmed.alike hh0, f1.al X0.warmed.alike, f2.al X0.warmed.alike, hA.mv X0.warmed.alike hh0, s1.there X0.warmed.alike hh0, hz, l0, by omega, l2, fun i hi => by rw [Nat.zero_add]; exact hp i hi⟩)
  have e0 := Got.mv _ s₁ s _ _ hh0.symm (Vm.Alike.refl _) rfl E3
  obtain rfl := e0.1
  have c4 : Steps p.tables e below (s₁.setTop (entryFrame m #[.ref a, .ref b] 2)) (T3.setTop (mkF m 9 #[.val (.ref a), .val (.ref b)] [])) := g3
  exact ⟨T3, none, _, _, _, X3, by simp, rfl, by omega, (fun _ => rfl), e0, fun fs hl => c4.trans (X3.returnOut hexec hret (hb hbytes d9) hl)⟩
theorem pays {l : Launch} {R : Room} {p : Program} {e : Env} {below : List Frame} {s : State} {sargs : Array Value} {len W : Nat} (a : Addr) (D : Cell) (fV fC : Field) (b : Addr) (A : Cell) (z : Int32) (htab : tab.before sargs s = true) (hfr : 4 ≤ R.frames) (hlo : W + 65 ≤ R.locals) :
    Back l R p e below s sargs yN len W (fun A₁ a₁ => A₁.cells + 1 ≤ R.cells ∧ A₁.slots + A.slots.size ≤ R.slots ∧ P a D fV fC b A z a₁ A₁.U) (fun A₁ _ v₁ B₁ => E a D fV fC A v₁ A₁.U B₁.U ∧ B₁.locs = A₁.locs ++ [⟨a, fC.slot⟩, ⟨a, fV.slot⟩] ∧ B₁.cells = A₁.cells + 1 ∧ B₁.slots = A₁.slots + A.slots.size) :=
  (law l a D fV fC b A z).pays htab hfr (by omega)
end New1
/-- the byte, read back as charAt reads it, is the char -/
theorem lo8_mask {x : Int32} (h0 : ¬ x < 0) (h1 : ¬ 255 < x) : lo8 x &&& 255 = x := by
  have t : ∀ k : Fin 256, lo8 (Int32.ofNat k.val) &&& 255 = Int32.ofNat k.val := by decide +kernel
  rw [Int32.lt_iff_toInt_lt] at h0 h1
  have e0 : (0 : Int32).toInt = 0 := rfl
  have e1 : (255 : Int32).toInt = 255 := rfl
  obtain ⟨k, hk⟩ : ∃ k : Nat, x.toInt = k := ⟨x.toInt.toNat, by omega⟩
  have hx : x = Int32.ofNat k := Int32.toInt_inj.mp (by rw [hk, Int32.toInt_ofNat_small (by omega)])
  rw [hx]
  exact t ⟨k, by omega⟩
end StrChars
namespace StrChars.Road
open Jvm Sem ClassFile Op Lib Jvm.Stand Jvm.Free Jvm.Free.XT
open Jvm.Lib.Cold (StaticIs)
abbrev ST : String := "java/lang/String"
/-- every table word that New1's law asks, flat -/
abbrev words : List Jvm.Cond := [.code New1.yN New1.yB 2 none, .initialized ST, .methodLink ST 27 New4.yN, .instanceMethod New4.yN,
  .code New4.yN New4.yB 6 none, .fieldLink ST 38 ST "COMPACT_STRINGS" "Z", .laysFinal ST ST "value" "[B", .fieldLink ST 9 ST "value" "[B", .laysFinal ST ST "coder" "B", .fieldLink ST 15 ST "coder" "B",
  .methodLink ST 1 Lib.objectInit, .instanceMethod Lib.objectInit, .code Lib.objectInit ⟨#[0xb1]⟩ 1 none, .methodLink ST 177 Cmp3.yN, .static Cmp3.yN, .methodLink ST 47 CodL.yN, .static CodL.yN,
  .code Cmp3.yN Cmp3.yB 6 (some (.array .byte)), .initialized U16, .arrayClass .byte, .methodLink U16 115 Cmp5.yN, .static Cmp5.yN, .code Cmp5.yN Cmp5.yB 7 (some .int), .code CodL.yN CodL.yB 2 (some .byte)]
theorem tab_of {a : Array Value} {s : State} (h : ∀ w ∈ words, w.before a s = true) : New1.tab.before a s = true := by
  have h5 : Cmp5.tab.before a s = true := unparts (wk h (.code Cmp5.yN Cmp5.yB 7 (some .int))) (wks h (.initialized Cmp5.yN.cls :: Cmp5.site))
  have hc : CodL.tab.before a s = true := unparts (wk h (.code CodL.yN CodL.yB 2 (some .byte))) (wks h (.initialized CodL.yN.cls :: CodL.site))
  have q5 : ∀ w ∈ Cmp5.tab :: words, w.before a s = true := fun w hw => (List.mem_cons.mp hw).elim (fun e => e ▸ h5) (h w)
  have h3 : Cmp3.tab.before a s = true := unparts (wk q5 (.code Cmp3.yN Cmp3.yB 6 (some (.array .byte)))) (wks q5 (.initialized Cmp3.yN.cls :: Cmp3.site))
  have q3 : ∀ w ∈ Cmp3.tab :: CodL.tab :: words, w.before a s = true := fun w hw => (List.mem_cons.mp hw).elim (fun e => e ▸ h3) fun hw => (List.mem_cons.mp hw).elim (fun e => e ▸ hc) (h w)
  have h4 : New4.tab.before a s = true := unparts (wk q3 (.code New4.yN New4.yB 6 none)) (wks q3 (.initialized New4.yN.cls :: New4.site))
  have q4 : ∀ w ∈ New4.tab :: words, w.before a s = true := fun w hw => (List.mem_cons.mp hw).elim (fun e => e ▸ h4) (h w)
  exact unparts (wk q4 (.code New1.yN New1.yB 2 none)) (wks q4 (.initialized New1.yN.cls :: New1.site))
/-- the words ride from the start Z to the walk's own state -/
theorem moved {Z s : State} {a0 args : Array Value} (hZ : Z.Warmed39 s.vm) (hw : ∀ d ∈ words, d.before a0 Z = true) : ∀ d ∈ words, d.before args s = true := fun d hd => by
  have q := hw d hd
  have t : ∀ d ∈ words, d = .arrayClass .byte ∨ (d.onTables && d.keepsFace) = true := by decide +kernel
  rcases t d hd with rfl | t
  · exact RoadKit.mvA hZ q
  · exact RoadKit.mv hZ q t
/-- WHAT COMES BACK, over the tables of the start Z: h the heap at the call, h' behind it -/
def Q (Z : State) (x : Addr) (A : Cell) (h : Heap) (v : Option Value) (h' : Heap) (L : List Loc) : Prop := v = none ∧ (∀ y ∈ L, y.base = x) ∧ RoadKit.Keep h h' [x] ∧ h'.size = h.size + 1 ∧ RoadKit.Exa Z h' x ST ∧ RoadKit.Fld Z h' x ST "value" "[B" (.ref h.size) ∧ RoadKit.Fld Z h' x ST "coder" "B" (.int 0) ∧
  (∃ V : Cell, RoadKit.Arr Z h' h.size V .byte ∧ V.vm = .none ∧ Z.vm.findClass "[B" = some V.cls ∧ V.slots.size = A.slots.size ∧ ∀ j, j < A.slots.size → V.slots[j]? = some (.int (lo8 (cv A j)))) ∧
  ∀ (O n d : String) (w : Value), RoadKit.Fld Z h x O n d w → RoadKit.slotOf Z O n d ≠ RoadKit.slotOf Z ST "value" "[B" → RoadKit.slotOf Z O n d ≠ RoadKit.slotOf Z ST "coder" "B" → RoadKit.Fld Z h' x O n d w
/-- **new String(chars) AT A CALL, IN THE ROAD'S FORM**: for specialBack behind newO: x the fresh String, b the char[] with the cell A -/
theorem back {p : Program} {l : Launch} {e : Env} {R : Room} {s : State} {args : Array Value} {below : List Frame} {len W : Nat} {Z : State} {a0 : Array Value} {h : Heap} (hZ : Z.Warmed39 s.vm) (hw : ∀ d ∈ words, d.before a0 Z = true) {kI : Nat} (wi : (Jvm.Cond.instantiable ST kI).before a0 Z = true)
    {x b : Addr} {A : Cell} {z : Int32} {v0 c0 : Value} (E : RoadKit.Exa Z h x ST) (V : RoadKit.Fld Z h x ST "value" "[B" v0) (C : RoadKit.Fld Z h x ST "coder" "B" c0) (K : RoadKit.Arr Z h b A .char) (hty : Typed .char A) (S : RoadKit.Sta Z h ST "COMPACT_STRINGS" "Z" (.int z)) (hz : ¬ z = 0)
    (l0 : 0 < A.slots.size) (l2 : A.slots.size ≤ 536870912) (hp : ∀ i, i < A.slots.size → ¬ 255 < cv A i) (hfr : 4 ≤ R.frames) (hlo : W + 65 ≤ R.locals) :
    Back l R p e below s args New1.yN len W (fun P a => a = #[.ref x, .ref b] ∧ P.U.heap = h ∧ P.cells + 1 ≤ R.cells ∧ P.slots + A.slots.size ≤ R.slots)
      (fun P _ v B => ∃ L, Q Z x A h v B.U.heap L ∧ B.locs = P.locs ++ L ∧ B.cells = P.cells + 1 ∧ B.slots = P.slots + A.slots.size) := by
  intro m meth c P g ig mk a X hg hsize hdg hW hn hp'
  obtain ⟨rfl, rfl, r1, r2⟩ := hp'
  have al : Z.vm.Alike P.U.vm := hZ.alike.trans X.warmed.alike
  obtain ⟨D, cfV, kV, iV, fV, hD, gV, stV, knV, obV, asV, slV⟩ := id V
  obtain ⟨D', cfC, kC, iC, fC, hD', gC, stC, -, -, asC, slC⟩ := id C
  cases hD.symm.trans hD'
  obtain ⟨D2, kD, e1, e2, e3, e4, e5⟩ := id E
  cases hD.symm.trans e1
  obtain ⟨c2, k2, i1, i2, i3, -⟩ := Cond.instantiable_spec wi
  cases e2.symm.trans i1
  cases e3.symm.trans i2
  obtain ⟨kU, u1, u2⟩ := al.2.2 _ _ e3
  have hB : Blank ST x D P.U := ⟨hD, ⟨knV, fun q hq => by rw [hq] at obV; cases obV⟩, by rw [al.findClass]; exact e2, kU, u1, by rw [u2]; exact i3, by rw [u2]; exact e5 i3⟩
  have F1 : Found ST "value" "[B" fV P.U := ⟨SBG.found_only al ⟨cfV, kV, iV, gV⟩, stV⟩
  have F2 : Found ST "coder" "B" fC P.U := ⟨SBG.found_only al ⟨cfC, kC, iC, gC⟩, stC⟩
  have hA : Ch b A P.U := ⟨⟨K.1, State.isArrayOf_alike al K.2.1, K.2.2, by omega⟩, hty⟩
  have hS : StaticIs P.U ST "COMPACT_STRINGS" "Z" (.int z) := by
    obtain ⟨cfS, iS, kS, fS, st, cS, t1, t2, t3, t4, t5, t6, t7⟩ := S
    exact StaticIs.there (s := { Z with heap := P.U.heap }) ⟨cfS, iS, kS, fS, st, cS, t1, t2, t3, t4, t5, (fun q => by rw [q] at t6; cases t6), t7⟩ al rfl
  obtain ⟨v, B, X', ⟨⟨hv, E', V', q1, q2, q3, q4, q5, q6, q7, q8, q9, q10, q11⟩, hl, hc, hs⟩, st⟩ := New1.pays x D fV fC b A z (tab_of (moved hZ hw)) hfr hlo m meth c P g ig mk _ X hg hsize hdg hW hn ⟨r1, r2, rfl, hB, F1, F2, hA, hS, hz, l0, l2, hp⟩
  have al' : Z.vm.Alike B.U.vm := hZ.alike.trans X'.warmed.alike
  have hsz : E'.slots.size = D.slots.size := by
    obtain ⟨-, -, -, kB, w1, w2, w3⟩ := q1
    obtain ⟨kB', y1, y2⟩ := al'.2.2 _ _ e3
    rw [q2.2.1] at w1
    cases w1.symm.trans y1
    rw [w3, e5 i3, y2]
  refine ⟨v, B, X', ⟨_, ⟨hv, ?_, ⟨by omega, fun y cy hy hn' => q10 y cy (by simpa using hn') hy, fun y cy hy => ?_⟩, q11, ⟨E', _, q1.1, by rw [q2.2.1]; exact e2, by rw [q2.2.1]; exact e3, by rw [q2.1]; exact obV, fun _ => by rw [hsz]; exact e5 i3⟩,
    ⟨E', cfV, kV, iV, fV, q1.1, gV, stV, by rw [q2.1]; exact knV, by rw [q2.1]; exact obV, by rw [q2.2.1]; exact asV, q3⟩, ⟨E', cfC, kC, iC, fC, q1.1, gC, stC, by rw [q2.1]; exact knV, by rw [q2.1]; exact obV, by rw [q2.2.1]; exact asC, q4⟩,
    ⟨V', ⟨q5.1, State.isArrayOf_alike al'.symm q5.2.1, q5.2.2.1⟩, q6, by rw [← al'.findClass]; exact q7, q8, fun j hj => by have := q9 j hj; rwa [Nat.zero_add] at this⟩, fun O n d w F n1 n2 => ?_⟩, hl, hc, hs⟩, st⟩
  · intro y hy
    simp only [List.mem_cons, List.not_mem_nil, or_false] at hy
    rcases hy with rfl | rfl <;> rfl
  · by_cases q : y = x
    · subst q
      cases hD.symm.trans hy
      exact ⟨E', q1.1, q2.2.1, q2.1, hsz⟩
    · exact ⟨cy, q10 y cy q hy, rfl, rfl, rfl⟩
  · obtain ⟨D3, cf, k, i, f, g1, g2, g3, g4, g5, g6, g7⟩ := F
    cases hD.symm.trans g1
    simp only [RoadKit.slotOf, g2, gV, gC, Option.map_some, Option.getD_some] at n1 n2
    exact ⟨E', cf, k, i, f, q1.1, g2, g3, by rw [q2.1]; exact g4, by rw [q2.1]; exact g5, by rw [q2.2.1]; exact g6, by rw [q2.2.2 f.slot (by simp [n1, n2])]; exact g7⟩
end StrChars.Road
namespace StrChars.Road
open Jvm Sem ClassFile Op Lib Jvm.Stand Jvm.Free Jvm.Free.XT
/-- WHAT COMES BACK, the byte[] as a list of values -/
def QA (Z : State) (x : Addr) (zn : Int32) (cs : List Int32) (h : Heap) (v : Option Value) (h' : Heap) (L : List Loc) : Prop := v = none ∧ (∀ y ∈ L, y.base = x) ∧ RoadKit.Keep h h' [x] ∧ h'.size = h.size + 1 ∧ RoadKit.Exa Z h' x ST ∧ RoadKit.Fld Z h' x ST "value" "[B" (.ref h.size) ∧ RoadKit.Fld Z h' x ST "coder" "B" (.int 0) ∧
  (∃ kb, Z.vm.findClass "[B" = some kb ∧ RoadKit.Arv Z h' h.size kb .byte zn (cs.map fun c => .int (lo8 c)) (.int 0)) ∧
  ∀ (O n d : String) (w : Value), RoadKit.Fld Z h x O n d w → RoadKit.slotOf Z O n d ≠ RoadKit.slotOf Z ST "value" "[B" → RoadKit.slotOf Z O n d ≠ RoadKit.slotOf Z ST "coder" "B" → RoadKit.Fld Z h' x O n d w
/-- **new String(chars) AT A CALL, THE ARRAYS AS LISTS**: the char[] at b holds cs, not empty, no char above 255 -/
theorem backArv {p : Program} {l : Launch} {e : Env} {R : Room} {s : State} {args : Array Value} {below : List Frame} {len W : Nat} {Z : State} {a0 : Array Value} {h : Heap} (hZ : Z.Warmed39 s.vm) (hw : ∀ d ∈ words, d.before a0 Z = true) {kI : Nat} (wi : (Jvm.Cond.instantiable ST kI).before a0 Z = true)
    {x b : Addr} {k : ClassId} {zn z : Int32} {cs : List Int32} {dv v0 c0 : Value} (E : RoadKit.Exa Z h x ST) (V : RoadKit.Fld Z h x ST "value" "[B" v0) (C : RoadKit.Fld Z h x ST "coder" "B" c0) (K : RoadKit.Arv Z h b k .char zn (cs.map Value.int) dv) (S : RoadKit.Sta Z h ST "COMPACT_STRINGS" "Z" (.int z)) (hz : ¬ z = 0)
    (hlen : zn.toNatClampNeg = cs.length) (h0 : 0 < cs.length) (hbig : cs.length ≤ 536870912) (hall : ∀ c ∈ cs, ¬ 255 < c) (hfr : 4 ≤ R.frames) (hlo : W + 65 ≤ R.locals) :
    Back l R p e below s args New1.yN len W (fun P a => a = #[.ref x, .ref b] ∧ P.U.heap = h ∧ P.cells + 1 ≤ R.cells ∧ P.slots + cs.length ≤ R.slots)
      (fun P _ v B => ∃ L, QA Z x zn cs h v B.U.heap L ∧ B.locs = P.locs ++ L ∧ B.cells = P.cells + 1 ∧ B.slots = P.slots + cs.length) := by
  obtain ⟨A, K1, K2, K3, K4, K5, K6⟩ := K
  have e : A.slots.size = cs.length := K3.trans hlen
  have hat : ∀ (i : Nat) (hi : i < cs.length), A.slots[i]? = some (.int cs[i]) := fun i hi => by rw [K5 i (by omega)]; simp [List.getD_eq_getElem?_getD, hi]
  have hcv : ∀ (i : Nat) (hi : i < cs.length), cv A i = cs[i] := fun i hi => by unfold cv; rw [hat i hi]
  have hty : Typed .char A := fun i v hv => by
    have hi : i < A.slots.size := (Array.getElem?_eq_some_iff.mp hv).1
    have q := K5 i hi
    rw [hv] at q
    rw [Option.some.inj q]
    exact K6 i hi
  refine Back.mono (back hZ hw wi E V C K1 hty S hz (by omega) (by omega) (fun i hi => by rw [hcv i (by omega)]; exact hall _ (List.getElem_mem _)) hfr hlo) (fun P a hp => ⟨hp.1, hp.2.1, hp.2.2.1, by rw [e]; exact hp.2.2.2⟩) (fun P a v B hp hq => ?_)
  obtain ⟨L, ⟨q1, q2, q3, q4, q5, q6, q7, ⟨V', v1, v2, v3, v4, v5⟩, q9⟩, hl, hc, hs⟩ := hq
  refine ⟨L, ⟨q1, q2, q3, q4, q5, q6, q7, ⟨V'.cls, v3, V', v1, rfl, by rw [v4, e, hlen], K4, fun i hi => ?_, fun i hi => ?_⟩, q9⟩, hl, hc, by rw [hs, e]⟩
  · have hi' : i < cs.length := by omega
    rw [v5 i (by omega), hcv i hi']; simp [List.getD_eq_getElem?_getD, hi']
  · have hi' : i < cs.length := by omega
    simp only [List.getD_eq_getElem?_getD, List.getElem?_map, List.getElem?_eq_getElem hi', Option.map_some, Option.getD_some]
    exact fits_lo8 _
end StrChars.Road
namespace StrChars.Road
open Jvm Sem ClassFile Op Lib Jvm.Stand Jvm.Free Jvm.Free.XT
/-- WHAT COMES BACK, in the writer's own shape -/
def QV (Z : State) (x : Addr) (N : Int32) (bs : List Int32) (h : Heap) (n0 : Nat) (v : Option Value) (h' : Heap) (L : List Loc) : Prop := v = none ∧ RoadKit.Fr n0 L ∧ RoadKit.Keep h h' [x] ∧ RoadKit.Exa Z h' x ST ∧ RoadKit.Fld Z h' x ST "coder" "B" (.int 0) ∧
  ∃ (t : Addr) (kb : ClassId), n0 ≤ t ∧ h.size ≤ t ∧ ¬ t = x ∧ RoadKit.Fld Z h' x ST "value" "[B" (.ref t) ∧ RoadKit.Arv Z h' t kb .byte N (bs.map Value.int) (.int 0)
/-- **new String(chars) AT A CALL, FOR THE WRITER**: a char[] of n known ints, each 0 to 255 -/
theorem backV {p : Program} {l : Launch} {e : Env} {R : Room} {s : State} {args : Array Value} {below : List Frame} {len W : Nat} {Z : State} {a0 : Array Value} {h : Heap} (hZ : Z.Warmed39 s.vm) (hw : ∀ d ∈ words, d.before a0 Z = true) {kI : Nat} (wi : (Jvm.Cond.instantiable ST kI).before a0 Z = true)
    {x b : Addr} {kC : ClassId} {cs bs : List Int32} {d v0 c0 : Value} {z N : Int32} {n n0 : Nat} (hx0 : n0 ≤ x) (hh0 : n0 ≤ h.size) (E : RoadKit.Exa Z h x ST) (V : RoadKit.Fld Z h x ST "value" "[B" v0) (C : RoadKit.Fld Z h x ST "coder" "B" c0) (K : RoadKit.Arv Z h b kC .char N (cs.map Value.int) d) (S : RoadKit.Sta Z h ST "COMPACT_STRINGS" "Z" (.int z)) (hz : ¬ z = 0)
    (hn : cs.length = n) (hN : N = Int32.ofNat n) (l0 : 0 < n) (l2 : n ≤ 4000) (hp : ∀ c ∈ cs, ¬ c < 0 ∧ ¬ (255 : Int32) < c) (hb : bs = cs.map (fun c => c.toInt8.toInt32)) (hfr : 4 ≤ R.frames) (hlo : W + 65 ≤ R.locals) :
    Back l R p e below s args (⟨"java/lang/String", "<init>", "([C)V"⟩ : MethodName) len W (fun P a => a = #[.ref x, .ref b] ∧ P.U.heap = h ∧ P.cells + 1 ≤ R.cells ∧ P.slots + n ≤ R.slots)
      (fun P _ v B => ∃ L, QV Z x N bs h n0 v B.U.heap L ∧ B.locs = P.locs ++ L ∧ B.cells = P.cells + 1 ∧ B.slots = P.slots + n) := by
  subst hn hN hb
  refine Back.mono (backArv hZ hw wi E V C K S hz (n32 (by omega)) l0 (by omega) (fun c hc => (hp c hc).2) hfr hlo) (fun P a hp => hp) (fun P a v B hp hq => ?_)
  obtain ⟨L, ⟨q1, q2, q3, q4, q5, q6, q7, ⟨kb, v1, v2⟩, q9⟩, hl, hc, hs⟩ := hq
  exact ⟨L, ⟨q1, fun y hy => by rw [q2 y hy]; exact hx0, q3, q5, q7, h.size, kb, hh0, Nat.le_refl _, Nat.ne_of_gt E.lt, q6, by rw [List.map_map]; exact v2⟩, hl, hc, hs⟩
end StrChars.Road
namespace StrChars
open Jvm Sem ClassFile Op Lib Jvm.Stand Jvm.Free.XT Jvm.Free.ALB Jvm.Free.JM Jvm.Free
open Jvm.Lib.Cold (StaticIs)
def hi8 (x : Int32) : Int32 := lo8 (x >>> ((8 : Int32) &&& 31))
/-- what StringUTF16.getChar makes of two bytes -/
def pairCh (u v : Int32) : Int32 := (((u &&& 255) <<< ((0 : Int32) &&& 31)) ||| ((v &&& 255) <<< ((8 : Int32) &&& 31))).toUInt32.toUInt16.toUInt32.toInt32
theorem lo8_and (x : Int32) : (lo8 x &&& 255).toBitVec.toNat = x.toBitVec.toNat % 256 := by
  have h : (lo8 x).toBitVec = (x.toBitVec.signExtend 8).signExtend 32 := by rw [lo8, Int8.toBitVec_toInt32, Int32.toBitVec_toInt8]
  rw [Int32.toBitVec_and, BitVec.toNat_and, h]
  have e : ((x.toBitVec.signExtend 8).signExtend 32).toNat % 256 = x.toBitVec.toNat % 256 := by
    rw [BitVec.toNat_signExtend]
    have hlt := x.toBitVec.isLt
    simp only [BitVec.toNat_setWidth, BitVec.toNat_signExtend]
    split <;> split <;> omega
  rw [← e]
  exact Nat.and_two_pow_sub_one_eq_mod _ 8
theorem pair_says {c : Int32} (h0 : ¬ c < 0) (h1 : ¬ 65535 < c) : pairCh (lo8 c) (hi8 c) = c := by
  rw [Int32.lt_iff_toInt_lt] at h0 h1
  have e0 : (0 : Int32).toInt = 0 := rfl
  have e1 : (65535 : Int32).toInt = 65535 := rfl
  have hc : c.toInt = c.toBitVec.toNat := by
    have := c.toBitVec.isLt
    have e : c.toInt = c.toBitVec.toInt := rfl
    rw [e] at h0 h1
    rw [e]
    rw [BitVec.toInt_eq_toNat_cond] at h0 h1 ⊢
    split at h0 <;> split <;> omega
  have hn : c.toBitVec.toNat < 65536 := by omega
  have a1 := lo8_and c
  have a2 : (hi8 c &&& 255).toBitVec.toNat = c.toBitVec.toNat / 256 := by
    rw [hi8, lo8_and]
    have e : ((8 : Int32) &&& 31) = 8 := by decide
    rw [e, Int32.toBitVec_shiftRight]
    have e2 : ((8 : Int32).toBitVec.smod 32) = 8#32 := by decide
    rw [e2, BitVec.sshiftRight_eq', BitVec.toNat_sshiftRight_of_msb_false (by rw [BitVec.msb_eq_false_iff_two_mul_lt]; omega)]
    show c.toBitVec.toNat >>> 8 % 256 = _
    rw [Nat.shiftRight_eq_div_pow]
    omega
  unfold pairCh
  apply Int32.toBitVec_inj.mp
  apply BitVec.eq_of_toNat_eq
  have f0 : ((0 : Int32) &&& 31) = 0 := by decide
  have f8 : ((8 : Int32) &&& 31) = 8 := by decide
  rw [f0, f8]
  have g : (((lo8 c &&& 255) <<< (0 : Int32)) ||| ((hi8 c &&& 255) <<< (8 : Int32))).toBitVec.toNat = c.toBitVec.toNat := by
    rw [Int32.toBitVec_or, Int32.toBitVec_shiftLeft, Int32.toBitVec_shiftLeft]
    have s0 : ((0 : Int32).toBitVec.smod 32) = 0#32 := by decide
    have s8 : ((8 : Int32).toBitVec.smod 32) = 8#32 := by decide
    rw [s0, s8, BitVec.toNat_or]
    simp only [BitVec.shiftLeft_eq', BitVec.toNat_shiftLeft, a1, a2]
    show (c.toBitVec.toNat % 256) <<< 0 % 2 ^ 32 ||| (c.toBitVec.toNat / 256) <<< 8 % 2 ^ 32 = _
    rw [Nat.shiftLeft_zero, Nat.mod_eq_of_lt (show c.toBitVec.toNat % 256 < 2 ^ 32 by omega), Nat.mod_eq_of_lt (show (c.toBitVec.toNat / 256) <<< 8 < 2 ^ 32 by rw [Nat.shiftLeft_eq]; omega), Nat.or_comm, ← Nat.shiftLeft_add_eq_or_of_lt (by omega), Nat.shiftLeft_eq]
    omega
  show BitVec.toNat (((((lo8 c &&& 255) <<< (0 : Int32)) ||| ((hi8 c &&& 255) <<< (8 : Int32))).toBitVec.setWidth 16).setWidth 32) = _
  rw [BitVec.toNat_setWidth, BitVec.toNat_setWidth, g]
  omega
end StrChars
namespace StrChars
open Jvm Sem ClassFile Op Lib Jvm.Stand Jvm.Free.XT Jvm.Free.ALB Jvm.Free.JM Jvm.Free
open Jvm.Lib.Cold (StaticIs)
/-- charAt's cast of a byte read back -/
def chr8 (u : Int32) : Int32 := (u &&& 255).toUInt32.toUInt16.toUInt32.toInt32
theorem chr8_lo8 {c : Int32} (h0 : ¬ c < 0) (h1 : ¬ 255 < c) : chr8 (lo8 c) = c := by
  have t : ∀ k : Fin 256, (Int32.ofNat k.val).toUInt32.toUInt16.toUInt32.toInt32 = Int32.ofNat k.val := by decide +kernel
  unfold chr8
  rw [lo8_mask h0 h1]
  rw [Int32.lt_iff_toInt_lt] at h0 h1
  have e0 : (0 : Int32).toInt = 0 := rfl
  have e1 : (255 : Int32).toInt = 255 := rfl
  obtain ⟨k, hk⟩ : ∃ k : Nat, c.toInt = k := ⟨c.toInt.toNat, by omega⟩
  have hx : c = Int32.ofNat k := Int32.toInt_inj.mp (by rw [hk, Int32.toInt_ofNat_small (by omega)])
  rw [hx]
  exact t ⟨k, by omega⟩
theorem narrow_ch {c : Int32} (h0 : ¬ c < 0) (h1 : ¬ 65535 < c) : narrow .char (.int c) = .int c := by
  have q : narrow .char (.int (pairCh (lo8 c) (hi8 c))) = .int (pairCh (lo8 c) (hi8 c)) := narrow_c _
  rwa [pair_says h0 h1] at q
/-- the array's cell V codes the n chars f 0 .. f (n - 1) by the coder cd, as the JDK does: coder 1 just where some char is above 255 -/
def Cod (cd : Int32) (n : Nat) (f : Nat → Int32) (V : Cell) : Prop := (cd = 0 ∧ V.slots.size = n ∧ ∀ j, j < n → V.slots[j]? = some (.int (lo8 (f j))) ∧ ¬ 255 < f j) ∨ (cd = 1 ∧ V.slots.size = 2 * n ∧ (∀ j, j < n → V.slots[2 * j]? = some (.int (lo8 (f j))) ∧ V.slots[2 * j + 1]? = some (.int (hi8 (f j)))) ∧ ∃ j, j < n ∧ 255 < f j)
theorem Cod.cd {cd : Int32} {n : Nat} {f : Nat → Int32} {V : Cell} (h : Cod cd n f V) : cd = 0 ∨ cd = 1 := h.imp (fun q => q.1) fun q => q.1
/-- **x is a String of the n chars f 0 .. f (n - 1)**, Latin-1 or UTF-16; its array at t has the cell V -/
def Txt (x t : Addr) (V : Cell) (cd : Int32) (n : Nat) (f : Nat → Int32) (U : State) : Prop := Exact "java/lang/String" x U ∧ Has x "java/lang/String" "value" "[B" (.ref t) U ∧ Has x "java/lang/String" "coder" "B" (.int cd) U ∧ XT.Arr .byte t V U ∧ Cod cd n f V ∧ ∀ j, j < n → ¬ f j < 0 ∧ ¬ 65535 < f j
theorem Txt.mv {x t : Addr} {V : Cell} {cd : Int32} {n : Nat} {f : Nat → Int32} {U U' : State} (h : Txt x t V cd n f U) (hal : U.vm.Alike U'.vm) (hh : U'.heap = U.heap) : Txt x t V cd n f U' := ⟨h.1.mv hal hh, h.2.1.mv hal hh, h.2.2.1.mv hal hh, h.2.2.2.1.mv hal hh, h.2.2.2.2⟩
namespace IsL
def yN : MethodName := ⟨"java/lang/String", "isLatin1", "()Z"⟩
abbrev yB : ByteArray := jdk_42_method_154_code
theorem d0 : decode yB 0 = .ok (.getstatic 38, 3) := by decide +kernel
theorem d3 : decode yB 3 = .ok (.ifCond (.eq) 14, 3) := by decide +kernel
theorem d6 : decode yB 6 = .ok (.aload_n 0, 1) := by decide +kernel
theorem d7 : decode yB 7 = .ok (.getfield 15, 3) := by decide +kernel
theorem d10 : decode yB 10 = .ok (.ifCond (.ne) 7, 3) := by decide +kernel
theorem d13 : decode yB 13 = .ok (.iconst 1, 1) := by decide +kernel
theorem d14 : decode yB 14 = .ok (.goto 4, 3) := by decide +kernel
theorem d17 : decode yB 17 = .ok (.iconst 0, 1) := by decide +kernel
theorem d18 : decode yB 18 = .ok (.ireturn, 1) := by decide +kernel
def site : List Cond := [.fieldLink "java/lang/String" 38 "java/lang/String" "COMPACT_STRINGS" "Z", .fieldLink "java/lang/String" 15 "java/lang/String" "coder" "B"]
def tab : Cond := tabOf yN yB 1 (some .boolean) site
def P (x : Addr) (cd z : Int32) (args : Array Value) (s : State) : Prop := args = #[.ref x] ∧ Has x "java/lang/String" "coder" "B" (.int cd) s ∧ (cd = 0 ∨ cd = 1) ∧ StaticIs s "java/lang/String" "COMPACT_STRINGS" "Z" (.int z) ∧ ¬ z = 0
def E (cd : Int32) (r : Option Value) (s u : State) : Prop := XT.PureE (some (.int (1 - cd))) r s u
theorem law (l : Launch) (x : Addr) (cd z : Int32) : Law l yN 1 0 0 0 yB 1 (some .boolean) site (P x cd z) (E cd) [] 0 0 := by
  refine Law.of_walk (plainFor_of_name (by decide +kernel)) (by decide +kernel) (by decide +kernel) (by decide) (fun _ _ h => by rw [h.1]; rfl) (fun _ U U' hal hh h => ⟨h.1, h.2.1.mv hal hh, h.2.2.1, h.2.2.2.1.there hal hh, h.2.2.2.2⟩) (fun r U U' V V' h1 hal h2 h => XT.PureE.mv r U U' V V' h1 hal h2 h) ?_
  intro p e s m args below meth c s₁ X0 hexec hbytes hml hret hlk hnm hown hh0 W hP
  obtain ⟨rfl, hx, hc, s1, hz⟩ := hP
  have c1 : Steps p.tables e below (s₁.setTop (entryFrame m #[.ref x] 1)) (s₁.setTop (mkF m 0 #[.val (.ref x)] [])) := entry rfl
  obtain ⟨T2, X2, q2, st2⟩ := X0.sget hexec hown (wk W (.fieldLink "java/lang/String" 38 "java/lang/String" "COMPACT_STRINGS" "Z")) s1 (fun _ _ h => by rw [hh0]; exact h) (g := (mkF m 0 #[.val (.ref x)] [])) rfl (hb hbytes d0)
  have hh2 := q2.trans hh0
  have c3 : Steps p.tables e below (s₁.setTop (entryFrame m #[.ref x] 1)) (T2.setTop (mkF m 7 #[.val (.ref x)] [.ref x])) := (c1.trans (st2 _ (Steps.refl _))).trans (by
    refine XS.ifNo X2.here hexec rfl (hb hbytes d3) rfl (i0_eq_f hz) ?_
    refine XS.aloadN X2.here hexec rfl (hb hbytes d6) rfl rfl ?_
    exact Steps.refl _)
  obtain ⟨T4, X4, q4, st4⟩ := X2.hget hexec hown (wk W (.fieldLink "java/lang/String" 15 "java/lang/String" "coder" "B")) (hx.mv X2.warmed.alike hh2) (g := (mkF m 7 #[.val (.ref x)] [.ref x])) rfl (rest := []) rfl (hb hbytes d7)
  have c5 : Steps p.tables e below (s₁.setTop (entryFrame m #[.ref x] 1)) (T4.setTop (mkF m 10 #[.val (.ref x)] [.int cd])) := c3.trans (st4 _ (Steps.refl _))
  have c6 : Steps p.tables e below (s₁.setTop (entryFrame m #[.ref x] 1)) (T4.setTop (mkF m 18 #[.val (.ref x)] [.int (1 - cd)])) := by
    rcases hc with rfl | rfl
    · exact c5.trans (by
        refine XS.ifNo X4.here hexec rfl (hb hbytes d10) rfl (i0_ne_f rfl) ?_
        refine iconstV X4.here hexec rfl 1 (hb hbytes d13) (by decide) ?_
        refine XS.goto X4.here hexec rfl (pc0 := 14) rfl (hb hbytes d14) (by decide) rfl ?_
        exact Steps.refl _)
    · exact c5.trans (by
        refine XS.ifYes X4.here hexec rfl (pc0 := 10) rfl (hb hbytes d10) rfl (i0_ne_t (by decide)) (by decide) rfl ?_
        refine iconstV X4.here hexec rfl 0 (hb hbytes d17) (by decide) ?_
        exact Steps.refl _)
  exact ⟨T4, some (.int (1 - cd)), _, _, _, X4, rfl, rfl, rfl, (fun h => by cases h), ⟨rfl, q4.trans hh2⟩, fun fs hl => c6.trans (X4.ireturnOut hexec hret (by rcases hc with rfl | rfl <;> rfl) (Or.inr (Or.inl rfl)) (hb hbytes d18) hl)⟩
end IsL
namespace LChA
def yN : MethodName := ⟨"java/lang/StringLatin1", "charAt", "([BI)C"⟩
abbrev yB : ByteArray := jdk_43_method_2_code
theorem d0 : decode yB 0 = .ok (.iload_n 1, 1) := by decide +kernel
theorem d1 : decode yB 1 = .ok (.aload_n 0, 1) := by decide +kernel
theorem d2 : decode yB 2 = .ok (.arraylength, 1) := by decide +kernel
theorem d3 : decode yB 3 = .ok (.invokestatic 9, 3) := by decide +kernel
theorem d6 : decode yB 6 = .ok (.aload_n 0, 1) := by decide +kernel
theorem d7 : decode yB 7 = .ok (.iload_n 1, 1) := by decide +kernel
theorem d8 : decode yB 8 = .ok (.baload, 1) := by decide +kernel
theorem d9 : decode yB 9 = .ok (.sipush 255, 3) := by decide +kernel
theorem d12 : decode yB 12 = .ok (.iand, 1) := by decide +kernel
theorem d13 : decode yB 13 = .ok (.i2c, 1) := by decide +kernel
theorem d14 : decode yB 14 = .ok (.ireturn, 1) := by decide +kernel
def site : List Cond := [JO.Str_checkIndex.tab] ++ staticW "java/lang/StringLatin1" 9 JO.Str_checkIndex.yN
def tab : Cond := tabOf yN yB 2 (some .char) site
def P (t : Addr) (V : Cell) (i : Nat) (u : Int32) (fm : Value) (args : Array Value) (s : State) : Prop := args = #[.ref t, .int (Int32.ofNat i)] ∧ XT.Arr .byte t V s ∧ V.slots[i]? = some (.int u) ∧ (StaticIs s "jdk/internal/util/Preconditions" "SIOOBE_FORMATTER" "Ljava/util/function/BiFunction;" fm ∧ fm.isRef = true)
def E (u : Int32) (r : Option Value) (s w : State) : Prop := XT.PureE (some (.int (chr8 u))) r s w
theorem law (l : Launch) (t : Addr) (V : Cell) (i : Nat) (u : Int32) (fm : Value) : Law l yN 2 2 2 27 yB 2 (some .char) site (P t V i u fm) (E u) [] 0 0 := by
  refine Law.of_walk (plainFor_of_name (by decide +kernel)) (by decide +kernel) (by decide +kernel) (by decide) (fun _ _ h => by rw [h.1]; rfl) (fun _ U U' hal hh h => ⟨h.1, h.2.1.mv hal hh, h.2.2.1, h.2.2.2.1.there hal hh, h.2.2.2.2⟩) (fun r U U' V V' h1 hal h2 h => XT.PureE.mv r U U' V V' h1 hal h2 h) ?_
  intro p e s m args below meth c s₁ X0 hexec hbytes hml hret hlk hnm hown hh0 W hP
  obtain ⟨rfl, hV, hu, s1, rf⟩ := hP
  have v31 := hV.2.2.2
  have hi : i < V.slots.size := (Array.getElem?_eq_some_iff.mp hu).1
  have c1 : Steps p.tables e below (s₁.setTop (entryFrame m #[.ref t, .int (Int32.ofNat i)] 2)) (s₁.setTop (mkF m 0 #[.val (.ref t), .val (.int (Int32.ofNat i))] [])) := entry rfl
  have c2 : Steps p.tables e below (s₁.setTop (entryFrame m #[.ref t, .int (Int32.ofNat i)] 2)) (s₁.setTop (mkF m 3 #[.val (.ref t), .val (.int (Int32.ofNat i))] [.int (Int32.ofNat V.slots.size), .int (Int32.ofNat i)])) := c1.trans (by
    refine XS.iloadN X0.here hexec rfl (hb hbytes d0) rfl ?_
    refine XS.aloadN X0.here hexec rfl (hb hbytes d1) rfl rfl ?_
    refine X0.alen hexec (hV.mv X0.warmed.alike hh0) rfl rfl (hb hbytes d2) ?_
    exact Steps.refl _)
  obtain ⟨v3, T3, X3, E3, g3⟩ := X0.callS hexec (JO.Str_checkIndex.law l (Int32.ofNat i) (Int32.ofNat V.slots.size) fm) hown (wks W (staticW "java/lang/StringLatin1" 9 JO.Str_checkIndex.yN)) (wk W JO.Str_checkIndex.tab) (W := 0) (Nat.le_of_ble_eq_true rfl) (Nat.le_of_ble_eq_true rfl) (Nat.le_refl _) (Nat.le_refl _) (g := (mkF m 3 #[.val (.ref t), .val (.int (Int32.ofNat i))] [.int (Int32.ofNat V.slots.size), .int (Int32.ofNat i)])) rfl (by rw [hml]; rfl) c2 (argsL := [.int (Int32.ofNat i), .int (Int32.ofNat V.slots.size)]) (rest := []) rfl rfl (by show 2 * 0 + 0 ≤ _; decide) (hb hbytes d3) (⟨rfl, rf, s1.there X0.warmed.alike hh0, Int32.ofNat_not_neg (by omega), lt32 v31 hi⟩)
  obtain ⟨rfl, q3⟩ := E3
  have hh3 := q3.trans hh0
  have c4 : Steps p.tables e below (s₁.setTop (entryFrame m #[.ref t, .int (Int32.ofNat i)] 2)) (T3.setTop (mkF m 14 #[.val (.ref t), .val (.int (Int32.ofNat i))] [.int (chr8 u)])) := Steps.trans g3 (by
    refine XS.aloadN X3.here hexec rfl (hb hbytes d6) rfl rfl ?_
    refine XS.iloadN X3.here hexec rfl (hb hbytes d7) rfl ?_
    refine X3.aget hexec (hV.mv X3.warmed.alike hh3) rfl hu rfl rfl (hb hbytes d8) ?_
    refine sipushV X3.here hexec rfl 255 (hb hbytes d9) (by decide) ?_
    refine XS.iand X3.here hexec rfl (hb hbytes d12) rfl ?_
    refine i2c X3.here hexec rfl (hb hbytes d13) rfl ?_
    exact Steps.refl _)
  exact ⟨T3, some (.int (chr8 u)), _, _, _, X3, rfl, rfl, rfl, (fun h => by cases h), ⟨rfl, hh3⟩, fun fs hl => c4.trans (X3.ireturnOut hexec hret (narrow_c _) (Or.inr (Or.inr (Or.inr (Or.inl rfl)))) (hb hbytes d14) hl)⟩
end LChA
end StrChars
namespace StrChars.Road
open Jvm Sem ClassFile Op Lib Jvm.Stand Jvm.Free Jvm.Free.XT
open Jvm.Lib.Cold (StaticIs)
theorem consq {a : Array Value} {s : State} {c : Jvm.Cond} {L : List Jvm.Cond} (h0 : c.before a s = true) (h : ∀ w ∈ L, w.before a s = true) : ∀ w ∈ c :: L, w.before a s = true := fun w hw => (List.mem_cons.mp hw).elim (fun e => e ▸ h0) (h w)
/-- the bytes of the chars cs, low before high -/
def wideBytes : List Int32 → List Value
  | [] => []
  | c :: cs => .int (lo8 c) :: .int (hi8 c) :: wideBytes cs
theorem wide_lo (d : Value) : ∀ (cs : List Int32) (j : Nat), j < cs.length → (wideBytes cs).getD (2 * j) d = .int (lo8 (cs.getD j 0))
  | [], j, h => absurd h (Nat.not_lt_zero j)
  | c :: cs, 0, _ => rfl
  | c :: cs, j + 1, h => by
    have q := wide_lo d cs j (by simpa using h)
    rw [show 2 * (j + 1) = 2 * j + 1 + 1 from by omega]
    simpa [wideBytes] using q
theorem wide_hi (d : Value) : ∀ (cs : List Int32) (j : Nat), j < cs.length → (wideBytes cs).getD (2 * j + 1) d = .int (hi8 (cs.getD j 0))
  | [], j, h => absurd h (Nat.not_lt_zero j)
  | c :: cs, 0, _ => rfl
  | c :: cs, j + 1, h => by
    have q := wide_hi d cs j (by simpa using h)
    rw [show 2 * (j + 1) + 1 = 2 * j + 1 + 1 + 1 from by omega]
    simpa [wideBytes] using q
theorem low_at (d : Value) (cs : List Int32) (j : Nat) (h : j < cs.length) : (cs.map fun c => Value.int (lo8 c)).getD j d = .int (lo8 (cs.getD j 0)) := by
  simp [List.getD_eq_getElem?_getD, h]
/-- an array of N2 bytes vs codes the chars cs by the coder cd -/
def CodA (cs : List Int32) (cd N2 : Int32) (vs : List Value) : Prop := (cd = 0 ∧ N2 = Int32.ofNat cs.length ∧ vs = (cs.map fun c => Value.int (lo8 c)) ∧ ∀ c ∈ cs, ¬ 255 < c) ∨ (cd = 1 ∧ N2 = Int32.ofNat (2 * cs.length) ∧ vs = wideBytes cs ∧ ∃ c ∈ cs, 255 < c)
theorem CodA.cod {cs : List Int32} {cd N2 : Int32} {vs : List Value} {V : Cell} (h : CodA cs cd N2 vs) (hn : 2 * cs.length < 2 ^ 31) (hs : V.slots.size = N2.toNatClampNeg) (hv : RoadKit.Has V vs (.int 0)) : Cod cd cs.length (fun j => cs.getD j 0) V := by
  rcases h with ⟨rfl, rfl, rfl, h⟩ | ⟨rfl, rfl, rfl, c, hc, hw⟩
  · rw [n32 (by omega)] at hs
    exact Or.inl ⟨rfl, hs, fun j hj => ⟨by rw [hv j (by omega), low_at _ _ _ hj], by
      have e : cs.getD j 0 = cs[j] := by simp [List.getD_eq_getElem?_getD, hj]
      show ¬ 255 < cs.getD j 0
      rw [e]; exact h _ (List.getElem_mem _)⟩⟩
  · rw [n32 (by omega)] at hs
    obtain ⟨j, hj, rfl⟩ := List.getElem_of_mem hc
    exact Or.inr ⟨rfl, hs, fun j hj => ⟨by rw [hv _ (by omega), wide_lo _ _ _ hj], by rw [hv _ (by omega), wide_hi _ _ _ hj]⟩, j, hj, by
      have e : cs.getD j 0 = cs[j] := by simp [List.getD_eq_getElem?_getD, hj]
      show 255 < cs.getD j 0
      rw [e]; exact hw⟩
/-- an object of exactly java/lang/String, its two fields found: as the laws ask it -/
theorem strObj {Z U : State} {a0 : Array Value} {kI : Nat} (wi : (Jvm.Cond.instantiable ST kI).before a0 Z = true) (al : Z.vm.Alike U.vm) {x : Addr} {v0 c0 : Value} (E : RoadKit.Exa Z U.heap x ST) (V : RoadKit.Fld Z U.heap x ST "value" "[B" v0) (C : RoadKit.Fld Z U.heap x ST "coder" "B" c0) :
    ∃ (D : Cell) (fV fC : Field), Blank ST x D U ∧ Found ST "value" "[B" fV U ∧ Found ST "coder" "B" fC U ∧ D.slots[fV.slot]? = some v0 ∧ D.slots[fC.slot]? = some c0 ∧ RoadKit.slotOf Z ST "value" "[B" = fV.slot ∧ RoadKit.slotOf Z ST "coder" "B" = fC.slot := by
  obtain ⟨D, cfV, kV, iV, fV, hD, gV, stV, knV, obV, asV, slV⟩ := V
  obtain ⟨D', cfC, kC, iC, fC, hD', gC, stC, -, -, asC, slC⟩ := C
  cases hD.symm.trans hD'
  obtain ⟨D2, kD, e1, e2, e3, e4, e5⟩ := E
  cases hD.symm.trans e1
  obtain ⟨c2, k2, i1, i2, i3, -⟩ := Cond.instantiable_spec wi
  cases e2.symm.trans i1
  cases e3.symm.trans i2
  obtain ⟨kU, u1, u2⟩ := al.2.2 _ _ e3
  exact ⟨D, fV, fC, ⟨hD, ⟨knV, fun q hq => by rw [hq] at obV; cases obV⟩, by rw [al.findClass]; exact e2, kU, u1, by rw [u2]; exact i3, by rw [u2]; exact e5 i3⟩, ⟨SBG.found_only al ⟨cfV, kV, iV, gV⟩, stV⟩, ⟨SBG.found_only al ⟨cfC, kC, iC, gC⟩, stC⟩, slV, slC, by simp [RoadKit.slotOf, gV], by simp [RoadKit.slotOf, gC]⟩
theorem sta_is {Z U : State} (al : Z.vm.Alike U.vm) {C n d : String} {v : Value} (S : RoadKit.Sta Z U.heap C n d v) : StaticIs U C n d v := by
  obtain ⟨cfS, iS, kS, fS, st, cS, t1, t2, t3, t4, t5, t6, t7⟩ := S
  exact StaticIs.there (s := { Z with heap := U.heap }) ⟨cfS, iS, kS, fS, st, cS, t1, t2, t3, t4, t5, (fun q => by rw [q] at t6; cases t6), t7⟩ al rfl
end StrChars.Road
namespace StrChars.Road
open Jvm Sem ClassFile Op Lib Jvm.Stand Jvm.Free Jvm.Free.XT
open Jvm.Lib.Cold (StaticIs)
/-- the road's facts of a String, as the laws ask it -/
theorem txt_of {Z U : State} {a0 : Array Value} {kI : Nat} (wi : (Jvm.Cond.instantiable ST kI).before a0 Z = true) (al : Z.vm.Alike U.vm) {x t : Addr} {kb : ClassId} {cs : List Int32} {cd N2 : Int32} {vs : List Value} (E : RoadKit.Exa Z U.heap x ST) (V : RoadKit.Fld Z U.heap x ST "value" "[B" (.ref t)) (C : RoadKit.Fld Z U.heap x ST "coder" "B" (.int cd)) (K : RoadKit.Arv Z U.heap t kb .byte N2 vs (.int 0)) (hc : CodA cs cd N2 vs) (hb : ∀ c ∈ cs, ¬ c < 0 ∧ ¬ (65535 : Int32) < c) (l2 : cs.length ≤ 4000) :
    ∃ A, Txt x t A cd cs.length (fun j => cs.getD j 0) U := by
  obtain ⟨A, K1, K2, K3, K4, K5, K6⟩ := K
  have hcod := hc.cod (by omega) K3 K5
  obtain ⟨D, fV, fC, hB, F1, F2, g1, g2, -, -⟩ := strObj wi al E V C
  exact ⟨A, ⟨_, hB.2.2.1, D, hB.1, rfl, by cases q : D.vm <;> first | rfl | exact absurd q (hB.2.1.2 _)⟩, Has.of hB F1 g1, Has.of hB F2 g2, ⟨K1.1, State.isArrayOf_alike al K1.2.1, K1.2.2, by rcases hcod with ⟨-, q, -⟩ | ⟨-, q, -⟩ <;> omega⟩, hcod, fun j hj => by
    have e : cs.getD j 0 = cs[j] := by simp [List.getD_eq_getElem?_getD, hj]
    show ¬ cs.getD j 0 < 0 ∧ ¬ 65535 < cs.getD j 0
    rw [e]; exact hb _ (List.getElem_mem _)⟩
end StrChars.Road
namespace StrChars
open Jvm Sem ClassFile Op Lib Jvm.Stand Jvm.Free.XT Jvm.Free.ALB Jvm.Free.JM Jvm.Free
open Jvm.Lib.Cold (StaticIs)
namespace ChN
def yN : MethodName := ⟨"java/lang/String", "charAt", "(I)C"⟩
abbrev yB : ByteArray := jdk_42_method_56_code
theorem d0 : decode yB 0 = .ok (.aload_n 0, 1) := by decide +kernel
theorem d1 : decode yB 1 = .ok (.invokevirtual 492, 3) := by decide +kernel
theorem d4 : decode yB 4 = .ok (.ifCond (.eq) 12, 3) := by decide +kernel
theorem d7 : decode yB 7 = .ok (.aload_n 0, 1) := by decide +kernel
theorem d8 : decode yB 8 = .ok (.getfield 9, 3) := by decide +kernel
theorem d11 : decode yB 11 = .ok (.iload_n 1, 1) := by decide +kernel
theorem d12 : decode yB 12 = .ok (.invokestatic 495, 3) := by decide +kernel
theorem d15 : decode yB 15 = .ok (.ireturn, 1) := by decide +kernel
def site : List Cond := [.fieldLink "java/lang/String" 9 "java/lang/String" "value" "[B", IsL.tab, LChA.tab] ++ virtW "java/lang/String" 492 "java/lang/String" IsL.yN IsL.yN ++ staticW "java/lang/String" 495 LChA.yN
def tab : Cond := tabOf yN yB 2 (some .char) site
def P (x t : Addr) (V : Cell) (n : Nat) (f : Nat → Int32) (z : Int32) (fm : Value) (i : Nat) (args : Array Value) (s : State) : Prop := args = #[.ref x, .int (Int32.ofNat i)] ∧ Txt x t V 0 n f s ∧ i < n ∧ StaticIs s "java/lang/String" "COMPACT_STRINGS" "Z" (.int z) ∧ ¬ z = 0 ∧ StaticIs s "jdk/internal/util/Preconditions" "SIOOBE_FORMATTER" "Ljava/util/function/BiFunction;" fm ∧ fm.isRef = true
def E (f : Nat → Int32) (i : Nat) (r : Option Value) (s u : State) : Prop := XT.PureE (some (.int (f i))) r s u
/-- charAt(i) of a Latin-1 String of n chars, i < n: f i -/
theorem law (l : Launch) (x t : Addr) (V : Cell) (n : Nat) (f : Nat → Int32) (z : Int32) (fm : Value) (i : Nat) : Law l yN 2 1 3 40 yB 2 (some .char) site (P x t V n f z fm i) (E f i) [] 0 0 := by
  refine Law.of_walk (plainFor_of_name (by decide +kernel)) (by decide +kernel) (by decide +kernel) (by decide) (fun _ _ h => by rw [h.1]; rfl) (fun _ U U' hal hh h => ⟨h.1, h.2.1.mv hal hh, h.2.2.1, h.2.2.2.1.there hal hh, h.2.2.2.2.1, h.2.2.2.2.2.1.there hal hh, h.2.2.2.2.2.2⟩) (fun r U U' V V' h1 hal h2 h => XT.PureE.mv r U U' V V' h1 hal h2 h) ?_
  intro p e s m args below meth c s₁ X0 hexec hbytes hml hret hlk hnm hown hh0 W hP
  obtain ⟨rfl, hx, hi, s1, hz, s3, rf⟩ := hP
  have v31 := hx.2.2.2.1.2.2.2
  have hr := hx.2.2.2.2.2 i hi
  have hx0 := hx.mv X0.warmed.alike hh0
  have c1 : Steps p.tables e below (s₁.setTop (entryFrame m #[.ref x, .int (Int32.ofNat i)] 2)) (s₁.setTop (mkF m 1 #[.val (.ref x), .val (.int (Int32.ofNat i))] [.ref x])) := Steps.trans (entry rfl) (by
    show Steps p.tables e below (s₁.setTop (mkF m 0 #[.val (.ref x), .val (.int (Int32.ofNat i))] [])) _
    refine XS.aloadN X0.here hexec rfl (hb hbytes d0) rfl rfl ?_
    exact Steps.refl _)
  obtain ⟨v2, T2, X2, E2, g2⟩ := X0.callV hexec (IsL.law l x 0 z) hown (wks W (virtW "java/lang/String" 492 "java/lang/String" IsL.yN IsL.yN)) rfl (by decide) (wk W IsL.tab) (W := 0) (Nat.le_of_ble_eq_true rfl) (Nat.le_of_ble_eq_true rfl) (Nat.le_refl _) (Nat.le_refl _) (hx0.1.fc X0.warmed.alike) hx0.1.is (g := (mkF m 1 #[.val (.ref x), .val (.int (Int32.ofNat i))] [.ref x])) rfl (by rw [hml]; rfl) c1 (argsL := []) (rest := []) rfl rfl (by show 2 * 0 + 0 ≤ _; decide) (hb hbytes d1) (⟨rfl, hx0.2.2.1, hx.2.2.2.2.1.cd, s1.there X0.warmed.alike hh0, hz⟩)
  obtain ⟨rfl, q2⟩ := E2
  have hh2 := q2.trans hh0
  have hx2 := hx.mv X2.warmed.alike hh2
  obtain ⟨-, k1, k2⟩ | ⟨k0, -⟩ := hx.2.2.2.2.1
  · have c3 : Steps p.tables e below (s₁.setTop (entryFrame m #[.ref x, .int (Int32.ofNat i)] 2)) (T2.setTop (mkF m 8 #[.val (.ref x), .val (.int (Int32.ofNat i))] [.ref x])) := Steps.trans g2 (by
      refine XS.ifNo X2.here hexec rfl (hb hbytes d4) rfl (i0_eq_f (by decide)) ?_
      refine XS.aloadN X2.here hexec rfl (hb hbytes d7) rfl rfl ?_
      exact Steps.refl _)
    obtain ⟨T4, X4, q4, st4⟩ := X2.hget hexec hown (wk W (.fieldLink "java/lang/String" 9 "java/lang/String" "value" "[B")) hx2.2.1 (g := (mkF m 8 #[.val (.ref x), .val (.int (Int32.ofNat i))] [.ref x])) rfl (rest := []) rfl (hb hbytes d8)
    have hh4 := q4.trans hh2
    have c5 : Steps p.tables e below (s₁.setTop (entryFrame m #[.ref x, .int (Int32.ofNat i)] 2)) (T4.setTop (mkF m 12 #[.val (.ref x), .val (.int (Int32.ofNat i))] [.int (Int32.ofNat i), .ref t])) := (c3.trans (st4 _ (Steps.refl _))).trans (by
      refine XS.iloadN X4.here hexec rfl (hb hbytes d11) rfl ?_
      exact Steps.refl _)
    obtain ⟨v6, T6, X6, E6, g6⟩ := X4.callS hexec (LChA.law l t V i (lo8 (f i)) fm) hown (wks W (staticW "java/lang/String" 495 LChA.yN)) (wk W LChA.tab) (W := 0) (Nat.le_of_ble_eq_true rfl) (Nat.le_of_ble_eq_true rfl) (Nat.le_refl _) (Nat.le_refl _) (g := (mkF m 12 #[.val (.ref x), .val (.int (Int32.ofNat i))] [.int (Int32.ofNat i), .ref t])) rfl (by rw [hml]; rfl) c5 (argsL := [.ref t, .int (Int32.ofNat i)]) (rest := []) rfl rfl (by show 2 * 0 + 0 ≤ _; decide) (hb hbytes d12) (⟨rfl, hx.2.2.2.1.mv X4.warmed.alike hh4, (k2 i hi).1, s3.there X4.warmed.alike hh4, rf⟩)
    obtain ⟨rfl, q6⟩ := E6
    rw [chr8_lo8 hr.1 (k2 i hi).2] at g6
    exact ⟨T6, some (.int (f i)), _, _, _, X6, rfl, rfl, rfl, (fun h => by cases h), ⟨rfl, q6.trans hh4⟩, fun fs hl => Steps.trans g6 (X6.ireturnOut hexec hret (narrow_ch hr.1 hr.2) (Or.inr (Or.inr (Or.inr (Or.inl rfl)))) (hb hbytes d15) hl)⟩
  · exact absurd k0 (by decide)
theorem pays {l : Launch} {R : Room} {p : Program} {e : Env} {below : List Frame} {s : State} {sargs : Array Value} {len W : Nat} (x t : Addr) (V : Cell) (n : Nat) (f : Nat → Int32) (z : Int32) (fm : Value) (i : Nat) (htab : tab.before sargs s = true) (hfr : 4 ≤ R.frames) (hlo : W + 53 ≤ R.locals) :
    Back l R p e below s sargs yN len W (fun A₁ a₁ => A₁.cells + 0 ≤ R.cells ∧ A₁.slots + 0 ≤ R.slots ∧ P x t V n f z fm i a₁ A₁.U) (fun A₁ _ v₁ B₁ => E f i v₁ A₁.U B₁.U ∧ B₁.locs = A₁.locs ++ [] ∧ B₁.cells = A₁.cells + 0 ∧ B₁.slots = A₁.slots + 0) :=
  (law l x t V n f z fm i).pays htab hfr (by omega)
end ChN
end StrChars
namespace StrChars.Road
open Jvm Sem ClassFile Op Lib Jvm.Stand Jvm.Free Jvm.Free.XT
open Jvm.Lib.Cold (StaticIs)
/-- the words of String.charAt(int), the Latin-1 road alone -/
abbrev wordsChN : List Jvm.Cond := [.code ChN.yN ChN.yB 2 (some .char), .initialized ST, .fieldLink ST 9 ST "value" "[B", .fieldLink ST 38 ST "COMPACT_STRINGS" "Z", .fieldLink ST 15 ST "coder" "B", .code IsL.yN IsL.yB 1 (some .boolean), .methodLink ST 492 IsL.yN, .declares IsL.yN, .selects ST IsL.yN IsL.yN, .instanceMethod IsL.yN,
  .methodLink ST 495 LChA.yN, .static LChA.yN, .code LChA.yN LChA.yB 2 (some .char), .initialized "java/lang/StringLatin1", .methodLink "java/lang/StringLatin1" 9 JO.Str_checkIndex.yN, .static JO.Str_checkIndex.yN, .code JO.Str_checkIndex.yN JO.Str_checkIndex.yB 2 none,
  .fieldLink ST 1053 "jdk/internal/util/Preconditions" "SIOOBE_FORMATTER" "Ljava/util/function/BiFunction;", .methodLink ST 1059 JC.PreCheck.yN, .static JC.PreCheck.yN, .code JC.PreCheck.yN JC.PreCheck.yB 3 (some .int), .initialized "jdk/internal/util/Preconditions"]
theorem tabChN_of {a : Array Value} {s : State} (h : ∀ w ∈ wordsChN, w.before a s = true) : ChN.tab.before a s = true := by
  have hp : JC.PreCheck.tab.before a s = true := unparts (wk h (.code JC.PreCheck.yN JC.PreCheck.yB 3 (some .int))) (wks h (.initialized JC.PreCheck.yN.cls :: JC.PreCheck.site))
  have qk := consq hp h
  have hk : JO.Str_checkIndex.tab.before a s = true := unparts (wk qk (.code JO.Str_checkIndex.yN JO.Str_checkIndex.yB 2 none)) (wks qk (.initialized JO.Str_checkIndex.yN.cls :: JO.Str_checkIndex.site))
  have ql := consq hk h
  have hl : LChA.tab.before a s = true := unparts (wk ql (.code LChA.yN LChA.yB 2 (some .char))) (wks ql (.initialized LChA.yN.cls :: LChA.site))
  have hi : IsL.tab.before a s = true := unparts (wk h (.code IsL.yN IsL.yB 1 (some .boolean))) (wks h (.initialized IsL.yN.cls :: IsL.site))
  have q := consq hi (consq hl h)
  exact unparts (wk q (.code ChN.yN ChN.yB 2 (some .char))) (wks q (.initialized ChN.yN.cls :: ChN.site))
theorem movedChN {Z s : State} {a0 args : Array Value} (hZ : Z.Warmed39 s.vm) (hw : ∀ d ∈ wordsChN, d.before a0 Z = true) : ∀ d ∈ wordsChN, d.before args s = true := fun d hd => by
  have t : ∀ d ∈ wordsChN, (d.onTables && d.keepsFace) = true := by decide +kernel
  exact RoadKit.mv hZ (hw d hd) (t d hd)
/-- **charAt(i) OF A LATIN-1 STRING**, i < n: the char -/
theorem chN {p : Program} {l : Launch} {e : Env} {R : Room} {s : State} {args : Array Value} {below : List Frame} {len W : Nat} {Z : State} {a0 : Array Value} {h : Heap} (hZ : Z.Warmed39 s.vm) (hw : ∀ d ∈ wordsChN, d.before a0 Z = true) {kI : Nat} (wi : (Jvm.Cond.instantiable ST kI).before a0 Z = true)
    {x t : Addr} {kb : ClassId} {cs : List Int32} {N2 z : Int32} {vs : List Value} {fm : Value} {i : Nat} {j : Int32} (E : RoadKit.Exa Z h x ST) (V : RoadKit.Fld Z h x ST "value" "[B" (.ref t)) (C : RoadKit.Fld Z h x ST "coder" "B" (.int 0)) (K : RoadKit.Arv Z h t kb .byte N2 vs (.int 0)) (hc : CodA cs 0 N2 vs) (hb : ∀ c ∈ cs, ¬ c < 0 ∧ ¬ (65535 : Int32) < c)
    (S : RoadKit.Sta Z h ST "COMPACT_STRINGS" "Z" (.int z)) (hz : ¬ z = 0) (F : RoadKit.Sta Z h "jdk/internal/util/Preconditions" "SIOOBE_FORMATTER" "Ljava/util/function/BiFunction;" fm) (rf : fm.isRef = true) (l2 : cs.length ≤ 4000) (hi : i < cs.length) (hj : j = Int32.ofNat i) (hfr : 4 ≤ R.frames) (hlo : W + 53 ≤ R.locals) :
    Back l R p e below s args (⟨"java/lang/String", "charAt", "(I)C"⟩ : MethodName) len W (fun P a => a = #[.ref x, .int j] ∧ P.U.heap = h ∧ P.cells + 0 ≤ R.cells ∧ P.slots + 0 ≤ R.slots)
      (fun P _ v B => ∃ L, (v = some (.int (cs.getD i 0)) ∧ L = [] ∧ B.U.heap = h) ∧ B.locs = P.locs ++ L ∧ B.cells = P.cells + 0 ∧ B.slots = P.slots + 0) := by
  subst hj
  intro m meth c P g ig mk a X hg hsize hdg hW hn hp'
  obtain ⟨rfl, rfl, r1, r2⟩ := hp'
  have al : Z.vm.Alike P.U.vm := hZ.alike.trans X.warmed.alike
  obtain ⟨A, hx⟩ := txt_of wi al E V C K hc hb l2
  obtain ⟨v, B, X', ⟨⟨hv, hh⟩, hl, hk, hs⟩, st⟩ := ChN.pays x t A cs.length (fun j => cs.getD j 0) z fm i (tabChN_of (movedChN hZ hw)) hfr hlo m meth c P g ig mk _ X hg hsize hdg hW hn ⟨r1, r2, rfl, hx, hi, sta_is al S, hz, sta_is al F, rf⟩
  exact ⟨v, B, X', ⟨[], ⟨hv, rfl, hh⟩, hl, hk, hs⟩, st⟩
/-- what backV says of its String, as the contracts of this text ask it: cs's low bytes, coder 0 -/
theorem codOf {cs : List Int32} {n : Nat} (hn : cs.length = n) (hb : ∀ c ∈ cs, ¬ 255 < c) : CodA cs 0 (Int32.ofNat n) ((cs.map lo8).map Value.int) := Or.inl ⟨rfl, by rw [hn], by simp [List.map_map, Function.comp_def], hb⟩
end StrChars.Road
end Jvm.Pilot.@@N@@

namespace Jvm.Pilot.@@N@@
open Jvm Jvm.ClassFile Sem Op Lib Jvm.Free Jvm.Stand Jvm.LawKit Jvm.RoadKit Bundle Jvm.Pilot.@@N@@.Jvm.D

theorem own_w {Z : State} {a0 : Array Value} (hw : ∀ d ∈ tables_1, d.before a0 Z = true) (i : Nat) {d : Jvm.Cond} (h : tables_1[i]? = some d) : d.before a0 Z = true := hw d (List.mem_of_getElem? h)
abbrev nm0 : String := "com/example/basepoint/basepoint/uri/UriReference$Split"
abbrev nm1 : String := "java/lang/String"
abbrev nm2 : String := "com/example/basepoint/basepoint/uri/UriReference"
abbrev nm3 : String := "com/example/basepoint/basepoint/uri/UriReferenceSplitHasAuthorityPinLaw"
abbrev nm4 : String := "java/lang/StringLatin1"
theorem own_lltT {x y : Int64} (h : x < y) : ifCond.holds .lt (lcmpW x y) = true := (if0 _ _).trans ((tlt (by rw [lcW]; exact (lc_lt x y).mpr h)).1)
theorem own_lltF {x y : Int64} (h : ¬ (x < y)) : ifCond.holds .lt (lcmpW x y) = false := (if0 _ _).trans ((flt (by rw [lcW]; exact fun q => h ((lc_lt x y).mp q))).1)
theorem own_lgeT {x y : Int64} (h : ¬ (x < y)) : ifCond.holds .ge (lcmpW x y) = true := (if0 _ _).trans ((flt (by rw [lcW]; exact fun q => h ((lc_lt x y).mp q))).2.1)
theorem own_lgeF {x y : Int64} (h : x < y) : ifCond.holds .ge (lcmpW x y) = false := (if0 _ _).trans ((tlt (by rw [lcW]; exact (lc_lt x y).mpr h)).2.1)
theorem own_lgtT {x y : Int64} (h : y < x) : ifCond.holds .gt (lcmpW x y) = true := (if0 _ _).trans ((tlt (by rw [lcW]; exact (lc_gt x y).mpr h)).2.2.1)
theorem own_lgtF {x y : Int64} (h : ¬ (y < x)) : ifCond.holds .gt (lcmpW x y) = false := (if0 _ _).trans ((flt (by rw [lcW]; exact fun q => h ((lc_gt x y).mp q))).2.2.1)
theorem own_lleT {x y : Int64} (h : ¬ (y < x)) : ifCond.holds .le (lcmpW x y) = true := (if0 _ _).trans ((flt (by rw [lcW]; exact fun q => h ((lc_gt x y).mp q))).2.2.2)
theorem own_lleF {x y : Int64} (h : y < x) : ifCond.holds .le (lcmpW x y) = false := (if0 _ _).trans ((tlt (by rw [lcW]; exact (lc_gt x y).mpr h)).2.2.2)
theorem own_leqT {x y : Int64} (h : x = y) : ifCond.holds .eq (lcmpW x y) = true := (if0 _ _).trans ((teq (by rw [lcW]; exact (lc_eq x y).mpr h)).1)
theorem own_leqF {x y : Int64} (h : ¬ (x = y)) : ifCond.holds .eq (lcmpW x y) = false := (if0 _ _).trans ((feq (by rw [lcW]; exact fun q => h ((lc_eq x y).mp q))).1)
theorem own_lneT {x y : Int64} (h : ¬ (x = y)) : ifCond.holds .ne (lcmpW x y) = true := (if0 _ _).trans ((feq (by rw [lcW]; exact fun q => h ((lc_eq x y).mp q))).2)
theorem own_lneF {x y : Int64} (h : x = y) : ifCond.holds .ne (lcmpW x y) = false := (if0 _ _).trans ((teq (by rw [lcW]; exact (lc_eq x y).mpr h)).2)
theorem own_ns0 {h : Heap} : ∀ st ∈ ([] : List Addr), ∀ c : Cell, h[st]? = some c → c.vm.isStatics = false := fun _ q => nomatch q
theorem own_nsE {Z : State} {h : Heap} {y : Addr} {C : String} {L : List Addr} (E : Exa Z h y C) (r : ∀ st ∈ L, ∀ c : Cell, h[st]? = some c → c.vm.isStatics = false) : ∀ st ∈ y :: L, ∀ c : Cell, h[st]? = some c → c.vm.isStatics = false := fun st hm c hc => (List.mem_cons.mp hm).elim (fun u => by
  subst u
  obtain ⟨cell, k, h1, -, -, h4, -⟩ := E
  cases h1.symm.trans hc
  exact h4) (fun u => r st u c hc)
theorem own_nsV {Z : State} {h : Heap} {y : Addr} {k : ClassId} {ty : FieldType} {z : Int32} {vs : List Value} {dv : Value} {L : List Addr} (E : Arv Z h y k ty z vs dv) (r : ∀ st ∈ L, ∀ c : Cell, h[st]? = some c → c.vm.isStatics = false) : ∀ st ∈ y :: L, ∀ c : Cell, h[st]? = some c → c.vm.isStatics = false := fun st hm c hc => (List.mem_cons.mp hm).elim (fun u => by
  subst u
  obtain ⟨cell, A, -⟩ := E
  cases A.1.symm.trans hc
  exact A.plain) (fun u => r st u c hc)
theorem own_staKeep {Z : State} {h h' : Heap} {ws : List Addr} {C n d : String} {v : Value} (F : Sta Z h C n d v) (K : Keep h h' ws) (q : ∀ st ∈ ws, ∀ c : Cell, h[st]? = some c → c.vm.isStatics = false) : Sta Z h' C n d v := by
  obtain ⟨cf, i, k, f, st, cell, h1, h2, h3, h4, h5, h6, h7⟩ := F
  exact ⟨cf, i, k, f, st, cell, h1, h2, h3, h4, K.2.1 st cell h5 (fun hm => by rw [q st hm cell h5] at h6; cases h6), h6, h7⟩
theorem own_ibmv {Z : State} {vm0 vm1 : Vm} {Ts : List String} (I : IB Z vm0 Ts) (h : vm1.interned = vm0.interned) : IB Z vm1 Ts := by
  obtain ⟨more, e, hm⟩ := I
  exact ⟨more, h.trans e, hm⟩
theorem own_ibup {Z : State} {vm0 : Vm} {Ts Us : List String} (I : IB Z vm0 Ts) (h : ∀ t ∈ Ts, t ∈ Us) : IB Z vm0 Us := by
  obtain ⟨more, e, hm⟩ := I
  exact ⟨more, e, fun q hq => by obtain ⟨t, ht, hd⟩ := hm q hq; exact ⟨t, h t ht, hd⟩⟩
theorem own_frm {n k : Nat} {L : List Loc} (h : n ≤ k) (N : Fr k L) : Fr n L := fun y hy => Nat.le_trans h (N y hy)
theorem own_nin {t u : String} {Ts : List String} (h1 : t ≠ u) (h2 : t ∉ Ts) : t ∉ u :: Ts := fun q => (List.mem_cons.mp q).elim h1 h2
theorem own_backS {p : Program} {l : Launch} {e : Env} {R : Room} {s : State} {args : Array Value} {below : List Frame} {Z : State} {a0 : Array Value} {h : Heap} {y : MethodName} {bytes : ByteArray} {maxL : Nat} {ret : Option FieldType} {rm : Room} {len W : Nat} {as' : Array Value} {Q : Option Value → Heap → List Loc → Vm → Prop} {Ts : List String}
    (hM : MetFree l y (head1 [Cond.code y bytes maxL ret] rm) (fun a U => a = as' ∧ Z.Warmed39 U.vm ∧ U.heap = h ∧ IB Z U.vm Ts) (fun _ _ _ _ _ => True) (fun _ U o U' => ∃ v L, o = .returned v ∧ Q v U'.heap L U'.vm ∧ ReturnedEndW U o U' L rm.cells rm.slots))
    (hZ : Z.Warmed39 s.vm) (hI : IB Z s.vm Ts) (wc : (Cond.code y bytes maxL ret).before a0 Z = true) (wz : (Cond.initialized y.cls).before a0 Z = true) (hf : rm.frames + 1 ≤ R.frames) (hl : W + (maxL + 11) + rm.locals ≤ R.locals) :
    BackS l R p e below s args y len W (fun A a => a = as' ∧ A.U.heap = h ∧ A.cells + rm.cells ≤ R.cells ∧ A.slots + rm.slots ≤ R.slots)
      (fun A _ v B => ∃ L, Q v B.U.heap L B.U.vm ∧ B.locs = A.locs ++ L ∧ B.cells = A.cells + rm.cells ∧ B.slots = A.slots + rm.slots) :=
  BackS.of_freeW (bytes := bytes) (maxL := maxL) (ret := ret) (E := fun _ _ o t L k n => k = rm.cells ∧ n = rm.slots ∧ ∃ v, o = .returned v ∧ Q v t.heap L t.vm) hM hf hl
    (fun m meth c A a Y hp => have hU : Z.Warmed39 A.U.vm := wtrans hZ Y.warmed
      ⟨by show (Cond.and _ .tt).before a A.U = true; rw [Cond.before_and, mv hU wc]; rfl, mv hU wc, mv hU wz, hp.2.2.1, hp.2.2.2⟩)
    (fun m meth c A a g mk Y hp => ⟨hp.1, wtrans hZ Y.warmed, hp.2.1, own_ibmv hI Y.warmed.interned_eq⟩) (fun _ _ _ _ _ _ _ _ _ => trivial)
    (fun _ _ _ _ ⟨v, L, h1, h2, h3⟩ => ⟨L, _, _, h3, rfl, rfl, v, h1, h2⟩)
    (fun m meth c A a g mk v t L k n Y hp _ _ ⟨e1, e2, v', e3, e4⟩ => by cases e3; subst e1 e2; exact ⟨L, e4, rfl, rfl, rfl⟩)
theorem own_wS {Z : State} {a0 : Array Value} (hw : ∀ d ∈ tables_1, d.before a0 Z = true) : ∀ a ∈ Bundle.stringAtoms, a.before a0 Z = true := fun d hd => by
  simp only [Bundle.stringAtoms, List.mem_cons, List.not_mem_nil, or_false] at hd
  rcases hd with rfl | rfl | rfl | rfl | rfl | rfl | rfl
  · exact (own_w hw 7 rfl)
  · exact (own_w hw 6 rfl)
  · exact (own_w hw 23 rfl)
  · exact (own_w hw 33 rfl)
  · exact (own_w hw 31 rfl)
  · exact (own_w hw 85 rfl)
  · exact (own_w hw 86 rfl)
theorem own_up (cs : List Int32) (h : ∀ c ∈ cs, ¬ c < 0 ∧ ¬ (255 : Int32) < c) : ∀ c ∈ cs, ¬ c < 0 ∧ ¬ (65535 : Int32) < c := fun c hc => ⟨(h c hc).1, fun q => (h c hc).2 (by rw [Int32.lt_iff_toInt_lt] at q ⊢; have e1 : (65535 : Int32).toInt = 65535 := rfl; have e2 : (255 : Int32).toInt = 255 := rfl; omega)⟩
theorem own_mkS {p : Program} {l : Launch} {e : Env} {R : Room} {s : State} {args : Array Value} {below : List Frame} {len W : Nat} {Z : State} {a0 : Array Value} {h : Heap} (hZ : Z.Warmed39 s.vm) (hw : ∀ d ∈ tables_1, d.before a0 Z = true)
    {x b : Addr} {kC : ClassId} {cs : List Int32} {d v0 c0 : Value} {z N : Int32} {n n0 : Nat} (hx0 : n0 ≤ x) (hh0 : n0 ≤ h.size) (E : Exa Z h x nm1) (V : Fld Z h x nm1 "value" "[B" v0) (C : Fld Z h x nm1 "coder" "B" c0) (K : Arv Z h b kC .char N (cs.map Value.int) d) (S : Sta Z h nm1 "COMPACT_STRINGS" "Z" (.int z)) (hz : ¬ z = 0)
    (hn : cs.length = n) (hN : N = Int32.ofNat n) (l0 : 0 < n) (l2 : n ≤ 4000) (hp : ∀ c ∈ cs, ¬ c < 0 ∧ ¬ (255 : Int32) < c) (hfr : 4 ≤ R.frames) (hlo : W + 65 ≤ R.locals) :
    Back l R p e below s args (⟨nm1, "<init>", "([C)V"⟩ : MethodName) len W (fun P a => a = #[.ref x, .ref b] ∧ P.U.heap = h ∧ P.cells + 1 ≤ R.cells ∧ P.slots + n ≤ R.slots)
      (fun P _ v B => ∃ L, (∃ (t : Addr) (kb : ClassId), v = none ∧ Fr n0 L ∧ Keep h B.U.heap [x] ∧ n0 ≤ t ∧ h.size ≤ t ∧ Exa Z B.U.heap x nm1 ∧ Fld Z B.U.heap x nm1 "coder" "B" (.int 0) ∧ Fld Z B.U.heap x nm1 "value" "[B" (.ref t) ∧ Arv Z B.U.heap t kb .byte N ((cs.map (fun c => c.toInt8.toInt32)).map Value.int) (.int 0)) ∧ B.locs = P.locs ++ L ∧ B.cells = P.cells + 1 ∧ B.slots = P.slots + n) :=
  Back.mono (StrChars.Road.backV hZ (fun d hd => hw d ((by decide +kernel : ∀ d ∈ StrChars.Road.words, d ∈ tables_1) d hd)) (kI := 4) (own_w hw 6 rfl) hx0 hh0 E V C K S hz hn hN l0 l2 hp rfl hfr hlo) (fun _ _ h => h) (fun P a v B hp hq => by
    obtain ⟨L, ⟨q1, q2, q3, q4, q5, t, kb, q6, q7, q8, q9, q10⟩, r⟩ := hq
    exact ⟨L, ⟨t, kb, q1, q2, q3, q6, q7, q4, q5, q9, q10⟩, r⟩)
theorem own_get (bs : List Int32) (j : Nat) : (bs.map Value.int).getD j (.int (0 : Int32)) = .int (bs.getD j 0) := by
  induction bs generalizing j with
  | nil => rfl
  | cons a bs ih => cases j with
    | zero => rfl
    | succ j => simpa using ih j
theorem own_i0 {i : Int32} (h : 0 ≤ i.toInt) : ¬ (i < (0 : Int32)) := by rw [Int32.lt_iff_toInt_lt, Int32.toInt_zero]; omega
theorem own_i6 : (6 : Int32).toInt = 6 := by decide
theorem own_lt6 {i : Int32} (h : i.toInt < 6) : i < (6 : Int32) := by rw [Int32.lt_iff_toInt_lt, own_i6]; exact h
theorem own_ge6 {i : Int32} (h : ¬ i.toInt < 6) : ¬ (i < (6 : Int32)) := by rw [Int32.lt_iff_toInt_lt, own_i6]; exact h
theorem own_inc {i : Int32} (h0 : 0 ≤ i.toInt) (h1 : i.toInt < 100) : (i + (1 : Int32)).toInt = i.toInt + 1 := by
  have e : (1 : Int32).toInt = 1 := by decide
  rw [Jvm.Kit.i32_add (by omega) (by omega), e]
theorem own_inc2 {i : Int32} (h0 : 0 ≤ i.toInt) (h1 : i.toInt < 100) : (i + (2 : Int32)).toInt = i.toInt + 2 := by
  have e : (2 : Int32).toInt = 2 := by decide
  rw [Jvm.Kit.i32_add (by omega) (by omega), e]
theorem own_dec {i : Int32} (h0 : 0 ≤ i.toInt) (h1 : i.toInt < 100) : (i - (1 : Int32)).toInt = i.toInt - 1 := by
  have e : (1 : Int32).toInt = 1 := by decide
  rw [Jvm.Kit.i32_sub (by omega) (by omega), e]
theorem own_decm {i : Int32} (h0 : 0 ≤ i.toInt) (h1 : i.toInt < 100) : (i + (-1 : Int32)).toInt = i.toInt - 1 := by
  have e : (-1 : Int32).toInt = -1 := by decide
  rw [Jvm.Kit.i32_add (by omega) (by omega), e]; omega
theorem d17_0 : decode jdk_29_method_65_code 0 = .ok (.iload_n 0, 1) := by decide +kernel
theorem d17_1 : decode jdk_29_method_65_code 1 = .ok (.iload_n 1, 1) := by decide +kernel
theorem d17_2 : decode jdk_29_method_65_code 2 = .ok (.if_icmp .lt 7, 3) := by decide +kernel
theorem d17_5 : decode jdk_29_method_65_code 5 = .ok (.iload_n 0, 1) := by decide +kernel
theorem d17_6 : decode jdk_29_method_65_code 6 = .ok (.goto 4, 3) := by decide +kernel
theorem d17_10 : decode jdk_29_method_65_code 10 = .ok (.ireturn, 1) := by decide +kernel
theorem ef_rm17 (m : MethodId) (p1 : Int32) (p2 : Int32) : entryFrame m #[(.int p1), (.int p2)] 2 = mkF m 0 #[.val (.int p1), .val (.int p2)] [] := by first | (simp [entryFrame, mkF, argsToLocals, Value.category]; done) | rfl
def Q_rm17 (Z : State) (p1 : Int32) (p2 : Int32) (h0 : Heap) (n0 : Nat) (v : Option Value) (h : Heap) (L : List Loc) : Prop := v = some (.int p1) ∧ Fr n0 L ∧ h = h0
set_option maxRecDepth 65536 in
set_option maxHeartbeats 40000000 in
theorem rm17 (l : Launch) (Z : State) (a0 : Array Value) (hw : ∀ d ∈ tables_1, d.before a0 Z = true) (ws : List Jvm.Cond) (p1 : Int32) (p2 : Int32) (h0 : Heap) (n0 : Nat) (Z0 : n0 ≤ h0.size) (hm : ¬ (p1 < p2)) :
    MetFree l (⟨"java/lang/Math", "max", "(II)I"⟩ : MethodName) (head1 (Jvm.Cond.code (⟨"java/lang/Math", "max", "(II)I"⟩ : MethodName) jdk_29_method_65_code 2 (some .int) :: ws) ({ frames := 0, cells := 0, slots := 0, locals := 0 } : Room)) (fun a U => a = #[(.int p1), (.int p2)] ∧ Z.Warmed39 U.vm ∧ U.heap = h0) (fun _ _ _ _ _ => True) (fun _ U o U' => ∃ v L, o = .returned v ∧ Q_rm17 Z p1 p2 h0 n0 v U'.heap L ∧ FrameEnd U o U' L ({ frames := 0, cells := 0, slots := 0, locals := 0 } : Room).cells ({ frames := 0, cells := 0, slots := 0, locals := 0 } : Room).slots) := by
  refine MetFree.of_bodySF (Jvm.Free.JP.mathPlain rfl (by decide +kernel)) hisR ?_
  intro p e s m args below meth c s₁ Bd hml0 hP hK
  obtain ⟨rfl, hZ, hh⟩ := hP
  have hx := Bd.exec
  have hby := Bd.bytes
  have hml : c.maxLocals = 2 := hml0
  have hown : s.vm.findClass "java/lang/Math" = some m.cls := findClass_of_methodNamed Bd.named
  have hnm := (name_of_methodNamed Bd.named Bd.method).1
  have X0 : Stand p l e ({ frames := 0, cells := 0, slots := 0, locals := 0 } : Room) s m #[(.int p1), (.int p2)] below meth c s₁ [] 0 0 := Stand.of_body Bd
  have e0 : s₁.heap = h0 := by rw [← hh, Bd.state]; rfl
  have N0 := Fr.nil n0
  have pre0 : ∀ t, Steps p.tables e below (s₁.setTop (mkF m 0 #[.val (.int p1), .val (.int p2)] [])) t → Steps p.tables e below (s₁.setTop (entryFrame m #[(.int p1), (.int p2)] 2)) t := fun t k => castTop (ef_rm17 m p1 p2) k
  obtain ⟨fs, hr, hrun, hended, hW, hsame⟩ := X0.leave (v := some (.int p1)) (fun h => by rw [Bd.returns] at h; cases h)
  refine ⟨_, _, pre0 _ ?_, hrun, hended, _, _, rfl, ?_, ⟨_, rfl⟩, hW, hsame.mono (by decide) (by decide)⟩
  · show Steps p.tables e below (s₁.setTop (mkF m 0 #[.val (.int p1), .val (.int p2)] [])) _
    refine XS.iloadN X0.here hx rfl (hb hby d17_0) rfl ?_
    show Steps p.tables e below (s₁.setTop (mkF m 1 #[.val (.int p1), .val (.int p2)] [(.int p1)])) _
    refine XS.iloadN X0.here hx rfl (hb hby d17_1) rfl ?_
    show Steps p.tables e below (s₁.setTop (mkF m 2 #[.val (.int p1), .val (.int p2)] [(.int p2), (.int p1)])) _
    refine XS.icmpNo X0.here hx rfl (hb hby d17_2) rfl (flt hm).1 ?_
    show Steps p.tables e below (s₁.setTop (mkF m 5 #[.val (.int p1), .val (.int p2)] [])) _
    refine XS.iloadN X0.here hx rfl (hb hby d17_5) rfl ?_
    show Steps p.tables e below (s₁.setTop (mkF m 6 #[.val (.int p1), .val (.int p2)] [(.int p1)])) _
    refine XS.goto X0.here hx rfl (pc0 := 6) (pc' := 10) rfl (hb hby d17_6) (by decide) (by decide) ?_
    show Steps p.tables e below (s₁.setTop (mkF m 10 #[.val (.int p1), .val (.int p2)] [(.int p1)])) _
    exact retI X0 hx Bd.returns (hb hby d17_10) hr
  · show Q_rm17 Z p1 p2 h0 n0 _ s₁.heap _
    rw [e0]
    exact ⟨rfl, N0, rfl⟩
theorem d18_0 : decode jdk_29_method_69_code 0 = .ok (.iload_n 0, 1) := by decide +kernel
theorem d18_1 : decode jdk_29_method_69_code 1 = .ok (.iload_n 1, 1) := by decide +kernel
theorem d18_2 : decode jdk_29_method_69_code 2 = .ok (.if_icmp .gt 7, 3) := by decide +kernel
theorem d18_5 : decode jdk_29_method_69_code 5 = .ok (.iload_n 0, 1) := by decide +kernel
theorem d18_6 : decode jdk_29_method_69_code 6 = .ok (.goto 4, 3) := by decide +kernel
theorem d18_10 : decode jdk_29_method_69_code 10 = .ok (.ireturn, 1) := by decide +kernel
theorem ef_rm18 (m : MethodId) (p1 : Int32) (p2 : Int32) : entryFrame m #[(.int p1), (.int p2)] 2 = mkF m 0 #[.val (.int p1), .val (.int p2)] [] := by first | (simp [entryFrame, mkF, argsToLocals, Value.category]; done) | rfl
def Q_rm18 (Z : State) (p1 : Int32) (p2 : Int32) (h0 : Heap) (n0 : Nat) (v : Option Value) (h : Heap) (L : List Loc) : Prop := v = some (.int p1) ∧ Fr n0 L ∧ h = h0
set_option maxRecDepth 65536 in
set_option maxHeartbeats 40000000 in
theorem rm18 (l : Launch) (Z : State) (a0 : Array Value) (hw : ∀ d ∈ tables_1, d.before a0 Z = true) (ws : List Jvm.Cond) (p1 : Int32) (p2 : Int32) (h0 : Heap) (n0 : Nat) (Z0 : n0 ≤ h0.size) (hm : ¬ (p2 < p1)) :
    MetFree l (⟨"java/lang/Math", "min", "(II)I"⟩ : MethodName) (head1 (Jvm.Cond.code (⟨"java/lang/Math", "min", "(II)I"⟩ : MethodName) jdk_29_method_69_code 2 (some .int) :: ws) ({ frames := 0, cells := 0, slots := 0, locals := 0 } : Room)) (fun a U => a = #[(.int p1), (.int p2)] ∧ Z.Warmed39 U.vm ∧ U.heap = h0) (fun _ _ _ _ _ => True) (fun _ U o U' => ∃ v L, o = .returned v ∧ Q_rm18 Z p1 p2 h0 n0 v U'.heap L ∧ FrameEnd U o U' L ({ frames := 0, cells := 0, slots := 0, locals := 0 } : Room).cells ({ frames := 0, cells := 0, slots := 0, locals := 0 } : Room).slots) := by
  refine MetFree.of_bodySF (Jvm.Free.JP.mathPlain rfl (by decide +kernel)) hisR ?_
  intro p e s m args below meth c s₁ Bd hml0 hP hK
  obtain ⟨rfl, hZ, hh⟩ := hP
  have hx := Bd.exec
  have hby := Bd.bytes
  have hml : c.maxLocals = 2 := hml0
  have hown : s.vm.findClass "java/lang/Math" = some m.cls := findClass_of_methodNamed Bd.named
  have hnm := (name_of_methodNamed Bd.named Bd.method).1
  have X0 : Stand p l e ({ frames := 0, cells := 0, slots := 0, locals := 0 } : Room) s m #[(.int p1), (.int p2)] below meth c s₁ [] 0 0 := Stand.of_body Bd
  have e0 : s₁.heap = h0 := by rw [← hh, Bd.state]; rfl
  have N0 := Fr.nil n0
  have pre0 : ∀ t, Steps p.tables e below (s₁.setTop (mkF m 0 #[.val (.int p1), .val (.int p2)] [])) t → Steps p.tables e below (s₁.setTop (entryFrame m #[(.int p1), (.int p2)] 2)) t := fun t k => castTop (ef_rm18 m p1 p2) k
  obtain ⟨fs, hr, hrun, hended, hW, hsame⟩ := X0.leave (v := some (.int p1)) (fun h => by rw [Bd.returns] at h; cases h)
  refine ⟨_, _, pre0 _ ?_, hrun, hended, _, _, rfl, ?_, ⟨_, rfl⟩, hW, hsame.mono (by decide) (by decide)⟩
  · show Steps p.tables e below (s₁.setTop (mkF m 0 #[.val (.int p1), .val (.int p2)] [])) _
    refine XS.iloadN X0.here hx rfl (hb hby d18_0) rfl ?_
    show Steps p.tables e below (s₁.setTop (mkF m 1 #[.val (.int p1), .val (.int p2)] [(.int p1)])) _
    refine XS.iloadN X0.here hx rfl (hb hby d18_1) rfl ?_
    show Steps p.tables e below (s₁.setTop (mkF m 2 #[.val (.int p1), .val (.int p2)] [(.int p2), (.int p1)])) _
    refine XS.icmpNo X0.here hx rfl (hb hby d18_2) rfl (flt hm).2.2.1 ?_
    show Steps p.tables e below (s₁.setTop (mkF m 5 #[.val (.int p1), .val (.int p2)] [])) _
    refine XS.iloadN X0.here hx rfl (hb hby d18_5) rfl ?_
    show Steps p.tables e below (s₁.setTop (mkF m 6 #[.val (.int p1), .val (.int p2)] [(.int p1)])) _
    refine XS.goto X0.here hx rfl (pc0 := 6) (pc' := 10) rfl (hb hby d18_6) (by decide) (by decide) ?_
    show Steps p.tables e below (s₁.setTop (mkF m 10 #[.val (.int p1), .val (.int p2)] [(.int p1)])) _
    exact retI X0 hx Bd.returns (hb hby d18_10) hr
  · show Q_rm18 Z p1 p2 h0 n0 _ s₁.heap _
    rw [e0]
    exact ⟨rfl, N0, rfl⟩
theorem d16_0 : decode jdk_43_method_4_code 0 = .ok (.iload_n 0, 1) := by decide +kernel
theorem d16_1 : decode jdk_43_method_4_code 1 = .ok (.ifCond .lt 14, 3) := by decide +kernel
theorem d16_4 : decode jdk_43_method_4_code 4 = .ok (.iload_n 0, 1) := by decide +kernel
theorem d16_5 : decode jdk_43_method_4_code 5 = .ok (.sipush 255, 3) := by decide +kernel
theorem d16_8 : decode jdk_43_method_4_code 8 = .ok (.if_icmp .gt 7, 3) := by decide +kernel
theorem d16_11 : decode jdk_43_method_4_code 11 = .ok (.iconst 1, 1) := by decide +kernel
theorem d16_12 : decode jdk_43_method_4_code 12 = .ok (.goto 4, 3) := by decide +kernel
theorem d16_16 : decode jdk_43_method_4_code 16 = .ok (.ireturn, 1) := by decide +kernel
theorem pn_java_lang_StringLatin1 : plainName nm4 = true := by first | (simp [plainName, overriddenIn]; done) | decide +kernel
theorem ef_rm16 (m : MethodId) (p1 : Int32) : entryFrame m #[(.int p1)] 1 = mkF m 0 #[.val (.int p1)] [] := by first | (simp [entryFrame, mkF, argsToLocals, Value.category]; done) | rfl
def Q_rm16 (Z : State) (p1 : Int32) (h0 : Heap) (n0 : Nat) (v : Option Value) (h : Heap) (L : List Loc) : Prop := v = some (.int (1 : Int32)) ∧ Fr n0 L ∧ h = h0
set_option maxRecDepth 65536 in
set_option maxHeartbeats 40000000 in
theorem rm16 (l : Launch) (Z : State) (a0 : Array Value) (hw : ∀ d ∈ tables_1, d.before a0 Z = true) (ws : List Jvm.Cond) (p1 : Int32) (h0 : Heap) (n0 : Nat) (Z0 : n0 ≤ h0.size) (hlo : ¬ (p1 < (0 : Int32))) (hhi : ¬ ((255 : Int32) < p1)) :
    MetFree l (⟨nm4, "canEncode", "(I)Z"⟩ : MethodName) (head1 (Jvm.Cond.code (⟨nm4, "canEncode", "(I)Z"⟩ : MethodName) jdk_43_method_4_code 1 (some .boolean) :: ws) ({ frames := 0, cells := 0, slots := 0, locals := 0 } : Room)) (fun a U => a = #[(.int p1)] ∧ Z.Warmed39 U.vm ∧ U.heap = h0) (fun _ _ _ _ _ => True) (fun _ U o U' => ∃ v L, o = .returned v ∧ Q_rm16 Z p1 h0 n0 v U'.heap L ∧ FrameEnd U o U' L ({ frames := 0, cells := 0, slots := 0, locals := 0 } : Room).cells ({ frames := 0, cells := 0, slots := 0, locals := 0 } : Room).slots) := by
  refine MetFree.of_bodySF (plainFor_of_name pn_java_lang_StringLatin1) hisR ?_
  intro p e s m args below meth c s₁ Bd hml0 hP hK
  obtain ⟨rfl, hZ, hh⟩ := hP
  have hx := Bd.exec
  have hby := Bd.bytes
  have hml : c.maxLocals = 1 := hml0
  have hown : s.vm.findClass nm4 = some m.cls := findClass_of_methodNamed Bd.named
  have hnm := (name_of_methodNamed Bd.named Bd.method).1
  have X0 : Stand p l e ({ frames := 0, cells := 0, slots := 0, locals := 0 } : Room) s m #[(.int p1)] below meth c s₁ [] 0 0 := Stand.of_body Bd
  have e0 : s₁.heap = h0 := by rw [← hh, Bd.state]; rfl
  have N0 := Fr.nil n0
  have pre0 : ∀ t, Steps p.tables e below (s₁.setTop (mkF m 0 #[.val (.int p1)] [])) t → Steps p.tables e below (s₁.setTop (entryFrame m #[(.int p1)] 1)) t := fun t k => castTop (ef_rm16 m p1) k
  obtain ⟨fs, hr, hrun, hended, hW, hsame⟩ := X0.leave (v := some (.int (1 : Int32))) (fun h => by rw [Bd.returns] at h; cases h)
  refine ⟨_, _, pre0 _ ?_, hrun, hended, _, _, rfl, ?_, ⟨_, rfl⟩, hW, hsame.mono (by decide) (by decide)⟩
  · show Steps p.tables e below (s₁.setTop (mkF m 0 #[.val (.int p1)] [])) _
    refine XS.iloadN X0.here hx rfl (hb hby d16_0) rfl ?_
    show Steps p.tables e below (s₁.setTop (mkF m 1 #[.val (.int p1)] [(.int p1)])) _
    refine XS.ifNo X0.here hx rfl (hb hby d16_1) rfl ((if0 _ _).trans (flt hlo).1) ?_
    show Steps p.tables e below (s₁.setTop (mkF m 4 #[.val (.int p1)] [])) _
    refine XS.iloadN X0.here hx rfl (hb hby d16_4) rfl ?_
    show Steps p.tables e below (s₁.setTop (mkF m 5 #[.val (.int p1)] [(.int p1)])) _
    refine XS.sipush X0.here hx rfl (hb hby d16_5) ?_
    show Steps p.tables e below (s₁.setTop (mkF m 8 #[.val (.int p1)] [(.int (255 : Int32)), (.int p1)])) _
    refine XS.icmpNo X0.here hx rfl (hb hby d16_8) rfl (flt hhi).2.2.1 ?_
    show Steps p.tables e below (s₁.setTop (mkF m 11 #[.val (.int p1)] [])) _
    refine XS.iconst X0.here hx rfl (hb hby d16_11) ?_
    show Steps p.tables e below (s₁.setTop (mkF m 12 #[.val (.int p1)] [(.int (1 : Int32))])) _
    refine XS.goto X0.here hx rfl (pc0 := 12) (pc' := 16) rfl (hb hby d16_12) (by decide) (by decide) ?_
    show Steps p.tables e below (s₁.setTop (mkF m 16 #[.val (.int p1)] [(.int (1 : Int32))])) _
    exact retN X0 hx (t := .boolean) Bd.returns (by simp) (hb hby d16_16) hr
  · show Q_rm16 Z p1 h0 n0 _ s₁.heap _
    rw [e0]
    exact ⟨rfl, N0, rfl⟩
theorem d12_0 : decode jdk_42_method_154_code 0 = .ok (.getstatic 38, 3) := by decide +kernel
theorem d12_3 : decode jdk_42_method_154_code 3 = .ok (.ifCond .eq 14, 3) := by decide +kernel
theorem d12_6 : decode jdk_42_method_154_code 6 = .ok (.aload_n 0, 1) := by decide +kernel
theorem d12_7 : decode jdk_42_method_154_code 7 = .ok (.getfield 15, 3) := by decide +kernel
theorem d12_10 : decode jdk_42_method_154_code 10 = .ok (.ifCond .ne 7, 3) := by decide +kernel
theorem d12_13 : decode jdk_42_method_154_code 13 = .ok (.iconst 1, 1) := by decide +kernel
theorem d12_14 : decode jdk_42_method_154_code 14 = .ok (.goto 4, 3) := by decide +kernel
theorem d12_18 : decode jdk_42_method_154_code 18 = .ok (.ireturn, 1) := by decide +kernel
theorem pn_java_lang_String : plainName nm1 = true := by first | (simp [plainName, overriddenIn]; done) | decide +kernel
theorem ef_rm12 (m : MethodId) (x : Addr) : entryFrame m #[(.ref x)] 1 = mkF m 0 #[.val (.ref x)] [] := by first | (simp [entryFrame, mkF, argsToLocals, Value.category]; done) | rfl
def Q_rm12 (Z : State) (x : Addr) (z0 : Int32) (h0 : Heap) (n0 : Nat) (v : Option Value) (h : Heap) (L : List Loc) : Prop := v = some (.int (1 : Int32)) ∧ Fr n0 L ∧ h = h0
set_option maxRecDepth 65536 in
set_option maxHeartbeats 40000000 in
theorem rm12 (l : Launch) (Z : State) (a0 : Array Value) (hw : ∀ d ∈ tables_1, d.before a0 Z = true) (ws : List Jvm.Cond) (x : Addr) (z0 : Int32) (h0 : Heap) (n0 : Nat) (Z0 : n0 ≤ h0.size) (F_coder_x : Fld Z h0 x nm1 "coder" "B" (.int (0 : Int32))) (S_COMPACT_STRINGS : Sta Z h0 nm1 "COMPACT_STRINGS" "Z" (.int z0)) (hz : ¬ (z0 = (0 : Int32))) :
    MetFree l (⟨nm1, "isLatin1", "()Z"⟩ : MethodName) (head1 (Jvm.Cond.code (⟨nm1, "isLatin1", "()Z"⟩ : MethodName) jdk_42_method_154_code 1 (some .boolean) :: ws) ({ frames := 0, cells := 0, slots := 0, locals := 0 } : Room)) (fun a U => a = #[(.ref x)] ∧ Z.Warmed39 U.vm ∧ U.heap = h0) (fun _ _ _ _ _ => True) (fun _ U o U' => ∃ v L, o = .returned v ∧ Q_rm12 Z x z0 h0 n0 v U'.heap L ∧ FrameEnd U o U' L ({ frames := 0, cells := 0, slots := 0, locals := 0 } : Room).cells ({ frames := 0, cells := 0, slots := 0, locals := 0 } : Room).slots) := by
  refine MetFree.of_bodySF (plainFor_of_name pn_java_lang_String) hisR ?_
  intro p e s m args below meth c s₁ Bd hml0 hP hK
  obtain ⟨rfl, hZ, hh⟩ := hP
  have hx := Bd.exec
  have hby := Bd.bytes
  have hml : c.maxLocals = 1 := hml0
  have hown : s.vm.findClass nm1 = some m.cls := findClass_of_methodNamed Bd.named
  have hnm := (name_of_methodNamed Bd.named Bd.method).1
  have X0 : Stand p l e ({ frames := 0, cells := 0, slots := 0, locals := 0 } : Room) s m #[(.ref x)] below meth c s₁ [] 0 0 := Stand.of_body Bd
  have e0 : s₁.heap = h0 := by rw [← hh, Bd.state]; rfl
  have N0 := Fr.nil n0
  have pre0 : ∀ t, Steps p.tables e below (s₁.setTop (mkF m 0 #[.val (.ref x)] [])) t → Steps p.tables e below (s₁.setTop (entryFrame m #[(.ref x)] 1)) t := fun t k => castTop (ef_rm12 m x) k
  obtain ⟨T1, X1, e1, st1⟩ := getS2 X0 hx hZ hown (host := "") (Or.inl (own_w hw 18 rfl)) Via.refl e0 S_COMPACT_STRINGS (g := (mkF m 0 #[.val (.ref x)] [])) rfl (hb hby d12_0)
  obtain ⟨T2, X2, e2, st2⟩ := getF X1 hx hZ hown (host := "") (Or.inl (own_w hw 30 rfl)) Via.refl e1 F_coder_x (g := (mkF m 7 #[.val (.ref x)] [(.ref x)])) rfl rfl (hb hby d12_7)
  obtain ⟨fs, hr, hrun, hended, hW, hsame⟩ := X2.leave (v := some (.int (1 : Int32))) (fun h => by rw [Bd.returns] at h; cases h)
  refine ⟨_, _, pre0 _ ?_, hrun, hended, _, _, rfl, ?_, ⟨_, rfl⟩, hW, hsame.mono (by decide) (by decide)⟩
  · show Steps p.tables e below (s₁.setTop (mkF m 0 #[.val (.ref x)] [])) _
    refine st1 _ ?_
    show Steps p.tables e below (T1.setTop (mkF m 3 #[.val (.ref x)] [(.int z0)])) _
    refine XS.ifNo X1.here hx rfl (hb hby d12_3) rfl ((if0 _ _).trans (feq hz).1) ?_
    show Steps p.tables e below (T1.setTop (mkF m 6 #[.val (.ref x)] [])) _
    refine XS.aloadN X1.here hx rfl (hb hby d12_6) rfl rfl ?_
    show Steps p.tables e below (T1.setTop (mkF m 7 #[.val (.ref x)] [(.ref x)])) _
    refine st2 _ ?_
    show Steps p.tables e below (T2.setTop (mkF m 10 #[.val (.ref x)] [(.int (0 : Int32))])) _
    refine XS.ifNo X2.here hx rfl (hb hby d12_10) rfl ((if0 _ _).trans (teq (by decide : (0 : Int32) = (0 : Int32))).2) ?_
    show Steps p.tables e below (T2.setTop (mkF m 13 #[.val (.ref x)] [])) _
    refine XS.iconst X2.here hx rfl (hb hby d12_13) ?_
    show Steps p.tables e below (T2.setTop (mkF m 14 #[.val (.ref x)] [(.int (1 : Int32))])) _
    refine XS.goto X2.here hx rfl (pc0 := 14) (pc' := 18) rfl (hb hby d12_14) (by decide) (by decide) ?_
    show Steps p.tables e below (T2.setTop (mkF m 18 #[.val (.ref x)] [(.int (1 : Int32))])) _
    exact retN X2 hx (t := .boolean) Bd.returns (by simp) (hb hby d12_18) hr
  · show Q_rm12 Z x z0 h0 n0 _ T2.heap _
    rw [e2]
    exact ⟨rfl, N0, rfl⟩
theorem d14_0 : decode jdk_42_method_152_code 0 = .ok (.getstatic 38, 3) := by decide +kernel
theorem d14_3 : decode jdk_42_method_152_code 3 = .ok (.ifCond .eq 10, 3) := by decide +kernel
theorem d14_6 : decode jdk_42_method_152_code 6 = .ok (.aload_n 0, 1) := by decide +kernel
theorem d14_7 : decode jdk_42_method_152_code 7 = .ok (.getfield 15, 3) := by decide +kernel
theorem d14_10 : decode jdk_42_method_152_code 10 = .ok (.goto 4, 3) := by decide +kernel
theorem d14_14 : decode jdk_42_method_152_code 14 = .ok (.ireturn, 1) := by decide +kernel
theorem ef_rm14 (m : MethodId) (x : Addr) : entryFrame m #[(.ref x)] 1 = mkF m 0 #[.val (.ref x)] [] := by first | (simp [entryFrame, mkF, argsToLocals, Value.category]; done) | rfl
def Q_rm14 (Z : State) (x : Addr) (z0 : Int32) (h0 : Heap) (n0 : Nat) (v : Option Value) (h : Heap) (L : List Loc) : Prop := v = some (.int (0 : Int32)) ∧ Fr n0 L ∧ h = h0
set_option maxRecDepth 65536 in
set_option maxHeartbeats 40000000 in
theorem rm14 (l : Launch) (Z : State) (a0 : Array Value) (hw : ∀ d ∈ tables_1, d.before a0 Z = true) (ws : List Jvm.Cond) (x : Addr) (z0 : Int32) (h0 : Heap) (n0 : Nat) (Z0 : n0 ≤ h0.size) (F_coder_x : Fld Z h0 x nm1 "coder" "B" (.int (0 : Int32))) (S_COMPACT_STRINGS : Sta Z h0 nm1 "COMPACT_STRINGS" "Z" (.int z0)) (hz : ¬ (z0 = (0 : Int32))) :
    MetFree l (⟨nm1, "coder", "()B"⟩ : MethodName) (head1 (Jvm.Cond.code (⟨nm1, "coder", "()B"⟩ : MethodName) jdk_42_method_152_code 1 (some .byte) :: ws) ({ frames := 0, cells := 0, slots := 0, locals := 0 } : Room)) (fun a U => a = #[(.ref x)] ∧ Z.Warmed39 U.vm ∧ U.heap = h0) (fun _ _ _ _ _ => True) (fun _ U o U' => ∃ v L, o = .returned v ∧ Q_rm14 Z x z0 h0 n0 v U'.heap L ∧ FrameEnd U o U' L ({ frames := 0, cells := 0, slots := 0, locals := 0 } : Room).cells ({ frames := 0, cells := 0, slots := 0, locals := 0 } : Room).slots) := by
  refine MetFree.of_bodySF (plainFor_of_name pn_java_lang_String) hisR ?_
  intro p e s m args below meth c s₁ Bd hml0 hP hK
  obtain ⟨rfl, hZ, hh⟩ := hP
  have hx := Bd.exec
  have hby := Bd.bytes
  have hml : c.maxLocals = 1 := hml0
  have hown : s.vm.findClass nm1 = some m.cls := findClass_of_methodNamed Bd.named
  have hnm := (name_of_methodNamed Bd.named Bd.method).1
  have X0 : Stand p l e ({ frames := 0, cells := 0, slots := 0, locals := 0 } : Room) s m #[(.ref x)] below meth c s₁ [] 0 0 := Stand.of_body Bd
  have e0 : s₁.heap = h0 := by rw [← hh, Bd.state]; rfl
  have N0 := Fr.nil n0
  have pre0 : ∀ t, Steps p.tables e below (s₁.setTop (mkF m 0 #[.val (.ref x)] [])) t → Steps p.tables e below (s₁.setTop (entryFrame m #[(.ref x)] 1)) t := fun t k => castTop (ef_rm14 m x) k
  obtain ⟨T1, X1, e1, st1⟩ := getS2 X0 hx hZ hown (host := "") (Or.inl (own_w hw 18 rfl)) Via.refl e0 S_COMPACT_STRINGS (g := (mkF m 0 #[.val (.ref x)] [])) rfl (hb hby d14_0)
  obtain ⟨T2, X2, e2, st2⟩ := getF X1 hx hZ hown (host := "") (Or.inl (own_w hw 30 rfl)) Via.refl e1 F_coder_x (g := (mkF m 7 #[.val (.ref x)] [(.ref x)])) rfl rfl (hb hby d14_7)
  obtain ⟨fs, hr, hrun, hended, hW, hsame⟩ := X2.leave (v := some (.int (0 : Int32))) (fun h => by rw [Bd.returns] at h; cases h)
  refine ⟨_, _, pre0 _ ?_, hrun, hended, _, _, rfl, ?_, ⟨_, rfl⟩, hW, hsame.mono (by decide) (by decide)⟩
  · show Steps p.tables e below (s₁.setTop (mkF m 0 #[.val (.ref x)] [])) _
    refine st1 _ ?_
    show Steps p.tables e below (T1.setTop (mkF m 3 #[.val (.ref x)] [(.int z0)])) _
    refine XS.ifNo X1.here hx rfl (hb hby d14_3) rfl ((if0 _ _).trans (feq hz).1) ?_
    show Steps p.tables e below (T1.setTop (mkF m 6 #[.val (.ref x)] [])) _
    refine XS.aloadN X1.here hx rfl (hb hby d14_6) rfl rfl ?_
    show Steps p.tables e below (T1.setTop (mkF m 7 #[.val (.ref x)] [(.ref x)])) _
    refine st2 _ ?_
    show Steps p.tables e below (T2.setTop (mkF m 10 #[.val (.ref x)] [(.int (0 : Int32))])) _
    refine XS.goto X2.here hx rfl (pc0 := 10) (pc' := 14) rfl (hb hby d14_10) (by decide) (by decide) ?_
    show Steps p.tables e below (T2.setTop (mkF m 14 #[.val (.ref x)] [(.int (0 : Int32))])) _
    exact retN X2 hx (t := .byte) Bd.returns (by simp) (hb hby d14_14) hr
  · show Q_rm14 Z x z0 h0 n0 _ T2.heap _
    rw [e2]
    exact ⟨rfl, N0, rfl⟩
theorem d13_0 : decode jdk_42_method_54_code 0 = .ok (.aload_n 0, 1) := by decide +kernel
theorem d13_1 : decode jdk_42_method_54_code 1 = .ok (.getfield 9, 3) := by decide +kernel
theorem d13_4 : decode jdk_42_method_54_code 4 = .ok (.arraylength, 1) := by decide +kernel
theorem d13_5 : decode jdk_42_method_54_code 5 = .ok (.aload_n 0, 1) := by decide +kernel
theorem pd__28_29B : parseMethodDescriptor "()B" = some ⟨[], some .byte⟩ := by decide +kernel
theorem d13_6 : decode jdk_42_method_54_code 6 = .ok (.invokevirtual 335, 3) := by decide +kernel
theorem d13_9 : decode jdk_42_method_54_code 9 = .ok (.ishr, 1) := by decide +kernel
theorem d13_10 : decode jdk_42_method_54_code 10 = .ok (.ireturn, 1) := by decide +kernel
theorem ef_rmlen6 (m : MethodId) (x : Addr) : entryFrame m #[(.ref x)] 1 = mkF m 0 #[.val (.ref x)] [] := by first | (simp [entryFrame, mkF, argsToLocals, Value.category]; done) | rfl
def Q_rmlen6 (Z : State) (x : Addr) (tb : Addr) (kb : ClassId) (vs : List Value) (z0 : Int32) (h0 : Heap) (n0 : Nat) (v : Option Value) (h : Heap) (L : List Loc) : Prop := v = some (.int (6 : Int32)) ∧ Fr n0 L ∧ h = h0
set_option maxRecDepth 65536 in
set_option maxHeartbeats 40000000 in
theorem rmlen6 (l : Launch) (Z : State) (a0 : Array Value) (hw : ∀ d ∈ tables_1, d.before a0 Z = true) (ws : List Jvm.Cond) (x : Addr) (tb : Addr) (kb : ClassId) (vs : List Value) (z0 : Int32) (h0 : Heap) (n0 : Nat) (Z0 : n0 ≤ h0.size) (E_x : Exa Z h0 x nm1) (F_coder_x : Fld Z h0 x nm1 "coder" "B" (.int (0 : Int32))) (F_value_x : Fld Z h0 x nm1 "value" "[B" (.ref tb)) (V_tb : Arv Z h0 tb kb .byte (6 : Int32) vs (.int (0 : Int32))) (S_COMPACT_STRINGS : Sta Z h0 nm1 "COMPACT_STRINGS" "Z" (.int z0)) (hz : ¬ (z0 = (0 : Int32))) :
    MetFree l (⟨nm1, "length", "()I"⟩ : MethodName) (head1 (Jvm.Cond.code (⟨nm1, "length", "()I"⟩ : MethodName) jdk_42_method_54_code 1 (some .int) :: ws) ({ frames := 1, cells := 0, slots := 0, locals := 13 } : Room)) (fun a U => a = #[(.ref x)] ∧ Z.Warmed39 U.vm ∧ U.heap = h0) (fun _ _ _ _ _ => True) (fun _ U o U' => ∃ v L, o = .returned v ∧ Q_rmlen6 Z x tb kb vs z0 h0 n0 v U'.heap L ∧ FrameEnd U o U' L ({ frames := 1, cells := 0, slots := 0, locals := 13 } : Room).cells ({ frames := 1, cells := 0, slots := 0, locals := 13 } : Room).slots) := by
  refine MetFree.of_bodySF (plainFor_of_name pn_java_lang_String) hisR ?_
  intro p e s m args below meth c s₁ Bd hml0 hP hK
  obtain ⟨rfl, hZ, hh⟩ := hP
  have hx := Bd.exec
  have hby := Bd.bytes
  have hml : c.maxLocals = 1 := hml0
  have hown : s.vm.findClass nm1 = some m.cls := findClass_of_methodNamed Bd.named
  have hnm := (name_of_methodNamed Bd.named Bd.method).1
  have X0 : Stand p l e ({ frames := 1, cells := 0, slots := 0, locals := 13 } : Room) s m #[(.ref x)] below meth c s₁ [] 0 0 := Stand.of_body Bd
  have e0 : s₁.heap = h0 := by rw [← hh, Bd.state]; rfl
  have N0 := Fr.nil n0
  have pre0 : ∀ t, Steps p.tables e below (s₁.setTop (mkF m 0 #[.val (.ref x)] [])) t → Steps p.tables e below (s₁.setTop (entryFrame m #[(.ref x)] 1)) t := fun t k => castTop (ef_rmlen6 m x) k
  obtain ⟨T1, X1, e1, st1⟩ := getF X0 hx hZ hown (host := "") (Or.inl (own_w hw 32 rfl)) Via.refl e0 F_value_x (g := (mkF m 1 #[.val (.ref x)] [(.ref x)])) rfl rfl (hb hby d13_1)
  obtain ⟨c2, Ac2, -, Sc2, Nc2, -, -⟩ := id V_tb
  obtain ⟨cq3, kq3, q3a, q3b, q3c⟩ := isOf hZ e1 E_x
  obtain ⟨_, _, ⟨T3, L3, k3, n3⟩, -, X3, ⟨Lc3, hQ3, l3, y3, z3⟩, st3⟩ := X1.virtualBack hx (y := (⟨nm1, "coder", "()B"⟩ : MethodName)) (z := (⟨nm1, "coder", "()B"⟩ : MethodName)) hown (mvT hZ (own_w hw 61 rfl)) (mvT hZ (own_w hw 62 rfl)) (notFace_of_selects (args := #[]) (mvT hZ (own_w hw 64 rfl))) (mvT hZ (own_w hw 64 rfl)) (mvT hZ (own_w hw 63 rfl)) (by decide) (backOf (W := 1) (rm14 l Z a0 hw [] x z0 h0 n0 Z0 F_coder_x S_COMPACT_STRINGS hz) hZ (own_w hw 65 rfl) (own_w hw 7 rfl) (by decide) (by decide)) q3a q3c (g := (mkF m 6 #[.val (.ref x)] [(.ref x), (.int (6 : Int32))])) rfl (by rw [hml]; rfl) (Steps.refl _) (argsL := []) (rest := [(.int (6 : Int32))]) (lenOf pd__28_29B rfl) rfl (by show 2 * 0 + _ ≤ _; exact Nat.le_of_eq rfl) (hb hby d13_6) (fun _ _ => ⟨rfl, e1, (by decide : 0 + 0 ≤ _), (by decide : 0 + 0 ≤ _)⟩)
  dsimp only [Pt.U, Pt.locs, Pt.cells, Pt.slots] at y3 z3 st3 hQ3
  change Stand p l e _ s m _ below meth c T3 L3 k3 n3 at X3
  change L3 = _ ++ Lc3 at l3
  subst y3 z3
  obtain ⟨rfl, N3q, e3⟩ := hQ3
  have N3 : Fr n0 L3 := l3 ▸ Fr.app N0 N3q
  obtain ⟨fs, hr, hrun, hended, hW, hsame⟩ := X3.leave (v := some (.int ((6 : Int32) >>> ((0 : Int32) &&& 31)))) (fun h => by rw [Bd.returns] at h; cases h)
  refine ⟨_, _, pre0 _ ?_, hrun, hended, _, _, rfl, ?_, ⟨_, rfl⟩, hW, hsame.mono (by decide) (by decide)⟩
  · show Steps p.tables e below (s₁.setTop (mkF m 0 #[.val (.ref x)] [])) _
    refine XS.aloadN X0.here hx rfl (hb hby d13_0) rfl rfl ?_
    show Steps p.tables e below (s₁.setTop (mkF m 1 #[.val (.ref x)] [(.ref x)])) _
    refine st1 _ ?_
    show Steps p.tables e below (T1.setTop (mkF m 4 #[.val (.ref x)] [(.ref tb)])) _
    refine X1.arraylength hx (by rw [e1]; exact Ac2.1) (State.isArrayOf_alike hZ.alike Ac2.2.1) (g := (mkF m 4 #[.val (.ref x)] [(.ref tb)])) rfl rfl (hb hby d13_4) _ ?_
    rw [len_of Sc2 Nc2]
    show Steps p.tables e below (T1.setTop (mkF m 5 #[.val (.ref x)] [(.int (6 : Int32))])) _
    refine XS.aloadN X1.here hx rfl (hb hby d13_5) rfl rfl ?_
    show Steps p.tables e below (T1.setTop (mkF m 6 #[.val (.ref x)] [(.ref x), (.int (6 : Int32))])) _
    refine st3.trans ?_
    show Steps p.tables e below (T3.setTop (mkF m 9 #[.val (.ref x)] [(.int (0 : Int32)), (.int (6 : Int32))])) _
    refine XS.ishr X3.here hx rfl (hb hby d13_9) rfl ?_
    show Steps p.tables e below (T3.setTop (mkF m 10 #[.val (.ref x)] [(.int ((6 : Int32) >>> ((0 : Int32) &&& 31)))])) _
    exact retI X3 hx Bd.returns (hb hby d13_10) hr
  · show Q_rmlen6 Z x tb kb vs z0 h0 n0 _ T3.heap _
    rw [e3]
    exact ⟨by decide, N3, rfl⟩
theorem ef_rmlen2 (m : MethodId) (x : Addr) : entryFrame m #[(.ref x)] 1 = mkF m 0 #[.val (.ref x)] [] := by first | (simp [entryFrame, mkF, argsToLocals, Value.category]; done) | rfl
def Q_rmlen2 (Z : State) (x : Addr) (tb : Addr) (kb : ClassId) (vs : List Value) (z0 : Int32) (h0 : Heap) (n0 : Nat) (v : Option Value) (h : Heap) (L : List Loc) : Prop := v = some (.int (2 : Int32)) ∧ Fr n0 L ∧ h = h0
set_option maxRecDepth 65536 in
set_option maxHeartbeats 40000000 in
theorem rmlen2 (l : Launch) (Z : State) (a0 : Array Value) (hw : ∀ d ∈ tables_1, d.before a0 Z = true) (ws : List Jvm.Cond) (x : Addr) (tb : Addr) (kb : ClassId) (vs : List Value) (z0 : Int32) (h0 : Heap) (n0 : Nat) (Z0 : n0 ≤ h0.size) (E_x : Exa Z h0 x nm1) (F_coder_x : Fld Z h0 x nm1 "coder" "B" (.int (0 : Int32))) (F_value_x : Fld Z h0 x nm1 "value" "[B" (.ref tb)) (V_tb : Arv Z h0 tb kb .byte (2 : Int32) vs (.int (0 : Int32))) (S_COMPACT_STRINGS : Sta Z h0 nm1 "COMPACT_STRINGS" "Z" (.int z0)) (hz : ¬ (z0 = (0 : Int32))) :
    MetFree l (⟨nm1, "length", "()I"⟩ : MethodName) (head1 (Jvm.Cond.code (⟨nm1, "length", "()I"⟩ : MethodName) jdk_42_method_54_code 1 (some .int) :: ws) ({ frames := 1, cells := 0, slots := 0, locals := 13 } : Room)) (fun a U => a = #[(.ref x)] ∧ Z.Warmed39 U.vm ∧ U.heap = h0) (fun _ _ _ _ _ => True) (fun _ U o U' => ∃ v L, o = .returned v ∧ Q_rmlen2 Z x tb kb vs z0 h0 n0 v U'.heap L ∧ FrameEnd U o U' L ({ frames := 1, cells := 0, slots := 0, locals := 13 } : Room).cells ({ frames := 1, cells := 0, slots := 0, locals := 13 } : Room).slots) := by
  refine MetFree.of_bodySF (plainFor_of_name pn_java_lang_String) hisR ?_
  intro p e s m args below meth c s₁ Bd hml0 hP hK
  obtain ⟨rfl, hZ, hh⟩ := hP
  have hx := Bd.exec
  have hby := Bd.bytes
  have hml : c.maxLocals = 1 := hml0
  have hown : s.vm.findClass nm1 = some m.cls := findClass_of_methodNamed Bd.named
  have hnm := (name_of_methodNamed Bd.named Bd.method).1
  have X0 : Stand p l e ({ frames := 1, cells := 0, slots := 0, locals := 13 } : Room) s m #[(.ref x)] below meth c s₁ [] 0 0 := Stand.of_body Bd
  have e0 : s₁.heap = h0 := by rw [← hh, Bd.state]; rfl
  have N0 := Fr.nil n0
  have pre0 : ∀ t, Steps p.tables e below (s₁.setTop (mkF m 0 #[.val (.ref x)] [])) t → Steps p.tables e below (s₁.setTop (entryFrame m #[(.ref x)] 1)) t := fun t k => castTop (ef_rmlen2 m x) k
  obtain ⟨T1, X1, e1, st1⟩ := getF X0 hx hZ hown (host := "") (Or.inl (own_w hw 32 rfl)) Via.refl e0 F_value_x (g := (mkF m 1 #[.val (.ref x)] [(.ref x)])) rfl rfl (hb hby d13_1)
  obtain ⟨c2, Ac2, -, Sc2, Nc2, -, -⟩ := id V_tb
  obtain ⟨cq3, kq3, q3a, q3b, q3c⟩ := isOf hZ e1 E_x
  obtain ⟨_, _, ⟨T3, L3, k3, n3⟩, -, X3, ⟨Lc3, hQ3, l3, y3, z3⟩, st3⟩ := X1.virtualBack hx (y := (⟨nm1, "coder", "()B"⟩ : MethodName)) (z := (⟨nm1, "coder", "()B"⟩ : MethodName)) hown (mvT hZ (own_w hw 61 rfl)) (mvT hZ (own_w hw 62 rfl)) (notFace_of_selects (args := #[]) (mvT hZ (own_w hw 64 rfl))) (mvT hZ (own_w hw 64 rfl)) (mvT hZ (own_w hw 63 rfl)) (by decide) (backOf (W := 1) (rm14 l Z a0 hw [] x z0 h0 n0 Z0 F_coder_x S_COMPACT_STRINGS hz) hZ (own_w hw 65 rfl) (own_w hw 7 rfl) (by decide) (by decide)) q3a q3c (g := (mkF m 6 #[.val (.ref x)] [(.ref x), (.int (2 : Int32))])) rfl (by rw [hml]; rfl) (Steps.refl _) (argsL := []) (rest := [(.int (2 : Int32))]) (lenOf pd__28_29B rfl) rfl (by show 2 * 0 + _ ≤ _; exact Nat.le_of_eq rfl) (hb hby d13_6) (fun _ _ => ⟨rfl, e1, (by decide : 0 + 0 ≤ _), (by decide : 0 + 0 ≤ _)⟩)
  dsimp only [Pt.U, Pt.locs, Pt.cells, Pt.slots] at y3 z3 st3 hQ3
  change Stand p l e _ s m _ below meth c T3 L3 k3 n3 at X3
  change L3 = _ ++ Lc3 at l3
  subst y3 z3
  obtain ⟨rfl, N3q, e3⟩ := hQ3
  have N3 : Fr n0 L3 := l3 ▸ Fr.app N0 N3q
  obtain ⟨fs, hr, hrun, hended, hW, hsame⟩ := X3.leave (v := some (.int ((2 : Int32) >>> ((0 : Int32) &&& 31)))) (fun h => by rw [Bd.returns] at h; cases h)
  refine ⟨_, _, pre0 _ ?_, hrun, hended, _, _, rfl, ?_, ⟨_, rfl⟩, hW, hsame.mono (by decide) (by decide)⟩
  · show Steps p.tables e below (s₁.setTop (mkF m 0 #[.val (.ref x)] [])) _
    refine XS.aloadN X0.here hx rfl (hb hby d13_0) rfl rfl ?_
    show Steps p.tables e below (s₁.setTop (mkF m 1 #[.val (.ref x)] [(.ref x)])) _
    refine st1 _ ?_
    show Steps p.tables e below (T1.setTop (mkF m 4 #[.val (.ref x)] [(.ref tb)])) _
    refine X1.arraylength hx (by rw [e1]; exact Ac2.1) (State.isArrayOf_alike hZ.alike Ac2.2.1) (g := (mkF m 4 #[.val (.ref x)] [(.ref tb)])) rfl rfl (hb hby d13_4) _ ?_
    rw [len_of Sc2 Nc2]
    show Steps p.tables e below (T1.setTop (mkF m 5 #[.val (.ref x)] [(.int (2 : Int32))])) _
    refine XS.aloadN X1.here hx rfl (hb hby d13_5) rfl rfl ?_
    show Steps p.tables e below (T1.setTop (mkF m 6 #[.val (.ref x)] [(.ref x), (.int (2 : Int32))])) _
    refine st3.trans ?_
    show Steps p.tables e below (T3.setTop (mkF m 9 #[.val (.ref x)] [(.int (0 : Int32)), (.int (2 : Int32))])) _
    refine XS.ishr X3.here hx rfl (hb hby d13_9) rfl ?_
    show Steps p.tables e below (T3.setTop (mkF m 10 #[.val (.ref x)] [(.int ((2 : Int32) >>> ((0 : Int32) &&& 31)))])) _
    exact retI X3 hx Bd.returns (hb hby d13_10) hr
  · show Q_rmlen2 Z x tb kb vs z0 h0 n0 _ T3.heap _
    rw [e3]
    exact ⟨by decide, N3, rfl⟩
theorem d19_7 : decode jdk_43_method_23_code 7 = .ok (.iload 5, 2) := by decide +kernel
theorem d19_9 : decode jdk_43_method_23_code 9 = .ok (.iload_n 3, 1) := by decide +kernel
theorem d19_10 : decode jdk_43_method_23_code 10 = .ok (.if_icmp .ge 21, 3) := by decide +kernel
theorem d19_13 : decode jdk_43_method_23_code 13 = .ok (.aload_n 0, 1) := by decide +kernel
theorem d19_14 : decode jdk_43_method_23_code 14 = .ok (.iload 5, 2) := by decide +kernel
theorem d19_16 : decode jdk_43_method_23_code 16 = .ok (.baload, 1) := by decide +kernel
theorem d19_17 : decode jdk_43_method_23_code 17 = .ok (.iload 4, 2) := by decide +kernel
theorem d19_19 : decode jdk_43_method_23_code 19 = .ok (.if_icmp .ne 6, 3) := by decide +kernel
theorem d19_25 : decode jdk_43_method_23_code 25 = .ok (.iinc 5 1, 3) := by decide +kernel
theorem d19_28 : decode jdk_43_method_23_code 28 = .ok (.goto (-21), 3) := by decide +kernel
set_option maxRecDepth 65536 in
set_option maxHeartbeats 40000000 in
theorem own_ioT {p : Program} {l : Launch} {e : Env} {R : Room} {s : State} {m : MethodId} {args : Array Value} {below : List Frame} {meth : Method} {c : Code} {T0 : State} {locs : List Loc} {cells slots : Nat} {Z : State} {a0 : Array Value} {h0 : Heap} {n0 : Nat} (tb : Addr) (kb : ClassId) (bs : List Int32) (p2 : Int32) (p3 : Int32) (i : Int32)
    (X0 : Stand p l e R s m args below meth c T0 locs cells slots) (hx : p.tables.exec = Jvm.exec) (hZ : Z.Warmed39 s.vm) (hw : ∀ d ∈ tables_1, d.before a0 Z = true) (hby : c.code = jdk_43_method_23_code) (hml : c.maxLocals = 6) (hown : s.vm.findClass nm4 = some m.cls) (e0 : T0.heap = h0) (N0 : Fr n0 locs) (Z0 : n0 ≤ h0.size) (V_tb : Arv Z h0 tb kb .byte (6 : Int32) (bs.map Value.int) (.int (0 : Int32))) (hbd : ¬ i < 0 ∧ i < (6 : Int32)) (hne : ¬ (bs.getD i.toNatClampNeg 0 = (p2.toInt8.toInt32))) :
    ∃ T' : State, Stand p l e R s m args below meth c T' locs cells slots ∧ T'.heap = h0 ∧ ∀ t, Steps p.tables e below (T'.setTop (mkF m 7 #[.val (.ref tb), .val (.int p2), .val (.int p3), .val (.int (6 : Int32)), .val (.int (p2.toInt8.toInt32)), .val (.int (i + (1 : Int32)))] [])) t → Steps p.tables e below (T0.setTop (mkF m 7 #[.val (.ref tb), .val (.int p2), .val (.int p3), .val (.int (6 : Int32)), .val (.int (p2.toInt8.toInt32)), .val (.int i)] [])) t := by
  have pre0 : ∀ t, Steps p.tables e below (T0.setTop (mkF m 7 #[.val (.ref tb), .val (.int p2), .val (.int p3), .val (.int (6 : Int32)), .val (.int (p2.toInt8.toInt32)), .val (.int i)] [])) t → Steps p.tables e below (T0.setTop (mkF m 7 #[.val (.ref tb), .val (.int p2), .val (.int p3), .val (.int (6 : Int32)), .val (.int (p2.toInt8.toInt32)), .val (.int i)] [])) t := fun t k => k
  obtain ⟨c1, Ac1, qc1, Sc1, Nc1, Hc1, Gc1⟩ := id V_tb
  have hinc1 := inb_of Sc1 (j := i) hbd
  have pre2 : ∀ t, Steps p.tables e below (T0.setTop (mkF m 7 #[.val (.ref tb), .val (.int p2), .val (.int p3), .val (.int (6 : Int32)), .val (.int (p2.toInt8.toInt32)), .val (.int (i + (1 : Int32)))] [])) t → Steps p.tables e below (T0.setTop (mkF m 7 #[.val (.ref tb), .val (.int p2), .val (.int p3), .val (.int (6 : Int32)), .val (.int (p2.toInt8.toInt32)), .val (.int i)] [])) t := fun t kt => by
    refine pre0 t ?_
    show Steps p.tables e below (T0.setTop (mkF m 7 #[.val (.ref tb), .val (.int p2), .val (.int p3), .val (.int (6 : Int32)), .val (.int (p2.toInt8.toInt32)), .val (.int i)] [])) _
    refine XS.iload X0.here hx rfl (hb hby d19_7) rfl ?_
    show Steps p.tables e below (T0.setTop (mkF m 9 #[.val (.ref tb), .val (.int p2), .val (.int p3), .val (.int (6 : Int32)), .val (.int (p2.toInt8.toInt32)), .val (.int i)] [(.int i)])) _
    refine XS.iloadN X0.here hx rfl (hb hby d19_9) rfl ?_
    show Steps p.tables e below (T0.setTop (mkF m 10 #[.val (.ref tb), .val (.int p2), .val (.int p3), .val (.int (6 : Int32)), .val (.int (p2.toInt8.toInt32)), .val (.int i)] [(.int (6 : Int32)), (.int i)])) _
    refine XS.icmpNo X0.here hx rfl (hb hby d19_10) rfl (tlt (hbd.2 : i < (6 : Int32))).2.1 ?_
    show Steps p.tables e below (T0.setTop (mkF m 13 #[.val (.ref tb), .val (.int p2), .val (.int p3), .val (.int (6 : Int32)), .val (.int (p2.toInt8.toInt32)), .val (.int i)] [])) _
    refine XS.aloadN X0.here hx rfl (hb hby d19_13) rfl rfl ?_
    show Steps p.tables e below (T0.setTop (mkF m 14 #[.val (.ref tb), .val (.int p2), .val (.int p3), .val (.int (6 : Int32)), .val (.int (p2.toInt8.toInt32)), .val (.int i)] [(.ref tb)])) _
    refine XS.iload X0.here hx rfl (hb hby d19_14) rfl ?_
    show Steps p.tables e below (T0.setTop (mkF m 16 #[.val (.ref tb), .val (.int p2), .val (.int p3), .val (.int (6 : Int32)), .val (.int (p2.toInt8.toInt32)), .val (.int i)] [(.int i), (.ref tb)])) _
    refine X0.baloadBytes hx (j := i) (v := (.int (bs.getD i.toNatClampNeg 0))) (by rw [e0]; exact Ac1.1) (State.isArrayOf_alike hZ.alike Ac1.2.1) Ac1.2.2 hinc1 (Has.at Hc1 hinc1 (own_get bs _)) (g := (mkF m 16 #[.val (.ref tb), .val (.int p2), .val (.int p3), .val (.int (6 : Int32)), .val (.int (p2.toInt8.toInt32)), .val (.int i)] [(.int i), (.ref tb)])) rfl rfl (hb hby d19_16) _ ?_
    show Steps p.tables e below (T0.setTop (mkF m 17 #[.val (.ref tb), .val (.int p2), .val (.int p3), .val (.int (6 : Int32)), .val (.int (p2.toInt8.toInt32)), .val (.int i)] [(.int (bs.getD i.toNatClampNeg 0))])) _
    refine XS.iload X0.here hx rfl (hb hby d19_17) rfl ?_
    show Steps p.tables e below (T0.setTop (mkF m 19 #[.val (.ref tb), .val (.int p2), .val (.int p3), .val (.int (6 : Int32)), .val (.int (p2.toInt8.toInt32)), .val (.int i)] [(.int (p2.toInt8.toInt32)), (.int (bs.getD i.toNatClampNeg 0))])) _
    refine XS.icmpYes X0.here hx rfl (pc0 := 19) (pc' := 25) rfl (hb hby d19_19) rfl (feq hne).2 (by decide) (by decide) ?_
    show Steps p.tables e below (T0.setTop (mkF m 25 #[.val (.ref tb), .val (.int p2), .val (.int p3), .val (.int (6 : Int32)), .val (.int (p2.toInt8.toInt32)), .val (.int i)] [])) _
    refine XS.iinc X0.here hx rfl (hb hby d19_25) rfl (l' := #[.val (.ref tb), .val (.int p2), .val (.int p3), .val (.int (6 : Int32)), .val (.int (p2.toInt8.toInt32)), .val (.int (i + (1 : Int32)))]) rfl ?_
    show Steps p.tables e below (T0.setTop (mkF m 28 #[.val (.ref tb), .val (.int p2), .val (.int p3), .val (.int (6 : Int32)), .val (.int (p2.toInt8.toInt32)), .val (.int (i + (1 : Int32)))] [])) _
    refine XS.goto X0.here hx rfl (pc0 := 28) (pc' := 7) rfl (hb hby d19_28) (by decide) (by decide) ?_
    exact kt
  exact ⟨T0, X0, e0, pre2⟩
set_option maxRecDepth 65536 in
set_option maxHeartbeats 40000000 in
theorem own_ioF {p : Program} {l : Launch} {e : Env} {R : Room} {s : State} {m : MethodId} {args : Array Value} {below : List Frame} {meth : Method} {c : Code} {T0 : State} {locs : List Loc} {cells slots : Nat} {Z : State} {a0 : Array Value} {h0 : Heap} {n0 : Nat} (tb : Addr) (kb : ClassId) (bs : List Int32) (p2 : Int32) (p3 : Int32) (i : Int32)
    (X0 : Stand p l e R s m args below meth c T0 locs cells slots) (hx : p.tables.exec = Jvm.exec) (hZ : Z.Warmed39 s.vm) (hw : ∀ d ∈ tables_1, d.before a0 Z = true) (hby : c.code = jdk_43_method_23_code) (hml : c.maxLocals = 6) (hown : s.vm.findClass nm4 = some m.cls) (e0 : T0.heap = h0) (N0 : Fr n0 locs) (Z0 : n0 ≤ h0.size) (V_tb : Arv Z h0 tb kb .byte (6 : Int32) (bs.map Value.int) (.int (0 : Int32))) (hbd : ¬ i < 0 ∧ i < (6 : Int32)) (hne : bs.getD i.toNatClampNeg 0 = (p2.toInt8.toInt32)) :
    ∃ T' : State, Stand p l e R s m args below meth c T' locs cells slots ∧ T'.heap = h0 ∧ ∀ t, Steps p.tables e below (T'.setTop (mkF m 22 #[.val (.ref tb), .val (.int p2), .val (.int p3), .val (.int (6 : Int32)), .val (.int (p2.toInt8.toInt32)), .val (.int i)] [])) t → Steps p.tables e below (T0.setTop (mkF m 7 #[.val (.ref tb), .val (.int p2), .val (.int p3), .val (.int (6 : Int32)), .val (.int (p2.toInt8.toInt32)), .val (.int i)] [])) t := by
  have pre0 : ∀ t, Steps p.tables e below (T0.setTop (mkF m 7 #[.val (.ref tb), .val (.int p2), .val (.int p3), .val (.int (6 : Int32)), .val (.int (p2.toInt8.toInt32)), .val (.int i)] [])) t → Steps p.tables e below (T0.setTop (mkF m 7 #[.val (.ref tb), .val (.int p2), .val (.int p3), .val (.int (6 : Int32)), .val (.int (p2.toInt8.toInt32)), .val (.int i)] [])) t := fun t k => k
  obtain ⟨c1, Ac1, qc1, Sc1, Nc1, Hc1, Gc1⟩ := id V_tb
  have hinc1 := inb_of Sc1 (j := i) hbd
  have pre2 : ∀ t, Steps p.tables e below (T0.setTop (mkF m 22 #[.val (.ref tb), .val (.int p2), .val (.int p3), .val (.int (6 : Int32)), .val (.int (p2.toInt8.toInt32)), .val (.int i)] [])) t → Steps p.tables e below (T0.setTop (mkF m 7 #[.val (.ref tb), .val (.int p2), .val (.int p3), .val (.int (6 : Int32)), .val (.int (p2.toInt8.toInt32)), .val (.int i)] [])) t := fun t kt => by
    refine pre0 t ?_
    show Steps p.tables e below (T0.setTop (mkF m 7 #[.val (.ref tb), .val (.int p2), .val (.int p3), .val (.int (6 : Int32)), .val (.int (p2.toInt8.toInt32)), .val (.int i)] [])) _
    refine XS.iload X0.here hx rfl (hb hby d19_7) rfl ?_
    show Steps p.tables e below (T0.setTop (mkF m 9 #[.val (.ref tb), .val (.int p2), .val (.int p3), .val (.int (6 : Int32)), .val (.int (p2.toInt8.toInt32)), .val (.int i)] [(.int i)])) _
    refine XS.iloadN X0.here hx rfl (hb hby d19_9) rfl ?_
    show Steps p.tables e below (T0.setTop (mkF m 10 #[.val (.ref tb), .val (.int p2), .val (.int p3), .val (.int (6 : Int32)), .val (.int (p2.toInt8.toInt32)), .val (.int i)] [(.int (6 : Int32)), (.int i)])) _
    refine XS.icmpNo X0.here hx rfl (hb hby d19_10) rfl (tlt (hbd.2 : i < (6 : Int32))).2.1 ?_
    show Steps p.tables e below (T0.setTop (mkF m 13 #[.val (.ref tb), .val (.int p2), .val (.int p3), .val (.int (6 : Int32)), .val (.int (p2.toInt8.toInt32)), .val (.int i)] [])) _
    refine XS.aloadN X0.here hx rfl (hb hby d19_13) rfl rfl ?_
    show Steps p.tables e below (T0.setTop (mkF m 14 #[.val (.ref tb), .val (.int p2), .val (.int p3), .val (.int (6 : Int32)), .val (.int (p2.toInt8.toInt32)), .val (.int i)] [(.ref tb)])) _
    refine XS.iload X0.here hx rfl (hb hby d19_14) rfl ?_
    show Steps p.tables e below (T0.setTop (mkF m 16 #[.val (.ref tb), .val (.int p2), .val (.int p3), .val (.int (6 : Int32)), .val (.int (p2.toInt8.toInt32)), .val (.int i)] [(.int i), (.ref tb)])) _
    refine X0.baloadBytes hx (j := i) (v := (.int (bs.getD i.toNatClampNeg 0))) (by rw [e0]; exact Ac1.1) (State.isArrayOf_alike hZ.alike Ac1.2.1) Ac1.2.2 hinc1 (Has.at Hc1 hinc1 (own_get bs _)) (g := (mkF m 16 #[.val (.ref tb), .val (.int p2), .val (.int p3), .val (.int (6 : Int32)), .val (.int (p2.toInt8.toInt32)), .val (.int i)] [(.int i), (.ref tb)])) rfl rfl (hb hby d19_16) _ ?_
    show Steps p.tables e below (T0.setTop (mkF m 17 #[.val (.ref tb), .val (.int p2), .val (.int p3), .val (.int (6 : Int32)), .val (.int (p2.toInt8.toInt32)), .val (.int i)] [(.int (bs.getD i.toNatClampNeg 0))])) _
    refine XS.iload X0.here hx rfl (hb hby d19_17) rfl ?_
    show Steps p.tables e below (T0.setTop (mkF m 19 #[.val (.ref tb), .val (.int p2), .val (.int p3), .val (.int (6 : Int32)), .val (.int (p2.toInt8.toInt32)), .val (.int i)] [(.int (p2.toInt8.toInt32)), (.int (bs.getD i.toNatClampNeg 0))])) _
    refine XS.icmpNo X0.here hx rfl (hb hby d19_19) rfl (teq hne).2 ?_
    exact kt
  exact ⟨T0, X0, e0, pre2⟩
set_option maxRecDepth 65536 in
set_option maxHeartbeats 40000000 in
theorem own_ioE {p : Program} {l : Launch} {e : Env} {R : Room} {s : State} {m : MethodId} {args : Array Value} {below : List Frame} {meth : Method} {c : Code} {T0 : State} {locs : List Loc} {cells slots : Nat} {Z : State} {a0 : Array Value} {h0 : Heap} {n0 : Nat} (tb : Addr) (kb : ClassId) (bs : List Int32) (p2 : Int32) (p3 : Int32) (i : Int32)
    (X0 : Stand p l e R s m args below meth c T0 locs cells slots) (hx : p.tables.exec = Jvm.exec) (hZ : Z.Warmed39 s.vm) (hw : ∀ d ∈ tables_1, d.before a0 Z = true) (hby : c.code = jdk_43_method_23_code) (hml : c.maxLocals = 6) (hown : s.vm.findClass nm4 = some m.cls) (e0 : T0.heap = h0) (N0 : Fr n0 locs) (Z0 : n0 ≤ h0.size) (hge : ¬ (i < (6 : Int32))) :
    ∃ T' : State, Stand p l e R s m args below meth c T' locs cells slots ∧ T'.heap = h0 ∧ ∀ t, Steps p.tables e below (T'.setTop (mkF m 31 #[.val (.ref tb), .val (.int p2), .val (.int p3), .val (.int (6 : Int32)), .val (.int (p2.toInt8.toInt32)), .val (.int i)] [])) t → Steps p.tables e below (T0.setTop (mkF m 7 #[.val (.ref tb), .val (.int p2), .val (.int p3), .val (.int (6 : Int32)), .val (.int (p2.toInt8.toInt32)), .val (.int i)] [])) t := by
  have pre0 : ∀ t, Steps p.tables e below (T0.setTop (mkF m 7 #[.val (.ref tb), .val (.int p2), .val (.int p3), .val (.int (6 : Int32)), .val (.int (p2.toInt8.toInt32)), .val (.int i)] [])) t → Steps p.tables e below (T0.setTop (mkF m 7 #[.val (.ref tb), .val (.int p2), .val (.int p3), .val (.int (6 : Int32)), .val (.int (p2.toInt8.toInt32)), .val (.int i)] [])) t := fun t k => k
  have pre1 : ∀ t, Steps p.tables e below (T0.setTop (mkF m 31 #[.val (.ref tb), .val (.int p2), .val (.int p3), .val (.int (6 : Int32)), .val (.int (p2.toInt8.toInt32)), .val (.int i)] [])) t → Steps p.tables e below (T0.setTop (mkF m 7 #[.val (.ref tb), .val (.int p2), .val (.int p3), .val (.int (6 : Int32)), .val (.int (p2.toInt8.toInt32)), .val (.int i)] [])) t := fun t kt => by
    refine pre0 t ?_
    show Steps p.tables e below (T0.setTop (mkF m 7 #[.val (.ref tb), .val (.int p2), .val (.int p3), .val (.int (6 : Int32)), .val (.int (p2.toInt8.toInt32)), .val (.int i)] [])) _
    refine XS.iload X0.here hx rfl (hb hby d19_7) rfl ?_
    show Steps p.tables e below (T0.setTop (mkF m 9 #[.val (.ref tb), .val (.int p2), .val (.int p3), .val (.int (6 : Int32)), .val (.int (p2.toInt8.toInt32)), .val (.int i)] [(.int i)])) _
    refine XS.iloadN X0.here hx rfl (hb hby d19_9) rfl ?_
    show Steps p.tables e below (T0.setTop (mkF m 10 #[.val (.ref tb), .val (.int p2), .val (.int p3), .val (.int (6 : Int32)), .val (.int (p2.toInt8.toInt32)), .val (.int i)] [(.int (6 : Int32)), (.int i)])) _
    refine XS.icmpYes X0.here hx rfl (pc0 := 10) (pc' := 31) rfl (hb hby d19_10) rfl (flt hge).2.1 (by decide) (by decide) ?_
    exact kt
  exact ⟨T0, X0, e0, pre1⟩
theorem own_io {p : Program} {l : Launch} {e : Env} {R : Room} {s : State} {m : MethodId} {args : Array Value} {below : List Frame} {meth : Method} {c : Code} {locs : List Loc} {cells slots : Nat} {Z : State} {a0 : Array Value} {h0 : Heap} {n0 : Nat} (tb : Addr) (kb : ClassId) (bs : List Int32) (p2 p3 : Int32) (hx : p.tables.exec = Jvm.exec) (hZ : Z.Warmed39 s.vm) (hw : ∀ d ∈ tables_1, d.before a0 Z = true) (hby : c.code = jdk_43_method_23_code) (hml : c.maxLocals = 6) (hown : s.vm.findClass nm4 = some m.cls) (N0 : Fr n0 locs) (Z0 : n0 ≤ h0.size) (V : Arv Z h0 tb kb .byte (6 : Int32) (bs.map Value.int) (.int (0 : Int32))) :
    ∀ (f : Nat) (T0 : State) (i : Int32), Stand p l e R s m args below meth c T0 locs cells slots → T0.heap = h0 → 0 ≤ i.toInt → i.toInt < 50 → 6 - i.toInt ≤ f →
      ∃ (T' : State) (i' : Int32), Stand p l e R s m args below meth c T' locs cells slots ∧ T'.heap = h0 ∧ ((i.toInt ≤ i'.toInt ∧ i'.toInt < 6 ∧ bs.getD i'.toNatClampNeg 0 = (p2.toInt8.toInt32) ∧ ∀ t', Steps p.tables e below (T'.setTop (mkF m 22 #[.val (.ref tb), .val (.int p2), .val (.int p3), .val (.int (6 : Int32)), .val (.int (p2.toInt8.toInt32)), .val (.int i')] [])) t' → Steps p.tables e below (T0.setTop (mkF m 7 #[.val (.ref tb), .val (.int p2), .val (.int p3), .val (.int (6 : Int32)), .val (.int (p2.toInt8.toInt32)), .val (.int i)] [])) t') ∨ ∀ t', Steps p.tables e below (T'.setTop (mkF m 31 #[.val (.ref tb), .val (.int p2), .val (.int p3), .val (.int (6 : Int32)), .val (.int (p2.toInt8.toInt32)), .val (.int i')] [])) t' → Steps p.tables e below (T0.setTop (mkF m 7 #[.val (.ref tb), .val (.int p2), .val (.int p3), .val (.int (6 : Int32)), .val (.int (p2.toInt8.toInt32)), .val (.int i)] [])) t') := by
  intro f
  induction f with
  | zero =>
    intro T0 i X0 e0 h1 h3 h2
    obtain ⟨T1, X1, e1, st⟩ := own_ioE tb kb bs p2 p3 i X0 hx hZ hw hby hml hown e0 N0 Z0 (own_ge6 (by omega))
    exact ⟨T1, i, X1, e1, Or.inr st⟩
  | succ f ih =>
    intro T0 i X0 e0 h1 h3 h2
    by_cases hi : i.toInt < 6
    · by_cases hq : bs.getD i.toNatClampNeg 0 = (p2.toInt8.toInt32)
      · obtain ⟨T1, X1, e1, st⟩ := own_ioF tb kb bs p2 p3 i X0 hx hZ hw hby hml hown e0 N0 Z0 V ⟨own_i0 h1, own_lt6 hi⟩ hq
        exact ⟨T1, i, X1, e1, Or.inl ⟨Int.le_refl _, hi, hq, st⟩⟩
      · obtain ⟨T1, X1, e1, st⟩ := own_ioT tb kb bs p2 p3 i X0 hx hZ hw hby hml hown e0 N0 Z0 V ⟨own_i0 h1, own_lt6 hi⟩ hq
        have ei := own_inc h1 (by omega)
        obtain ⟨T2, i2, X2, e2, q⟩ := ih T1 (i + (1 : Int32)) X1 e1 (by omega) (by omega) (by omega)
        refine ⟨T2, i2, X2, e2, ?_⟩
        rcases q with ⟨q1, q2, q3, q4⟩ | q4
        · exact Or.inl ⟨by omega, q2, q3, fun t' kt => st t' (q4 t' kt)⟩
        · exact Or.inr fun t' kt => st t' (q4 t' kt)
    · obtain ⟨T1, X1, e1, st⟩ := own_ioE tb kb bs p2 p3 i X0 hx hZ hw hby hml hown e0 N0 Z0 (own_ge6 hi)
      exact ⟨T1, i, X1, e1, Or.inr st⟩
theorem d19_0 : decode jdk_43_method_23_code 0 = .ok (.iload_n 1, 1) := by decide +kernel
theorem d19_1 : decode jdk_43_method_23_code 1 = .ok (.i2b, 1) := by decide +kernel
theorem d19_2 : decode jdk_43_method_23_code 2 = .ok (.istore 4, 2) := by decide +kernel
theorem d19_4 : decode jdk_43_method_23_code 4 = .ok (.iload_n 2, 1) := by decide +kernel
theorem d19_5 : decode jdk_43_method_23_code 5 = .ok (.istore 5, 2) := by decide +kernel
theorem d19_22 : decode jdk_43_method_23_code 22 = .ok (.iload 5, 2) := by decide +kernel
theorem d19_24 : decode jdk_43_method_23_code 24 = .ok (.ireturn, 1) := by decide +kernel
theorem d19_31 : decode jdk_43_method_23_code 31 = .ok (.iconst (-1), 1) := by decide +kernel
theorem d19_32 : decode jdk_43_method_23_code 32 = .ok (.ireturn, 1) := by decide +kernel
theorem ef_rm19 (m : MethodId) (tb : Addr) (p2 : Int32) (p3 : Int32) : entryFrame m #[(.ref tb), (.int p2), (.int p3), (.int (6 : Int32))] 6 = mkF m 0 #[.val (.ref tb), .val (.int p2), .val (.int p3), .val (.int (6 : Int32)), .unset, .unset] [] := by first | (simp [entryFrame, mkF, argsToLocals, Value.category]; done) | rfl
def Q_rm19 (Z : State) (tb : Addr) (p2 : Int32) (p3 : Int32) (kb : ClassId) (bs : List Int32) (h0 : Heap) (n0 : Nat) (v : Option Value) (h : Heap) (L : List Loc) : Prop := ∃ r : Int32, v = some (.int r) ∧ Fr n0 L ∧ h = h0 ∧ (r.toInt < 0 ∨ (p3.toInt ≤ r.toInt ∧ r.toInt < 6 ∧ bs.getD r.toNatClampNeg 0 = p2.toInt8.toInt32))
set_option maxRecDepth 65536 in
set_option maxHeartbeats 40000000 in
theorem rm19 (l : Launch) (Z : State) (a0 : Array Value) (hw : ∀ d ∈ tables_1, d.before a0 Z = true) (ws : List Jvm.Cond) (tb : Addr) (p2 : Int32) (p3 : Int32) (kb : ClassId) (bs : List Int32) (h0 : Heap) (n0 : Nat) (Z0 : n0 ≤ h0.size) (V_tb : Arv Z h0 tb kb .byte (6 : Int32) (bs.map Value.int) (.int (0 : Int32))) (h3 : 0 ≤ p3.toInt) (h4 : p3.toInt < 50) :
    MetFree l (⟨nm4, "indexOfChar", "([BIII)I"⟩ : MethodName) (head1 (Jvm.Cond.code (⟨nm4, "indexOfChar", "([BIII)I"⟩ : MethodName) jdk_43_method_23_code 6 (some .int) :: ws) ({ frames := 0, cells := 0, slots := 0, locals := 0 } : Room)) (fun a U => a = #[(.ref tb), (.int p2), (.int p3), (.int (6 : Int32))] ∧ Z.Warmed39 U.vm ∧ U.heap = h0) (fun _ _ _ _ _ => True) (fun _ U o U' => ∃ v L, o = .returned v ∧ Q_rm19 Z tb p2 p3 kb bs h0 n0 v U'.heap L ∧ FrameEnd U o U' L ({ frames := 0, cells := 0, slots := 0, locals := 0 } : Room).cells ({ frames := 0, cells := 0, slots := 0, locals := 0 } : Room).slots) := by
  refine MetFree.of_bodySF (plainFor_of_name pn_java_lang_StringLatin1) hisR ?_
  intro p e s m args below meth c s₁ Bd hml0 hP hK
  obtain ⟨rfl, hZ, hh⟩ := hP
  have hx := Bd.exec
  have hby := Bd.bytes
  have hml : c.maxLocals = 6 := hml0
  have hown : s.vm.findClass nm4 = some m.cls := findClass_of_methodNamed Bd.named
  have hnm := (name_of_methodNamed Bd.named Bd.method).1
  have X0 : Stand p l e ({ frames := 0, cells := 0, slots := 0, locals := 0 } : Room) s m #[(.ref tb), (.int p2), (.int p3), (.int (6 : Int32))] below meth c s₁ [] 0 0 := Stand.of_body Bd
  have e0 : s₁.heap = h0 := by rw [← hh, Bd.state]; rfl
  have N0 := Fr.nil n0
  have pre0 : ∀ t, Steps p.tables e below (s₁.setTop (mkF m 0 #[.val (.ref tb), .val (.int p2), .val (.int p3), .val (.int (6 : Int32)), .unset, .unset] [])) t → Steps p.tables e below (s₁.setTop (entryFrame m #[(.ref tb), (.int p2), (.int p3), (.int (6 : Int32))] 6)) t := fun t k => castTop (ef_rm19 m tb p2 p3) k
  have pre1 : ∀ t, Steps p.tables e below (s₁.setTop (mkF m 7 #[.val (.ref tb), .val (.int p2), .val (.int p3), .val (.int (6 : Int32)), .val (.int (p2.toInt8.toInt32)), .val (.int p3)] [])) t → Steps p.tables e below (s₁.setTop (entryFrame m #[(.ref tb), (.int p2), (.int p3), (.int (6 : Int32))] 6)) t := fun t kt => by
    refine pre0 t ?_
    show Steps p.tables e below (s₁.setTop (mkF m 0 #[.val (.ref tb), .val (.int p2), .val (.int p3), .val (.int (6 : Int32)), .unset, .unset] [])) _
    refine XS.iloadN X0.here hx rfl (hb hby d19_0) rfl ?_
    show Steps p.tables e below (s₁.setTop (mkF m 1 #[.val (.ref tb), .val (.int p2), .val (.int p3), .val (.int (6 : Int32)), .unset, .unset] [(.int p2)])) _
    refine XS.i2b X0.here hx rfl (hb hby d19_1) rfl ?_
    show Steps p.tables e below (s₁.setTop (mkF m 2 #[.val (.ref tb), .val (.int p2), .val (.int p3), .val (.int (6 : Int32)), .unset, .unset] [(.int (p2.toInt8.toInt32))])) _
    refine XS.istore X0.here hx rfl (hb hby d19_2) rfl (l' := #[.val (.ref tb), .val (.int p2), .val (.int p3), .val (.int (6 : Int32)), .val (.int (p2.toInt8.toInt32)), .unset]) rfl ?_
    show Steps p.tables e below (s₁.setTop (mkF m 4 #[.val (.ref tb), .val (.int p2), .val (.int p3), .val (.int (6 : Int32)), .val (.int (p2.toInt8.toInt32)), .unset] [])) _
    refine XS.iloadN X0.here hx rfl (hb hby d19_4) rfl ?_
    show Steps p.tables e below (s₁.setTop (mkF m 5 #[.val (.ref tb), .val (.int p2), .val (.int p3), .val (.int (6 : Int32)), .val (.int (p2.toInt8.toInt32)), .unset] [(.int p3)])) _
    refine XS.istore X0.here hx rfl (hb hby d19_5) rfl (l' := #[.val (.ref tb), .val (.int p2), .val (.int p3), .val (.int (6 : Int32)), .val (.int (p2.toInt8.toInt32)), .val (.int p3)]) rfl ?_
    exact kt
  obtain ⟨TL, i', XL, eL, hO⟩ := own_io tb kb bs p2 p3 hx hZ hw hby hml hown N0 Z0 V_tb 6 s₁ p3 X0 e0 h3 h4 (by omega)
  rcases hO with ⟨q1, q2, q3, stL⟩ | stL
  · obtain ⟨fs, hr, hrun, hended, hW, hsame⟩ := XL.leave (v := some (.int i')) (fun h => by rw [Bd.returns] at h; cases h)
    refine ⟨_, _, pre1 _ ?_, hrun, hended, _, _, rfl, ?_, ⟨_, rfl⟩, hW, hsame.mono (by decide) (by decide)⟩
    · refine stL _ ?_
      show Steps p.tables e below (TL.setTop (mkF m 22 #[.val (.ref tb), .val (.int p2), .val (.int p3), .val (.int (6 : Int32)), .val (.int (p2.toInt8.toInt32)), .val (.int i')] [])) _
      refine XS.iload XL.here hx rfl (hb hby d19_22) rfl ?_
      show Steps p.tables e below (TL.setTop (mkF m 24 #[.val (.ref tb), .val (.int p2), .val (.int p3), .val (.int (6 : Int32)), .val (.int (p2.toInt8.toInt32)), .val (.int i')] [(.int i')])) _
      exact retI XL hx Bd.returns (hb hby d19_24) hr
    · show Q_rm19 Z tb p2 p3 kb bs h0 n0 _ TL.heap _
      rw [eL]
      exact ⟨i', rfl, N0, rfl, (Or.inr ⟨q1, q2, q3⟩)⟩
  · obtain ⟨fs, hr, hrun, hended, hW, hsame⟩ := XL.leave (v := some (.int (-1 : Int32))) (fun h => by rw [Bd.returns] at h; cases h)
    refine ⟨_, _, pre1 _ ?_, hrun, hended, _, _, rfl, ?_, ⟨_, rfl⟩, hW, hsame.mono (by decide) (by decide)⟩
    · refine stL _ ?_
      show Steps p.tables e below (TL.setTop (mkF m 31 #[.val (.ref tb), .val (.int p2), .val (.int p3), .val (.int (6 : Int32)), .val (.int (p2.toInt8.toInt32)), .val (.int i')] [])) _
      refine XS.iconst XL.here hx rfl (hb hby d19_31) ?_
      show Steps p.tables e below (TL.setTop (mkF m 32 #[.val (.ref tb), .val (.int p2), .val (.int p3), .val (.int (6 : Int32)), .val (.int (p2.toInt8.toInt32)), .val (.int i')] [(.int (-1 : Int32))])) _
      exact retI XL hx Bd.returns (hb hby d19_32) hr
    · show Q_rm19 Z tb p2 p3 kb bs h0 n0 _ TL.heap _
      rw [eL]
      exact ⟨(-1 : Int32), rfl, N0, rfl, (Or.inl (by decide))⟩
theorem own_mx {p : Int32} (h : 0 ≤ p.toInt) : ¬ (p < (0 : Int32)) := own_i0 h
theorem d15_0 : decode jdk_43_method_22_code 0 = .ok (.iload_n 1, 1) := by decide +kernel
theorem pd__28I_29Z : parseMethodDescriptor "(I)Z" = some ⟨[.int], some .boolean⟩ := by decide +kernel
theorem d15_1 : decode jdk_43_method_22_code 1 = .ok (.invokestatic 88, 3) := by decide +kernel
theorem d15_4 : decode jdk_43_method_22_code 4 = .ok (.ifCond .ne 5, 3) := by decide +kernel
theorem d15_9 : decode jdk_43_method_22_code 9 = .ok (.iload_n 2, 1) := by decide +kernel
theorem d15_10 : decode jdk_43_method_22_code 10 = .ok (.iconst 0, 1) := by decide +kernel
theorem pd__28II_29I : parseMethodDescriptor "(II)I" = some ⟨[.int, .int], some .int⟩ := by decide +kernel
theorem d15_11 : decode jdk_43_method_22_code 11 = .ok (.invokestatic 92, 3) := by decide +kernel
theorem d15_14 : decode jdk_43_method_22_code 14 = .ok (.istore_n 2, 1) := by decide +kernel
theorem d15_15 : decode jdk_43_method_22_code 15 = .ok (.iload_n 3, 1) := by decide +kernel
theorem d15_16 : decode jdk_43_method_22_code 16 = .ok (.aload_n 0, 1) := by decide +kernel
theorem d15_17 : decode jdk_43_method_22_code 17 = .ok (.arraylength, 1) := by decide +kernel
theorem d15_18 : decode jdk_43_method_22_code 18 = .ok (.invokestatic 38, 3) := by decide +kernel
theorem d15_21 : decode jdk_43_method_22_code 21 = .ok (.istore_n 3, 1) := by decide +kernel
theorem d15_22 : decode jdk_43_method_22_code 22 = .ok (.iload_n 2, 1) := by decide +kernel
theorem d15_23 : decode jdk_43_method_22_code 23 = .ok (.iload_n 3, 1) := by decide +kernel
theorem d15_24 : decode jdk_43_method_22_code 24 = .ok (.if_icmp .lt 5, 3) := by decide +kernel
theorem d15_29 : decode jdk_43_method_22_code 29 = .ok (.aload_n 0, 1) := by decide +kernel
theorem d15_30 : decode jdk_43_method_22_code 30 = .ok (.iload_n 1, 1) := by decide +kernel
theorem d15_31 : decode jdk_43_method_22_code 31 = .ok (.iload_n 2, 1) := by decide +kernel
theorem d15_32 : decode jdk_43_method_22_code 32 = .ok (.iload_n 3, 1) := by decide +kernel
theorem pd__28_5bBIII_29I : parseMethodDescriptor "([BIII)I" = some ⟨[(.array .byte), .int, .int, .int], some .int⟩ := by decide +kernel
theorem d15_33 : decode jdk_43_method_22_code 33 = .ok (.invokestatic 95, 3) := by decide +kernel
theorem d15_36 : decode jdk_43_method_22_code 36 = .ok (.ireturn, 1) := by decide +kernel
theorem d15_27 : decode jdk_43_method_22_code 27 = .ok (.iconst (-1), 1) := by decide +kernel
theorem d15_28 : decode jdk_43_method_22_code 28 = .ok (.ireturn, 1) := by decide +kernel
theorem ef_rm15 (m : MethodId) (tb : Addr) (p2 : Int32) (p3 : Int32) : entryFrame m #[(.ref tb), (.int p2), (.int p3), (.int (6 : Int32))] 4 = mkF m 0 #[.val (.ref tb), .val (.int p2), .val (.int p3), .val (.int (6 : Int32))] [] := by first | (simp [entryFrame, mkF, argsToLocals, Value.category]; done) | rfl
def Q_rm15 (Z : State) (tb : Addr) (p2 : Int32) (p3 : Int32) (kb : ClassId) (bs : List Int32) (h0 : Heap) (n0 : Nat) (v : Option Value) (h : Heap) (L : List Loc) : Prop := ∃ r : Int32, v = some (.int r) ∧ Fr n0 L ∧ h = h0 ∧ (r.toInt < 0 ∨ (p3.toInt ≤ r.toInt ∧ r.toInt < 6 ∧ bs.getD r.toNatClampNeg 0 = p2.toInt8.toInt32))
set_option maxRecDepth 65536 in
set_option maxHeartbeats 40000000 in
theorem rm15 (l : Launch) (Z : State) (a0 : Array Value) (hw : ∀ d ∈ tables_1, d.before a0 Z = true) (ws : List Jvm.Cond) (tb : Addr) (p2 : Int32) (p3 : Int32) (kb : ClassId) (bs : List Int32) (h0 : Heap) (n0 : Nat) (Z0 : n0 ≤ h0.size) (V_tb : Arv Z h0 tb kb .byte (6 : Int32) (bs.map Value.int) (.int (0 : Int32))) (hlo : ¬ (p2 < (0 : Int32))) (hhi : ¬ ((255 : Int32) < p2)) (h3 : 0 ≤ p3.toInt) (h4 : p3.toInt < 50) :
    MetFree l (⟨nm4, "indexOf", "([BIII)I"⟩ : MethodName) (head1 (Jvm.Cond.code (⟨nm4, "indexOf", "([BIII)I"⟩ : MethodName) jdk_43_method_22_code 4 (some .int) :: ws) ({ frames := 1, cells := 0, slots := 0, locals := 17 } : Room)) (fun a U => a = #[(.ref tb), (.int p2), (.int p3), (.int (6 : Int32))] ∧ Z.Warmed39 U.vm ∧ U.heap = h0) (fun _ _ _ _ _ => True) (fun _ U o U' => ∃ v L, o = .returned v ∧ Q_rm15 Z tb p2 p3 kb bs h0 n0 v U'.heap L ∧ FrameEnd U o U' L ({ frames := 1, cells := 0, slots := 0, locals := 17 } : Room).cells ({ frames := 1, cells := 0, slots := 0, locals := 17 } : Room).slots) := by
  refine MetFree.of_bodySF (plainFor_of_name pn_java_lang_StringLatin1) hisR ?_
  intro p e s m args below meth c s₁ Bd hml0 hP hK
  obtain ⟨rfl, hZ, hh⟩ := hP
  have hx := Bd.exec
  have hby := Bd.bytes
  have hml : c.maxLocals = 4 := hml0
  have hown : s.vm.findClass nm4 = some m.cls := findClass_of_methodNamed Bd.named
  have hnm := (name_of_methodNamed Bd.named Bd.method).1
  have X0 : Stand p l e ({ frames := 1, cells := 0, slots := 0, locals := 17 } : Room) s m #[(.ref tb), (.int p2), (.int p3), (.int (6 : Int32))] below meth c s₁ [] 0 0 := Stand.of_body Bd
  have e0 : s₁.heap = h0 := by rw [← hh, Bd.state]; rfl
  have N0 := Fr.nil n0
  have pre0 : ∀ t, Steps p.tables e below (s₁.setTop (mkF m 0 #[.val (.ref tb), .val (.int p2), .val (.int p3), .val (.int (6 : Int32))] [])) t → Steps p.tables e below (s₁.setTop (entryFrame m #[(.ref tb), (.int p2), (.int p3), (.int (6 : Int32))] 4)) t := fun t k => castTop (ef_rm15 m tb p2 p3) k
  obtain ⟨_, _, ⟨T1, L1, k1, n1⟩, -, X1, ⟨Lc1, hQ1, l1, y1, z1⟩, st1⟩ := Jvm.LawKit.callS X0 hx (y := (⟨nm4, "canEncode", "(I)Z"⟩ : MethodName)) hown (mvT hZ (own_w hw 70 rfl)) (mvT hZ (own_w hw 71 rfl)) (mvT hZ (own_w hw 68 rfl)) (mvT hZ (own_w hw 72 rfl)) (by decide) (backOf (W := 0) (rm16 l Z a0 hw [] p2 h0 n0 Z0 hlo hhi) hZ (own_w hw 72 rfl) (own_w hw 68 rfl) (by decide) (by decide)) (g := (mkF m 1 #[.val (.ref tb), .val (.int p2), .val (.int p3), .val (.int (6 : Int32))] [(.int p2)])) rfl (by rw [hml]; rfl) (argsL := [(.int p2)]) (rest := []) (lenOf pd__28I_29Z rfl) rfl (by show 2 * 0 + _ ≤ _; exact Nat.le_of_eq rfl) (hb hby d15_1) (fun _ _ => ⟨rfl, e0, (by decide : 0 + 0 ≤ _), (by decide : 0 + 0 ≤ _)⟩)
  dsimp only [Pt.U, Pt.locs, Pt.cells, Pt.slots] at y1 z1 st1 hQ1
  change Stand p l e _ s m _ below meth c T1 L1 k1 n1 at X1
  change L1 = _ ++ Lc1 at l1
  subst y1 z1
  obtain ⟨rfl, N1q, e1⟩ := hQ1
  have N1 : Fr n0 L1 := l1 ▸ Fr.app N0 N1q
  obtain ⟨_, _, ⟨T2, L2, k2, n2⟩, -, X2, ⟨Lc2, hQ2, l2, y2, z2⟩, st2⟩ := Jvm.LawKit.callS X1 hx (y := (⟨"java/lang/Math", "max", "(II)I"⟩ : MethodName)) hown (mvT hZ (own_w hw 73 rfl)) (mvT hZ (own_w hw 74 rfl)) (mvT hZ (own_w hw 75 rfl)) (mvT hZ (own_w hw 76 rfl)) (by decide) (backOf (W := 0) (rm17 l Z a0 hw [] p3 (0 : Int32) h0 n0 Z0 (own_mx h3)) hZ (own_w hw 76 rfl) (own_w hw 75 rfl) (by decide) (by decide)) (g := (mkF m 11 #[.val (.ref tb), .val (.int p2), .val (.int p3), .val (.int (6 : Int32))] [(.int (0 : Int32)), (.int p3)])) rfl (by rw [hml]; rfl) (argsL := [(.int p3), (.int (0 : Int32))]) (rest := []) (lenOf pd__28II_29I rfl) rfl (by show 2 * 0 + _ ≤ _; exact Nat.le_of_eq rfl) (hb hby d15_11) (fun _ _ => ⟨rfl, e1, (by decide : 0 + 0 ≤ _), (by decide : 0 + 0 ≤ _)⟩)
  dsimp only [Pt.U, Pt.locs, Pt.cells, Pt.slots] at y2 z2 st2 hQ2
  change Stand p l e _ s m _ below meth c T2 L2 k2 n2 at X2
  change L2 = _ ++ Lc2 at l2
  subst y2 z2
  obtain ⟨rfl, N2q, e2⟩ := hQ2
  have N2 : Fr n0 L2 := l2 ▸ Fr.app N1 N2q
  obtain ⟨c3, Ac3, -, Sc3, Nc3, -, -⟩ := id V_tb
  obtain ⟨_, _, ⟨T4, L4, k4, n4⟩, -, X4, ⟨Lc4, hQ4, l4, y4, z4⟩, st4⟩ := Jvm.LawKit.callS X2 hx (y := (⟨"java/lang/Math", "min", "(II)I"⟩ : MethodName)) hown (mvT hZ (own_w hw 77 rfl)) (mvT hZ (own_w hw 78 rfl)) (mvT hZ (own_w hw 75 rfl)) (mvT hZ (own_w hw 79 rfl)) (by decide) (backOf (W := 0) (rm18 l Z a0 hw [] (6 : Int32) (6 : Int32) h0 n0 Z0 (by decide)) hZ (own_w hw 79 rfl) (own_w hw 75 rfl) (by decide) (by decide)) (g := (mkF m 18 #[.val (.ref tb), .val (.int p2), .val (.int p3), .val (.int (6 : Int32))] [(.int (6 : Int32)), (.int (6 : Int32))])) rfl (by rw [hml]; rfl) (argsL := [(.int (6 : Int32)), (.int (6 : Int32))]) (rest := []) (lenOf pd__28II_29I rfl) rfl (by show 2 * 0 + _ ≤ _; exact Nat.le_of_eq rfl) (hb hby d15_18) (fun _ _ => ⟨rfl, e2, (by decide : 0 + 0 ≤ _), (by decide : 0 + 0 ≤ _)⟩)
  dsimp only [Pt.U, Pt.locs, Pt.cells, Pt.slots] at y4 z4 st4 hQ4
  change Stand p l e _ s m _ below meth c T4 L4 k4 n4 at X4
  change L4 = _ ++ Lc4 at l4
  subst y4 z4
  obtain ⟨rfl, N4q, e4⟩ := hQ4
  have N4 : Fr n0 L4 := l4 ▸ Fr.app N2 N4q
  have pre6 : ∀ t, Steps p.tables e below (T4.setTop (mkF m 24 #[.val (.ref tb), .val (.int p2), .val (.int p3), .val (.int (6 : Int32))] [(.int (6 : Int32)), (.int p3)])) t → Steps p.tables e below (s₁.setTop (entryFrame m #[(.ref tb), (.int p2), (.int p3), (.int (6 : Int32))] 4)) t := fun t kt => by
    refine pre0 t ?_
    show Steps p.tables e below (s₁.setTop (mkF m 0 #[.val (.ref tb), .val (.int p2), .val (.int p3), .val (.int (6 : Int32))] [])) _
    refine XS.iloadN X0.here hx rfl (hb hby d15_0) rfl ?_
    show Steps p.tables e below (s₁.setTop (mkF m 1 #[.val (.ref tb), .val (.int p2), .val (.int p3), .val (.int (6 : Int32))] [(.int p2)])) _
    refine st1 _ ?_
    show Steps p.tables e below (T1.setTop (mkF m 4 #[.val (.ref tb), .val (.int p2), .val (.int p3), .val (.int (6 : Int32))] [(.int (1 : Int32))])) _
    refine XS.ifYes X1.here hx rfl (pc0 := 4) (pc' := 9) rfl (hb hby d15_4) rfl ((if0 _ _).trans (feq (by decide : ¬ ((1 : Int32) = (0 : Int32)))).2) (by decide) (by decide) ?_
    show Steps p.tables e below (T1.setTop (mkF m 9 #[.val (.ref tb), .val (.int p2), .val (.int p3), .val (.int (6 : Int32))] [])) _
    refine XS.iloadN X1.here hx rfl (hb hby d15_9) rfl ?_
    show Steps p.tables e below (T1.setTop (mkF m 10 #[.val (.ref tb), .val (.int p2), .val (.int p3), .val (.int (6 : Int32))] [(.int p3)])) _
    refine XS.iconst X1.here hx rfl (hb hby d15_10) ?_
    show Steps p.tables e below (T1.setTop (mkF m 11 #[.val (.ref tb), .val (.int p2), .val (.int p3), .val (.int (6 : Int32))] [(.int (0 : Int32)), (.int p3)])) _
    refine st2 _ ?_
    show Steps p.tables e below (T2.setTop (mkF m 14 #[.val (.ref tb), .val (.int p2), .val (.int p3), .val (.int (6 : Int32))] [(.int p3)])) _
    refine XS.istoreN X2.here hx rfl (hb hby d15_14) rfl (l' := #[.val (.ref tb), .val (.int p2), .val (.int p3), .val (.int (6 : Int32))]) rfl ?_
    show Steps p.tables e below (T2.setTop (mkF m 15 #[.val (.ref tb), .val (.int p2), .val (.int p3), .val (.int (6 : Int32))] [])) _
    refine XS.iloadN X2.here hx rfl (hb hby d15_15) rfl ?_
    show Steps p.tables e below (T2.setTop (mkF m 16 #[.val (.ref tb), .val (.int p2), .val (.int p3), .val (.int (6 : Int32))] [(.int (6 : Int32))])) _
    refine XS.aloadN X2.here hx rfl (hb hby d15_16) rfl rfl ?_
    show Steps p.tables e below (T2.setTop (mkF m 17 #[.val (.ref tb), .val (.int p2), .val (.int p3), .val (.int (6 : Int32))] [(.ref tb), (.int (6 : Int32))])) _
    refine X2.arraylength hx (by rw [e2]; exact Ac3.1) (State.isArrayOf_alike hZ.alike Ac3.2.1) (g := (mkF m 17 #[.val (.ref tb), .val (.int p2), .val (.int p3), .val (.int (6 : Int32))] [(.ref tb), (.int (6 : Int32))])) rfl rfl (hb hby d15_17) _ ?_
    rw [len_of Sc3 Nc3]
    show Steps p.tables e below (T2.setTop (mkF m 18 #[.val (.ref tb), .val (.int p2), .val (.int p3), .val (.int (6 : Int32))] [(.int (6 : Int32)), (.int (6 : Int32))])) _
    refine st4 _ ?_
    show Steps p.tables e below (T4.setTop (mkF m 21 #[.val (.ref tb), .val (.int p2), .val (.int p3), .val (.int (6 : Int32))] [(.int (6 : Int32))])) _
    refine XS.istoreN X4.here hx rfl (hb hby d15_21) rfl (l' := #[.val (.ref tb), .val (.int p2), .val (.int p3), .val (.int (6 : Int32))]) rfl ?_
    show Steps p.tables e below (T4.setTop (mkF m 22 #[.val (.ref tb), .val (.int p2), .val (.int p3), .val (.int (6 : Int32))] [])) _
    refine XS.iloadN X4.here hx rfl (hb hby d15_22) rfl ?_
    show Steps p.tables e below (T4.setTop (mkF m 23 #[.val (.ref tb), .val (.int p2), .val (.int p3), .val (.int (6 : Int32))] [(.int p3)])) _
    refine XS.iloadN X4.here hx rfl (hb hby d15_23) rfl ?_
    exact kt
  by_cases hc24_5 : p3 < (6 : Int32)
  · obtain ⟨_, _, ⟨T7, L7, k7, n7⟩, -, X7, ⟨Lc7, hQ7, l7, y7, z7⟩, st7⟩ := Jvm.LawKit.callS X4 hx (y := (⟨nm4, "indexOfChar", "([BIII)I"⟩ : MethodName)) hown (mvT hZ (own_w hw 80 rfl)) (mvT hZ (own_w hw 81 rfl)) (mvT hZ (own_w hw 68 rfl)) (mvT hZ (own_w hw 82 rfl)) (by decide) (backOf (W := 0) (rm19 l Z a0 hw [] tb p2 p3 kb bs h0 n0 Z0 V_tb h3 h4) hZ (own_w hw 82 rfl) (own_w hw 68 rfl) (by decide) (by decide)) (g := (mkF m 33 #[.val (.ref tb), .val (.int p2), .val (.int p3), .val (.int (6 : Int32))] [(.int (6 : Int32)), (.int p3), (.int p2), (.ref tb)])) rfl (by rw [hml]; rfl) (argsL := [(.ref tb), (.int p2), (.int p3), (.int (6 : Int32))]) (rest := []) (lenOf pd__28_5bBIII_29I rfl) rfl (by show 2 * 0 + _ ≤ _; exact Nat.le_of_eq rfl) (hb hby d15_33) (fun _ _ => ⟨rfl, e4, (by decide : 0 + 0 ≤ _), (by decide : 0 + 0 ≤ _)⟩)
    dsimp only [Pt.U, Pt.locs, Pt.cells, Pt.slots] at y7 z7 st7 hQ7
    change Stand p l e _ s m _ below meth c T7 L7 k7 n7 at X7
    change L7 = _ ++ Lc7 at l7
    subst y7 z7
    obtain ⟨r_7, rfl, N7q, e7, t7_0⟩ := hQ7
    have N7 : Fr n0 L7 := l7 ▸ Fr.app N4 N7q
    obtain ⟨fs, hr, hrun, hended, hW, hsame⟩ := X7.leave (v := some (.int r_7)) (fun h => by rw [Bd.returns] at h; cases h)
    refine ⟨_, _, pre6 _ ?_, hrun, hended, _, _, rfl, ?_, ⟨_, rfl⟩, hW, hsame.mono (by decide) (by decide)⟩
    · show Steps p.tables e below (T4.setTop (mkF m 24 #[.val (.ref tb), .val (.int p2), .val (.int p3), .val (.int (6 : Int32))] [(.int (6 : Int32)), (.int p3)])) _
      refine XS.icmpYes X4.here hx rfl (pc0 := 24) (pc' := 29) rfl (hb hby d15_24) rfl (tlt hc24_5).1 (by decide) (by decide) ?_
      show Steps p.tables e below (T4.setTop (mkF m 29 #[.val (.ref tb), .val (.int p2), .val (.int p3), .val (.int (6 : Int32))] [])) _
      refine XS.aloadN X4.here hx rfl (hb hby d15_29) rfl rfl ?_
      show Steps p.tables e below (T4.setTop (mkF m 30 #[.val (.ref tb), .val (.int p2), .val (.int p3), .val (.int (6 : Int32))] [(.ref tb)])) _
      refine XS.iloadN X4.here hx rfl (hb hby d15_30) rfl ?_
      show Steps p.tables e below (T4.setTop (mkF m 31 #[.val (.ref tb), .val (.int p2), .val (.int p3), .val (.int (6 : Int32))] [(.int p2), (.ref tb)])) _
      refine XS.iloadN X4.here hx rfl (hb hby d15_31) rfl ?_
      show Steps p.tables e below (T4.setTop (mkF m 32 #[.val (.ref tb), .val (.int p2), .val (.int p3), .val (.int (6 : Int32))] [(.int p3), (.int p2), (.ref tb)])) _
      refine XS.iloadN X4.here hx rfl (hb hby d15_32) rfl ?_
      show Steps p.tables e below (T4.setTop (mkF m 33 #[.val (.ref tb), .val (.int p2), .val (.int p3), .val (.int (6 : Int32))] [(.int (6 : Int32)), (.int p3), (.int p2), (.ref tb)])) _
      refine st7 _ ?_
      show Steps p.tables e below (T7.setTop (mkF m 36 #[.val (.ref tb), .val (.int p2), .val (.int p3), .val (.int (6 : Int32))] [(.int r_7)])) _
      exact retI X7 hx Bd.returns (hb hby d15_36) hr
    · show Q_rm15 Z tb p2 p3 kb bs h0 n0 _ T7.heap _
      rw [e7]
      exact ⟨r_7, rfl, N7, rfl, t7_0⟩
  · obtain ⟨fs, hr, hrun, hended, hW, hsame⟩ := X4.leave (v := some (.int (-1 : Int32))) (fun h => by rw [Bd.returns] at h; cases h)
    refine ⟨_, _, pre6 _ ?_, hrun, hended, _, _, rfl, ?_, ⟨_, rfl⟩, hW, hsame.mono (by decide) (by decide)⟩
    · show Steps p.tables e below (T4.setTop (mkF m 24 #[.val (.ref tb), .val (.int p2), .val (.int p3), .val (.int (6 : Int32))] [(.int (6 : Int32)), (.int p3)])) _
      refine XS.icmpNo X4.here hx rfl (hb hby d15_24) rfl (flt hc24_5).1 ?_
      show Steps p.tables e below (T4.setTop (mkF m 27 #[.val (.ref tb), .val (.int p2), .val (.int p3), .val (.int (6 : Int32))] [])) _
      refine XS.iconst X4.here hx rfl (hb hby d15_27) ?_
      show Steps p.tables e below (T4.setTop (mkF m 28 #[.val (.ref tb), .val (.int p2), .val (.int p3), .val (.int (6 : Int32))] [(.int (-1 : Int32))])) _
      exact retI X4 hx Bd.returns (hb hby d15_28) hr
    · show Q_rm15 Z tb p2 p3 kb bs h0 n0 _ T4.heap _
      rw [e4]
      exact ⟨(-1 : Int32), rfl, N4, rfl, (Or.inl (by decide))⟩
theorem d11_0 : decode jdk_42_method_80_code 0 = .ok (.aload_n 0, 1) := by decide +kernel
theorem pd__28_29Z : parseMethodDescriptor "()Z" = some ⟨[], some .boolean⟩ := by decide +kernel
theorem d11_1 : decode jdk_42_method_80_code 1 = .ok (.invokevirtual 492, 3) := by decide +kernel
theorem d11_4 : decode jdk_42_method_80_code 4 = .ok (.ifCond .eq 19, 3) := by decide +kernel
theorem d11_7 : decode jdk_42_method_80_code 7 = .ok (.aload_n 0, 1) := by decide +kernel
theorem d11_8 : decode jdk_42_method_80_code 8 = .ok (.getfield 9, 3) := by decide +kernel
theorem d11_11 : decode jdk_42_method_80_code 11 = .ok (.iload_n 1, 1) := by decide +kernel
theorem d11_12 : decode jdk_42_method_80_code 12 = .ok (.iload_n 2, 1) := by decide +kernel
theorem d11_13 : decode jdk_42_method_80_code 13 = .ok (.aload_n 0, 1) := by decide +kernel
theorem pd__28_29I : parseMethodDescriptor "()I" = some ⟨[], some .int⟩ := by decide +kernel
theorem d11_14 : decode jdk_42_method_80_code 14 = .ok (.invokevirtual 505, 3) := by decide +kernel
theorem d11_17 : decode jdk_42_method_80_code 17 = .ok (.invokestatic 637, 3) := by decide +kernel
theorem d11_20 : decode jdk_42_method_80_code 20 = .ok (.goto 16, 3) := by decide +kernel
theorem d11_36 : decode jdk_42_method_80_code 36 = .ok (.ireturn, 1) := by decide +kernel
theorem ef_rm11 (m : MethodId) (x : Addr) (p2 : Int32) (p3 : Int32) : entryFrame m #[(.ref x), (.int p2), (.int p3)] 3 = mkF m 0 #[.val (.ref x), .val (.int p2), .val (.int p3)] [] := by first | (simp [entryFrame, mkF, argsToLocals, Value.category]; done) | rfl
def Q_rm11 (Z : State) (x : Addr) (p2 : Int32) (p3 : Int32) (tb : Addr) (kb : ClassId) (bs : List Int32) (z0 : Int32) (h0 : Heap) (n0 : Nat) (v : Option Value) (h : Heap) (L : List Loc) : Prop := ∃ r : Int32, v = some (.int r) ∧ Fr n0 L ∧ h = h0 ∧ (r.toInt < 0 ∨ (p3.toInt ≤ r.toInt ∧ r.toInt < 6 ∧ bs.getD r.toNatClampNeg 0 = p2.toInt8.toInt32))
set_option maxRecDepth 65536 in
set_option maxHeartbeats 40000000 in
theorem rm11 (l : Launch) (Z : State) (a0 : Array Value) (hw : ∀ d ∈ tables_1, d.before a0 Z = true) (ws : List Jvm.Cond) (x : Addr) (p2 : Int32) (p3 : Int32) (tb : Addr) (kb : ClassId) (bs : List Int32) (z0 : Int32) (h0 : Heap) (n0 : Nat) (Z0 : n0 ≤ h0.size) (E_x : Exa Z h0 x nm1) (F_value_x : Fld Z h0 x nm1 "value" "[B" (.ref tb)) (F_coder_x : Fld Z h0 x nm1 "coder" "B" (.int (0 : Int32))) (V_tb : Arv Z h0 tb kb .byte (6 : Int32) (bs.map Value.int) (.int (0 : Int32))) (S_COMPACT_STRINGS : Sta Z h0 nm1 "COMPACT_STRINGS" "Z" (.int z0)) (hz : ¬ (z0 = (0 : Int32))) (hlo : ¬ (p2 < (0 : Int32))) (hhi : ¬ ((255 : Int32) < p2)) (h3 : 0 ≤ p3.toInt) (h4 : p3.toInt < 50) :
    MetFree l (⟨nm1, "indexOf", "(II)I"⟩ : MethodName) (head1 (Jvm.Cond.code (⟨nm1, "indexOf", "(II)I"⟩ : MethodName) jdk_42_method_80_code 3 (some .int) :: ws) ({ frames := 2, cells := 0, slots := 0, locals := 32 } : Room)) (fun a U => a = #[(.ref x), (.int p2), (.int p3)] ∧ Z.Warmed39 U.vm ∧ U.heap = h0) (fun _ _ _ _ _ => True) (fun _ U o U' => ∃ v L, o = .returned v ∧ Q_rm11 Z x p2 p3 tb kb bs z0 h0 n0 v U'.heap L ∧ FrameEnd U o U' L ({ frames := 2, cells := 0, slots := 0, locals := 32 } : Room).cells ({ frames := 2, cells := 0, slots := 0, locals := 32 } : Room).slots) := by
  refine MetFree.of_bodySF (plainFor_of_name pn_java_lang_String) hisR ?_
  intro p e s m args below meth c s₁ Bd hml0 hP hK
  obtain ⟨rfl, hZ, hh⟩ := hP
  have hx := Bd.exec
  have hby := Bd.bytes
  have hml : c.maxLocals = 3 := hml0
  have hown : s.vm.findClass nm1 = some m.cls := findClass_of_methodNamed Bd.named
  have hnm := (name_of_methodNamed Bd.named Bd.method).1
  have X0 : Stand p l e ({ frames := 2, cells := 0, slots := 0, locals := 32 } : Room) s m #[(.ref x), (.int p2), (.int p3)] below meth c s₁ [] 0 0 := Stand.of_body Bd
  have e0 : s₁.heap = h0 := by rw [← hh, Bd.state]; rfl
  have N0 := Fr.nil n0
  have pre0 : ∀ t, Steps p.tables e below (s₁.setTop (mkF m 0 #[.val (.ref x), .val (.int p2), .val (.int p3)] [])) t → Steps p.tables e below (s₁.setTop (entryFrame m #[(.ref x), (.int p2), (.int p3)] 3)) t := fun t k => castTop (ef_rm11 m x p2 p3) k
  obtain ⟨cq1, kq1, q1a, q1b, q1c⟩ := isOf hZ e0 E_x
  obtain ⟨_, _, ⟨T1, L1, k1, n1⟩, -, X1, ⟨Lc1, hQ1, l1, y1, z1⟩, st1⟩ := X0.virtualBack hx (y := (⟨nm1, "isLatin1", "()Z"⟩ : MethodName)) (z := (⟨nm1, "isLatin1", "()Z"⟩ : MethodName)) hown (mvT hZ (own_w hw 51 rfl)) (mvT hZ (own_w hw 52 rfl)) (notFace_of_selects (args := #[]) (mvT hZ (own_w hw 54 rfl))) (mvT hZ (own_w hw 54 rfl)) (mvT hZ (own_w hw 53 rfl)) (by decide) (backOf (W := 0) (rm12 l Z a0 hw [] x z0 h0 n0 Z0 F_coder_x S_COMPACT_STRINGS hz) hZ (own_w hw 55 rfl) (own_w hw 7 rfl) (by decide) (by decide)) q1a q1c (g := (mkF m 1 #[.val (.ref x), .val (.int p2), .val (.int p3)] [(.ref x)])) rfl (by rw [hml]; rfl) (Steps.refl _) (argsL := []) (rest := []) (lenOf pd__28_29Z rfl) rfl (by show 2 * 0 + _ ≤ _; exact Nat.le_of_eq rfl) (hb hby d11_1) (fun _ _ => ⟨rfl, e0, (by decide : 0 + 0 ≤ _), (by decide : 0 + 0 ≤ _)⟩)
  dsimp only [Pt.U, Pt.locs, Pt.cells, Pt.slots] at y1 z1 st1 hQ1
  change Stand p l e _ s m _ below meth c T1 L1 k1 n1 at X1
  change L1 = _ ++ Lc1 at l1
  subst y1 z1
  obtain ⟨rfl, N1q, e1⟩ := hQ1
  have N1 : Fr n0 L1 := l1 ▸ Fr.app N0 N1q
  obtain ⟨T2, X2, e2, st2⟩ := getF X1 hx hZ hown (host := "") (Or.inl (own_w hw 32 rfl)) Via.refl e1 F_value_x (g := (mkF m 8 #[.val (.ref x), .val (.int p2), .val (.int p3)] [(.ref x)])) rfl rfl (hb hby d11_8)
  obtain ⟨cq3, kq3, q3a, q3b, q3c⟩ := isOf hZ e2 E_x
  obtain ⟨_, _, ⟨T3, L3, k3, n3⟩, -, X3, ⟨Lc3, hQ3, l3, y3, z3⟩, st3⟩ := X2.virtualBack hx (y := (⟨nm1, "length", "()I"⟩ : MethodName)) (z := (⟨nm1, "length", "()I"⟩ : MethodName)) hown (mvT hZ (own_w hw 56 rfl)) (mvT hZ (own_w hw 57 rfl)) (notFace_of_selects (args := #[]) (mvT hZ (own_w hw 59 rfl))) (mvT hZ (own_w hw 59 rfl)) (mvT hZ (own_w hw 58 rfl)) (by decide) (backOf (W := 3) (rmlen6 l Z a0 hw [] x tb kb (bs.map Value.int) z0 h0 n0 Z0 E_x F_coder_x F_value_x V_tb S_COMPACT_STRINGS hz) hZ (own_w hw 60 rfl) (own_w hw 7 rfl) (by decide) (by decide)) q3a q3c (g := (mkF m 14 #[.val (.ref x), .val (.int p2), .val (.int p3)] [(.ref x), (.int p3), (.int p2), (.ref tb)])) rfl (by rw [hml]; rfl) (Steps.refl _) (argsL := []) (rest := [(.int p3), (.int p2), (.ref tb)]) (lenOf pd__28_29I rfl) rfl (by show 2 * 0 + _ ≤ _; exact Nat.le_of_eq rfl) (hb hby d11_14) (fun _ _ => ⟨rfl, e2, (by decide : 0 + 0 ≤ _), (by decide : 0 + 0 ≤ _)⟩)
  dsimp only [Pt.U, Pt.locs, Pt.cells, Pt.slots] at y3 z3 st3 hQ3
  change Stand p l e _ s m _ below meth c T3 L3 k3 n3 at X3
  change L3 = _ ++ Lc3 at l3
  subst y3 z3
  obtain ⟨rfl, N3q, e3⟩ := hQ3
  have N3 : Fr n0 L3 := l3 ▸ Fr.app N1 N3q
  obtain ⟨_, _, ⟨T4, L4, k4, n4⟩, -, X4, ⟨Lc4, hQ4, l4, y4, z4⟩, st4⟩ := Jvm.LawKit.callS X3 hx (y := (⟨nm4, "indexOf", "([BIII)I"⟩ : MethodName)) hown (mvT hZ (own_w hw 66 rfl)) (mvT hZ (own_w hw 67 rfl)) (mvT hZ (own_w hw 68 rfl)) (mvT hZ (own_w hw 69 rfl)) (by decide) (backOf (W := 0) (rm15 l Z a0 hw [] tb p2 p3 kb bs h0 n0 Z0 V_tb hlo hhi h3 h4) hZ (own_w hw 69 rfl) (own_w hw 68 rfl) (by decide) (by decide)) (g := (mkF m 17 #[.val (.ref x), .val (.int p2), .val (.int p3)] [(.int (6 : Int32)), (.int p3), (.int p2), (.ref tb)])) rfl (by rw [hml]; rfl) (argsL := [(.ref tb), (.int p2), (.int p3), (.int (6 : Int32))]) (rest := []) (lenOf pd__28_5bBIII_29I rfl) rfl (by show 2 * 0 + _ ≤ _; exact Nat.le_of_eq rfl) (hb hby d11_17) (fun _ _ => ⟨rfl, e3, (by decide : 0 + 0 ≤ _), (by decide : 0 + 0 ≤ _)⟩)
  dsimp only [Pt.U, Pt.locs, Pt.cells, Pt.slots] at y4 z4 st4 hQ4
  change Stand p l e _ s m _ below meth c T4 L4 k4 n4 at X4
  change L4 = _ ++ Lc4 at l4
  subst y4 z4
  obtain ⟨r_4, rfl, N4q, e4, t4_0⟩ := hQ4
  have N4 : Fr n0 L4 := l4 ▸ Fr.app N3 N4q
  obtain ⟨fs, hr, hrun, hended, hW, hsame⟩ := X4.leave (v := some (.int r_4)) (fun h => by rw [Bd.returns] at h; cases h)
  refine ⟨_, _, pre0 _ ?_, hrun, hended, _, _, rfl, ?_, ⟨_, rfl⟩, hW, hsame.mono (by decide) (by decide)⟩
  · show Steps p.tables e below (s₁.setTop (mkF m 0 #[.val (.ref x), .val (.int p2), .val (.int p3)] [])) _
    refine XS.aloadN X0.here hx rfl (hb hby d11_0) rfl rfl ?_
    show Steps p.tables e below (s₁.setTop (mkF m 1 #[.val (.ref x), .val (.int p2), .val (.int p3)] [(.ref x)])) _
    refine st1.trans ?_
    show Steps p.tables e below (T1.setTop (mkF m 4 #[.val (.ref x), .val (.int p2), .val (.int p3)] [(.int (1 : Int32))])) _
    refine XS.ifNo X1.here hx rfl (hb hby d11_4) rfl ((if0 _ _).trans (feq (by decide : ¬ ((1 : Int32) = (0 : Int32)))).1) ?_
    show Steps p.tables e below (T1.setTop (mkF m 7 #[.val (.ref x), .val (.int p2), .val (.int p3)] [])) _
    refine XS.aloadN X1.here hx rfl (hb hby d11_7) rfl rfl ?_
    show Steps p.tables e below (T1.setTop (mkF m 8 #[.val (.ref x), .val (.int p2), .val (.int p3)] [(.ref x)])) _
    refine st2 _ ?_
    show Steps p.tables e below (T2.setTop (mkF m 11 #[.val (.ref x), .val (.int p2), .val (.int p3)] [(.ref tb)])) _
    refine XS.iloadN X2.here hx rfl (hb hby d11_11) rfl ?_
    show Steps p.tables e below (T2.setTop (mkF m 12 #[.val (.ref x), .val (.int p2), .val (.int p3)] [(.int p2), (.ref tb)])) _
    refine XS.iloadN X2.here hx rfl (hb hby d11_12) rfl ?_
    show Steps p.tables e below (T2.setTop (mkF m 13 #[.val (.ref x), .val (.int p2), .val (.int p3)] [(.int p3), (.int p2), (.ref tb)])) _
    refine XS.aloadN X2.here hx rfl (hb hby d11_13) rfl rfl ?_
    show Steps p.tables e below (T2.setTop (mkF m 14 #[.val (.ref x), .val (.int p2), .val (.int p3)] [(.ref x), (.int p3), (.int p2), (.ref tb)])) _
    refine st3.trans ?_
    show Steps p.tables e below (T3.setTop (mkF m 17 #[.val (.ref x), .val (.int p2), .val (.int p3)] [(.int (6 : Int32)), (.int p3), (.int p2), (.ref tb)])) _
    refine st4 _ ?_
    show Steps p.tables e below (T4.setTop (mkF m 20 #[.val (.ref x), .val (.int p2), .val (.int p3)] [(.int r_4)])) _
    refine XS.goto X4.here hx rfl (pc0 := 20) (pc' := 36) rfl (hb hby d11_20) (by decide) (by decide) ?_
    show Steps p.tables e below (T4.setTop (mkF m 36 #[.val (.ref x), .val (.int p2), .val (.int p3)] [(.int r_4)])) _
    exact retI X4 hx Bd.returns (hb hby d11_36) hr
  · show Q_rm11 Z x p2 p3 tb kb bs z0 h0 n0 _ T4.heap _
    rw [e4]
    exact ⟨r_4, rfl, N4, rfl, t4_0⟩
theorem d10_0 : decode jdk_42_method_79_code 0 = .ok (.aload_n 0, 1) := by decide +kernel
theorem d10_1 : decode jdk_42_method_79_code 1 = .ok (.iload_n 1, 1) := by decide +kernel
theorem d10_2 : decode jdk_42_method_79_code 2 = .ok (.iconst 0, 1) := by decide +kernel
theorem d10_3 : decode jdk_42_method_79_code 3 = .ok (.invokevirtual 633, 3) := by decide +kernel
theorem d10_6 : decode jdk_42_method_79_code 6 = .ok (.ireturn, 1) := by decide +kernel
theorem ef_rm10 (m : MethodId) (x : Addr) (p2 : Int32) : entryFrame m #[(.ref x), (.int p2)] 2 = mkF m 0 #[.val (.ref x), .val (.int p2)] [] := by first | (simp [entryFrame, mkF, argsToLocals, Value.category]; done) | rfl
def Q_rm10 (Z : State) (x : Addr) (p2 : Int32) (tb : Addr) (kb : ClassId) (bs : List Int32) (z0 : Int32) (h0 : Heap) (n0 : Nat) (v : Option Value) (h : Heap) (L : List Loc) : Prop := ∃ r : Int32, v = some (.int r) ∧ Fr n0 L ∧ h = h0 ∧ (r.toInt < 0 ∨ (0 ≤ r.toInt ∧ r.toInt < 6))
set_option maxRecDepth 65536 in
set_option maxHeartbeats 40000000 in
theorem rm10 (l : Launch) (Z : State) (a0 : Array Value) (hw : ∀ d ∈ tables_1, d.before a0 Z = true) (ws : List Jvm.Cond) (x : Addr) (p2 : Int32) (tb : Addr) (kb : ClassId) (bs : List Int32) (z0 : Int32) (h0 : Heap) (n0 : Nat) (Z0 : n0 ≤ h0.size) (E_x : Exa Z h0 x nm1) (F_value_x : Fld Z h0 x nm1 "value" "[B" (.ref tb)) (F_coder_x : Fld Z h0 x nm1 "coder" "B" (.int (0 : Int32))) (V_tb : Arv Z h0 tb kb .byte (6 : Int32) (bs.map Value.int) (.int (0 : Int32))) (S_COMPACT_STRINGS : Sta Z h0 nm1 "COMPACT_STRINGS" "Z" (.int z0)) (hz : ¬ (z0 = (0 : Int32))) (hlo : ¬ (p2 < (0 : Int32))) (hhi : ¬ ((255 : Int32) < p2)) :
    MetFree l (⟨nm1, "indexOf", "(I)I"⟩ : MethodName) (head1 (Jvm.Cond.code (⟨nm1, "indexOf", "(I)I"⟩ : MethodName) jdk_42_method_79_code 2 (some .int) :: ws) ({ frames := 3, cells := 0, slots := 0, locals := 46 } : Room)) (fun a U => a = #[(.ref x), (.int p2)] ∧ Z.Warmed39 U.vm ∧ U.heap = h0) (fun _ _ _ _ _ => True) (fun _ U o U' => ∃ v L, o = .returned v ∧ Q_rm10 Z x p2 tb kb bs z0 h0 n0 v U'.heap L ∧ FrameEnd U o U' L ({ frames := 3, cells := 0, slots := 0, locals := 46 } : Room).cells ({ frames := 3, cells := 0, slots := 0, locals := 46 } : Room).slots) := by
  refine MetFree.of_bodySF (plainFor_of_name pn_java_lang_String) hisR ?_
  intro p e s m args below meth c s₁ Bd hml0 hP hK
  obtain ⟨rfl, hZ, hh⟩ := hP
  have hx := Bd.exec
  have hby := Bd.bytes
  have hml : c.maxLocals = 2 := hml0
  have hown : s.vm.findClass nm1 = some m.cls := findClass_of_methodNamed Bd.named
  have hnm := (name_of_methodNamed Bd.named Bd.method).1
  have X0 : Stand p l e ({ frames := 3, cells := 0, slots := 0, locals := 46 } : Room) s m #[(.ref x), (.int p2)] below meth c s₁ [] 0 0 := Stand.of_body Bd
  have e0 : s₁.heap = h0 := by rw [← hh, Bd.state]; rfl
  have N0 := Fr.nil n0
  have pre0 : ∀ t, Steps p.tables e below (s₁.setTop (mkF m 0 #[.val (.ref x), .val (.int p2)] [])) t → Steps p.tables e below (s₁.setTop (entryFrame m #[(.ref x), (.int p2)] 2)) t := fun t k => castTop (ef_rm10 m x p2) k
  obtain ⟨cq1, kq1, q1a, q1b, q1c⟩ := isOf hZ e0 E_x
  obtain ⟨_, _, ⟨T1, L1, k1, n1⟩, -, X1, ⟨Lc1, hQ1, l1, y1, z1⟩, st1⟩ := X0.virtualBack hx (y := (⟨nm1, "indexOf", "(II)I"⟩ : MethodName)) (z := (⟨nm1, "indexOf", "(II)I"⟩ : MethodName)) hown (mvT hZ (own_w hw 46 rfl)) (mvT hZ (own_w hw 47 rfl)) (notFace_of_selects (args := #[]) (mvT hZ (own_w hw 49 rfl))) (mvT hZ (own_w hw 49 rfl)) (mvT hZ (own_w hw 48 rfl)) (by decide) (backOf (W := 0) (rm11 l Z a0 hw [] x p2 (0 : Int32) tb kb bs z0 h0 n0 Z0 E_x F_value_x F_coder_x V_tb S_COMPACT_STRINGS hz hlo hhi (by decide) (by decide)) hZ (own_w hw 50 rfl) (own_w hw 7 rfl) (by decide) (by decide)) q1a q1c (g := (mkF m 3 #[.val (.ref x), .val (.int p2)] [(.int (0 : Int32)), (.int p2), (.ref x)])) rfl (by rw [hml]; rfl) (Steps.refl _) (argsL := [(.int p2), (.int (0 : Int32))]) (rest := []) (lenOf pd__28II_29I rfl) rfl (by show 2 * 0 + _ ≤ _; exact Nat.le_of_eq rfl) (hb hby d10_3) (fun _ _ => ⟨rfl, e0, (by decide : 0 + 0 ≤ _), (by decide : 0 + 0 ≤ _)⟩)
  dsimp only [Pt.U, Pt.locs, Pt.cells, Pt.slots] at y1 z1 st1 hQ1
  change Stand p l e _ s m _ below meth c T1 L1 k1 n1 at X1
  change L1 = _ ++ Lc1 at l1
  subst y1 z1
  obtain ⟨r_1, rfl, N1q, e1, t1_0⟩ := hQ1
  have N1 : Fr n0 L1 := l1 ▸ Fr.app N0 N1q
  obtain ⟨fs, hr, hrun, hended, hW, hsame⟩ := X1.leave (v := some (.int r_1)) (fun h => by rw [Bd.returns] at h; cases h)
  refine ⟨_, _, pre0 _ ?_, hrun, hended, _, _, rfl, ?_, ⟨_, rfl⟩, hW, hsame.mono (by decide) (by decide)⟩
  · show Steps p.tables e below (s₁.setTop (mkF m 0 #[.val (.ref x), .val (.int p2)] [])) _
    refine XS.aloadN X0.here hx rfl (hb hby d10_0) rfl rfl ?_
    show Steps p.tables e below (s₁.setTop (mkF m 1 #[.val (.ref x), .val (.int p2)] [(.ref x)])) _
    refine XS.iloadN X0.here hx rfl (hb hby d10_1) rfl ?_
    show Steps p.tables e below (s₁.setTop (mkF m 2 #[.val (.ref x), .val (.int p2)] [(.int p2), (.ref x)])) _
    refine XS.iconst X0.here hx rfl (hb hby d10_2) ?_
    show Steps p.tables e below (s₁.setTop (mkF m 3 #[.val (.ref x), .val (.int p2)] [(.int (0 : Int32)), (.int p2), (.ref x)])) _
    refine st1.trans ?_
    show Steps p.tables e below (T1.setTop (mkF m 6 #[.val (.ref x), .val (.int p2)] [(.int r_1)])) _
    exact retI X1 hx Bd.returns (hb hby d10_6) hr
  · show Q_rm10 Z x p2 tb kb bs z0 h0 n0 _ T1.heap _
    rw [e1]
    exact ⟨r_1, rfl, N1, rfl, (t1_0.elim Or.inl fun q => Or.inr ⟨q.1, q.2.1⟩)⟩
theorem d31_18 : decode jdk_43_method_27_code 18 = .ok (.iload_n 3, 1) := by decide +kernel
theorem d31_19 : decode jdk_43_method_27_code 19 = .ok (.ifCond .lt 19, 3) := by decide +kernel
theorem d31_22 : decode jdk_43_method_27_code 22 = .ok (.aload_n 0, 1) := by decide +kernel
theorem d31_23 : decode jdk_43_method_27_code 23 = .ok (.iload_n 3, 1) := by decide +kernel
theorem d31_24 : decode jdk_43_method_27_code 24 = .ok (.baload, 1) := by decide +kernel
theorem d31_25 : decode jdk_43_method_27_code 25 = .ok (.iload_n 1, 1) := by decide +kernel
theorem d31_26 : decode jdk_43_method_27_code 26 = .ok (.i2b, 1) := by decide +kernel
theorem d31_27 : decode jdk_43_method_27_code 27 = .ok (.if_icmp .ne 5, 3) := by decide +kernel
theorem d31_32 : decode jdk_43_method_27_code 32 = .ok (.iinc 3 (-1), 3) := by decide +kernel
theorem d31_35 : decode jdk_43_method_27_code 35 = .ok (.goto (-17), 3) := by decide +kernel
set_option maxRecDepth 65536 in
set_option maxHeartbeats 40000000 in
theorem own_liT {p : Program} {l : Launch} {e : Env} {R : Room} {s : State} {m : MethodId} {args : Array Value} {below : List Frame} {meth : Method} {c : Code} {T0 : State} {locs : List Loc} {cells slots : Nat} {Z : State} {a0 : Array Value} {h0 : Heap} {n0 : Nat} (tb : Addr) (kb : ClassId) (bs : List Int32) (p2 : Int32) (p3 : Int32) (i : Int32)
    (X0 : Stand p l e R s m args below meth c T0 locs cells slots) (hx : p.tables.exec = Jvm.exec) (hZ : Z.Warmed39 s.vm) (hw : ∀ d ∈ tables_1, d.before a0 Z = true) (hby : c.code = jdk_43_method_27_code) (hml : c.maxLocals = 4) (hown : s.vm.findClass nm4 = some m.cls) (e0 : T0.heap = h0) (N0 : Fr n0 locs) (Z0 : n0 ≤ h0.size) (V_tb : Arv Z h0 tb kb .byte (6 : Int32) (bs.map Value.int) (.int (0 : Int32))) (hbd : ¬ i < 0 ∧ i < (6 : Int32)) (hne : ¬ (bs.getD i.toNatClampNeg 0 = (p2.toInt8.toInt32))) :
    ∃ T' : State, Stand p l e R s m args below meth c T' locs cells slots ∧ T'.heap = h0 ∧ ∀ t, Steps p.tables e below (T'.setTop (mkF m 18 #[.val (.ref tb), .val (.int p2), .val (.int p3), .val (.int (i + (-1 : Int32)))] [])) t → Steps p.tables e below (T0.setTop (mkF m 18 #[.val (.ref tb), .val (.int p2), .val (.int p3), .val (.int i)] [])) t := by
  have pre0 : ∀ t, Steps p.tables e below (T0.setTop (mkF m 18 #[.val (.ref tb), .val (.int p2), .val (.int p3), .val (.int i)] [])) t → Steps p.tables e below (T0.setTop (mkF m 18 #[.val (.ref tb), .val (.int p2), .val (.int p3), .val (.int i)] [])) t := fun t k => k
  obtain ⟨c1, Ac1, qc1, Sc1, Nc1, Hc1, Gc1⟩ := id V_tb
  have hinc1 := inb_of Sc1 (j := i) hbd
  have pre2 : ∀ t, Steps p.tables e below (T0.setTop (mkF m 18 #[.val (.ref tb), .val (.int p2), .val (.int p3), .val (.int (i + (-1 : Int32)))] [])) t → Steps p.tables e below (T0.setTop (mkF m 18 #[.val (.ref tb), .val (.int p2), .val (.int p3), .val (.int i)] [])) t := fun t kt => by
    refine pre0 t ?_
    show Steps p.tables e below (T0.setTop (mkF m 18 #[.val (.ref tb), .val (.int p2), .val (.int p3), .val (.int i)] [])) _
    refine XS.iloadN X0.here hx rfl (hb hby d31_18) rfl ?_
    show Steps p.tables e below (T0.setTop (mkF m 19 #[.val (.ref tb), .val (.int p2), .val (.int p3), .val (.int i)] [(.int i)])) _
    refine XS.ifNo X0.here hx rfl (hb hby d31_19) rfl ((if0 _ _).trans (flt (hbd.1 : ¬ (i < (0 : Int32)))).1) ?_
    show Steps p.tables e below (T0.setTop (mkF m 22 #[.val (.ref tb), .val (.int p2), .val (.int p3), .val (.int i)] [])) _
    refine XS.aloadN X0.here hx rfl (hb hby d31_22) rfl rfl ?_
    show Steps p.tables e below (T0.setTop (mkF m 23 #[.val (.ref tb), .val (.int p2), .val (.int p3), .val (.int i)] [(.ref tb)])) _
    refine XS.iloadN X0.here hx rfl (hb hby d31_23) rfl ?_
    show Steps p.tables e below (T0.setTop (mkF m 24 #[.val (.ref tb), .val (.int p2), .val (.int p3), .val (.int i)] [(.int i), (.ref tb)])) _
    refine X0.baloadBytes hx (j := i) (v := (.int (bs.getD i.toNatClampNeg 0))) (by rw [e0]; exact Ac1.1) (State.isArrayOf_alike hZ.alike Ac1.2.1) Ac1.2.2 hinc1 (Has.at Hc1 hinc1 (own_get bs _)) (g := (mkF m 24 #[.val (.ref tb), .val (.int p2), .val (.int p3), .val (.int i)] [(.int i), (.ref tb)])) rfl rfl (hb hby d31_24) _ ?_
    show Steps p.tables e below (T0.setTop (mkF m 25 #[.val (.ref tb), .val (.int p2), .val (.int p3), .val (.int i)] [(.int (bs.getD i.toNatClampNeg 0))])) _
    refine XS.iloadN X0.here hx rfl (hb hby d31_25) rfl ?_
    show Steps p.tables e below (T0.setTop (mkF m 26 #[.val (.ref tb), .val (.int p2), .val (.int p3), .val (.int i)] [(.int p2), (.int (bs.getD i.toNatClampNeg 0))])) _
    refine XS.i2b X0.here hx rfl (hb hby d31_26) rfl ?_
    show Steps p.tables e below (T0.setTop (mkF m 27 #[.val (.ref tb), .val (.int p2), .val (.int p3), .val (.int i)] [(.int (p2.toInt8.toInt32)), (.int (bs.getD i.toNatClampNeg 0))])) _
    refine XS.icmpYes X0.here hx rfl (pc0 := 27) (pc' := 32) rfl (hb hby d31_27) rfl (feq hne).2 (by decide) (by decide) ?_
    show Steps p.tables e below (T0.setTop (mkF m 32 #[.val (.ref tb), .val (.int p2), .val (.int p3), .val (.int i)] [])) _
    refine XS.iinc X0.here hx rfl (hb hby d31_32) rfl (l' := #[.val (.ref tb), .val (.int p2), .val (.int p3), .val (.int (i + (-1 : Int32)))]) rfl ?_
    show Steps p.tables e below (T0.setTop (mkF m 35 #[.val (.ref tb), .val (.int p2), .val (.int p3), .val (.int (i + (-1 : Int32)))] [])) _
    refine XS.goto X0.here hx rfl (pc0 := 35) (pc' := 18) rfl (hb hby d31_35) (by decide) (by decide) ?_
    exact kt
  exact ⟨T0, X0, e0, pre2⟩
set_option maxRecDepth 65536 in
set_option maxHeartbeats 40000000 in
theorem own_liF {p : Program} {l : Launch} {e : Env} {R : Room} {s : State} {m : MethodId} {args : Array Value} {below : List Frame} {meth : Method} {c : Code} {T0 : State} {locs : List Loc} {cells slots : Nat} {Z : State} {a0 : Array Value} {h0 : Heap} {n0 : Nat} (tb : Addr) (kb : ClassId) (bs : List Int32) (p2 : Int32) (p3 : Int32) (i : Int32)
    (X0 : Stand p l e R s m args below meth c T0 locs cells slots) (hx : p.tables.exec = Jvm.exec) (hZ : Z.Warmed39 s.vm) (hw : ∀ d ∈ tables_1, d.before a0 Z = true) (hby : c.code = jdk_43_method_27_code) (hml : c.maxLocals = 4) (hown : s.vm.findClass nm4 = some m.cls) (e0 : T0.heap = h0) (N0 : Fr n0 locs) (Z0 : n0 ≤ h0.size) (V_tb : Arv Z h0 tb kb .byte (6 : Int32) (bs.map Value.int) (.int (0 : Int32))) (hbd : ¬ i < 0 ∧ i < (6 : Int32)) (hne : bs.getD i.toNatClampNeg 0 = (p2.toInt8.toInt32)) :
    ∃ T' : State, Stand p l e R s m args below meth c T' locs cells slots ∧ T'.heap = h0 ∧ ∀ t, Steps p.tables e below (T'.setTop (mkF m 30 #[.val (.ref tb), .val (.int p2), .val (.int p3), .val (.int i)] [])) t → Steps p.tables e below (T0.setTop (mkF m 18 #[.val (.ref tb), .val (.int p2), .val (.int p3), .val (.int i)] [])) t := by
  have pre0 : ∀ t, Steps p.tables e below (T0.setTop (mkF m 18 #[.val (.ref tb), .val (.int p2), .val (.int p3), .val (.int i)] [])) t → Steps p.tables e below (T0.setTop (mkF m 18 #[.val (.ref tb), .val (.int p2), .val (.int p3), .val (.int i)] [])) t := fun t k => k
  obtain ⟨c1, Ac1, qc1, Sc1, Nc1, Hc1, Gc1⟩ := id V_tb
  have hinc1 := inb_of Sc1 (j := i) hbd
  have pre2 : ∀ t, Steps p.tables e below (T0.setTop (mkF m 30 #[.val (.ref tb), .val (.int p2), .val (.int p3), .val (.int i)] [])) t → Steps p.tables e below (T0.setTop (mkF m 18 #[.val (.ref tb), .val (.int p2), .val (.int p3), .val (.int i)] [])) t := fun t kt => by
    refine pre0 t ?_
    show Steps p.tables e below (T0.setTop (mkF m 18 #[.val (.ref tb), .val (.int p2), .val (.int p3), .val (.int i)] [])) _
    refine XS.iloadN X0.here hx rfl (hb hby d31_18) rfl ?_
    show Steps p.tables e below (T0.setTop (mkF m 19 #[.val (.ref tb), .val (.int p2), .val (.int p3), .val (.int i)] [(.int i)])) _
    refine XS.ifNo X0.here hx rfl (hb hby d31_19) rfl ((if0 _ _).trans (flt (hbd.1 : ¬ (i < (0 : Int32)))).1) ?_
    show Steps p.tables e below (T0.setTop (mkF m 22 #[.val (.ref tb), .val (.int p2), .val (.int p3), .val (.int i)] [])) _
    refine XS.aloadN X0.here hx rfl (hb hby d31_22) rfl rfl ?_
    show Steps p.tables e below (T0.setTop (mkF m 23 #[.val (.ref tb), .val (.int p2), .val (.int p3), .val (.int i)] [(.ref tb)])) _
    refine XS.iloadN X0.here hx rfl (hb hby d31_23) rfl ?_
    show Steps p.tables e below (T0.setTop (mkF m 24 #[.val (.ref tb), .val (.int p2), .val (.int p3), .val (.int i)] [(.int i), (.ref tb)])) _
    refine X0.baloadBytes hx (j := i) (v := (.int (bs.getD i.toNatClampNeg 0))) (by rw [e0]; exact Ac1.1) (State.isArrayOf_alike hZ.alike Ac1.2.1) Ac1.2.2 hinc1 (Has.at Hc1 hinc1 (own_get bs _)) (g := (mkF m 24 #[.val (.ref tb), .val (.int p2), .val (.int p3), .val (.int i)] [(.int i), (.ref tb)])) rfl rfl (hb hby d31_24) _ ?_
    show Steps p.tables e below (T0.setTop (mkF m 25 #[.val (.ref tb), .val (.int p2), .val (.int p3), .val (.int i)] [(.int (bs.getD i.toNatClampNeg 0))])) _
    refine XS.iloadN X0.here hx rfl (hb hby d31_25) rfl ?_
    show Steps p.tables e below (T0.setTop (mkF m 26 #[.val (.ref tb), .val (.int p2), .val (.int p3), .val (.int i)] [(.int p2), (.int (bs.getD i.toNatClampNeg 0))])) _
    refine XS.i2b X0.here hx rfl (hb hby d31_26) rfl ?_
    show Steps p.tables e below (T0.setTop (mkF m 27 #[.val (.ref tb), .val (.int p2), .val (.int p3), .val (.int i)] [(.int (p2.toInt8.toInt32)), (.int (bs.getD i.toNatClampNeg 0))])) _
    refine XS.icmpNo X0.here hx rfl (hb hby d31_27) rfl (teq hne).2 ?_
    exact kt
  exact ⟨T0, X0, e0, pre2⟩
set_option maxRecDepth 65536 in
set_option maxHeartbeats 40000000 in
theorem own_liE {p : Program} {l : Launch} {e : Env} {R : Room} {s : State} {m : MethodId} {args : Array Value} {below : List Frame} {meth : Method} {c : Code} {T0 : State} {locs : List Loc} {cells slots : Nat} {Z : State} {a0 : Array Value} {h0 : Heap} {n0 : Nat} (tb : Addr) (kb : ClassId) (bs : List Int32) (p2 : Int32) (p3 : Int32) (i : Int32)
    (X0 : Stand p l e R s m args below meth c T0 locs cells slots) (hx : p.tables.exec = Jvm.exec) (hZ : Z.Warmed39 s.vm) (hw : ∀ d ∈ tables_1, d.before a0 Z = true) (hby : c.code = jdk_43_method_27_code) (hml : c.maxLocals = 4) (hown : s.vm.findClass nm4 = some m.cls) (e0 : T0.heap = h0) (N0 : Fr n0 locs) (Z0 : n0 ≤ h0.size) (hge : i < (0 : Int32)) :
    ∃ T' : State, Stand p l e R s m args below meth c T' locs cells slots ∧ T'.heap = h0 ∧ ∀ t, Steps p.tables e below (T'.setTop (mkF m 38 #[.val (.ref tb), .val (.int p2), .val (.int p3), .val (.int i)] [])) t → Steps p.tables e below (T0.setTop (mkF m 18 #[.val (.ref tb), .val (.int p2), .val (.int p3), .val (.int i)] [])) t := by
  have pre0 : ∀ t, Steps p.tables e below (T0.setTop (mkF m 18 #[.val (.ref tb), .val (.int p2), .val (.int p3), .val (.int i)] [])) t → Steps p.tables e below (T0.setTop (mkF m 18 #[.val (.ref tb), .val (.int p2), .val (.int p3), .val (.int i)] [])) t := fun t k => k
  have pre1 : ∀ t, Steps p.tables e below (T0.setTop (mkF m 38 #[.val (.ref tb), .val (.int p2), .val (.int p3), .val (.int i)] [])) t → Steps p.tables e below (T0.setTop (mkF m 18 #[.val (.ref tb), .val (.int p2), .val (.int p3), .val (.int i)] [])) t := fun t kt => by
    refine pre0 t ?_
    show Steps p.tables e below (T0.setTop (mkF m 18 #[.val (.ref tb), .val (.int p2), .val (.int p3), .val (.int i)] [])) _
    refine XS.iloadN X0.here hx rfl (hb hby d31_18) rfl ?_
    show Steps p.tables e below (T0.setTop (mkF m 19 #[.val (.ref tb), .val (.int p2), .val (.int p3), .val (.int i)] [(.int i)])) _
    refine XS.ifYes X0.here hx rfl (pc0 := 19) (pc' := 38) rfl (hb hby d31_19) rfl ((if0 _ _).trans (tlt hge).1) (by decide) (by decide) ?_
    exact kt
  exact ⟨T0, X0, e0, pre1⟩
theorem own_li {p : Program} {l : Launch} {e : Env} {R : Room} {s : State} {m : MethodId} {args : Array Value} {below : List Frame} {meth : Method} {c : Code} {locs : List Loc} {cells slots : Nat} {Z : State} {a0 : Array Value} {h0 : Heap} {n0 : Nat} (tb : Addr) (kb : ClassId) (bs : List Int32) (p2 p3 : Int32) (hx : p.tables.exec = Jvm.exec) (hZ : Z.Warmed39 s.vm) (hw : ∀ d ∈ tables_1, d.before a0 Z = true) (hby : c.code = jdk_43_method_27_code) (hml : c.maxLocals = 4) (hown : s.vm.findClass nm4 = some m.cls) (N0 : Fr n0 locs) (Z0 : n0 ≤ h0.size) (V : Arv Z h0 tb kb .byte (6 : Int32) (bs.map Value.int) (.int (0 : Int32))) :
    ∀ (f : Nat) (T0 : State) (i : Int32), Stand p l e R s m args below meth c T0 locs cells slots → T0.heap = h0 → -50 ≤ i.toInt → i.toInt < 6 → i.toInt + 1 ≤ f →
      ∃ (T' : State) (i' : Int32), Stand p l e R s m args below meth c T' locs cells slots ∧ T'.heap = h0 ∧ ((∀ t', Steps p.tables e below (T'.setTop (mkF m 30 #[.val (.ref tb), .val (.int p2), .val (.int p3), .val (.int i')] [])) t' → Steps p.tables e below (T0.setTop (mkF m 18 #[.val (.ref tb), .val (.int p2), .val (.int p3), .val (.int i)] [])) t') ∨ ∀ t', Steps p.tables e below (T'.setTop (mkF m 38 #[.val (.ref tb), .val (.int p2), .val (.int p3), .val (.int i')] [])) t' → Steps p.tables e below (T0.setTop (mkF m 18 #[.val (.ref tb), .val (.int p2), .val (.int p3), .val (.int i)] [])) t') := by
  intro f
  induction f with
  | zero =>
    intro T0 i X0 e0 h1 h3 h2
    obtain ⟨T1, X1, e1, st⟩ := own_liE tb kb bs p2 p3 i X0 hx hZ hw hby hml hown e0 N0 Z0 (by rw [Int32.lt_iff_toInt_lt, Int32.toInt_zero]; omega)
    exact ⟨T1, i, X1, e1, Or.inr st⟩
  | succ f ih =>
    intro T0 i X0 e0 h1 h3 h2
    by_cases hi : 0 ≤ i.toInt
    · by_cases hq : bs.getD i.toNatClampNeg 0 = (p2.toInt8.toInt32)
      · obtain ⟨T1, X1, e1, st⟩ := own_liF tb kb bs p2 p3 i X0 hx hZ hw hby hml hown e0 N0 Z0 V ⟨own_i0 hi, own_lt6 h3⟩ hq
        exact ⟨T1, i, X1, e1, Or.inl st⟩
      · obtain ⟨T1, X1, e1, st⟩ := own_liT tb kb bs p2 p3 i X0 hx hZ hw hby hml hown e0 N0 Z0 V ⟨own_i0 hi, own_lt6 h3⟩ hq
        have ei := own_decm hi (by omega)
        obtain ⟨T2, i2, X2, e2, q⟩ := ih T1 (i + (-1 : Int32)) X1 e1 (by omega) (by omega) (by omega)
        refine ⟨T2, i2, X2, e2, ?_⟩
        rcases q with q4 | q4
        · exact Or.inl fun t' kt => st t' (q4 t' kt)
        · exact Or.inr fun t' kt => st t' (q4 t' kt)
    · obtain ⟨T1, X1, e1, st⟩ := own_liE tb kb bs p2 p3 i X0 hx hZ hw hby hml hown e0 N0 Z0 (by rw [Int32.lt_iff_toInt_lt, Int32.toInt_zero]; omega)
      exact ⟨T1, i, X1, e1, Or.inr st⟩
theorem own_mn {p : Int32} (h : p.toInt < 6) : ¬ ((5 : Int32) < p) := by
  have e : (5 : Int32).toInt = 5 := by decide
  rw [Int32.lt_iff_toInt_lt, e]; omega
theorem d31_0 : decode jdk_43_method_27_code 0 = .ok (.iload_n 1, 1) := by decide +kernel
theorem d31_1 : decode jdk_43_method_27_code 1 = .ok (.invokestatic 88, 3) := by decide +kernel
theorem d31_4 : decode jdk_43_method_27_code 4 = .ok (.ifCond .ne 5, 3) := by decide +kernel
theorem d31_9 : decode jdk_43_method_27_code 9 = .ok (.iload_n 2, 1) := by decide +kernel
theorem d31_10 : decode jdk_43_method_27_code 10 = .ok (.aload_n 0, 1) := by decide +kernel
theorem d31_11 : decode jdk_43_method_27_code 11 = .ok (.arraylength, 1) := by decide +kernel
theorem d31_12 : decode jdk_43_method_27_code 12 = .ok (.iconst 1, 1) := by decide +kernel
theorem d31_13 : decode jdk_43_method_27_code 13 = .ok (.isub, 1) := by decide +kernel
theorem d31_14 : decode jdk_43_method_27_code 14 = .ok (.invokestatic 38, 3) := by decide +kernel
theorem d31_17 : decode jdk_43_method_27_code 17 = .ok (.istore_n 3, 1) := by decide +kernel
theorem d31_30 : decode jdk_43_method_27_code 30 = .ok (.iload_n 3, 1) := by decide +kernel
theorem d31_31 : decode jdk_43_method_27_code 31 = .ok (.ireturn, 1) := by decide +kernel
theorem d31_38 : decode jdk_43_method_27_code 38 = .ok (.iconst (-1), 1) := by decide +kernel
theorem d31_39 : decode jdk_43_method_27_code 39 = .ok (.ireturn, 1) := by decide +kernel
theorem ef_rm31 (m : MethodId) (tb : Addr) (p2 : Int32) (p3 : Int32) : entryFrame m #[(.ref tb), (.int p2), (.int p3)] 4 = mkF m 0 #[.val (.ref tb), .val (.int p2), .val (.int p3), .unset] [] := by first | (simp [entryFrame, mkF, argsToLocals, Value.category]; done) | rfl
def Q_rm31 (Z : State) (tb : Addr) (p2 : Int32) (p3 : Int32) (kb : ClassId) (bs : List Int32) (h0 : Heap) (n0 : Nat) (v : Option Value) (h : Heap) (L : List Loc) : Prop := ∃ r : Int32, v = some (.int r) ∧ Fr n0 L ∧ h = h0
set_option maxRecDepth 65536 in
set_option maxHeartbeats 40000000 in
theorem rm31 (l : Launch) (Z : State) (a0 : Array Value) (hw : ∀ d ∈ tables_1, d.before a0 Z = true) (ws : List Jvm.Cond) (tb : Addr) (p2 : Int32) (p3 : Int32) (kb : ClassId) (bs : List Int32) (h0 : Heap) (n0 : Nat) (Z0 : n0 ≤ h0.size) (V_tb : Arv Z h0 tb kb .byte (6 : Int32) (bs.map Value.int) (.int (0 : Int32))) (hlo : ¬ (p2 < (0 : Int32))) (hhi : ¬ ((255 : Int32) < p2)) (h3 : -50 ≤ p3.toInt) (h4 : p3.toInt < 6) :
    MetFree l (⟨nm4, "lastIndexOf", "([BII)I"⟩ : MethodName) (head1 (Jvm.Cond.code (⟨nm4, "lastIndexOf", "([BII)I"⟩ : MethodName) jdk_43_method_27_code 4 (some .int) :: ws) ({ frames := 1, cells := 0, slots := 0, locals := 13 } : Room)) (fun a U => a = #[(.ref tb), (.int p2), (.int p3)] ∧ Z.Warmed39 U.vm ∧ U.heap = h0) (fun _ _ _ _ _ => True) (fun _ U o U' => ∃ v L, o = .returned v ∧ Q_rm31 Z tb p2 p3 kb bs h0 n0 v U'.heap L ∧ FrameEnd U o U' L ({ frames := 1, cells := 0, slots := 0, locals := 13 } : Room).cells ({ frames := 1, cells := 0, slots := 0, locals := 13 } : Room).slots) := by
  refine MetFree.of_bodySF (plainFor_of_name pn_java_lang_StringLatin1) hisR ?_
  intro p e s m args below meth c s₁ Bd hml0 hP hK
  obtain ⟨rfl, hZ, hh⟩ := hP
  have hx := Bd.exec
  have hby := Bd.bytes
  have hml : c.maxLocals = 4 := hml0
  have hown : s.vm.findClass nm4 = some m.cls := findClass_of_methodNamed Bd.named
  have hnm := (name_of_methodNamed Bd.named Bd.method).1
  have X0 : Stand p l e ({ frames := 1, cells := 0, slots := 0, locals := 13 } : Room) s m #[(.ref tb), (.int p2), (.int p3)] below meth c s₁ [] 0 0 := Stand.of_body Bd
  have e0 : s₁.heap = h0 := by rw [← hh, Bd.state]; rfl
  have N0 := Fr.nil n0
  have pre0 : ∀ t, Steps p.tables e below (s₁.setTop (mkF m 0 #[.val (.ref tb), .val (.int p2), .val (.int p3), .unset] [])) t → Steps p.tables e below (s₁.setTop (entryFrame m #[(.ref tb), (.int p2), (.int p3)] 4)) t := fun t k => castTop (ef_rm31 m tb p2 p3) k
  obtain ⟨_, _, ⟨T1, L1, k1, n1⟩, -, X1, ⟨Lc1, hQ1, l1, y1, z1⟩, st1⟩ := Jvm.LawKit.callS X0 hx (y := (⟨nm4, "canEncode", "(I)Z"⟩ : MethodName)) hown (mvT hZ (own_w hw 70 rfl)) (mvT hZ (own_w hw 71 rfl)) (mvT hZ (own_w hw 68 rfl)) (mvT hZ (own_w hw 72 rfl)) (by decide) (backOf (W := 0) (rm16 l Z a0 hw [] p2 h0 n0 Z0 hlo hhi) hZ (own_w hw 72 rfl) (own_w hw 68 rfl) (by decide) (by decide)) (g := (mkF m 1 #[.val (.ref tb), .val (.int p2), .val (.int p3), .unset] [(.int p2)])) rfl (by rw [hml]; rfl) (argsL := [(.int p2)]) (rest := []) (lenOf pd__28I_29Z rfl) rfl (by show 2 * 0 + _ ≤ _; exact Nat.le_of_eq rfl) (hb hby d31_1) (fun _ _ => ⟨rfl, e0, (by decide : 0 + 0 ≤ _), (by decide : 0 + 0 ≤ _)⟩)
  dsimp only [Pt.U, Pt.locs, Pt.cells, Pt.slots] at y1 z1 st1 hQ1
  change Stand p l e _ s m _ below meth c T1 L1 k1 n1 at X1
  change L1 = _ ++ Lc1 at l1
  subst y1 z1
  obtain ⟨rfl, N1q, e1⟩ := hQ1
  have N1 : Fr n0 L1 := l1 ▸ Fr.app N0 N1q
  obtain ⟨c2, Ac2, -, Sc2, Nc2, -, -⟩ := id V_tb
  obtain ⟨_, _, ⟨T3, L3, k3, n3⟩, -, X3, ⟨Lc3, hQ3, l3, y3, z3⟩, st3⟩ := Jvm.LawKit.callS X1 hx (y := (⟨"java/lang/Math", "min", "(II)I"⟩ : MethodName)) hown (mvT hZ (own_w hw 77 rfl)) (mvT hZ (own_w hw 78 rfl)) (mvT hZ (own_w hw 75 rfl)) (mvT hZ (own_w hw 79 rfl)) (by decide) (backOf (W := 0) (rm18 l Z a0 hw [] p3 (5 : Int32) h0 n0 Z0 (own_mn h4)) hZ (own_w hw 79 rfl) (own_w hw 75 rfl) (by decide) (by decide)) (g := (mkF m 14 #[.val (.ref tb), .val (.int p2), .val (.int p3), .unset] [(.int (5 : Int32)), (.int p3)])) rfl (by rw [hml]; rfl) (argsL := [(.int p3), (.int (5 : Int32))]) (rest := []) (lenOf pd__28II_29I rfl) rfl (by show 2 * 0 + _ ≤ _; exact Nat.le_of_eq rfl) (hb hby d31_14) (fun _ _ => ⟨rfl, e1, (by decide : 0 + 0 ≤ _), (by decide : 0 + 0 ≤ _)⟩)
  dsimp only [Pt.U, Pt.locs, Pt.cells, Pt.slots] at y3 z3 st3 hQ3
  change Stand p l e _ s m _ below meth c T3 L3 k3 n3 at X3
  change L3 = _ ++ Lc3 at l3
  subst y3 z3
  obtain ⟨rfl, N3q, e3⟩ := hQ3
  have N3 : Fr n0 L3 := l3 ▸ Fr.app N1 N3q
  have pre4 : ∀ t, Steps p.tables e below (T3.setTop (mkF m 18 #[.val (.ref tb), .val (.int p2), .val (.int p3), .val (.int p3)] [])) t → Steps p.tables e below (s₁.setTop (entryFrame m #[(.ref tb), (.int p2), (.int p3)] 4)) t := fun t kt => by
    refine pre0 t ?_
    show Steps p.tables e below (s₁.setTop (mkF m 0 #[.val (.ref tb), .val (.int p2), .val (.int p3), .unset] [])) _
    refine XS.iloadN X0.here hx rfl (hb hby d31_0) rfl ?_
    show Steps p.tables e below (s₁.setTop (mkF m 1 #[.val (.ref tb), .val (.int p2), .val (.int p3), .unset] [(.int p2)])) _
    refine st1 _ ?_
    show Steps p.tables e below (T1.setTop (mkF m 4 #[.val (.ref tb), .val (.int p2), .val (.int p3), .unset] [(.int (1 : Int32))])) _
    refine XS.ifYes X1.here hx rfl (pc0 := 4) (pc' := 9) rfl (hb hby d31_4) rfl ((if0 _ _).trans (feq (by decide : ¬ ((1 : Int32) = (0 : Int32)))).2) (by decide) (by decide) ?_
    show Steps p.tables e below (T1.setTop (mkF m 9 #[.val (.ref tb), .val (.int p2), .val (.int p3), .unset] [])) _
    refine XS.iloadN X1.here hx rfl (hb hby d31_9) rfl ?_
    show Steps p.tables e below (T1.setTop (mkF m 10 #[.val (.ref tb), .val (.int p2), .val (.int p3), .unset] [(.int p3)])) _
    refine XS.aloadN X1.here hx rfl (hb hby d31_10) rfl rfl ?_
    show Steps p.tables e below (T1.setTop (mkF m 11 #[.val (.ref tb), .val (.int p2), .val (.int p3), .unset] [(.ref tb), (.int p3)])) _
    refine X1.arraylength hx (by rw [e1]; exact Ac2.1) (State.isArrayOf_alike hZ.alike Ac2.2.1) (g := (mkF m 11 #[.val (.ref tb), .val (.int p2), .val (.int p3), .unset] [(.ref tb), (.int p3)])) rfl rfl (hb hby d31_11) _ ?_
    rw [len_of Sc2 Nc2]
    show Steps p.tables e below (T1.setTop (mkF m 12 #[.val (.ref tb), .val (.int p2), .val (.int p3), .unset] [(.int (6 : Int32)), (.int p3)])) _
    refine XS.iconst X1.here hx rfl (hb hby d31_12) ?_
    show Steps p.tables e below (T1.setTop (mkF m 13 #[.val (.ref tb), .val (.int p2), .val (.int p3), .unset] [(.int (1 : Int32)), (.int (6 : Int32)), (.int p3)])) _
    refine XS.isub X1.here hx rfl (hb hby d31_13) rfl ?_
    show Steps p.tables e below (T1.setTop (mkF m 14 #[.val (.ref tb), .val (.int p2), .val (.int p3), .unset] [(.int (5 : Int32)), (.int p3)])) _
    refine st3 _ ?_
    show Steps p.tables e below (T3.setTop (mkF m 17 #[.val (.ref tb), .val (.int p2), .val (.int p3), .unset] [(.int p3)])) _
    refine XS.istoreN X3.here hx rfl (hb hby d31_17) rfl (l' := #[.val (.ref tb), .val (.int p2), .val (.int p3), .val (.int p3)]) rfl ?_
    exact kt
  obtain ⟨TL, i', XL, eL, hO⟩ := own_li tb kb bs p2 p3 hx hZ hw hby hml hown N3 Z0 V_tb 6 T3 p3 X3 e3 h3 h4 (by omega)
  rcases hO with stL | stL
  · obtain ⟨fs, hr, hrun, hended, hW, hsame⟩ := XL.leave (v := some (.int i')) (fun h => by rw [Bd.returns] at h; cases h)
    refine ⟨_, _, pre4 _ ?_, hrun, hended, _, _, rfl, ?_, ⟨_, rfl⟩, hW, hsame.mono (by decide) (by decide)⟩
    · refine stL _ ?_
      show Steps p.tables e below (TL.setTop (mkF m 30 #[.val (.ref tb), .val (.int p2), .val (.int p3), .val (.int i')] [])) _
      refine XS.iloadN XL.here hx rfl (hb hby d31_30) rfl ?_
      show Steps p.tables e below (TL.setTop (mkF m 31 #[.val (.ref tb), .val (.int p2), .val (.int p3), .val (.int i')] [(.int i')])) _
      exact retI XL hx Bd.returns (hb hby d31_31) hr
    · show Q_rm31 Z tb p2 p3 kb bs h0 n0 _ TL.heap _
      rw [eL]
      exact ⟨i', rfl, N3, rfl⟩
  · obtain ⟨fs, hr, hrun, hended, hW, hsame⟩ := XL.leave (v := some (.int (-1 : Int32))) (fun h => by rw [Bd.returns] at h; cases h)
    refine ⟨_, _, pre4 _ ?_, hrun, hended, _, _, rfl, ?_, ⟨_, rfl⟩, hW, hsame.mono (by decide) (by decide)⟩
    · refine stL _ ?_
      show Steps p.tables e below (TL.setTop (mkF m 38 #[.val (.ref tb), .val (.int p2), .val (.int p3), .val (.int i')] [])) _
      refine XS.iconst XL.here hx rfl (hb hby d31_38) ?_
      show Steps p.tables e below (TL.setTop (mkF m 39 #[.val (.ref tb), .val (.int p2), .val (.int p3), .val (.int i')] [(.int (-1 : Int32))])) _
      exact retI XL hx Bd.returns (hb hby d31_39) hr
    · show Q_rm31 Z tb p2 p3 kb bs h0 n0 _ TL.heap _
      rw [eL]
      exact ⟨(-1 : Int32), rfl, N3, rfl⟩
theorem d30_0 : decode jdk_42_method_83_code 0 = .ok (.aload_n 0, 1) := by decide +kernel
theorem d30_1 : decode jdk_42_method_83_code 1 = .ok (.invokevirtual 492, 3) := by decide +kernel
theorem d30_4 : decode jdk_42_method_83_code 4 = .ok (.ifCond .eq 15, 3) := by decide +kernel
theorem d30_7 : decode jdk_42_method_83_code 7 = .ok (.aload_n 0, 1) := by decide +kernel
theorem d30_8 : decode jdk_42_method_83_code 8 = .ok (.getfield 9, 3) := by decide +kernel
theorem d30_11 : decode jdk_42_method_83_code 11 = .ok (.iload_n 1, 1) := by decide +kernel
theorem d30_12 : decode jdk_42_method_83_code 12 = .ok (.iload_n 2, 1) := by decide +kernel
theorem pd__28_5bBII_29I : parseMethodDescriptor "([BII)I" = some ⟨[(.array .byte), .int, .int], some .int⟩ := by decide +kernel
theorem d30_13 : decode jdk_42_method_83_code 13 = .ok (.invokestatic 644, 3) := by decide +kernel
theorem d30_16 : decode jdk_42_method_83_code 16 = .ok (.goto 12, 3) := by decide +kernel
theorem d30_28 : decode jdk_42_method_83_code 28 = .ok (.ireturn, 1) := by decide +kernel
theorem ef_rm30 (m : MethodId) (x : Addr) (p2 : Int32) (p3 : Int32) : entryFrame m #[(.ref x), (.int p2), (.int p3)] 3 = mkF m 0 #[.val (.ref x), .val (.int p2), .val (.int p3)] [] := by first | (simp [entryFrame, mkF, argsToLocals, Value.category]; done) | rfl
def Q_rm30 (Z : State) (x : Addr) (p2 : Int32) (p3 : Int32) (tb : Addr) (kb : ClassId) (bs : List Int32) (z0 : Int32) (h0 : Heap) (n0 : Nat) (v : Option Value) (h : Heap) (L : List Loc) : Prop := ∃ r : Int32, v = some (.int r) ∧ Fr n0 L ∧ h = h0
set_option maxRecDepth 65536 in
set_option maxHeartbeats 40000000 in
theorem rm30 (l : Launch) (Z : State) (a0 : Array Value) (hw : ∀ d ∈ tables_1, d.before a0 Z = true) (ws : List Jvm.Cond) (x : Addr) (p2 : Int32) (p3 : Int32) (tb : Addr) (kb : ClassId) (bs : List Int32) (z0 : Int32) (h0 : Heap) (n0 : Nat) (Z0 : n0 ≤ h0.size) (E_x : Exa Z h0 x nm1) (F_value_x : Fld Z h0 x nm1 "value" "[B" (.ref tb)) (F_coder_x : Fld Z h0 x nm1 "coder" "B" (.int (0 : Int32))) (V_tb : Arv Z h0 tb kb .byte (6 : Int32) (bs.map Value.int) (.int (0 : Int32))) (S_COMPACT_STRINGS : Sta Z h0 nm1 "COMPACT_STRINGS" "Z" (.int z0)) (hz : ¬ (z0 = (0 : Int32))) (hlo : ¬ (p2 < (0 : Int32))) (hhi : ¬ ((255 : Int32) < p2)) (h3 : -50 ≤ p3.toInt) (h4 : p3.toInt < 6) :
    MetFree l (⟨nm1, "lastIndexOf", "(II)I"⟩ : MethodName) (head1 (Jvm.Cond.code (⟨nm1, "lastIndexOf", "(II)I"⟩ : MethodName) jdk_42_method_83_code 3 (some .int) :: ws) ({ frames := 2, cells := 0, slots := 0, locals := 28 } : Room)) (fun a U => a = #[(.ref x), (.int p2), (.int p3)] ∧ Z.Warmed39 U.vm ∧ U.heap = h0) (fun _ _ _ _ _ => True) (fun _ U o U' => ∃ v L, o = .returned v ∧ Q_rm30 Z x p2 p3 tb kb bs z0 h0 n0 v U'.heap L ∧ FrameEnd U o U' L ({ frames := 2, cells := 0, slots := 0, locals := 28 } : Room).cells ({ frames := 2, cells := 0, slots := 0, locals := 28 } : Room).slots) := by
  refine MetFree.of_bodySF (plainFor_of_name pn_java_lang_String) hisR ?_
  intro p e s m args below meth c s₁ Bd hml0 hP hK
  obtain ⟨rfl, hZ, hh⟩ := hP
  have hx := Bd.exec
  have hby := Bd.bytes
  have hml : c.maxLocals = 3 := hml0
  have hown : s.vm.findClass nm1 = some m.cls := findClass_of_methodNamed Bd.named
  have hnm := (name_of_methodNamed Bd.named Bd.method).1
  have X0 : Stand p l e ({ frames := 2, cells := 0, slots := 0, locals := 28 } : Room) s m #[(.ref x), (.int p2), (.int p3)] below meth c s₁ [] 0 0 := Stand.of_body Bd
  have e0 : s₁.heap = h0 := by rw [← hh, Bd.state]; rfl
  have N0 := Fr.nil n0
  have pre0 : ∀ t, Steps p.tables e below (s₁.setTop (mkF m 0 #[.val (.ref x), .val (.int p2), .val (.int p3)] [])) t → Steps p.tables e below (s₁.setTop (entryFrame m #[(.ref x), (.int p2), (.int p3)] 3)) t := fun t k => castTop (ef_rm30 m x p2 p3) k
  obtain ⟨cq1, kq1, q1a, q1b, q1c⟩ := isOf hZ e0 E_x
  obtain ⟨_, _, ⟨T1, L1, k1, n1⟩, -, X1, ⟨Lc1, hQ1, l1, y1, z1⟩, st1⟩ := X0.virtualBack hx (y := (⟨nm1, "isLatin1", "()Z"⟩ : MethodName)) (z := (⟨nm1, "isLatin1", "()Z"⟩ : MethodName)) hown (mvT hZ (own_w hw 51 rfl)) (mvT hZ (own_w hw 52 rfl)) (notFace_of_selects (args := #[]) (mvT hZ (own_w hw 54 rfl))) (mvT hZ (own_w hw 54 rfl)) (mvT hZ (own_w hw 53 rfl)) (by decide) (backOf (W := 0) (rm12 l Z a0 hw [] x z0 h0 n0 Z0 F_coder_x S_COMPACT_STRINGS hz) hZ (own_w hw 55 rfl) (own_w hw 7 rfl) (by decide) (by decide)) q1a q1c (g := (mkF m 1 #[.val (.ref x), .val (.int p2), .val (.int p3)] [(.ref x)])) rfl (by rw [hml]; rfl) (Steps.refl _) (argsL := []) (rest := []) (lenOf pd__28_29Z rfl) rfl (by show 2 * 0 + _ ≤ _; exact Nat.le_of_eq rfl) (hb hby d30_1) (fun _ _ => ⟨rfl, e0, (by decide : 0 + 0 ≤ _), (by decide : 0 + 0 ≤ _)⟩)
  dsimp only [Pt.U, Pt.locs, Pt.cells, Pt.slots] at y1 z1 st1 hQ1
  change Stand p l e _ s m _ below meth c T1 L1 k1 n1 at X1
  change L1 = _ ++ Lc1 at l1
  subst y1 z1
  obtain ⟨rfl, N1q, e1⟩ := hQ1
  have N1 : Fr n0 L1 := l1 ▸ Fr.app N0 N1q
  obtain ⟨T2, X2, e2, st2⟩ := getF X1 hx hZ hown (host := "") (Or.inl (own_w hw 32 rfl)) Via.refl e1 F_value_x (g := (mkF m 8 #[.val (.ref x), .val (.int p2), .val (.int p3)] [(.ref x)])) rfl rfl (hb hby d30_8)
  obtain ⟨_, _, ⟨T3, L3, k3, n3⟩, -, X3, ⟨Lc3, hQ3, l3, y3, z3⟩, st3⟩ := Jvm.LawKit.callS X2 hx (y := (⟨nm4, "lastIndexOf", "([BII)I"⟩ : MethodName)) hown (mvT hZ (own_w hw 150 rfl)) (mvT hZ (own_w hw 151 rfl)) (mvT hZ (own_w hw 68 rfl)) (mvT hZ (own_w hw 152 rfl)) (by decide) (backOf (W := 0) (rm31 l Z a0 hw [] tb p2 p3 kb bs h0 n0 Z0 V_tb hlo hhi h3 h4) hZ (own_w hw 152 rfl) (own_w hw 68 rfl) (by decide) (by decide)) (g := (mkF m 13 #[.val (.ref x), .val (.int p2), .val (.int p3)] [(.int p3), (.int p2), (.ref tb)])) rfl (by rw [hml]; rfl) (argsL := [(.ref tb), (.int p2), (.int p3)]) (rest := []) (lenOf pd__28_5bBII_29I rfl) rfl (by show 2 * 0 + _ ≤ _; exact Nat.le_of_eq rfl) (hb hby d30_13) (fun _ _ => ⟨rfl, e2, (by decide : 0 + 0 ≤ _), (by decide : 0 + 0 ≤ _)⟩)
  dsimp only [Pt.U, Pt.locs, Pt.cells, Pt.slots] at y3 z3 st3 hQ3
  change Stand p l e _ s m _ below meth c T3 L3 k3 n3 at X3
  change L3 = _ ++ Lc3 at l3
  subst y3 z3
  obtain ⟨r_3, rfl, N3q, e3⟩ := hQ3
  have N3 : Fr n0 L3 := l3 ▸ Fr.app N1 N3q
  obtain ⟨fs, hr, hrun, hended, hW, hsame⟩ := X3.leave (v := some (.int r_3)) (fun h => by rw [Bd.returns] at h; cases h)
  refine ⟨_, _, pre0 _ ?_, hrun, hended, _, _, rfl, ?_, ⟨_, rfl⟩, hW, hsame.mono (by decide) (by decide)⟩
  · show Steps p.tables e below (s₁.setTop (mkF m 0 #[.val (.ref x), .val (.int p2), .val (.int p3)] [])) _
    refine XS.aloadN X0.here hx rfl (hb hby d30_0) rfl rfl ?_
    show Steps p.tables e below (s₁.setTop (mkF m 1 #[.val (.ref x), .val (.int p2), .val (.int p3)] [(.ref x)])) _
    refine st1.trans ?_
    show Steps p.tables e below (T1.setTop (mkF m 4 #[.val (.ref x), .val (.int p2), .val (.int p3)] [(.int (1 : Int32))])) _
    refine XS.ifNo X1.here hx rfl (hb hby d30_4) rfl ((if0 _ _).trans (feq (by decide : ¬ ((1 : Int32) = (0 : Int32)))).1) ?_
    show Steps p.tables e below (T1.setTop (mkF m 7 #[.val (.ref x), .val (.int p2), .val (.int p3)] [])) _
    refine XS.aloadN X1.here hx rfl (hb hby d30_7) rfl rfl ?_
    show Steps p.tables e below (T1.setTop (mkF m 8 #[.val (.ref x), .val (.int p2), .val (.int p3)] [(.ref x)])) _
    refine st2 _ ?_
    show Steps p.tables e below (T2.setTop (mkF m 11 #[.val (.ref x), .val (.int p2), .val (.int p3)] [(.ref tb)])) _
    refine XS.iloadN X2.here hx rfl (hb hby d30_11) rfl ?_
    show Steps p.tables e below (T2.setTop (mkF m 12 #[.val (.ref x), .val (.int p2), .val (.int p3)] [(.int p2), (.ref tb)])) _
    refine XS.iloadN X2.here hx rfl (hb hby d30_12) rfl ?_
    show Steps p.tables e below (T2.setTop (mkF m 13 #[.val (.ref x), .val (.int p2), .val (.int p3)] [(.int p3), (.int p2), (.ref tb)])) _
    refine st3 _ ?_
    show Steps p.tables e below (T3.setTop (mkF m 16 #[.val (.ref x), .val (.int p2), .val (.int p3)] [(.int r_3)])) _
    refine XS.goto X3.here hx rfl (pc0 := 16) (pc' := 28) rfl (hb hby d30_16) (by decide) (by decide) ?_
    show Steps p.tables e below (T3.setTop (mkF m 28 #[.val (.ref x), .val (.int p2), .val (.int p3)] [(.int r_3)])) _
    exact retI X3 hx Bd.returns (hb hby d30_28) hr
  · show Q_rm30 Z x p2 p3 tb kb bs z0 h0 n0 _ T3.heap _
    rw [e3]
    exact ⟨r_3, rfl, N3, rfl⟩
theorem own_x0 {p : Int32} (h : 0 ≤ p.toInt ∧ p.toInt + 2 ≤ 6) : ¬ (p + (0 : Int32)) < 0 ∧ (p + (0 : Int32)) < (6 : Int32) := by
  rw [Int32.add_zero]; exact ⟨own_i0 h.1, own_lt6 (by omega)⟩
theorem own_x1 {p : Int32} (h : 0 ≤ p.toInt ∧ p.toInt + 2 ≤ 6) : ¬ (p + (1 : Int32)) < 0 ∧ (p + (1 : Int32)) < (6 : Int32) := by
  have e := own_inc h.1 (by omega)
  exact ⟨own_i0 (by omega), own_lt6 (by omega)⟩
theorem d21_0 : decode jdk_48_method_14_code 0 = .ok (.iconst 0, 1) := by decide +kernel
theorem d21_1 : decode jdk_48_method_14_code 1 = .ok (.istore 5, 2) := by decide +kernel
theorem d21_3 : decode jdk_48_method_14_code 3 = .ok (.iload 4, 2) := by decide +kernel
theorem d21_5 : decode jdk_48_method_14_code 5 = .ok (.bipush 7, 2) := by decide +kernel
theorem d21_7 : decode jdk_48_method_14_code 7 = .ok (.if_icmp .le 63, 3) := by decide +kernel
theorem d21_70 : decode jdk_48_method_14_code 70 = .ok (.iload 5, 2) := by decide +kernel
theorem d21_72 : decode jdk_48_method_14_code 72 = .ok (.iload 4, 2) := by decide +kernel
theorem d21_74 : decode jdk_48_method_14_code 74 = .ok (.if_icmp .ge 27, 3) := by decide +kernel
theorem d21_77 : decode jdk_48_method_14_code 77 = .ok (.aload_n 0, 1) := by decide +kernel
theorem d21_78 : decode jdk_48_method_14_code 78 = .ok (.iload_n 1, 1) := by decide +kernel
theorem d21_79 : decode jdk_48_method_14_code 79 = .ok (.iload 5, 2) := by decide +kernel
theorem d21_81 : decode jdk_48_method_14_code 81 = .ok (.iadd, 1) := by decide +kernel
theorem d21_82 : decode jdk_48_method_14_code 82 = .ok (.baload, 1) := by decide +kernel
theorem d21_83 : decode jdk_48_method_14_code 83 = .ok (.aload_n 2, 1) := by decide +kernel
theorem d21_84 : decode jdk_48_method_14_code 84 = .ok (.iload_n 3, 1) := by decide +kernel
theorem d21_85 : decode jdk_48_method_14_code 85 = .ok (.iload 5, 2) := by decide +kernel
theorem d21_87 : decode jdk_48_method_14_code 87 = .ok (.iadd, 1) := by decide +kernel
theorem d21_88 : decode jdk_48_method_14_code 88 = .ok (.baload, 1) := by decide +kernel
theorem d21_89 : decode jdk_48_method_14_code 89 = .ok (.if_icmp .eq 6, 3) := by decide +kernel
theorem d21_95 : decode jdk_48_method_14_code 95 = .ok (.iinc 5 1, 3) := by decide +kernel
theorem d21_98 : decode jdk_48_method_14_code 98 = .ok (.goto (-28), 3) := by decide +kernel
theorem d21_101 : decode jdk_48_method_14_code 101 = .ok (.iconst (-1), 1) := by decide +kernel
theorem d21_92 : decode jdk_48_method_14_code 92 = .ok (.iload 5, 2) := by decide +kernel
theorem d21_102 : decode jdk_48_method_14_code 102 = .ok (.ireturn, 1) := by decide +kernel
theorem d21_94 : decode jdk_48_method_14_code 94 = .ok (.ireturn, 1) := by decide +kernel
theorem pn_jdk_internal_util_ArraysSupport : plainName "jdk/internal/util/ArraysSupport" = true := by first | (simp [plainName, overriddenIn]; done) | decide +kernel
def own_mm (bs : List Int32) (p2 : Int32) : Int32 := (if (bs.getD (p2 + (0 : Int32)).toNatClampNeg 0) = (47 : Int32) then (if (bs.getD (p2 + (1 : Int32)).toNatClampNeg 0) = (47 : Int32) then (-1 : Int32) else (1 : Int32)) else (0 : Int32))
theorem ef_rm21 (m : MethodId) (tb : Addr) (p2 : Int32) (t2 : Addr) : entryFrame m #[(.ref tb), (.int p2), (.ref t2), (.int (0 : Int32)), (.int (2 : Int32))] 8 = mkF m 0 #[.val (.ref tb), .val (.int p2), .val (.ref t2), .val (.int (0 : Int32)), .val (.int (2 : Int32)), .unset, .unset, .unset] [] := by first | (simp [entryFrame, mkF, argsToLocals, Value.category]; done) | rfl
def Q_rm21 (Z : State) (tb : Addr) (p2 : Int32) (t2 : Addr) (kb : ClassId) (kb2 : ClassId) (bs : List Int32) (h0 : Heap) (n0 : Nat) (v : Option Value) (h : Heap) (L : List Loc) : Prop := v = some (.int (own_mm bs p2)) ∧ Fr n0 L ∧ h = h0
set_option maxRecDepth 65536 in
set_option maxHeartbeats 40000000 in
theorem rm21 (l : Launch) (Z : State) (a0 : Array Value) (hw : ∀ d ∈ tables_1, d.before a0 Z = true) (ws : List Jvm.Cond) (tb : Addr) (p2 : Int32) (t2 : Addr) (kb : ClassId) (kb2 : ClassId) (bs : List Int32) (h0 : Heap) (n0 : Nat) (Z0 : n0 ≤ h0.size) (V_tb : Arv Z h0 tb kb .byte (6 : Int32) (bs.map Value.int) (.int (0 : Int32))) (V_t2 : Arv Z h0 t2 kb2 .byte (2 : Int32) [(.int (47 : Int32)), (.int (47 : Int32))] (.int (0 : Int32))) (hi : 0 ≤ p2.toInt ∧ p2.toInt + 2 ≤ 6) :
    MetFree l (⟨"jdk/internal/util/ArraysSupport", "mismatch", "([BI[BII)I"⟩ : MethodName) (head1 (Jvm.Cond.code (⟨"jdk/internal/util/ArraysSupport", "mismatch", "([BI[BII)I"⟩ : MethodName) jdk_48_method_14_code 8 (some .int) :: ws) ({ frames := 0, cells := 0, slots := 0, locals := 0 } : Room)) (fun a U => a = #[(.ref tb), (.int p2), (.ref t2), (.int (0 : Int32)), (.int (2 : Int32))] ∧ Z.Warmed39 U.vm ∧ U.heap = h0) (fun _ _ _ _ _ => True) (fun _ U o U' => ∃ v L, o = .returned v ∧ Q_rm21 Z tb p2 t2 kb kb2 bs h0 n0 v U'.heap L ∧ FrameEnd U o U' L ({ frames := 0, cells := 0, slots := 0, locals := 0 } : Room).cells ({ frames := 0, cells := 0, slots := 0, locals := 0 } : Room).slots) := by
  refine MetFree.of_bodySF (plainFor_of_name pn_jdk_internal_util_ArraysSupport) hisR ?_
  intro p e s m args below meth c s₁ Bd hml0 hP hK
  obtain ⟨rfl, hZ, hh⟩ := hP
  have hx := Bd.exec
  have hby := Bd.bytes
  have hml : c.maxLocals = 8 := hml0
  have hown : s.vm.findClass "jdk/internal/util/ArraysSupport" = some m.cls := findClass_of_methodNamed Bd.named
  have hnm := (name_of_methodNamed Bd.named Bd.method).1
  have X0 : Stand p l e ({ frames := 0, cells := 0, slots := 0, locals := 0 } : Room) s m #[(.ref tb), (.int p2), (.ref t2), (.int (0 : Int32)), (.int (2 : Int32))] below meth c s₁ [] 0 0 := Stand.of_body Bd
  have e0 : s₁.heap = h0 := by rw [← hh, Bd.state]; rfl
  have N0 := Fr.nil n0
  have pre0 : ∀ t, Steps p.tables e below (s₁.setTop (mkF m 0 #[.val (.ref tb), .val (.int p2), .val (.ref t2), .val (.int (0 : Int32)), .val (.int (2 : Int32)), .unset, .unset, .unset] [])) t → Steps p.tables e below (s₁.setTop (entryFrame m #[(.ref tb), (.int p2), (.ref t2), (.int (0 : Int32)), (.int (2 : Int32))] 8)) t := fun t k => castTop (ef_rm21 m tb p2 t2) k
  obtain ⟨c1, Ac1, qc1, Sc1, Nc1, Hc1, Gc1⟩ := id V_tb
  have hinc1 := inb_of Sc1 (j := (p2 + (0 : Int32))) (own_x0 hi)
  obtain ⟨c2, Ac2, qc2, Sc2, Nc2, Hc2, Gc2⟩ := id V_t2
  have hinc2 := inb_of Sc2 (j := (0 : Int32)) ⟨by decide, by decide⟩
  have pre4 : ∀ t, Steps p.tables e below (s₁.setTop (mkF m 89 #[.val (.ref tb), .val (.int p2), .val (.ref t2), .val (.int (0 : Int32)), .val (.int (2 : Int32)), .val (.int (0 : Int32)), .unset, .unset] [(.int (47 : Int32)), (.int (bs.getD (p2 + (0 : Int32)).toNatClampNeg 0))])) t → Steps p.tables e below (s₁.setTop (entryFrame m #[(.ref tb), (.int p2), (.ref t2), (.int (0 : Int32)), (.int (2 : Int32))] 8)) t := fun t kt => by
    refine pre0 t ?_
    show Steps p.tables e below (s₁.setTop (mkF m 0 #[.val (.ref tb), .val (.int p2), .val (.ref t2), .val (.int (0 : Int32)), .val (.int (2 : Int32)), .unset, .unset, .unset] [])) _
    refine XS.iconst X0.here hx rfl (hb hby d21_0) ?_
    show Steps p.tables e below (s₁.setTop (mkF m 1 #[.val (.ref tb), .val (.int p2), .val (.ref t2), .val (.int (0 : Int32)), .val (.int (2 : Int32)), .unset, .unset, .unset] [(.int (0 : Int32))])) _
    refine XS.istore X0.here hx rfl (hb hby d21_1) rfl (l' := #[.val (.ref tb), .val (.int p2), .val (.ref t2), .val (.int (0 : Int32)), .val (.int (2 : Int32)), .val (.int (0 : Int32)), .unset, .unset]) rfl ?_
    show Steps p.tables e below (s₁.setTop (mkF m 3 #[.val (.ref tb), .val (.int p2), .val (.ref t2), .val (.int (0 : Int32)), .val (.int (2 : Int32)), .val (.int (0 : Int32)), .unset, .unset] [])) _
    refine XS.iload X0.here hx rfl (hb hby d21_3) rfl ?_
    show Steps p.tables e below (s₁.setTop (mkF m 5 #[.val (.ref tb), .val (.int p2), .val (.ref t2), .val (.int (0 : Int32)), .val (.int (2 : Int32)), .val (.int (0 : Int32)), .unset, .unset] [(.int (2 : Int32))])) _
    refine XS.bipush X0.here hx rfl (hb hby d21_5) ?_
    show Steps p.tables e below (s₁.setTop (mkF m 7 #[.val (.ref tb), .val (.int p2), .val (.ref t2), .val (.int (0 : Int32)), .val (.int (2 : Int32)), .val (.int (0 : Int32)), .unset, .unset] [(.int (7 : Int32)), (.int (2 : Int32))])) _
    refine XS.icmpYes X0.here hx rfl (pc0 := 7) (pc' := 70) rfl (hb hby d21_7) rfl (flt (by decide : ¬ ((7 : Int32) < (2 : Int32)))).2.2.2 (by decide) (by decide) ?_
    show Steps p.tables e below (s₁.setTop (mkF m 70 #[.val (.ref tb), .val (.int p2), .val (.ref t2), .val (.int (0 : Int32)), .val (.int (2 : Int32)), .val (.int (0 : Int32)), .unset, .unset] [])) _
    refine XS.iload X0.here hx rfl (hb hby d21_70) rfl ?_
    show Steps p.tables e below (s₁.setTop (mkF m 72 #[.val (.ref tb), .val (.int p2), .val (.ref t2), .val (.int (0 : Int32)), .val (.int (2 : Int32)), .val (.int (0 : Int32)), .unset, .unset] [(.int (0 : Int32))])) _
    refine XS.iload X0.here hx rfl (hb hby d21_72) rfl ?_
    show Steps p.tables e below (s₁.setTop (mkF m 74 #[.val (.ref tb), .val (.int p2), .val (.ref t2), .val (.int (0 : Int32)), .val (.int (2 : Int32)), .val (.int (0 : Int32)), .unset, .unset] [(.int (2 : Int32)), (.int (0 : Int32))])) _
    refine XS.icmpNo X0.here hx rfl (hb hby d21_74) rfl (tlt (by decide : (0 : Int32) < (2 : Int32))).2.1 ?_
    show Steps p.tables e below (s₁.setTop (mkF m 77 #[.val (.ref tb), .val (.int p2), .val (.ref t2), .val (.int (0 : Int32)), .val (.int (2 : Int32)), .val (.int (0 : Int32)), .unset, .unset] [])) _
    refine XS.aloadN X0.here hx rfl (hb hby d21_77) rfl rfl ?_
    show Steps p.tables e below (s₁.setTop (mkF m 78 #[.val (.ref tb), .val (.int p2), .val (.ref t2), .val (.int (0 : Int32)), .val (.int (2 : Int32)), .val (.int (0 : Int32)), .unset, .unset] [(.ref tb)])) _
    refine XS.iloadN X0.here hx rfl (hb hby d21_78) rfl ?_
    show Steps p.tables e below (s₁.setTop (mkF m 79 #[.val (.ref tb), .val (.int p2), .val (.ref t2), .val (.int (0 : Int32)), .val (.int (2 : Int32)), .val (.int (0 : Int32)), .unset, .unset] [(.int p2), (.ref tb)])) _
    refine XS.iload X0.here hx rfl (hb hby d21_79) rfl ?_
    show Steps p.tables e below (s₁.setTop (mkF m 81 #[.val (.ref tb), .val (.int p2), .val (.ref t2), .val (.int (0 : Int32)), .val (.int (2 : Int32)), .val (.int (0 : Int32)), .unset, .unset] [(.int (0 : Int32)), (.int p2), (.ref tb)])) _
    refine XS.iadd X0.here hx rfl (hb hby d21_81) rfl ?_
    show Steps p.tables e below (s₁.setTop (mkF m 82 #[.val (.ref tb), .val (.int p2), .val (.ref t2), .val (.int (0 : Int32)), .val (.int (2 : Int32)), .val (.int (0 : Int32)), .unset, .unset] [(.int (p2 + (0 : Int32))), (.ref tb)])) _
    refine X0.baloadBytes hx (j := (p2 + (0 : Int32))) (v := (.int (bs.getD (p2 + (0 : Int32)).toNatClampNeg 0))) (by rw [e0]; exact Ac1.1) (State.isArrayOf_alike hZ.alike Ac1.2.1) Ac1.2.2 hinc1 (Has.at Hc1 hinc1 (own_get bs _)) (g := (mkF m 82 #[.val (.ref tb), .val (.int p2), .val (.ref t2), .val (.int (0 : Int32)), .val (.int (2 : Int32)), .val (.int (0 : Int32)), .unset, .unset] [(.int (p2 + (0 : Int32))), (.ref tb)])) rfl rfl (hb hby d21_82) _ ?_
    show Steps p.tables e below (s₁.setTop (mkF m 83 #[.val (.ref tb), .val (.int p2), .val (.ref t2), .val (.int (0 : Int32)), .val (.int (2 : Int32)), .val (.int (0 : Int32)), .unset, .unset] [(.int (bs.getD (p2 + (0 : Int32)).toNatClampNeg 0))])) _
    refine XS.aloadN X0.here hx rfl (hb hby d21_83) rfl rfl ?_
    show Steps p.tables e below (s₁.setTop (mkF m 84 #[.val (.ref tb), .val (.int p2), .val (.ref t2), .val (.int (0 : Int32)), .val (.int (2 : Int32)), .val (.int (0 : Int32)), .unset, .unset] [(.ref t2), (.int (bs.getD (p2 + (0 : Int32)).toNatClampNeg 0))])) _
    refine XS.iloadN X0.here hx rfl (hb hby d21_84) rfl ?_
    show Steps p.tables e below (s₁.setTop (mkF m 85 #[.val (.ref tb), .val (.int p2), .val (.ref t2), .val (.int (0 : Int32)), .val (.int (2 : Int32)), .val (.int (0 : Int32)), .unset, .unset] [(.int (0 : Int32)), (.ref t2), (.int (bs.getD (p2 + (0 : Int32)).toNatClampNeg 0))])) _
    refine XS.iload X0.here hx rfl (hb hby d21_85) rfl ?_
    show Steps p.tables e below (s₁.setTop (mkF m 87 #[.val (.ref tb), .val (.int p2), .val (.ref t2), .val (.int (0 : Int32)), .val (.int (2 : Int32)), .val (.int (0 : Int32)), .unset, .unset] [(.int (0 : Int32)), (.int (0 : Int32)), (.ref t2), (.int (bs.getD (p2 + (0 : Int32)).toNatClampNeg 0))])) _
    refine XS.iadd X0.here hx rfl (hb hby d21_87) rfl ?_
    show Steps p.tables e below (s₁.setTop (mkF m 88 #[.val (.ref tb), .val (.int p2), .val (.ref t2), .val (.int (0 : Int32)), .val (.int (2 : Int32)), .val (.int (0 : Int32)), .unset, .unset] [(.int (0 : Int32)), (.ref t2), (.int (bs.getD (p2 + (0 : Int32)).toNatClampNeg 0))])) _
    refine X0.baloadBytes hx (j := (0 : Int32)) (v := (.int (47 : Int32))) (by rw [e0]; exact Ac2.1) (State.isArrayOf_alike hZ.alike Ac2.2.1) Ac2.2.2 hinc2 (Has.at Hc2 hinc2 rfl) (g := (mkF m 88 #[.val (.ref tb), .val (.int p2), .val (.ref t2), .val (.int (0 : Int32)), .val (.int (2 : Int32)), .val (.int (0 : Int32)), .unset, .unset] [(.int (0 : Int32)), (.ref t2), (.int (bs.getD (p2 + (0 : Int32)).toNatClampNeg 0))])) rfl rfl (hb hby d21_88) _ ?_
    exact kt
  by_cases hc89_3 : (bs.getD (p2 + (0 : Int32)).toNatClampNeg 0) = (47 : Int32)
  · obtain ⟨c5, Ac5, qc5, Sc5, Nc5, Hc5, Gc5⟩ := id V_tb
    have hinc5 := inb_of Sc5 (j := (p2 + (1 : Int32))) (own_x1 hi)
    obtain ⟨c6, Ac6, qc6, Sc6, Nc6, Hc6, Gc6⟩ := id V_t2
    have hinc6 := inb_of Sc6 (j := (1 : Int32)) ⟨by decide, by decide⟩
    have pre8 : ∀ t, Steps p.tables e below (s₁.setTop (mkF m 89 #[.val (.ref tb), .val (.int p2), .val (.ref t2), .val (.int (0 : Int32)), .val (.int (2 : Int32)), .val (.int (1 : Int32)), .unset, .unset] [(.int (47 : Int32)), (.int (bs.getD (p2 + (1 : Int32)).toNatClampNeg 0))])) t → Steps p.tables e below (s₁.setTop (entryFrame m #[(.ref tb), (.int p2), (.ref t2), (.int (0 : Int32)), (.int (2 : Int32))] 8)) t := fun t kt => by
      refine pre4 t ?_
      show Steps p.tables e below (s₁.setTop (mkF m 89 #[.val (.ref tb), .val (.int p2), .val (.ref t2), .val (.int (0 : Int32)), .val (.int (2 : Int32)), .val (.int (0 : Int32)), .unset, .unset] [(.int (47 : Int32)), (.int (bs.getD (p2 + (0 : Int32)).toNatClampNeg 0))])) _
      refine XS.icmpYes X0.here hx rfl (pc0 := 89) (pc' := 95) rfl (hb hby d21_89) rfl (teq hc89_3).1 (by decide) (by decide) ?_
      show Steps p.tables e below (s₁.setTop (mkF m 95 #[.val (.ref tb), .val (.int p2), .val (.ref t2), .val (.int (0 : Int32)), .val (.int (2 : Int32)), .val (.int (0 : Int32)), .unset, .unset] [])) _
      refine XS.iinc X0.here hx rfl (hb hby d21_95) rfl (l' := #[.val (.ref tb), .val (.int p2), .val (.ref t2), .val (.int (0 : Int32)), .val (.int (2 : Int32)), .val (.int (1 : Int32)), .unset, .unset]) rfl ?_
      show Steps p.tables e below (s₁.setTop (mkF m 98 #[.val (.ref tb), .val (.int p2), .val (.ref t2), .val (.int (0 : Int32)), .val (.int (2 : Int32)), .val (.int (1 : Int32)), .unset, .unset] [])) _
      refine XS.goto X0.here hx rfl (pc0 := 98) (pc' := 70) rfl (hb hby d21_98) (by decide) (by decide) ?_
      show Steps p.tables e below (s₁.setTop (mkF m 70 #[.val (.ref tb), .val (.int p2), .val (.ref t2), .val (.int (0 : Int32)), .val (.int (2 : Int32)), .val (.int (1 : Int32)), .unset, .unset] [])) _
      refine XS.iload X0.here hx rfl (hb hby d21_70) rfl ?_
      show Steps p.tables e below (s₁.setTop (mkF m 72 #[.val (.ref tb), .val (.int p2), .val (.ref t2), .val (.int (0 : Int32)), .val (.int (2 : Int32)), .val (.int (1 : Int32)), .unset, .unset] [(.int (1 : Int32))])) _
      refine XS.iload X0.here hx rfl (hb hby d21_72) rfl ?_
      show Steps p.tables e below (s₁.setTop (mkF m 74 #[.val (.ref tb), .val (.int p2), .val (.ref t2), .val (.int (0 : Int32)), .val (.int (2 : Int32)), .val (.int (1 : Int32)), .unset, .unset] [(.int (2 : Int32)), (.int (1 : Int32))])) _
      refine XS.icmpNo X0.here hx rfl (hb hby d21_74) rfl (tlt (by decide : (1 : Int32) < (2 : Int32))).2.1 ?_
      show Steps p.tables e below (s₁.setTop (mkF m 77 #[.val (.ref tb), .val (.int p2), .val (.ref t2), .val (.int (0 : Int32)), .val (.int (2 : Int32)), .val (.int (1 : Int32)), .unset, .unset] [])) _
      refine XS.aloadN X0.here hx rfl (hb hby d21_77) rfl rfl ?_
      show Steps p.tables e below (s₁.setTop (mkF m 78 #[.val (.ref tb), .val (.int p2), .val (.ref t2), .val (.int (0 : Int32)), .val (.int (2 : Int32)), .val (.int (1 : Int32)), .unset, .unset] [(.ref tb)])) _
      refine XS.iloadN X0.here hx rfl (hb hby d21_78) rfl ?_
      show Steps p.tables e below (s₁.setTop (mkF m 79 #[.val (.ref tb), .val (.int p2), .val (.ref t2), .val (.int (0 : Int32)), .val (.int (2 : Int32)), .val (.int (1 : Int32)), .unset, .unset] [(.int p2), (.ref tb)])) _
      refine XS.iload X0.here hx rfl (hb hby d21_79) rfl ?_
      show Steps p.tables e below (s₁.setTop (mkF m 81 #[.val (.ref tb), .val (.int p2), .val (.ref t2), .val (.int (0 : Int32)), .val (.int (2 : Int32)), .val (.int (1 : Int32)), .unset, .unset] [(.int (1 : Int32)), (.int p2), (.ref tb)])) _
      refine XS.iadd X0.here hx rfl (hb hby d21_81) rfl ?_
      show Steps p.tables e below (s₁.setTop (mkF m 82 #[.val (.ref tb), .val (.int p2), .val (.ref t2), .val (.int (0 : Int32)), .val (.int (2 : Int32)), .val (.int (1 : Int32)), .unset, .unset] [(.int (p2 + (1 : Int32))), (.ref tb)])) _
      refine X0.baloadBytes hx (j := (p2 + (1 : Int32))) (v := (.int (bs.getD (p2 + (1 : Int32)).toNatClampNeg 0))) (by rw [e0]; exact Ac5.1) (State.isArrayOf_alike hZ.alike Ac5.2.1) Ac5.2.2 hinc5 (Has.at Hc5 hinc5 (own_get bs _)) (g := (mkF m 82 #[.val (.ref tb), .val (.int p2), .val (.ref t2), .val (.int (0 : Int32)), .val (.int (2 : Int32)), .val (.int (1 : Int32)), .unset, .unset] [(.int (p2 + (1 : Int32))), (.ref tb)])) rfl rfl (hb hby d21_82) _ ?_
      show Steps p.tables e below (s₁.setTop (mkF m 83 #[.val (.ref tb), .val (.int p2), .val (.ref t2), .val (.int (0 : Int32)), .val (.int (2 : Int32)), .val (.int (1 : Int32)), .unset, .unset] [(.int (bs.getD (p2 + (1 : Int32)).toNatClampNeg 0))])) _
      refine XS.aloadN X0.here hx rfl (hb hby d21_83) rfl rfl ?_
      show Steps p.tables e below (s₁.setTop (mkF m 84 #[.val (.ref tb), .val (.int p2), .val (.ref t2), .val (.int (0 : Int32)), .val (.int (2 : Int32)), .val (.int (1 : Int32)), .unset, .unset] [(.ref t2), (.int (bs.getD (p2 + (1 : Int32)).toNatClampNeg 0))])) _
      refine XS.iloadN X0.here hx rfl (hb hby d21_84) rfl ?_
      show Steps p.tables e below (s₁.setTop (mkF m 85 #[.val (.ref tb), .val (.int p2), .val (.ref t2), .val (.int (0 : Int32)), .val (.int (2 : Int32)), .val (.int (1 : Int32)), .unset, .unset] [(.int (0 : Int32)), (.ref t2), (.int (bs.getD (p2 + (1 : Int32)).toNatClampNeg 0))])) _
      refine XS.iload X0.here hx rfl (hb hby d21_85) rfl ?_
      show Steps p.tables e below (s₁.setTop (mkF m 87 #[.val (.ref tb), .val (.int p2), .val (.ref t2), .val (.int (0 : Int32)), .val (.int (2 : Int32)), .val (.int (1 : Int32)), .unset, .unset] [(.int (1 : Int32)), (.int (0 : Int32)), (.ref t2), (.int (bs.getD (p2 + (1 : Int32)).toNatClampNeg 0))])) _
      refine XS.iadd X0.here hx rfl (hb hby d21_87) rfl ?_
      show Steps p.tables e below (s₁.setTop (mkF m 88 #[.val (.ref tb), .val (.int p2), .val (.ref t2), .val (.int (0 : Int32)), .val (.int (2 : Int32)), .val (.int (1 : Int32)), .unset, .unset] [(.int (1 : Int32)), (.ref t2), (.int (bs.getD (p2 + (1 : Int32)).toNatClampNeg 0))])) _
      refine X0.baloadBytes hx (j := (1 : Int32)) (v := (.int (47 : Int32))) (by rw [e0]; exact Ac6.1) (State.isArrayOf_alike hZ.alike Ac6.2.1) Ac6.2.2 hinc6 (Has.at Hc6 hinc6 rfl) (g := (mkF m 88 #[.val (.ref tb), .val (.int p2), .val (.ref t2), .val (.int (0 : Int32)), .val (.int (2 : Int32)), .val (.int (1 : Int32)), .unset, .unset] [(.int (1 : Int32)), (.ref t2), (.int (bs.getD (p2 + (1 : Int32)).toNatClampNeg 0))])) rfl rfl (hb hby d21_88) _ ?_
      exact kt
    by_cases hc89_7 : (bs.getD (p2 + (1 : Int32)).toNatClampNeg 0) = (47 : Int32)
    · obtain ⟨fs, hr, hrun, hended, hW, hsame⟩ := X0.leave (v := some (.int (-1 : Int32))) (fun h => by rw [Bd.returns] at h; cases h)
      refine ⟨_, _, pre8 _ ?_, hrun, hended, _, _, rfl, ?_, ⟨_, rfl⟩, hW, hsame.mono (by decide) (by decide)⟩
      · show Steps p.tables e below (s₁.setTop (mkF m 89 #[.val (.ref tb), .val (.int p2), .val (.ref t2), .val (.int (0 : Int32)), .val (.int (2 : Int32)), .val (.int (1 : Int32)), .unset, .unset] [(.int (47 : Int32)), (.int (bs.getD (p2 + (1 : Int32)).toNatClampNeg 0))])) _
        refine XS.icmpYes X0.here hx rfl (pc0 := 89) (pc' := 95) rfl (hb hby d21_89) rfl (teq hc89_7).1 (by decide) (by decide) ?_
        show Steps p.tables e below (s₁.setTop (mkF m 95 #[.val (.ref tb), .val (.int p2), .val (.ref t2), .val (.int (0 : Int32)), .val (.int (2 : Int32)), .val (.int (1 : Int32)), .unset, .unset] [])) _
        refine XS.iinc X0.here hx rfl (hb hby d21_95) rfl (l' := #[.val (.ref tb), .val (.int p2), .val (.ref t2), .val (.int (0 : Int32)), .val (.int (2 : Int32)), .val (.int (2 : Int32)), .unset, .unset]) rfl ?_
        show Steps p.tables e below (s₁.setTop (mkF m 98 #[.val (.ref tb), .val (.int p2), .val (.ref t2), .val (.int (0 : Int32)), .val (.int (2 : Int32)), .val (.int (2 : Int32)), .unset, .unset] [])) _
        refine XS.goto X0.here hx rfl (pc0 := 98) (pc' := 70) rfl (hb hby d21_98) (by decide) (by decide) ?_
        show Steps p.tables e below (s₁.setTop (mkF m 70 #[.val (.ref tb), .val (.int p2), .val (.ref t2), .val (.int (0 : Int32)), .val (.int (2 : Int32)), .val (.int (2 : Int32)), .unset, .unset] [])) _
        refine XS.iload X0.here hx rfl (hb hby d21_70) rfl ?_
        show Steps p.tables e below (s₁.setTop (mkF m 72 #[.val (.ref tb), .val (.int p2), .val (.ref t2), .val (.int (0 : Int32)), .val (.int (2 : Int32)), .val (.int (2 : Int32)), .unset, .unset] [(.int (2 : Int32))])) _
        refine XS.iload X0.here hx rfl (hb hby d21_72) rfl ?_
        show Steps p.tables e below (s₁.setTop (mkF m 74 #[.val (.ref tb), .val (.int p2), .val (.ref t2), .val (.int (0 : Int32)), .val (.int (2 : Int32)), .val (.int (2 : Int32)), .unset, .unset] [(.int (2 : Int32)), (.int (2 : Int32))])) _
        refine XS.icmpYes X0.here hx rfl (pc0 := 74) (pc' := 101) rfl (hb hby d21_74) rfl (flt (by decide : ¬ ((2 : Int32) < (2 : Int32)))).2.1 (by decide) (by decide) ?_
        show Steps p.tables e below (s₁.setTop (mkF m 101 #[.val (.ref tb), .val (.int p2), .val (.ref t2), .val (.int (0 : Int32)), .val (.int (2 : Int32)), .val (.int (2 : Int32)), .unset, .unset] [])) _
        refine XS.iconst X0.here hx rfl (hb hby d21_101) ?_
        show Steps p.tables e below (s₁.setTop (mkF m 102 #[.val (.ref tb), .val (.int p2), .val (.ref t2), .val (.int (0 : Int32)), .val (.int (2 : Int32)), .val (.int (2 : Int32)), .unset, .unset] [(.int (-1 : Int32))])) _
        exact retI X0 hx Bd.returns (hb hby d21_102) hr
      · show Q_rm21 Z tb p2 t2 kb kb2 bs h0 n0 _ s₁.heap _
        rw [e0]
        exact ⟨by rw [own_mm, if_pos hc89_3, if_pos hc89_7], N0, rfl⟩
    · obtain ⟨fs, hr, hrun, hended, hW, hsame⟩ := X0.leave (v := some (.int (1 : Int32))) (fun h => by rw [Bd.returns] at h; cases h)
      refine ⟨_, _, pre8 _ ?_, hrun, hended, _, _, rfl, ?_, ⟨_, rfl⟩, hW, hsame.mono (by decide) (by decide)⟩
      · show Steps p.tables e below (s₁.setTop (mkF m 89 #[.val (.ref tb), .val (.int p2), .val (.ref t2), .val (.int (0 : Int32)), .val (.int (2 : Int32)), .val (.int (1 : Int32)), .unset, .unset] [(.int (47 : Int32)), (.int (bs.getD (p2 + (1 : Int32)).toNatClampNeg 0))])) _
        refine XS.icmpNo X0.here hx rfl (hb hby d21_89) rfl (feq hc89_7).1 ?_
        show Steps p.tables e below (s₁.setTop (mkF m 92 #[.val (.ref tb), .val (.int p2), .val (.ref t2), .val (.int (0 : Int32)), .val (.int (2 : Int32)), .val (.int (1 : Int32)), .unset, .unset] [])) _
        refine XS.iload X0.here hx rfl (hb hby d21_92) rfl ?_
        show Steps p.tables e below (s₁.setTop (mkF m 94 #[.val (.ref tb), .val (.int p2), .val (.ref t2), .val (.int (0 : Int32)), .val (.int (2 : Int32)), .val (.int (1 : Int32)), .unset, .unset] [(.int (1 : Int32))])) _
        exact retI X0 hx Bd.returns (hb hby d21_94) hr
      · show Q_rm21 Z tb p2 t2 kb kb2 bs h0 n0 _ s₁.heap _
        rw [e0]
        exact ⟨by rw [own_mm, if_pos hc89_3, if_neg hc89_7], N0, rfl⟩
  · obtain ⟨fs, hr, hrun, hended, hW, hsame⟩ := X0.leave (v := some (.int (0 : Int32))) (fun h => by rw [Bd.returns] at h; cases h)
    refine ⟨_, _, pre4 _ ?_, hrun, hended, _, _, rfl, ?_, ⟨_, rfl⟩, hW, hsame.mono (by decide) (by decide)⟩
    · show Steps p.tables e below (s₁.setTop (mkF m 89 #[.val (.ref tb), .val (.int p2), .val (.ref t2), .val (.int (0 : Int32)), .val (.int (2 : Int32)), .val (.int (0 : Int32)), .unset, .unset] [(.int (47 : Int32)), (.int (bs.getD (p2 + (0 : Int32)).toNatClampNeg 0))])) _
      refine XS.icmpNo X0.here hx rfl (hb hby d21_89) rfl (feq hc89_3).1 ?_
      show Steps p.tables e below (s₁.setTop (mkF m 92 #[.val (.ref tb), .val (.int p2), .val (.ref t2), .val (.int (0 : Int32)), .val (.int (2 : Int32)), .val (.int (0 : Int32)), .unset, .unset] [])) _
      refine XS.iload X0.here hx rfl (hb hby d21_92) rfl ?_
      show Steps p.tables e below (s₁.setTop (mkF m 94 #[.val (.ref tb), .val (.int p2), .val (.ref t2), .val (.int (0 : Int32)), .val (.int (2 : Int32)), .val (.int (0 : Int32)), .unset, .unset] [(.int (0 : Int32))])) _
      exact retI X0 hx Bd.returns (hb hby d21_94) hr
    · show Q_rm21 Z tb p2 t2 kb kb2 bs h0 n0 _ s₁.heap _
      rw [e0]
      exact ⟨by rw [own_mm, if_neg hc89_3], N0, rfl⟩
theorem own_h4 {p : Int32} (h : 0 ≤ p.toInt) (q : ¬ ((4 : Int32) < p)) : 0 ≤ p.toInt ∧ p.toInt + 2 ≤ 6 := by
  have e : (4 : Int32).toInt = 4 := by decide
  rw [Int32.lt_iff_toInt_lt, e] at q; omega
theorem d20_0 : decode jdk_42_method_75_code 0 = .ok (.iload_n 2, 1) := by decide +kernel
theorem d20_1 : decode jdk_42_method_75_code 1 = .ok (.ifCond .lt 16, 3) := by decide +kernel
theorem d20_4 : decode jdk_42_method_75_code 4 = .ok (.iload_n 2, 1) := by decide +kernel
theorem d20_5 : decode jdk_42_method_75_code 5 = .ok (.aload_n 0, 1) := by decide +kernel
theorem d20_6 : decode jdk_42_method_75_code 6 = .ok (.invokevirtual 505, 3) := by decide +kernel
theorem d20_9 : decode jdk_42_method_75_code 9 = .ok (.aload_n 1, 1) := by decide +kernel
theorem d20_10 : decode jdk_42_method_75_code 10 = .ok (.invokevirtual 505, 3) := by decide +kernel
theorem d20_13 : decode jdk_42_method_75_code 13 = .ok (.isub, 1) := by decide +kernel
theorem d20_14 : decode jdk_42_method_75_code 14 = .ok (.if_icmp .le 5, 3) := by decide +kernel
theorem d20_17 : decode jdk_42_method_75_code 17 = .ok (.iconst 0, 1) := by decide +kernel
theorem d20_19 : decode jdk_42_method_75_code 19 = .ok (.aload_n 0, 1) := by decide +kernel
theorem d20_20 : decode jdk_42_method_75_code 20 = .ok (.getfield 9, 3) := by decide +kernel
theorem d20_23 : decode jdk_42_method_75_code 23 = .ok (.astore_n 3, 1) := by decide +kernel
theorem d20_24 : decode jdk_42_method_75_code 24 = .ok (.aload_n 1, 1) := by decide +kernel
theorem d20_25 : decode jdk_42_method_75_code 25 = .ok (.getfield 9, 3) := by decide +kernel
theorem d20_28 : decode jdk_42_method_75_code 28 = .ok (.astore 4, 2) := by decide +kernel
theorem d20_30 : decode jdk_42_method_75_code 30 = .ok (.iconst 0, 1) := by decide +kernel
theorem d20_31 : decode jdk_42_method_75_code 31 = .ok (.istore 5, 2) := by decide +kernel
theorem d20_33 : decode jdk_42_method_75_code 33 = .ok (.aload 4, 2) := by decide +kernel
theorem d20_35 : decode jdk_42_method_75_code 35 = .ok (.arraylength, 1) := by decide +kernel
theorem d20_36 : decode jdk_42_method_75_code 36 = .ok (.istore 6, 2) := by decide +kernel
theorem d20_38 : decode jdk_42_method_75_code 38 = .ok (.aload_n 0, 1) := by decide +kernel
theorem d20_39 : decode jdk_42_method_75_code 39 = .ok (.invokevirtual 335, 3) := by decide +kernel
theorem d20_42 : decode jdk_42_method_75_code 42 = .ok (.istore 7, 2) := by decide +kernel
theorem d20_44 : decode jdk_42_method_75_code 44 = .ok (.iload 7, 2) := by decide +kernel
theorem d20_46 : decode jdk_42_method_75_code 46 = .ok (.aload_n 1, 1) := by decide +kernel
theorem d20_47 : decode jdk_42_method_75_code 47 = .ok (.invokevirtual 335, 3) := by decide +kernel
theorem d20_50 : decode jdk_42_method_75_code 50 = .ok (.if_icmp .ne 32, 3) := by decide +kernel
theorem d20_53 : decode jdk_42_method_75_code 53 = .ok (.iload 7, 2) := by decide +kernel
theorem d20_55 : decode jdk_42_method_75_code 55 = .ok (.iconst 1, 1) := by decide +kernel
theorem d20_56 : decode jdk_42_method_75_code 56 = .ok (.if_icmp .ne 7, 3) := by decide +kernel
theorem d20_63 : decode jdk_42_method_75_code 63 = .ok (.aload_n 3, 1) := by decide +kernel
theorem d20_64 : decode jdk_42_method_75_code 64 = .ok (.iload_n 2, 1) := by decide +kernel
theorem d20_65 : decode jdk_42_method_75_code 65 = .ok (.aload 4, 2) := by decide +kernel
theorem d20_67 : decode jdk_42_method_75_code 67 = .ok (.iconst 0, 1) := by decide +kernel
theorem d20_68 : decode jdk_42_method_75_code 68 = .ok (.iload 6, 2) := by decide +kernel
theorem pd__28_5bBI_5bBII_29I : parseMethodDescriptor "([BI[BII)I" = some ⟨[(.array .byte), .int, (.array .byte), .int, .int], some .int⟩ := by decide +kernel
theorem d20_70 : decode jdk_42_method_75_code 70 = .ok (.invokestatic 607, 3) := by decide +kernel
theorem d20_73 : decode jdk_42_method_75_code 73 = .ok (.ifCond .ge 7, 3) := by decide +kernel
theorem d20_76 : decode jdk_42_method_75_code 76 = .ok (.iconst 1, 1) := by decide +kernel
theorem d20_77 : decode jdk_42_method_75_code 77 = .ok (.goto 4, 3) := by decide +kernel
theorem d20_80 : decode jdk_42_method_75_code 80 = .ok (.iconst 0, 1) := by decide +kernel
theorem d20_18 : decode jdk_42_method_75_code 18 = .ok (.ireturn, 1) := by decide +kernel
theorem d20_81 : decode jdk_42_method_75_code 81 = .ok (.ireturn, 1) := by decide +kernel
def own_sw (bs : List Int32) (p3 : Int32) : Int32 := (if (4 : Int32) < p3 then (0 : Int32) else (if (own_mm bs p3) < (0 : Int32) then (1 : Int32) else (0 : Int32)))
theorem ef_rm20 (m : MethodId) (x : Addr) (y : Addr) (p3 : Int32) : entryFrame m #[(.ref x), (.ref y), (.int p3)] 8 = mkF m 0 #[.val (.ref x), .val (.ref y), .val (.int p3), .unset, .unset, .unset, .unset, .unset] [] := by first | (simp [entryFrame, mkF, argsToLocals, Value.category]; done) | rfl
def Q_rm20 (Z : State) (x : Addr) (y : Addr) (p3 : Int32) (tb : Addr) (kb : ClassId) (bs : List Int32) (z0 : Int32) (t2 : Addr) (kb2 : ClassId) (h0 : Heap) (n0 : Nat) (v : Option Value) (h : Heap) (L : List Loc) : Prop := v = some (.int (own_sw bs p3)) ∧ Fr n0 L ∧ h = h0
set_option maxRecDepth 65536 in
set_option maxHeartbeats 40000000 in
theorem rm20 (l : Launch) (Z : State) (a0 : Array Value) (hw : ∀ d ∈ tables_1, d.before a0 Z = true) (ws : List Jvm.Cond) (x : Addr) (y : Addr) (p3 : Int32) (tb : Addr) (kb : ClassId) (bs : List Int32) (z0 : Int32) (t2 : Addr) (kb2 : ClassId) (h0 : Heap) (n0 : Nat) (Z0 : n0 ≤ h0.size) (E_x : Exa Z h0 x nm1) (F_value_x : Fld Z h0 x nm1 "value" "[B" (.ref tb)) (F_coder_x : Fld Z h0 x nm1 "coder" "B" (.int (0 : Int32))) (V_tb : Arv Z h0 tb kb .byte (6 : Int32) (bs.map Value.int) (.int (0 : Int32))) (E_y : Exa Z h0 y nm1) (F_value_y : Fld Z h0 y nm1 "value" "[B" (.ref t2)) (F_coder_y : Fld Z h0 y nm1 "coder" "B" (.int (0 : Int32))) (V_t2 : Arv Z h0 t2 kb2 .byte (2 : Int32) [(.int (47 : Int32)), (.int (47 : Int32))] (.int (0 : Int32))) (S_COMPACT_STRINGS : Sta Z h0 nm1 "COMPACT_STRINGS" "Z" (.int z0)) (hz : ¬ (z0 = (0 : Int32))) (h3 : 0 ≤ p3.toInt) :
    MetFree l (⟨nm1, "startsWith", "(Ljava/lang/String;I)Z"⟩ : MethodName) (head1 (Jvm.Cond.code (⟨nm1, "startsWith", "(Ljava/lang/String;I)Z"⟩ : MethodName) jdk_42_method_75_code 8 (some .boolean) :: ws) ({ frames := 2, cells := 0, slots := 0, locals := 27 } : Room)) (fun a U => a = #[(.ref x), (.ref y), (.int p3)] ∧ Z.Warmed39 U.vm ∧ U.heap = h0) (fun _ _ _ _ _ => True) (fun _ U o U' => ∃ v L, o = .returned v ∧ Q_rm20 Z x y p3 tb kb bs z0 t2 kb2 h0 n0 v U'.heap L ∧ FrameEnd U o U' L ({ frames := 2, cells := 0, slots := 0, locals := 27 } : Room).cells ({ frames := 2, cells := 0, slots := 0, locals := 27 } : Room).slots) := by
  refine MetFree.of_bodySF (plainFor_of_name pn_java_lang_String) hisR ?_
  intro p e s m args below meth c s₁ Bd hml0 hP hK
  obtain ⟨rfl, hZ, hh⟩ := hP
  have hx := Bd.exec
  have hby := Bd.bytes
  have hml : c.maxLocals = 8 := hml0
  have hown : s.vm.findClass nm1 = some m.cls := findClass_of_methodNamed Bd.named
  have hnm := (name_of_methodNamed Bd.named Bd.method).1
  have X0 : Stand p l e ({ frames := 2, cells := 0, slots := 0, locals := 27 } : Room) s m #[(.ref x), (.ref y), (.int p3)] below meth c s₁ [] 0 0 := Stand.of_body Bd
  have e0 : s₁.heap = h0 := by rw [← hh, Bd.state]; rfl
  have N0 := Fr.nil n0
  have pre0 : ∀ t, Steps p.tables e below (s₁.setTop (mkF m 0 #[.val (.ref x), .val (.ref y), .val (.int p3), .unset, .unset, .unset, .unset, .unset] [])) t → Steps p.tables e below (s₁.setTop (entryFrame m #[(.ref x), (.ref y), (.int p3)] 8)) t := fun t k => castTop (ef_rm20 m x y p3) k
  obtain ⟨cq1, kq1, q1a, q1b, q1c⟩ := isOf hZ e0 E_x
  obtain ⟨_, _, ⟨T1, L1, k1, n1⟩, -, X1, ⟨Lc1, hQ1, l1, y1, z1⟩, st1⟩ := X0.virtualBack hx (y := (⟨nm1, "length", "()I"⟩ : MethodName)) (z := (⟨nm1, "length", "()I"⟩ : MethodName)) hown (mvT hZ (own_w hw 56 rfl)) (mvT hZ (own_w hw 57 rfl)) (notFace_of_selects (args := #[]) (mvT hZ (own_w hw 59 rfl))) (mvT hZ (own_w hw 59 rfl)) (mvT hZ (own_w hw 58 rfl)) (by decide) (backOf (W := 1) (rmlen6 l Z a0 hw [] x tb kb (bs.map Value.int) z0 h0 n0 Z0 E_x F_coder_x F_value_x V_tb S_COMPACT_STRINGS hz) hZ (own_w hw 60 rfl) (own_w hw 7 rfl) (by decide) (by decide)) q1a q1c (g := (mkF m 6 #[.val (.ref x), .val (.ref y), .val (.int p3), .unset, .unset, .unset, .unset, .unset] [(.ref x), (.int p3)])) rfl (by rw [hml]; rfl) (Steps.refl _) (argsL := []) (rest := [(.int p3)]) (lenOf pd__28_29I rfl) rfl (by show 2 * 0 + _ ≤ _; exact Nat.le_of_eq rfl) (hb hby d20_6) (fun _ _ => ⟨rfl, e0, (by decide : 0 + 0 ≤ _), (by decide : 0 + 0 ≤ _)⟩)
  dsimp only [Pt.U, Pt.locs, Pt.cells, Pt.slots] at y1 z1 st1 hQ1
  change Stand p l e _ s m _ below meth c T1 L1 k1 n1 at X1
  change L1 = _ ++ Lc1 at l1
  subst y1 z1
  obtain ⟨rfl, N1q, e1⟩ := hQ1
  have N1 : Fr n0 L1 := l1 ▸ Fr.app N0 N1q
  obtain ⟨cq2, kq2, q2a, q2b, q2c⟩ := isOf hZ e1 E_y
  obtain ⟨_, _, ⟨T2, L2, k2, n2⟩, -, X2, ⟨Lc2, hQ2, l2, y2, z2⟩, st2⟩ := X1.virtualBack hx (y := (⟨nm1, "length", "()I"⟩ : MethodName)) (z := (⟨nm1, "length", "()I"⟩ : MethodName)) hown (mvT hZ (own_w hw 56 rfl)) (mvT hZ (own_w hw 57 rfl)) (notFace_of_selects (args := #[]) (mvT hZ (own_w hw 59 rfl))) (mvT hZ (own_w hw 59 rfl)) (mvT hZ (own_w hw 58 rfl)) (by decide) (backOf (W := 2) (rmlen2 l Z a0 hw [] y t2 kb2 [(.int (47 : Int32)), (.int (47 : Int32))] z0 h0 n0 Z0 E_y F_coder_y F_value_y V_t2 S_COMPACT_STRINGS hz) hZ (own_w hw 60 rfl) (own_w hw 7 rfl) (by decide) (by decide)) q2a q2c (g := (mkF m 10 #[.val (.ref x), .val (.ref y), .val (.int p3), .unset, .unset, .unset, .unset, .unset] [(.ref y), (.int (6 : Int32)), (.int p3)])) rfl (by rw [hml]; rfl) (Steps.refl _) (argsL := []) (rest := [(.int (6 : Int32)), (.int p3)]) (lenOf pd__28_29I rfl) rfl (by show 2 * 0 + _ ≤ _; exact Nat.le_of_eq rfl) (hb hby d20_10) (fun _ _ => ⟨rfl, e1, (by decide : 0 + 0 ≤ _), (by decide : 0 + 0 ≤ _)⟩)
  dsimp only [Pt.U, Pt.locs, Pt.cells, Pt.slots] at y2 z2 st2 hQ2
  change Stand p l e _ s m _ below meth c T2 L2 k2 n2 at X2
  change L2 = _ ++ Lc2 at l2
  subst y2 z2
  obtain ⟨rfl, N2q, e2⟩ := hQ2
  have N2 : Fr n0 L2 := l2 ▸ Fr.app N1 N2q
  have pre4 : ∀ t, Steps p.tables e below (T2.setTop (mkF m 14 #[.val (.ref x), .val (.ref y), .val (.int p3), .unset, .unset, .unset, .unset, .unset] [(.int (4 : Int32)), (.int p3)])) t → Steps p.tables e below (s₁.setTop (entryFrame m #[(.ref x), (.ref y), (.int p3)] 8)) t := fun t kt => by
    refine pre0 t ?_
    show Steps p.tables e below (s₁.setTop (mkF m 0 #[.val (.ref x), .val (.ref y), .val (.int p3), .unset, .unset, .unset, .unset, .unset] [])) _
    refine XS.iloadN X0.here hx rfl (hb hby d20_0) rfl ?_
    show Steps p.tables e below (s₁.setTop (mkF m 1 #[.val (.ref x), .val (.ref y), .val (.int p3), .unset, .unset, .unset, .unset, .unset] [(.int p3)])) _
    refine XS.ifNo X0.here hx rfl (hb hby d20_1) rfl ((if0 _ _).trans (flt (own_i0 h3 : ¬ (p3 < (0 : Int32)))).1) ?_
    show Steps p.tables e below (s₁.setTop (mkF m 4 #[.val (.ref x), .val (.ref y), .val (.int p3), .unset, .unset, .unset, .unset, .unset] [])) _
    refine XS.iloadN X0.here hx rfl (hb hby d20_4) rfl ?_
    show Steps p.tables e below (s₁.setTop (mkF m 5 #[.val (.ref x), .val (.ref y), .val (.int p3), .unset, .unset, .unset, .unset, .unset] [(.int p3)])) _
    refine XS.aloadN X0.here hx rfl (hb hby d20_5) rfl rfl ?_
    show Steps p.tables e below (s₁.setTop (mkF m 6 #[.val (.ref x), .val (.ref y), .val (.int p3), .unset, .unset, .unset, .unset, .unset] [(.ref x), (.int p3)])) _
    refine st1.trans ?_
    show Steps p.tables e below (T1.setTop (mkF m 9 #[.val (.ref x), .val (.ref y), .val (.int p3), .unset, .unset, .unset, .unset, .unset] [(.int (6 : Int32)), (.int p3)])) _
    refine XS.aloadN X1.here hx rfl (hb hby d20_9) rfl rfl ?_
    show Steps p.tables e below (T1.setTop (mkF m 10 #[.val (.ref x), .val (.ref y), .val (.int p3), .unset, .unset, .unset, .unset, .unset] [(.ref y), (.int (6 : Int32)), (.int p3)])) _
    refine st2.trans ?_
    show Steps p.tables e below (T2.setTop (mkF m 13 #[.val (.ref x), .val (.ref y), .val (.int p3), .unset, .unset, .unset, .unset, .unset] [(.int (2 : Int32)), (.int (6 : Int32)), (.int p3)])) _
    refine XS.isub X2.here hx rfl (hb hby d20_13) rfl ?_
    exact kt
  by_cases hc14_3 : (4 : Int32) < p3
  · obtain ⟨fs, hr, hrun, hended, hW, hsame⟩ := X2.leave (v := some (.int (0 : Int32))) (fun h => by rw [Bd.returns] at h; cases h)
    refine ⟨_, _, pre4 _ ?_, hrun, hended, _, _, rfl, ?_, ⟨_, rfl⟩, hW, hsame.mono (by decide) (by decide)⟩
    · show Steps p.tables e below (T2.setTop (mkF m 14 #[.val (.ref x), .val (.ref y), .val (.int p3), .unset, .unset, .unset, .unset, .unset] [(.int (4 : Int32)), (.int p3)])) _
      refine XS.icmpNo X2.here hx rfl (hb hby d20_14) rfl (tlt hc14_3).2.2.2 ?_
      show Steps p.tables e below (T2.setTop (mkF m 17 #[.val (.ref x), .val (.ref y), .val (.int p3), .unset, .unset, .unset, .unset, .unset] [])) _
      refine XS.iconst X2.here hx rfl (hb hby d20_17) ?_
      show Steps p.tables e below (T2.setTop (mkF m 18 #[.val (.ref x), .val (.ref y), .val (.int p3), .unset, .unset, .unset, .unset, .unset] [(.int (0 : Int32))])) _
      exact retN X2 hx (t := .boolean) Bd.returns (by simp) (hb hby d20_18) hr
    · show Q_rm20 Z x y p3 tb kb bs z0 t2 kb2 h0 n0 _ T2.heap _
      rw [e2]
      exact ⟨by rw [own_sw, if_pos hc14_3], N2, rfl⟩
  · obtain ⟨T5, X5, e5, st5⟩ := getF X2 hx hZ hown (host := "") (Or.inl (own_w hw 32 rfl)) Via.refl e2 F_value_x (g := (mkF m 20 #[.val (.ref x), .val (.ref y), .val (.int p3), .unset, .unset, .unset, .unset, .unset] [(.ref x)])) rfl rfl (hb hby d20_20)
    obtain ⟨T6, X6, e6, st6⟩ := getF X5 hx hZ hown (host := "") (Or.inl (own_w hw 32 rfl)) Via.refl e5 F_value_y (g := (mkF m 25 #[.val (.ref x), .val (.ref y), .val (.int p3), .val (.ref tb), .unset, .unset, .unset, .unset] [(.ref y)])) rfl rfl (hb hby d20_25)
    obtain ⟨c7, Ac7, -, Sc7, Nc7, -, -⟩ := id V_t2
    obtain ⟨cq8, kq8, q8a, q8b, q8c⟩ := isOf hZ e6 E_x
    obtain ⟨_, _, ⟨T8, L8, k8, n8⟩, -, X8, ⟨Lc8, hQ8, l8, y8, z8⟩, st8⟩ := X6.virtualBack hx (y := (⟨nm1, "coder", "()B"⟩ : MethodName)) (z := (⟨nm1, "coder", "()B"⟩ : MethodName)) hown (mvT hZ (own_w hw 61 rfl)) (mvT hZ (own_w hw 62 rfl)) (notFace_of_selects (args := #[]) (mvT hZ (own_w hw 64 rfl))) (mvT hZ (own_w hw 64 rfl)) (mvT hZ (own_w hw 63 rfl)) (by decide) (backOf (W := 0) (rm14 l Z a0 hw [] x z0 h0 n0 Z0 F_coder_x S_COMPACT_STRINGS hz) hZ (own_w hw 65 rfl) (own_w hw 7 rfl) (by decide) (by decide)) q8a q8c (g := (mkF m 39 #[.val (.ref x), .val (.ref y), .val (.int p3), .val (.ref tb), .val (.ref t2), .val (.int (0 : Int32)), .val (.int (2 : Int32)), .unset] [(.ref x)])) rfl (by rw [hml]; rfl) (Steps.refl _) (argsL := []) (rest := []) (lenOf pd__28_29B rfl) rfl (by show 2 * 0 + _ ≤ _; exact Nat.le_of_eq rfl) (hb hby d20_39) (fun _ _ => ⟨rfl, e6, (by decide : 0 + 0 ≤ _), (by decide : 0 + 0 ≤ _)⟩)
    dsimp only [Pt.U, Pt.locs, Pt.cells, Pt.slots] at y8 z8 st8 hQ8
    change Stand p l e _ s m _ below meth c T8 L8 k8 n8 at X8
    change L8 = _ ++ Lc8 at l8
    subst y8 z8
    obtain ⟨rfl, N8q, e8⟩ := hQ8
    have N8 : Fr n0 L8 := l8 ▸ Fr.app N2 N8q
    obtain ⟨cq9, kq9, q9a, q9b, q9c⟩ := isOf hZ e8 E_y
    obtain ⟨_, _, ⟨T9, L9, k9, n9⟩, -, X9, ⟨Lc9, hQ9, l9, y9, z9⟩, st9⟩ := X8.virtualBack hx (y := (⟨nm1, "coder", "()B"⟩ : MethodName)) (z := (⟨nm1, "coder", "()B"⟩ : MethodName)) hown (mvT hZ (own_w hw 61 rfl)) (mvT hZ (own_w hw 62 rfl)) (notFace_of_selects (args := #[]) (mvT hZ (own_w hw 64 rfl))) (mvT hZ (own_w hw 64 rfl)) (mvT hZ (own_w hw 63 rfl)) (by decide) (backOf (W := 1) (rm14 l Z a0 hw [] y z0 h0 n0 Z0 F_coder_y S_COMPACT_STRINGS hz) hZ (own_w hw 65 rfl) (own_w hw 7 rfl) (by decide) (by decide)) q9a q9c (g := (mkF m 47 #[.val (.ref x), .val (.ref y), .val (.int p3), .val (.ref tb), .val (.ref t2), .val (.int (0 : Int32)), .val (.int (2 : Int32)), .val (.int (0 : Int32))] [(.ref y), (.int (0 : Int32))])) rfl (by rw [hml]; rfl) (Steps.refl _) (argsL := []) (rest := [(.int (0 : Int32))]) (lenOf pd__28_29B rfl) rfl (by show 2 * 0 + _ ≤ _; exact Nat.le_of_eq rfl) (hb hby d20_47) (fun _ _ => ⟨rfl, e8, (by decide : 0 + 0 ≤ _), (by decide : 0 + 0 ≤ _)⟩)
    dsimp only [Pt.U, Pt.locs, Pt.cells, Pt.slots] at y9 z9 st9 hQ9
    change Stand p l e _ s m _ below meth c T9 L9 k9 n9 at X9
    change L9 = _ ++ Lc9 at l9
    subst y9 z9
    obtain ⟨rfl, N9q, e9⟩ := hQ9
    have N9 : Fr n0 L9 := l9 ▸ Fr.app N8 N9q
    obtain ⟨_, _, ⟨T10, L10, k10, n10⟩, -, X10, ⟨Lc10, hQ10, l10, y10, z10⟩, st10⟩ := Jvm.LawKit.callS X9 hx (y := (⟨"jdk/internal/util/ArraysSupport", "mismatch", "([BI[BII)I"⟩ : MethodName)) hown (mvT hZ (own_w hw 92 rfl)) (mvT hZ (own_w hw 93 rfl)) (mvT hZ (own_w hw 94 rfl)) (mvT hZ (own_w hw 95 rfl)) (by decide) (backOf (W := 0) (rm21 l Z a0 hw [] tb p3 t2 kb kb2 bs h0 n0 Z0 V_tb V_t2 (own_h4 h3 hc14_3)) hZ (own_w hw 95 rfl) (own_w hw 94 rfl) (by decide) (by decide)) (g := (mkF m 70 #[.val (.ref x), .val (.ref y), .val (.int p3), .val (.ref tb), .val (.ref t2), .val (.int (0 : Int32)), .val (.int (2 : Int32)), .val (.int (0 : Int32))] [(.int (2 : Int32)), (.int (0 : Int32)), (.ref t2), (.int p3), (.ref tb)])) rfl (by rw [hml]; rfl) (argsL := [(.ref tb), (.int p3), (.ref t2), (.int (0 : Int32)), (.int (2 : Int32))]) (rest := []) (lenOf pd__28_5bBI_5bBII_29I rfl) rfl (by show 2 * 0 + _ ≤ _; exact Nat.le_of_eq rfl) (hb hby d20_70) (fun _ _ => ⟨rfl, e9, (by decide : 0 + 0 ≤ _), (by decide : 0 + 0 ≤ _)⟩)
    dsimp only [Pt.U, Pt.locs, Pt.cells, Pt.slots] at y10 z10 st10 hQ10
    change Stand p l e _ s m _ below meth c T10 L10 k10 n10 at X10
    change L10 = _ ++ Lc10 at l10
    subst y10 z10
    obtain ⟨rfl, N10q, e10⟩ := hQ10
    have N10 : Fr n0 L10 := l10 ▸ Fr.app N9 N10q
    have pre12 : ∀ t, Steps p.tables e below (T10.setTop (mkF m 73 #[.val (.ref x), .val (.ref y), .val (.int p3), .val (.ref tb), .val (.ref t2), .val (.int (0 : Int32)), .val (.int (2 : Int32)), .val (.int (0 : Int32))] [(.int (own_mm bs p3))])) t → Steps p.tables e below (s₁.setTop (entryFrame m #[(.ref x), (.ref y), (.int p3)] 8)) t := fun t kt => by
      refine pre4 t ?_
      show Steps p.tables e below (T2.setTop (mkF m 14 #[.val (.ref x), .val (.ref y), .val (.int p3), .unset, .unset, .unset, .unset, .unset] [(.int (4 : Int32)), (.int p3)])) _
      refine XS.icmpYes X2.here hx rfl (pc0 := 14) (pc' := 19) rfl (hb hby d20_14) rfl (flt hc14_3).2.2.2 (by decide) (by decide) ?_
      show Steps p.tables e below (T2.setTop (mkF m 19 #[.val (.ref x), .val (.ref y), .val (.int p3), .unset, .unset, .unset, .unset, .unset] [])) _
      refine XS.aloadN X2.here hx rfl (hb hby d20_19) rfl rfl ?_
      show Steps p.tables e below (T2.setTop (mkF m 20 #[.val (.ref x), .val (.ref y), .val (.int p3), .unset, .unset, .unset, .unset, .unset] [(.ref x)])) _
      refine st5 _ ?_
      show Steps p.tables e below (T5.setTop (mkF m 23 #[.val (.ref x), .val (.ref y), .val (.int p3), .unset, .unset, .unset, .unset, .unset] [(.ref tb)])) _
      refine XS.astoreN X5.here hx rfl (hb hby d20_23) rfl rfl (l' := #[.val (.ref x), .val (.ref y), .val (.int p3), .val (.ref tb), .unset, .unset, .unset, .unset]) rfl ?_
      show Steps p.tables e below (T5.setTop (mkF m 24 #[.val (.ref x), .val (.ref y), .val (.int p3), .val (.ref tb), .unset, .unset, .unset, .unset] [])) _
      refine XS.aloadN X5.here hx rfl (hb hby d20_24) rfl rfl ?_
      show Steps p.tables e below (T5.setTop (mkF m 25 #[.val (.ref x), .val (.ref y), .val (.int p3), .val (.ref tb), .unset, .unset, .unset, .unset] [(.ref y)])) _
      refine st6 _ ?_
      show Steps p.tables e below (T6.setTop (mkF m 28 #[.val (.ref x), .val (.ref y), .val (.int p3), .val (.ref tb), .unset, .unset, .unset, .unset] [(.ref t2)])) _
      refine XS.astore X6.here hx rfl (hb hby d20_28) rfl rfl (l' := #[.val (.ref x), .val (.ref y), .val (.int p3), .val (.ref tb), .val (.ref t2), .unset, .unset, .unset]) rfl ?_
      show Steps p.tables e below (T6.setTop (mkF m 30 #[.val (.ref x), .val (.ref y), .val (.int p3), .val (.ref tb), .val (.ref t2), .unset, .unset, .unset] [])) _
      refine XS.iconst X6.here hx rfl (hb hby d20_30) ?_
      show Steps p.tables e below (T6.setTop (mkF m 31 #[.val (.ref x), .val (.ref y), .val (.int p3), .val (.ref tb), .val (.ref t2), .unset, .unset, .unset] [(.int (0 : Int32))])) _
      refine XS.istore X6.here hx rfl (hb hby d20_31) rfl (l' := #[.val (.ref x), .val (.ref y), .val (.int p3), .val (.ref tb), .val (.ref t2), .val (.int (0 : Int32)), .unset, .unset]) rfl ?_
      show Steps p.tables e below (T6.setTop (mkF m 33 #[.val (.ref x), .val (.ref y), .val (.int p3), .val (.ref tb), .val (.ref t2), .val (.int (0 : Int32)), .unset, .unset] [])) _
      refine XS.aload X6.here hx rfl (hb hby d20_33) rfl rfl ?_
      show Steps p.tables e below (T6.setTop (mkF m 35 #[.val (.ref x), .val (.ref y), .val (.int p3), .val (.ref tb), .val (.ref t2), .val (.int (0 : Int32)), .unset, .unset] [(.ref t2)])) _
      refine X6.arraylength hx (by rw [e6]; exact Ac7.1) (State.isArrayOf_alike hZ.alike Ac7.2.1) (g := (mkF m 35 #[.val (.ref x), .val (.ref y), .val (.int p3), .val (.ref tb), .val (.ref t2), .val (.int (0 : Int32)), .unset, .unset] [(.ref t2)])) rfl rfl (hb hby d20_35) _ ?_
      rw [len_of Sc7 Nc7]
      show Steps p.tables e below (T6.setTop (mkF m 36 #[.val (.ref x), .val (.ref y), .val (.int p3), .val (.ref tb), .val (.ref t2), .val (.int (0 : Int32)), .unset, .unset] [(.int (2 : Int32))])) _
      refine XS.istore X6.here hx rfl (hb hby d20_36) rfl (l' := #[.val (.ref x), .val (.ref y), .val (.int p3), .val (.ref tb), .val (.ref t2), .val (.int (0 : Int32)), .val (.int (2 : Int32)), .unset]) rfl ?_
      show Steps p.tables e below (T6.setTop (mkF m 38 #[.val (.ref x), .val (.ref y), .val (.int p3), .val (.ref tb), .val (.ref t2), .val (.int (0 : Int32)), .val (.int (2 : Int32)), .unset] [])) _
      refine XS.aloadN X6.here hx rfl (hb hby d20_38) rfl rfl ?_
      show Steps p.tables e below (T6.setTop (mkF m 39 #[.val (.ref x), .val (.ref y), .val (.int p3), .val (.ref tb), .val (.ref t2), .val (.int (0 : Int32)), .val (.int (2 : Int32)), .unset] [(.ref x)])) _
      refine st8.trans ?_
      show Steps p.tables e below (T8.setTop (mkF m 42 #[.val (.ref x), .val (.ref y), .val (.int p3), .val (.ref tb), .val (.ref t2), .val (.int (0 : Int32)), .val (.int (2 : Int32)), .unset] [(.int (0 : Int32))])) _
      refine XS.istore X8.here hx rfl (hb hby d20_42) rfl (l' := #[.val (.ref x), .val (.ref y), .val (.int p3), .val (.ref tb), .val (.ref t2), .val (.int (0 : Int32)), .val (.int (2 : Int32)), .val (.int (0 : Int32))]) rfl ?_
      show Steps p.tables e below (T8.setTop (mkF m 44 #[.val (.ref x), .val (.ref y), .val (.int p3), .val (.ref tb), .val (.ref t2), .val (.int (0 : Int32)), .val (.int (2 : Int32)), .val (.int (0 : Int32))] [])) _
      refine XS.iload X8.here hx rfl (hb hby d20_44) rfl ?_
      show Steps p.tables e below (T8.setTop (mkF m 46 #[.val (.ref x), .val (.ref y), .val (.int p3), .val (.ref tb), .val (.ref t2), .val (.int (0 : Int32)), .val (.int (2 : Int32)), .val (.int (0 : Int32))] [(.int (0 : Int32))])) _
      refine XS.aloadN X8.here hx rfl (hb hby d20_46) rfl rfl ?_
      show Steps p.tables e below (T8.setTop (mkF m 47 #[.val (.ref x), .val (.ref y), .val (.int p3), .val (.ref tb), .val (.ref t2), .val (.int (0 : Int32)), .val (.int (2 : Int32)), .val (.int (0 : Int32))] [(.ref y), (.int (0 : Int32))])) _
      refine st9.trans ?_
      show Steps p.tables e below (T9.setTop (mkF m 50 #[.val (.ref x), .val (.ref y), .val (.int p3), .val (.ref tb), .val (.ref t2), .val (.int (0 : Int32)), .val (.int (2 : Int32)), .val (.int (0 : Int32))] [(.int (0 : Int32)), (.int (0 : Int32))])) _
      refine XS.icmpNo X9.here hx rfl (hb hby d20_50) rfl (teq (by decide : (0 : Int32) = (0 : Int32))).2 ?_
      show Steps p.tables e below (T9.setTop (mkF m 53 #[.val (.ref x), .val (.ref y), .val (.int p3), .val (.ref tb), .val (.ref t2), .val (.int (0 : Int32)), .val (.int (2 : Int32)), .val (.int (0 : Int32))] [])) _
      refine XS.iload X9.here hx rfl (hb hby d20_53) rfl ?_
      show Steps p.tables e below (T9.setTop (mkF m 55 #[.val (.ref x), .val (.ref y), .val (.int p3), .val (.ref tb), .val (.ref t2), .val (.int (0 : Int32)), .val (.int (2 : Int32)), .val (.int (0 : Int32))] [(.int (0 : Int32))])) _
      refine XS.iconst X9.here hx rfl (hb hby d20_55) ?_
      show Steps p.tables e below (T9.setTop (mkF m 56 #[.val (.ref x), .val (.ref y), .val (.int p3), .val (.ref tb), .val (.ref t2), .val (.int (0 : Int32)), .val (.int (2 : Int32)), .val (.int (0 : Int32))] [(.int (1 : Int32)), (.int (0 : Int32))])) _
      refine XS.icmpYes X9.here hx rfl (pc0 := 56) (pc' := 63) rfl (hb hby d20_56) rfl (feq (by decide : ¬ ((0 : Int32) = (1 : Int32)))).2 (by decide) (by decide) ?_
      show Steps p.tables e below (T9.setTop (mkF m 63 #[.val (.ref x), .val (.ref y), .val (.int p3), .val (.ref tb), .val (.ref t2), .val (.int (0 : Int32)), .val (.int (2 : Int32)), .val (.int (0 : Int32))] [])) _
      refine XS.aloadN X9.here hx rfl (hb hby d20_63) rfl rfl ?_
      show Steps p.tables e below (T9.setTop (mkF m 64 #[.val (.ref x), .val (.ref y), .val (.int p3), .val (.ref tb), .val (.ref t2), .val (.int (0 : Int32)), .val (.int (2 : Int32)), .val (.int (0 : Int32))] [(.ref tb)])) _
      refine XS.iloadN X9.here hx rfl (hb hby d20_64) rfl ?_
      show Steps p.tables e below (T9.setTop (mkF m 65 #[.val (.ref x), .val (.ref y), .val (.int p3), .val (.ref tb), .val (.ref t2), .val (.int (0 : Int32)), .val (.int (2 : Int32)), .val (.int (0 : Int32))] [(.int p3), (.ref tb)])) _
      refine XS.aload X9.here hx rfl (hb hby d20_65) rfl rfl ?_
      show Steps p.tables e below (T9.setTop (mkF m 67 #[.val (.ref x), .val (.ref y), .val (.int p3), .val (.ref tb), .val (.ref t2), .val (.int (0 : Int32)), .val (.int (2 : Int32)), .val (.int (0 : Int32))] [(.ref t2), (.int p3), (.ref tb)])) _
      refine XS.iconst X9.here hx rfl (hb hby d20_67) ?_
      show Steps p.tables e below (T9.setTop (mkF m 68 #[.val (.ref x), .val (.ref y), .val (.int p3), .val (.ref tb), .val (.ref t2), .val (.int (0 : Int32)), .val (.int (2 : Int32)), .val (.int (0 : Int32))] [(.int (0 : Int32)), (.ref t2), (.int p3), (.ref tb)])) _
      refine XS.iload X9.here hx rfl (hb hby d20_68) rfl ?_
      show Steps p.tables e below (T9.setTop (mkF m 70 #[.val (.ref x), .val (.ref y), .val (.int p3), .val (.ref tb), .val (.ref t2), .val (.int (0 : Int32)), .val (.int (2 : Int32)), .val (.int (0 : Int32))] [(.int (2 : Int32)), (.int (0 : Int32)), (.ref t2), (.int p3), (.ref tb)])) _
      refine st10 _ ?_
      exact kt
    by_cases hc73_11 : (own_mm bs p3) < (0 : Int32)
    · obtain ⟨fs, hr, hrun, hended, hW, hsame⟩ := X10.leave (v := some (.int (1 : Int32))) (fun h => by rw [Bd.returns] at h; cases h)
      refine ⟨_, _, pre12 _ ?_, hrun, hended, _, _, rfl, ?_, ⟨_, rfl⟩, hW, hsame.mono (by decide) (by decide)⟩
      · show Steps p.tables e below (T10.setTop (mkF m 73 #[.val (.ref x), .val (.ref y), .val (.int p3), .val (.ref tb), .val (.ref t2), .val (.int (0 : Int32)), .val (.int (2 : Int32)), .val (.int (0 : Int32))] [(.int (own_mm bs p3))])) _
        refine XS.ifNo X10.here hx rfl (hb hby d20_73) rfl ((if0 _ _).trans (tlt hc73_11).2.1) ?_
        show Steps p.tables e below (T10.setTop (mkF m 76 #[.val (.ref x), .val (.ref y), .val (.int p3), .val (.ref tb), .val (.ref t2), .val (.int (0 : Int32)), .val (.int (2 : Int32)), .val (.int (0 : Int32))] [])) _
        refine XS.iconst X10.here hx rfl (hb hby d20_76) ?_
        show Steps p.tables e below (T10.setTop (mkF m 77 #[.val (.ref x), .val (.ref y), .val (.int p3), .val (.ref tb), .val (.ref t2), .val (.int (0 : Int32)), .val (.int (2 : Int32)), .val (.int (0 : Int32))] [(.int (1 : Int32))])) _
        refine XS.goto X10.here hx rfl (pc0 := 77) (pc' := 81) rfl (hb hby d20_77) (by decide) (by decide) ?_
        show Steps p.tables e below (T10.setTop (mkF m 81 #[.val (.ref x), .val (.ref y), .val (.int p3), .val (.ref tb), .val (.ref t2), .val (.int (0 : Int32)), .val (.int (2 : Int32)), .val (.int (0 : Int32))] [(.int (1 : Int32))])) _
        exact retN X10 hx (t := .boolean) Bd.returns (by simp) (hb hby d20_81) hr
      · show Q_rm20 Z x y p3 tb kb bs z0 t2 kb2 h0 n0 _ T10.heap _
        rw [e10]
        exact ⟨by rw [own_sw, if_neg hc14_3, if_pos hc73_11], N10, rfl⟩
    · obtain ⟨fs, hr, hrun, hended, hW, hsame⟩ := X10.leave (v := some (.int (0 : Int32))) (fun h => by rw [Bd.returns] at h; cases h)
      refine ⟨_, _, pre12 _ ?_, hrun, hended, _, _, rfl, ?_, ⟨_, rfl⟩, hW, hsame.mono (by decide) (by decide)⟩
      · show Steps p.tables e below (T10.setTop (mkF m 73 #[.val (.ref x), .val (.ref y), .val (.int p3), .val (.ref tb), .val (.ref t2), .val (.int (0 : Int32)), .val (.int (2 : Int32)), .val (.int (0 : Int32))] [(.int (own_mm bs p3))])) _
        refine XS.ifYes X10.here hx rfl (pc0 := 73) (pc' := 80) rfl (hb hby d20_73) rfl ((if0 _ _).trans (flt hc73_11).2.1) (by decide) (by decide) ?_
        show Steps p.tables e below (T10.setTop (mkF m 80 #[.val (.ref x), .val (.ref y), .val (.int p3), .val (.ref tb), .val (.ref t2), .val (.int (0 : Int32)), .val (.int (2 : Int32)), .val (.int (0 : Int32))] [])) _
        refine XS.iconst X10.here hx rfl (hb hby d20_80) ?_
        show Steps p.tables e below (T10.setTop (mkF m 81 #[.val (.ref x), .val (.ref y), .val (.int p3), .val (.ref tb), .val (.ref t2), .val (.int (0 : Int32)), .val (.int (2 : Int32)), .val (.int (0 : Int32))] [(.int (0 : Int32))])) _
        exact retN X10 hx (t := .boolean) Bd.returns (by simp) (hb hby d20_81) hr
      · show Q_rm20 Z x y p3 tb kb bs z0 t2 kb2 h0 n0 _ T10.heap _
        rw [e10]
        exact ⟨by rw [own_sw, if_neg hc14_3, if_neg hc73_11], N10, rfl⟩
theorem d23_0 : decode jdk_30_method_1_code 0 = .ok (.aload_n 0, 1) := by decide +kernel
theorem d23_1 : decode jdk_30_method_1_code 1 = .ok (.invokespecial 1, 3) := by decide +kernel
theorem d23_4 : decode jdk_30_method_1_code 4 = .ok (.return_, 1) := by decide +kernel
theorem pn_java_lang_Record : plainName "java/lang/Record" = true := by first | (simp [plainName, overriddenIn]; done) | decide +kernel
theorem ef_rm23 (m : MethodId) (x : Addr) : entryFrame m #[(.ref x)] 1 = mkF m 0 #[.val (.ref x)] [] := by first | (simp [entryFrame, mkF, argsToLocals, Value.category]; done) | rfl
def Q_rm23 (Z : State) (x : Addr) (h0 : Heap) (n0 : Nat) (v : Option Value) (h : Heap) (L : List Loc) : Prop := v = none ∧ Fr n0 L ∧ h = h0
set_option maxRecDepth 65536 in
set_option maxHeartbeats 40000000 in
theorem rm23 (l : Launch) (Z : State) (a0 : Array Value) (hw : ∀ d ∈ tables_1, d.before a0 Z = true) (ws : List Jvm.Cond) (x : Addr) (h0 : Heap) (n0 : Nat) (Z0 : n0 ≤ h0.size) :
    MetFree l (⟨"java/lang/Record", "<init>", "()V"⟩ : MethodName) (head1 (Jvm.Cond.code (⟨"java/lang/Record", "<init>", "()V"⟩ : MethodName) jdk_30_method_1_code 1 none :: ws) ({ frames := 1, cells := 0, slots := 0, locals := 12 } : Room)) (fun a U => a = #[(.ref x)] ∧ Z.Warmed39 U.vm ∧ U.heap = h0) (fun _ _ _ _ _ => True) (fun _ U o U' => ∃ v L, o = .returned v ∧ Q_rm23 Z x h0 n0 v U'.heap L ∧ FrameEnd U o U' L ({ frames := 1, cells := 0, slots := 0, locals := 12 } : Room).cells ({ frames := 1, cells := 0, slots := 0, locals := 12 } : Room).slots) := by
  refine MetFree.of_bodySF (plainFor_of_name pn_java_lang_Record) hisR ?_
  intro p e s m args below meth c s₁ Bd hml0 hP hK
  obtain ⟨rfl, hZ, hh⟩ := hP
  have hx := Bd.exec
  have hby := Bd.bytes
  have hml : c.maxLocals = 1 := hml0
  have hown : s.vm.findClass "java/lang/Record" = some m.cls := findClass_of_methodNamed Bd.named
  have hnm := (name_of_methodNamed Bd.named Bd.method).1
  have X0 : Stand p l e ({ frames := 1, cells := 0, slots := 0, locals := 12 } : Room) s m #[(.ref x)] below meth c s₁ [] 0 0 := Stand.of_body Bd
  have e0 : s₁.heap = h0 := by rw [← hh, Bd.state]; rfl
  have N0 := Fr.nil n0
  have pre0 : ∀ t, Steps p.tables e below (s₁.setTop (mkF m 0 #[.val (.ref x)] [])) t → Steps p.tables e below (s₁.setTop (entryFrame m #[(.ref x)] 1)) t := fun t k => castTop (ef_rm23 m x) k
  obtain ⟨T1, X1, e1, st1⟩ := initO X0 hx hZ hown (own_w hw 107 rfl) (own_w hw 16 rfl) (own_w hw 17 rfl) e0 (g := (mkF m 1 #[.val (.ref x)] [(.ref x)])) rfl (by rw [hml]; rfl) rfl (hb hby d23_1) (by decide) (W := 0) (by show 2 * 0 + _ ≤ _; exact Nat.le_of_eq rfl) (by decide)
  obtain ⟨fs, hr, hrun, hended, hW, hsame⟩ := X1.leave (v := none) (fun _ => rfl)
  refine ⟨_, _, pre0 _ ?_, hrun, hended, _, _, rfl, ?_, ⟨_, rfl⟩, hW, hsame.mono (by decide) (by decide)⟩
  · show Steps p.tables e below (s₁.setTop (mkF m 0 #[.val (.ref x)] [])) _
    refine XS.aloadN X0.here hx rfl (hb hby d23_0) rfl rfl ?_
    show Steps p.tables e below (s₁.setTop (mkF m 1 #[.val (.ref x)] [(.ref x)])) _
    refine st1 _ ?_
    show Steps p.tables e below (T1.setTop (mkF m 4 #[.val (.ref x)] [])) _
    exact X1.returnOut hx Bd.returns (hb hby d23_4) hr
  · show Q_rm23 Z x h0 n0 _ T1.heap _
    rw [e1]
    exact ⟨rfl, N0, rfl⟩
theorem d22_0 : decode prog_69_method_1_code 0 = .ok (.aload_n 0, 1) := by decide +kernel
theorem pd__28_29V : parseMethodDescriptor "()V" = some ⟨[], none⟩ := by decide +kernel
theorem d22_1 : decode prog_69_method_1_code 1 = .ok (.invokespecial 1, 3) := by decide +kernel
theorem d22_4 : decode prog_69_method_1_code 4 = .ok (.aload_n 0, 1) := by decide +kernel
theorem d22_5 : decode prog_69_method_1_code 5 = .ok (.iload_n 1, 1) := by decide +kernel
theorem d22_6 : decode prog_69_method_1_code 6 = .ok (.putfield 7, 3) := by decide +kernel
theorem d22_9 : decode prog_69_method_1_code 9 = .ok (.aload_n 0, 1) := by decide +kernel
theorem d22_10 : decode prog_69_method_1_code 10 = .ok (.iload_n 2, 1) := by decide +kernel
theorem d22_11 : decode prog_69_method_1_code 11 = .ok (.putfield 13, 3) := by decide +kernel
theorem d22_14 : decode prog_69_method_1_code 14 = .ok (.aload_n 0, 1) := by decide +kernel
theorem d22_15 : decode prog_69_method_1_code 15 = .ok (.iload_n 3, 1) := by decide +kernel
theorem d22_16 : decode prog_69_method_1_code 16 = .ok (.putfield 16, 3) := by decide +kernel
theorem d22_19 : decode prog_69_method_1_code 19 = .ok (.aload_n 0, 1) := by decide +kernel
theorem d22_20 : decode prog_69_method_1_code 20 = .ok (.iload 4, 2) := by decide +kernel
theorem d22_22 : decode prog_69_method_1_code 22 = .ok (.putfield 19, 3) := by decide +kernel
theorem d22_25 : decode prog_69_method_1_code 25 = .ok (.return_, 1) := by decide +kernel
theorem pn_com_example_basepoint_basepoint_uri_UriReference_Split : plainName nm0 = true := by first | (simp [plainName, overriddenIn]; done) | decide +kernel
theorem ef_rm22 (m : MethodId) (x : Addr) (p2 : Int32) (p3 : Int32) (p4 : Int32) (p5 : Int32) : entryFrame m #[(.ref x), (.int p2), (.int p3), (.int p4), (.int p5)] 5 = mkF m 0 #[.val (.ref x), .val (.int p2), .val (.int p3), .val (.int p4), .val (.int p5)] [] := by first | (simp [entryFrame, mkF, argsToLocals, Value.category]; done) | rfl
def Q_rm22 (Z : State) (x : Addr) (p2 : Int32) (p3 : Int32) (p4 : Int32) (p5 : Int32) (u0 : Value) (u1 : Value) (u2 : Value) (u3 : Value) (h0 : Heap) (n0 : Nat) (v : Option Value) (h : Heap) (L : List Loc) : Prop := v = none ∧ Fr n0 L ∧ Keep h0 h [x] ∧ Exa Z h x nm0 ∧ Fld Z h x nm0 "afterScheme" "I" (.int p2) ∧ Fld Z h x nm0 "pathStart" "I" (.int p3)
set_option maxRecDepth 65536 in
set_option maxHeartbeats 40000000 in
theorem rm22 (l : Launch) (Z : State) (a0 : Array Value) (hw : ∀ d ∈ tables_1, d.before a0 Z = true) (ws : List Jvm.Cond) (x : Addr) (p2 : Int32) (p3 : Int32) (p4 : Int32) (p5 : Int32) (u0 : Value) (u1 : Value) (u2 : Value) (u3 : Value) (h0 : Heap) (n0 : Nat) (Z0 : n0 ≤ h0.size) (E_x : Exa Z h0 x nm0) (F_afterScheme_x : Fld Z h0 x nm0 "afterScheme" "I" u0) (F_pathStart_x : Fld Z h0 x nm0 "pathStart" "I" u1) (F_pathEnd_x : Fld Z h0 x nm0 "pathEnd" "I" u2) (F_fragmentStart_x : Fld Z h0 x nm0 "fragmentStart" "I" u3) (g_x : n0 ≤ x) :
    MetFree l (⟨nm0, "<init>", "(IIII)V"⟩ : MethodName) (head1 (Jvm.Cond.code (⟨nm0, "<init>", "(IIII)V"⟩ : MethodName) prog_69_method_1_code 5 none :: ws) ({ frames := 2, cells := 0, slots := 0, locals := 24 } : Room)) (fun a U => a = #[(.ref x), (.int p2), (.int p3), (.int p4), (.int p5)] ∧ Z.Warmed39 U.vm ∧ U.heap = h0) (fun _ _ _ _ _ => True) (fun _ U o U' => ∃ v L, o = .returned v ∧ Q_rm22 Z x p2 p3 p4 p5 u0 u1 u2 u3 h0 n0 v U'.heap L ∧ FrameEnd U o U' L ({ frames := 2, cells := 0, slots := 0, locals := 24 } : Room).cells ({ frames := 2, cells := 0, slots := 0, locals := 24 } : Room).slots) := by
  refine MetFree.of_bodySF (plainFor_of_name pn_com_example_basepoint_basepoint_uri_UriReference_Split) hisR ?_
  intro p e s m args below meth c s₁ Bd hml0 hP hK
  obtain ⟨rfl, hZ, hh⟩ := hP
  have hx := Bd.exec
  have hby := Bd.bytes
  have hml : c.maxLocals = 5 := hml0
  have hown : s.vm.findClass nm0 = some m.cls := findClass_of_methodNamed Bd.named
  have hnm := (name_of_methodNamed Bd.named Bd.method).1
  have X0 : Stand p l e ({ frames := 2, cells := 0, slots := 0, locals := 24 } : Room) s m #[(.ref x), (.int p2), (.int p3), (.int p4), (.int p5)] below meth c s₁ [] 0 0 := Stand.of_body Bd
  have e0 : s₁.heap = h0 := by rw [← hh, Bd.state]; rfl
  have N0 := Fr.nil n0
  have pre0 : ∀ t, Steps p.tables e below (s₁.setTop (mkF m 0 #[.val (.ref x), .val (.int p2), .val (.int p3), .val (.int p4), .val (.int p5)] [])) t → Steps p.tables e below (s₁.setTop (entryFrame m #[(.ref x), (.int p2), (.int p3), (.int p4), (.int p5)] 5)) t := fun t k => castTop (ef_rm22 m x p2 p3 p4 p5) k
  obtain ⟨_, _, ⟨T1, L1, k1, n1⟩, -, X1, ⟨Lc1, hQ1, l1, y1, z1⟩, st1⟩ := X0.specialBack hx (y := (⟨"java/lang/Record", "<init>", "()V"⟩ : MethodName)) rfl hown (mvT hZ (own_w hw 102 rfl)) (mvT hZ (own_w hw 103 rfl)) (mvT hZ (own_w hw 106 rfl)) (by decide) (backOf (W := 0) (rm23 l Z a0 hw [] x h0 n0 Z0 ) hZ (own_w hw 106 rfl) (own_w hw 105 rfl) (by decide) (by decide)) (g := (mkF m 1 #[.val (.ref x), .val (.int p2), .val (.int p3), .val (.int p4), .val (.int p5)] [(.ref x)])) rfl (by rw [hml]; rfl) (Steps.refl _) (a := x) (argsL := []) (rest := []) (lenOf pd__28_29V rfl) rfl (by show 2 * 0 + _ ≤ _; exact Nat.le_of_eq rfl) (hb hby d22_1) (fun _ _ => ⟨rfl, e0, (by decide : 0 + 0 ≤ _), (by decide : 0 + 0 ≤ _)⟩)
  dsimp only [Pt.U, Pt.locs, Pt.cells, Pt.slots] at y1 z1 st1 hQ1
  change Stand p l e _ s m _ below meth c T1 L1 k1 n1 at X1
  change L1 = _ ++ Lc1 at l1
  subst y1 z1
  obtain ⟨rfl, N1q, e1⟩ := hQ1
  have N1 : Fr n0 L1 := l1 ▸ Fr.app N0 N1q
  obtain ⟨T2, h2, X2, e2, W2, st2⟩ := putF X1 hx hZ hown (host := "") (Or.inl (own_w hw 108 rfl)) Via.refl e1 F_afterScheme_x E_x (Or.inr ⟨(own_w hw 109 rfl), rfl, hnm⟩) (own_w hw 97 rfl) (ty := .int) (by decide) rfl rfl (g := (mkF m 6 #[.val (.ref x), .val (.int p2), .val (.int p3), .val (.int p4), .val (.int p5)] [(.int p2), (.ref x)])) rfl rfl (hb hby d22_6)
  have K3 : Keep h0 h2 [x] := (Keep.refl h0 [x]).wr W2 (Or.inl (List.mem_of_getElem? (i := 0) rfl))
  have N4 := Fr.snoc X2 N1 g_x
  have Fw2 := F_afterScheme_x.same W2
  have f5 : Fld Z h2 x nm0 "pathStart" "I" u1 := (F_pathStart_x.other W2 (Or.inr (slot_ne (Or.inr (own_w hw 111 rfl)) (Or.inr (own_w hw 109 rfl)) (by decide) (t := .int) (t' := .int) (by decide) (by decide))))
  have f6 : Exa Z h2 x nm0 := (E_x.wr W2)
  obtain ⟨T7, h7, X7, e7, W7, st7⟩ := putF X2 hx hZ hown (host := "") (Or.inl (own_w hw 110 rfl)) Via.refl e2 f5 f6 (Or.inr ⟨(own_w hw 111 rfl), rfl, hnm⟩) (own_w hw 97 rfl) (ty := .int) (by decide) rfl rfl (g := (mkF m 11 #[.val (.ref x), .val (.int p2), .val (.int p3), .val (.int p4), .val (.int p5)] [(.int p3), (.ref x)])) rfl rfl (hb hby d22_11)
  have K8 : Keep h0 h7 [x] := K3.wr W7 (Or.inl (List.mem_of_getElem? (i := 0) rfl))
  have N9 := Fr.snoc X7 N4 g_x
  have Fw7 := f5.same W7
  have f10 : Fld Z h7 x nm0 "pathEnd" "I" u2 := ((F_pathEnd_x.other W2 (Or.inr (slot_ne (Or.inr (own_w hw 113 rfl)) (Or.inr (own_w hw 109 rfl)) (by decide) (t := .int) (t' := .int) (by decide) (by decide)))).other W7 (Or.inr (slot_ne (Or.inr (own_w hw 113 rfl)) (Or.inr (own_w hw 111 rfl)) (by decide) (t := .int) (t' := .int) (by decide) (by decide))))
  have f11 : Exa Z h7 x nm0 := (f6.wr W7)
  obtain ⟨T12, h12, X12, e12, W12, st12⟩ := putF X7 hx hZ hown (host := "") (Or.inl (own_w hw 112 rfl)) Via.refl e7 f10 f11 (Or.inr ⟨(own_w hw 113 rfl), rfl, hnm⟩) (own_w hw 97 rfl) (ty := .int) (by decide) rfl rfl (g := (mkF m 16 #[.val (.ref x), .val (.int p2), .val (.int p3), .val (.int p4), .val (.int p5)] [(.int p4), (.ref x)])) rfl rfl (hb hby d22_16)
  have K13 : Keep h0 h12 [x] := K8.wr W12 (Or.inl (List.mem_of_getElem? (i := 0) rfl))
  have N14 := Fr.snoc X12 N9 g_x
  have Fw12 := f10.same W12
  have f15 : Fld Z h12 x nm0 "fragmentStart" "I" u3 := (((F_fragmentStart_x.other W2 (Or.inr (slot_ne (Or.inr (own_w hw 115 rfl)) (Or.inr (own_w hw 109 rfl)) (by decide) (t := .int) (t' := .int) (by decide) (by decide)))).other W7 (Or.inr (slot_ne (Or.inr (own_w hw 115 rfl)) (Or.inr (own_w hw 111 rfl)) (by decide) (t := .int) (t' := .int) (by decide) (by decide)))).other W12 (Or.inr (slot_ne (Or.inr (own_w hw 115 rfl)) (Or.inr (own_w hw 113 rfl)) (by decide) (t := .int) (t' := .int) (by decide) (by decide))))
  have f16 : Exa Z h12 x nm0 := (f11.wr W12)
  obtain ⟨T17, h17, X17, e17, W17, st17⟩ := putF X12 hx hZ hown (host := "") (Or.inl (own_w hw 114 rfl)) Via.refl e12 f15 f16 (Or.inr ⟨(own_w hw 115 rfl), rfl, hnm⟩) (own_w hw 97 rfl) (ty := .int) (by decide) rfl rfl (g := (mkF m 22 #[.val (.ref x), .val (.int p2), .val (.int p3), .val (.int p4), .val (.int p5)] [(.int p5), (.ref x)])) rfl rfl (hb hby d22_22)
  have K18 : Keep h0 h17 [x] := K13.wr W17 (Or.inl (List.mem_of_getElem? (i := 0) rfl))
  have N19 := Fr.snoc X17 N14 g_x
  have Fw17 := f15.same W17
  have f20 : Exa Z h17 x nm0 := (f16.wr W17)
  have f21 : Fld Z h17 x nm0 "afterScheme" "I" (.int p2) := (((Fw2.other W7 (Or.inr (slot_ne (Or.inr (own_w hw 109 rfl)) (Or.inr (own_w hw 111 rfl)) (by decide) (t := .int) (t' := .int) (by decide) (by decide)))).other W12 (Or.inr (slot_ne (Or.inr (own_w hw 109 rfl)) (Or.inr (own_w hw 113 rfl)) (by decide) (t := .int) (t' := .int) (by decide) (by decide)))).other W17 (Or.inr (slot_ne (Or.inr (own_w hw 109 rfl)) (Or.inr (own_w hw 115 rfl)) (by decide) (t := .int) (t' := .int) (by decide) (by decide))))
  have f22 : Fld Z h17 x nm0 "pathStart" "I" (.int p3) := ((Fw7.other W12 (Or.inr (slot_ne (Or.inr (own_w hw 111 rfl)) (Or.inr (own_w hw 113 rfl)) (by decide) (t := .int) (t' := .int) (by decide) (by decide)))).other W17 (Or.inr (slot_ne (Or.inr (own_w hw 111 rfl)) (Or.inr (own_w hw 115 rfl)) (by decide) (t := .int) (t' := .int) (by decide) (by decide))))
  obtain ⟨fs, hr, hrun, hended, hW, hsame⟩ := X17.leave (v := none) (fun _ => rfl)
  refine ⟨_, _, pre0 _ ?_, hrun, hended, _, _, rfl, ?_, ⟨_, rfl⟩, hW, hsame.mono (by decide) (by decide)⟩
  · show Steps p.tables e below (s₁.setTop (mkF m 0 #[.val (.ref x), .val (.int p2), .val (.int p3), .val (.int p4), .val (.int p5)] [])) _
    refine XS.aloadN X0.here hx rfl (hb hby d22_0) rfl rfl ?_
    show Steps p.tables e below (s₁.setTop (mkF m 1 #[.val (.ref x), .val (.int p2), .val (.int p3), .val (.int p4), .val (.int p5)] [(.ref x)])) _
    refine st1.trans ?_
    show Steps p.tables e below (T1.setTop (mkF m 4 #[.val (.ref x), .val (.int p2), .val (.int p3), .val (.int p4), .val (.int p5)] [])) _
    refine XS.aloadN X1.here hx rfl (hb hby d22_4) rfl rfl ?_
    show Steps p.tables e below (T1.setTop (mkF m 5 #[.val (.ref x), .val (.int p2), .val (.int p3), .val (.int p4), .val (.int p5)] [(.ref x)])) _
    refine XS.iloadN X1.here hx rfl (hb hby d22_5) rfl ?_
    show Steps p.tables e below (T1.setTop (mkF m 6 #[.val (.ref x), .val (.int p2), .val (.int p3), .val (.int p4), .val (.int p5)] [(.int p2), (.ref x)])) _
    refine st2 _ ?_
    show Steps p.tables e below (T2.setTop (mkF m 9 #[.val (.ref x), .val (.int p2), .val (.int p3), .val (.int p4), .val (.int p5)] [])) _
    refine XS.aloadN X2.here hx rfl (hb hby d22_9) rfl rfl ?_
    show Steps p.tables e below (T2.setTop (mkF m 10 #[.val (.ref x), .val (.int p2), .val (.int p3), .val (.int p4), .val (.int p5)] [(.ref x)])) _
    refine XS.iloadN X2.here hx rfl (hb hby d22_10) rfl ?_
    show Steps p.tables e below (T2.setTop (mkF m 11 #[.val (.ref x), .val (.int p2), .val (.int p3), .val (.int p4), .val (.int p5)] [(.int p3), (.ref x)])) _
    refine st7 _ ?_
    show Steps p.tables e below (T7.setTop (mkF m 14 #[.val (.ref x), .val (.int p2), .val (.int p3), .val (.int p4), .val (.int p5)] [])) _
    refine XS.aloadN X7.here hx rfl (hb hby d22_14) rfl rfl ?_
    show Steps p.tables e below (T7.setTop (mkF m 15 #[.val (.ref x), .val (.int p2), .val (.int p3), .val (.int p4), .val (.int p5)] [(.ref x)])) _
    refine XS.iloadN X7.here hx rfl (hb hby d22_15) rfl ?_
    show Steps p.tables e below (T7.setTop (mkF m 16 #[.val (.ref x), .val (.int p2), .val (.int p3), .val (.int p4), .val (.int p5)] [(.int p4), (.ref x)])) _
    refine st12 _ ?_
    show Steps p.tables e below (T12.setTop (mkF m 19 #[.val (.ref x), .val (.int p2), .val (.int p3), .val (.int p4), .val (.int p5)] [])) _
    refine XS.aloadN X12.here hx rfl (hb hby d22_19) rfl rfl ?_
    show Steps p.tables e below (T12.setTop (mkF m 20 #[.val (.ref x), .val (.int p2), .val (.int p3), .val (.int p4), .val (.int p5)] [(.ref x)])) _
    refine XS.iload X12.here hx rfl (hb hby d22_20) rfl ?_
    show Steps p.tables e below (T12.setTop (mkF m 22 #[.val (.ref x), .val (.int p2), .val (.int p3), .val (.int p4), .val (.int p5)] [(.int p5), (.ref x)])) _
    refine st17 _ ?_
    show Steps p.tables e below (T17.setTop (mkF m 25 #[.val (.ref x), .val (.int p2), .val (.int p3), .val (.int p4), .val (.int p5)] [])) _
    exact X17.returnOut hx Bd.returns (hb hby d22_25) hr
  · show Q_rm22 Z x p2 p3 p4 p5 u0 u1 u2 u3 h0 n0 _ T17.heap _
    rw [e17]
    exact ⟨rfl, N19, K18, f20, f21, f22⟩
theorem d24_0 : decode prog_69_method_6_code 0 = .ok (.aload_n 0, 1) := by decide +kernel
theorem d24_1 : decode prog_69_method_6_code 1 = .ok (.getfield 7, 3) := by decide +kernel
theorem d24_4 : decode prog_69_method_6_code 4 = .ok (.ireturn, 1) := by decide +kernel
theorem ef_rm24 (m : MethodId) (x : Addr) : entryFrame m #[(.ref x)] 1 = mkF m 0 #[.val (.ref x)] [] := by first | (simp [entryFrame, mkF, argsToLocals, Value.category]; done) | rfl
def Q_rm24 (Z : State) (x : Addr) (p2 : Int32) (p3 : Int32) (h0 : Heap) (n0 : Nat) (v : Option Value) (h : Heap) (L : List Loc) : Prop := v = some (.int p2) ∧ Fr n0 L ∧ h = h0
set_option maxRecDepth 65536 in
set_option maxHeartbeats 40000000 in
theorem rm24 (l : Launch) (Z : State) (a0 : Array Value) (hw : ∀ d ∈ tables_1, d.before a0 Z = true) (ws : List Jvm.Cond) (x : Addr) (p2 : Int32) (p3 : Int32) (h0 : Heap) (n0 : Nat) (Z0 : n0 ≤ h0.size) (E_x : Exa Z h0 x nm0) (F_afterScheme_x : Fld Z h0 x nm0 "afterScheme" "I" (.int p2)) (F_pathStart_x : Fld Z h0 x nm0 "pathStart" "I" (.int p3)) :
    MetFree l (⟨nm0, "afterScheme", "()I"⟩ : MethodName) (head1 (Jvm.Cond.code (⟨nm0, "afterScheme", "()I"⟩ : MethodName) prog_69_method_6_code 1 (some .int) :: ws) ({ frames := 0, cells := 0, slots := 0, locals := 0 } : Room)) (fun a U => a = #[(.ref x)] ∧ Z.Warmed39 U.vm ∧ U.heap = h0) (fun _ _ _ _ _ => True) (fun _ U o U' => ∃ v L, o = .returned v ∧ Q_rm24 Z x p2 p3 h0 n0 v U'.heap L ∧ FrameEnd U o U' L ({ frames := 0, cells := 0, slots := 0, locals := 0 } : Room).cells ({ frames := 0, cells := 0, slots := 0, locals := 0 } : Room).slots) := by
  refine MetFree.of_bodySF (plainFor_of_name pn_com_example_basepoint_basepoint_uri_UriReference_Split) hisR ?_
  intro p e s m args below meth c s₁ Bd hml0 hP hK
  obtain ⟨rfl, hZ, hh⟩ := hP
  have hx := Bd.exec
  have hby := Bd.bytes
  have hml : c.maxLocals = 1 := hml0
  have hown : s.vm.findClass nm0 = some m.cls := findClass_of_methodNamed Bd.named
  have hnm := (name_of_methodNamed Bd.named Bd.method).1
  have X0 : Stand p l e ({ frames := 0, cells := 0, slots := 0, locals := 0 } : Room) s m #[(.ref x)] below meth c s₁ [] 0 0 := Stand.of_body Bd
  have e0 : s₁.heap = h0 := by rw [← hh, Bd.state]; rfl
  have N0 := Fr.nil n0
  have pre0 : ∀ t, Steps p.tables e below (s₁.setTop (mkF m 0 #[.val (.ref x)] [])) t → Steps p.tables e below (s₁.setTop (entryFrame m #[(.ref x)] 1)) t := fun t k => castTop (ef_rm24 m x) k
  obtain ⟨T1, X1, e1, st1⟩ := getF X0 hx hZ hown (host := "") (Or.inl (own_w hw 108 rfl)) Via.refl e0 F_afterScheme_x (g := (mkF m 1 #[.val (.ref x)] [(.ref x)])) rfl rfl (hb hby d24_1)
  obtain ⟨fs, hr, hrun, hended, hW, hsame⟩ := X1.leave (v := some (.int p2)) (fun h => by rw [Bd.returns] at h; cases h)
  refine ⟨_, _, pre0 _ ?_, hrun, hended, _, _, rfl, ?_, ⟨_, rfl⟩, hW, hsame.mono (by decide) (by decide)⟩
  · show Steps p.tables e below (s₁.setTop (mkF m 0 #[.val (.ref x)] [])) _
    refine XS.aloadN X0.here hx rfl (hb hby d24_0) rfl rfl ?_
    show Steps p.tables e below (s₁.setTop (mkF m 1 #[.val (.ref x)] [(.ref x)])) _
    refine st1 _ ?_
    show Steps p.tables e below (T1.setTop (mkF m 4 #[.val (.ref x)] [(.int p2)])) _
    exact retI X1 hx Bd.returns (hb hby d24_4) hr
  · show Q_rm24 Z x p2 p3 h0 n0 _ T1.heap _
    rw [e1]
    exact ⟨rfl, N0, rfl⟩
theorem d29_0 : decode prog_69_method_2_code 0 = .ok (.aload_n 0, 1) := by decide +kernel
theorem d29_1 : decode prog_69_method_2_code 1 = .ok (.getfield 13, 3) := by decide +kernel
theorem d29_4 : decode prog_69_method_2_code 4 = .ok (.aload_n 0, 1) := by decide +kernel
theorem d29_5 : decode prog_69_method_2_code 5 = .ok (.getfield 7, 3) := by decide +kernel
theorem d29_8 : decode prog_69_method_2_code 8 = .ok (.if_icmp .le 7, 3) := by decide +kernel
theorem d29_11 : decode prog_69_method_2_code 11 = .ok (.iconst 1, 1) := by decide +kernel
theorem d29_12 : decode prog_69_method_2_code 12 = .ok (.goto 4, 3) := by decide +kernel
theorem d29_15 : decode prog_69_method_2_code 15 = .ok (.iconst 0, 1) := by decide +kernel
theorem d29_16 : decode prog_69_method_2_code 16 = .ok (.ireturn, 1) := by decide +kernel
def own_ha (p2 : Int32) (p3 : Int32) : Int32 := (if p2 < p3 then (1 : Int32) else (0 : Int32))
theorem ef_rm29 (m : MethodId) (x : Addr) : entryFrame m #[(.ref x)] 1 = mkF m 0 #[.val (.ref x)] [] := by first | (simp [entryFrame, mkF, argsToLocals, Value.category]; done) | rfl
def Q_rm29 (Z : State) (x : Addr) (p2 : Int32) (p3 : Int32) (h0 : Heap) (n0 : Nat) (v : Option Value) (h : Heap) (L : List Loc) : Prop := v = some (.int (own_ha p2 p3)) ∧ Fr n0 L ∧ h = h0
set_option maxRecDepth 65536 in
set_option maxHeartbeats 40000000 in
theorem rm29 (l : Launch) (Z : State) (a0 : Array Value) (hw : ∀ d ∈ tables_1, d.before a0 Z = true) (ws : List Jvm.Cond) (x : Addr) (p2 : Int32) (p3 : Int32) (h0 : Heap) (n0 : Nat) (Z0 : n0 ≤ h0.size) (E_x : Exa Z h0 x nm0) (F_afterScheme_x : Fld Z h0 x nm0 "afterScheme" "I" (.int p2)) (F_pathStart_x : Fld Z h0 x nm0 "pathStart" "I" (.int p3)) :
    MetFree l (⟨nm0, "hasAuthority", "()Z"⟩ : MethodName) (head1 (Jvm.Cond.code (⟨nm0, "hasAuthority", "()Z"⟩ : MethodName) prog_69_method_2_code 1 (some .boolean) :: ws) ({ frames := 0, cells := 0, slots := 0, locals := 0 } : Room)) (fun a U => a = #[(.ref x)] ∧ Z.Warmed39 U.vm ∧ U.heap = h0) (fun _ _ _ _ _ => True) (fun _ U o U' => ∃ v L, o = .returned v ∧ Q_rm29 Z x p2 p3 h0 n0 v U'.heap L ∧ FrameEnd U o U' L ({ frames := 0, cells := 0, slots := 0, locals := 0 } : Room).cells ({ frames := 0, cells := 0, slots := 0, locals := 0 } : Room).slots) := by
  refine MetFree.of_bodySF (plainFor_of_name pn_com_example_basepoint_basepoint_uri_UriReference_Split) hisR ?_
  intro p e s m args below meth c s₁ Bd hml0 hP hK
  obtain ⟨rfl, hZ, hh⟩ := hP
  have hx := Bd.exec
  have hby := Bd.bytes
  have hml : c.maxLocals = 1 := hml0
  have hown : s.vm.findClass nm0 = some m.cls := findClass_of_methodNamed Bd.named
  have hnm := (name_of_methodNamed Bd.named Bd.method).1
  have X0 : Stand p l e ({ frames := 0, cells := 0, slots := 0, locals := 0 } : Room) s m #[(.ref x)] below meth c s₁ [] 0 0 := Stand.of_body Bd
  have e0 : s₁.heap = h0 := by rw [← hh, Bd.state]; rfl
  have N0 := Fr.nil n0
  have pre0 : ∀ t, Steps p.tables e below (s₁.setTop (mkF m 0 #[.val (.ref x)] [])) t → Steps p.tables e below (s₁.setTop (entryFrame m #[(.ref x)] 1)) t := fun t k => castTop (ef_rm29 m x) k
  obtain ⟨T1, X1, e1, st1⟩ := getF X0 hx hZ hown (host := "") (Or.inl (own_w hw 110 rfl)) Via.refl e0 F_pathStart_x (g := (mkF m 1 #[.val (.ref x)] [(.ref x)])) rfl rfl (hb hby d29_1)
  obtain ⟨T2, X2, e2, st2⟩ := getF X1 hx hZ hown (host := "") (Or.inl (own_w hw 108 rfl)) Via.refl e1 F_afterScheme_x (g := (mkF m 5 #[.val (.ref x)] [(.ref x), (.int p3)])) rfl rfl (hb hby d29_5)
  have pre4 : ∀ t, Steps p.tables e below (T2.setTop (mkF m 8 #[.val (.ref x)] [(.int p2), (.int p3)])) t → Steps p.tables e below (s₁.setTop (entryFrame m #[(.ref x)] 1)) t := fun t kt => by
    refine pre0 t ?_
    show Steps p.tables e below (s₁.setTop (mkF m 0 #[.val (.ref x)] [])) _
    refine XS.aloadN X0.here hx rfl (hb hby d29_0) rfl rfl ?_
    show Steps p.tables e below (s₁.setTop (mkF m 1 #[.val (.ref x)] [(.ref x)])) _
    refine st1 _ ?_
    show Steps p.tables e below (T1.setTop (mkF m 4 #[.val (.ref x)] [(.int p3)])) _
    refine XS.aloadN X1.here hx rfl (hb hby d29_4) rfl rfl ?_
    show Steps p.tables e below (T1.setTop (mkF m 5 #[.val (.ref x)] [(.ref x), (.int p3)])) _
    refine st2 _ ?_
    exact kt
  by_cases hc8_3 : p2 < p3
  · obtain ⟨fs, hr, hrun, hended, hW, hsame⟩ := X2.leave (v := some (.int (1 : Int32))) (fun h => by rw [Bd.returns] at h; cases h)
    refine ⟨_, _, pre4 _ ?_, hrun, hended, _, _, rfl, ?_, ⟨_, rfl⟩, hW, hsame.mono (by decide) (by decide)⟩
    · show Steps p.tables e below (T2.setTop (mkF m 8 #[.val (.ref x)] [(.int p2), (.int p3)])) _
      refine XS.icmpNo X2.here hx rfl (hb hby d29_8) rfl (tlt hc8_3).2.2.2 ?_
      show Steps p.tables e below (T2.setTop (mkF m 11 #[.val (.ref x)] [])) _
      refine XS.iconst X2.here hx rfl (hb hby d29_11) ?_
      show Steps p.tables e below (T2.setTop (mkF m 12 #[.val (.ref x)] [(.int (1 : Int32))])) _
      refine XS.goto X2.here hx rfl (pc0 := 12) (pc' := 16) rfl (hb hby d29_12) (by decide) (by decide) ?_
      show Steps p.tables e below (T2.setTop (mkF m 16 #[.val (.ref x)] [(.int (1 : Int32))])) _
      exact retN X2 hx (t := .boolean) Bd.returns (by simp) (hb hby d29_16) hr
    · show Q_rm29 Z x p2 p3 h0 n0 _ T2.heap _
      rw [e2]
      exact ⟨by rw [own_ha, if_pos hc8_3], N0, rfl⟩
  · obtain ⟨fs, hr, hrun, hended, hW, hsame⟩ := X2.leave (v := some (.int (0 : Int32))) (fun h => by rw [Bd.returns] at h; cases h)
    refine ⟨_, _, pre4 _ ?_, hrun, hended, _, _, rfl, ?_, ⟨_, rfl⟩, hW, hsame.mono (by decide) (by decide)⟩
    · show Steps p.tables e below (T2.setTop (mkF m 8 #[.val (.ref x)] [(.int p2), (.int p3)])) _
      refine XS.icmpYes X2.here hx rfl (pc0 := 8) (pc' := 15) rfl (hb hby d29_8) rfl (flt hc8_3).2.2.2 (by decide) (by decide) ?_
      show Steps p.tables e below (T2.setTop (mkF m 15 #[.val (.ref x)] [])) _
      refine XS.iconst X2.here hx rfl (hb hby d29_15) ?_
      show Steps p.tables e below (T2.setTop (mkF m 16 #[.val (.ref x)] [(.int (0 : Int32))])) _
      exact retN X2 hx (t := .boolean) Bd.returns (by simp) (hb hby d29_16) hr
    · show Q_rm29 Z x p2 p3 h0 n0 _ T2.heap _
      rw [e2]
      exact ⟨by rw [own_ha, if_neg hc8_3], N0, rfl⟩
theorem own_c1 {c : Int32} (h : c.toInt < 0 ∨ (0 ≤ c.toInt ∧ c.toInt < 6)) (q : (0 : Int32) < c) : 0 < c.toInt ∧ c.toInt < 6 := by
  rw [Int32.lt_iff_toInt_lt, Int32.toInt_zero] at q; omega
theorem own_c2 {c : Int32} (h : 0 < c.toInt ∧ c.toInt < 6) : -50 ≤ (c - (1 : Int32)).toInt ∧ (c - (1 : Int32)).toInt < 6 := by
  have e := own_dec (i := c) (by omega) (by omega); omega
theorem own_c3 {c : Int32} (h : 0 < c.toInt ∧ c.toInt < 6) : 0 ≤ (c + (1 : Int32)).toInt ∧ (c + (1 : Int32)).toInt ≤ 6 := by
  have e := own_inc (i := c) (by omega) (by omega); omega
theorem d9_0 : decode prog_68_method_14_code 0 = .ok (.aload_n 0, 1) := by decide +kernel
theorem d9_1 : decode prog_68_method_14_code 1 = .ok (.bipush 58, 2) := by decide +kernel
theorem pd__28I_29I : parseMethodDescriptor "(I)I" = some ⟨[.int], some .int⟩ := by decide +kernel
theorem d9_3 : decode prog_68_method_14_code 3 = .ok (.invokevirtual 225, 3) := by decide +kernel
theorem d9_6 : decode prog_68_method_14_code 6 = .ok (.istore_n 1, 1) := by decide +kernel
theorem d9_7 : decode prog_68_method_14_code 7 = .ok (.iload_n 1, 1) := by decide +kernel
theorem d9_8 : decode prog_68_method_14_code 8 = .ok (.ifCond .gt 5, 3) := by decide +kernel
theorem d9_13 : decode prog_68_method_14_code 13 = .ok (.getstatic 227, 3) := by decide +kernel
theorem d9_16 : decode prog_68_method_14_code 16 = .ok (.astore_n 2, 1) := by decide +kernel
theorem d9_17 : decode prog_68_method_14_code 17 = .ok (.aload_n 2, 1) := by decide +kernel
theorem d9_18 : decode prog_68_method_14_code 18 = .ok (.arraylength, 1) := by decide +kernel
theorem d9_19 : decode prog_68_method_14_code 19 = .ok (.istore_n 3, 1) := by decide +kernel
theorem d9_20 : decode prog_68_method_14_code 20 = .ok (.iconst 0, 1) := by decide +kernel
theorem d9_21 : decode prog_68_method_14_code 21 = .ok (.istore 4, 2) := by decide +kernel
theorem d9_23 : decode prog_68_method_14_code 23 = .ok (.iload 4, 2) := by decide +kernel
theorem d9_25 : decode prog_68_method_14_code 25 = .ok (.iload_n 3, 1) := by decide +kernel
theorem d9_26 : decode prog_68_method_14_code 26 = .ok (.if_icmp .ge 29, 3) := by decide +kernel
theorem d9_29 : decode prog_68_method_14_code 29 = .ok (.aload_n 2, 1) := by decide +kernel
theorem d9_30 : decode prog_68_method_14_code 30 = .ok (.iload 4, 2) := by decide +kernel
theorem d9_32 : decode prog_68_method_14_code 32 = .ok (.caload, 1) := by decide +kernel
theorem d9_33 : decode prog_68_method_14_code 33 = .ok (.istore 5, 2) := by decide +kernel
theorem d9_35 : decode prog_68_method_14_code 35 = .ok (.aload_n 0, 1) := by decide +kernel
theorem d9_36 : decode prog_68_method_14_code 36 = .ok (.iload 5, 2) := by decide +kernel
theorem d9_38 : decode prog_68_method_14_code 38 = .ok (.iload_n 1, 1) := by decide +kernel
theorem d9_39 : decode prog_68_method_14_code 39 = .ok (.iconst 1, 1) := by decide +kernel
theorem d9_40 : decode prog_68_method_14_code 40 = .ok (.isub, 1) := by decide +kernel
theorem d9_41 : decode prog_68_method_14_code 41 = .ok (.invokevirtual 231, 3) := by decide +kernel
theorem d9_44 : decode prog_68_method_14_code 44 = .ok (.ifCond .lt 5, 3) := by decide +kernel
theorem d9_49 : decode prog_68_method_14_code 49 = .ok (.iinc 4 1, 3) := by decide +kernel
theorem d9_52 : decode prog_68_method_14_code 52 = .ok (.goto (-29), 3) := by decide +kernel
theorem d9_55 : decode prog_68_method_14_code 55 = .ok (.iload_n 1, 1) := by decide +kernel
theorem d9_56 : decode prog_68_method_14_code 56 = .ok (.iconst 1, 1) := by decide +kernel
theorem d9_57 : decode prog_68_method_14_code 57 = .ok (.iadd, 1) := by decide +kernel
theorem d9_58 : decode prog_68_method_14_code 58 = .ok (.ireturn, 1) := by decide +kernel
theorem d9_47 : decode prog_68_method_14_code 47 = .ok (.iconst 0, 1) := by decide +kernel
theorem d9_48 : decode prog_68_method_14_code 48 = .ok (.ireturn, 1) := by decide +kernel
theorem d9_11 : decode prog_68_method_14_code 11 = .ok (.iconst 0, 1) := by decide +kernel
theorem d9_12 : decode prog_68_method_14_code 12 = .ok (.ireturn, 1) := by decide +kernel
theorem pn_com_example_basepoint_basepoint_uri_UriReference : plainName nm2 = true := by first | (simp [plainName, overriddenIn]; done) | decide +kernel
theorem ef_rm9 (m : MethodId) (x : Addr) : entryFrame m #[(.ref x)] 6 = mkF m 0 #[.val (.ref x), .unset, .unset, .unset, .unset, .unset] [] := by first | (simp [entryFrame, mkF, argsToLocals, Value.category]; done) | rfl
def Q_rm9 (Z : State) (x : Addr) (tb : Addr) (kb : ClassId) (bs : List Int32) (z0 : Int32) (ss : Addr) (ks : ClassId) (h0 : Heap) (n0 : Nat) (v : Option Value) (h : Heap) (L : List Loc) : Prop := ∃ a : Int32, v = some (.int a) ∧ Fr n0 L ∧ h = h0 ∧ (0 ≤ a.toInt ∧ a.toInt ≤ 6)
set_option maxRecDepth 65536 in
set_option maxHeartbeats 40000000 in
theorem rm9 (l : Launch) (Z : State) (a0 : Array Value) (hw : ∀ d ∈ tables_1, d.before a0 Z = true) (ws : List Jvm.Cond) (x : Addr) (tb : Addr) (kb : ClassId) (bs : List Int32) (z0 : Int32) (ss : Addr) (ks : ClassId) (h0 : Heap) (n0 : Nat) (Z0 : n0 ≤ h0.size) (E_x : Exa Z h0 x nm1) (F_value_x : Fld Z h0 x nm1 "value" "[B" (.ref tb)) (F_coder_x : Fld Z h0 x nm1 "coder" "B" (.int (0 : Int32))) (V_tb : Arv Z h0 tb kb .byte (6 : Int32) (bs.map Value.int) (.int (0 : Int32))) (S_COMPACT_STRINGS : Sta Z h0 nm1 "COMPACT_STRINGS" "Z" (.int z0)) (hz : ¬ (z0 = (0 : Int32))) (S_SCHEME_STOPS : Sta Z h0 nm2 "SCHEME_STOPS" "[C" (.ref ss)) (V_ss : Arv Z h0 ss ks .char (3 : Int32) [(.int (47 : Int32)), (.int (63 : Int32)), (.int (35 : Int32))] (.int (0 : Int32))) :
    MetFree l (⟨nm2, "afterScheme", "(Ljava/lang/String;)I"⟩ : MethodName) (head1 (Jvm.Cond.code (⟨nm2, "afterScheme", "(Ljava/lang/String;)I"⟩ : MethodName) prog_68_method_14_code 6 (some .int) :: ws) ({ frames := 4, cells := 0, slots := 0, locals := 59 } : Room)) (fun a U => a = #[(.ref x)] ∧ Z.Warmed39 U.vm ∧ U.heap = h0) (fun _ _ _ _ _ => True) (fun _ U o U' => ∃ v L, o = .returned v ∧ Q_rm9 Z x tb kb bs z0 ss ks h0 n0 v U'.heap L ∧ FrameEnd U o U' L ({ frames := 4, cells := 0, slots := 0, locals := 59 } : Room).cells ({ frames := 4, cells := 0, slots := 0, locals := 59 } : Room).slots) := by
  refine MetFree.of_bodySF (plainFor_of_name pn_com_example_basepoint_basepoint_uri_UriReference) hisR ?_
  intro p e s m args below meth c s₁ Bd hml0 hP hK
  obtain ⟨rfl, hZ, hh⟩ := hP
  have hx := Bd.exec
  have hby := Bd.bytes
  have hml : c.maxLocals = 6 := hml0
  have hown : s.vm.findClass nm2 = some m.cls := findClass_of_methodNamed Bd.named
  have hnm := (name_of_methodNamed Bd.named Bd.method).1
  have X0 : Stand p l e ({ frames := 4, cells := 0, slots := 0, locals := 59 } : Room) s m #[(.ref x)] below meth c s₁ [] 0 0 := Stand.of_body Bd
  have e0 : s₁.heap = h0 := by rw [← hh, Bd.state]; rfl
  have N0 := Fr.nil n0
  have pre0 : ∀ t, Steps p.tables e below (s₁.setTop (mkF m 0 #[.val (.ref x), .unset, .unset, .unset, .unset, .unset] [])) t → Steps p.tables e below (s₁.setTop (entryFrame m #[(.ref x)] 6)) t := fun t k => castTop (ef_rm9 m x) k
  obtain ⟨cq1, kq1, q1a, q1b, q1c⟩ := isOf hZ e0 E_x
  obtain ⟨_, _, ⟨T1, L1, k1, n1⟩, -, X1, ⟨Lc1, hQ1, l1, y1, z1⟩, st1⟩ := X0.virtualBack hx (y := (⟨nm1, "indexOf", "(I)I"⟩ : MethodName)) (z := (⟨nm1, "indexOf", "(I)I"⟩ : MethodName)) hown (mvT hZ (own_w hw 41 rfl)) (mvT hZ (own_w hw 42 rfl)) (notFace_of_selects (args := #[]) (mvT hZ (own_w hw 44 rfl))) (mvT hZ (own_w hw 44 rfl)) (mvT hZ (own_w hw 43 rfl)) (by decide) (backOf (W := 0) (rm10 l Z a0 hw [] x (58 : Int32) tb kb bs z0 h0 n0 Z0 E_x F_value_x F_coder_x V_tb S_COMPACT_STRINGS hz (by decide) (by decide)) hZ (own_w hw 45 rfl) (own_w hw 7 rfl) (by decide) (by decide)) q1a q1c (g := (mkF m 3 #[.val (.ref x), .unset, .unset, .unset, .unset, .unset] [(.int (58 : Int32)), (.ref x)])) rfl (by rw [hml]; rfl) (Steps.refl _) (argsL := [(.int (58 : Int32))]) (rest := []) (lenOf pd__28I_29I rfl) rfl (by show 2 * 0 + _ ≤ _; exact Nat.le_of_eq rfl) (hb hby d9_3) (fun _ _ => ⟨rfl, e0, (by decide : 0 + 0 ≤ _), (by decide : 0 + 0 ≤ _)⟩)
  dsimp only [Pt.U, Pt.locs, Pt.cells, Pt.slots] at y1 z1 st1 hQ1
  change Stand p l e _ s m _ below meth c T1 L1 k1 n1 at X1
  change L1 = _ ++ Lc1 at l1
  subst y1 z1
  obtain ⟨r_1, rfl, N1q, e1, t1_0⟩ := hQ1
  have N1 : Fr n0 L1 := l1 ▸ Fr.app N0 N1q
  have pre3 : ∀ t, Steps p.tables e below (T1.setTop (mkF m 8 #[.val (.ref x), .val (.int r_1), .unset, .unset, .unset, .unset] [(.int r_1)])) t → Steps p.tables e below (s₁.setTop (entryFrame m #[(.ref x)] 6)) t := fun t kt => by
    refine pre0 t ?_
    show Steps p.tables e below (s₁.setTop (mkF m 0 #[.val (.ref x), .unset, .unset, .unset, .unset, .unset] [])) _
    refine XS.aloadN X0.here hx rfl (hb hby d9_0) rfl rfl ?_
    show Steps p.tables e below (s₁.setTop (mkF m 1 #[.val (.ref x), .unset, .unset, .unset, .unset, .unset] [(.ref x)])) _
    refine XS.bipush X0.here hx rfl (hb hby d9_1) ?_
    show Steps p.tables e below (s₁.setTop (mkF m 3 #[.val (.ref x), .unset, .unset, .unset, .unset, .unset] [(.int (58 : Int32)), (.ref x)])) _
    refine st1.trans ?_
    show Steps p.tables e below (T1.setTop (mkF m 6 #[.val (.ref x), .unset, .unset, .unset, .unset, .unset] [(.int r_1)])) _
    refine XS.istoreN X1.here hx rfl (hb hby d9_6) rfl (l' := #[.val (.ref x), .val (.int r_1), .unset, .unset, .unset, .unset]) rfl ?_
    show Steps p.tables e below (T1.setTop (mkF m 7 #[.val (.ref x), .val (.int r_1), .unset, .unset, .unset, .unset] [])) _
    refine XS.iloadN X1.here hx rfl (hb hby d9_7) rfl ?_
    exact kt
  by_cases hc8_2 : (0 : Int32) < r_1
  · obtain ⟨T4, X4, e4, st4⟩ := getS2 X1 hx hZ hown (host := "") (Or.inl (own_w hw 143 rfl)) Via.refl e1 S_SCHEME_STOPS (g := (mkF m 13 #[.val (.ref x), .val (.int r_1), .unset, .unset, .unset, .unset] [])) rfl (hb hby d9_13)
    obtain ⟨c5, Ac5, -, Sc5, Nc5, -, -⟩ := id V_ss
    obtain ⟨c6, Ac6, qc6, Sc6, Nc6, Hc6, Gc6⟩ := id V_ss
    have hinc6 := inb_of Sc6 (j := (0 : Int32)) ⟨by decide, by decide⟩
    obtain ⟨cq7, kq7, q7a, q7b, q7c⟩ := isOf hZ e4 E_x
    obtain ⟨_, _, ⟨T7, L7, k7, n7⟩, -, X7, ⟨Lc7, hQ7, l7, y7, z7⟩, st7⟩ := X4.virtualBack hx (y := (⟨nm1, "lastIndexOf", "(II)I"⟩ : MethodName)) (z := (⟨nm1, "lastIndexOf", "(II)I"⟩ : MethodName)) hown (mvT hZ (own_w hw 145 rfl)) (mvT hZ (own_w hw 146 rfl)) (notFace_of_selects (args := #[]) (mvT hZ (own_w hw 148 rfl))) (mvT hZ (own_w hw 148 rfl)) (mvT hZ (own_w hw 147 rfl)) (by decide) (backOf (W := 0) (rm30 l Z a0 hw [] x (47 : Int32) (r_1 - (1 : Int32)) tb kb bs z0 h0 n0 Z0 E_x F_value_x F_coder_x V_tb S_COMPACT_STRINGS hz (by decide) (by decide) (own_c2 (own_c1 t1_0 hc8_2)).1 (own_c2 (own_c1 t1_0 hc8_2)).2) hZ (own_w hw 149 rfl) (own_w hw 7 rfl) (by decide) (by decide)) q7a q7c (g := (mkF m 41 #[.val (.ref x), .val (.int r_1), .val (.ref ss), .val (.int (3 : Int32)), .val (.int (0 : Int32)), .val (.int (47 : Int32))] [(.int (r_1 - (1 : Int32))), (.int (47 : Int32)), (.ref x)])) rfl (by rw [hml]; rfl) (Steps.refl _) (argsL := [(.int (47 : Int32)), (.int (r_1 - (1 : Int32)))]) (rest := []) (lenOf pd__28II_29I rfl) rfl (by show 2 * 0 + _ ≤ _; exact Nat.le_of_eq rfl) (hb hby d9_41) (fun _ _ => ⟨rfl, e4, (by decide : 0 + 0 ≤ _), (by decide : 0 + 0 ≤ _)⟩)
    dsimp only [Pt.U, Pt.locs, Pt.cells, Pt.slots] at y7 z7 st7 hQ7
    change Stand p l e _ s m _ below meth c T7 L7 k7 n7 at X7
    change L7 = _ ++ Lc7 at l7
    subst y7 z7
    obtain ⟨r_7, rfl, N7q, e7⟩ := hQ7
    have N7 : Fr n0 L7 := l7 ▸ Fr.app N1 N7q
    have pre9 : ∀ t, Steps p.tables e below (T7.setTop (mkF m 44 #[.val (.ref x), .val (.int r_1), .val (.ref ss), .val (.int (3 : Int32)), .val (.int (0 : Int32)), .val (.int (47 : Int32))] [(.int r_7)])) t → Steps p.tables e below (s₁.setTop (entryFrame m #[(.ref x)] 6)) t := fun t kt => by
      refine pre3 t ?_
      show Steps p.tables e below (T1.setTop (mkF m 8 #[.val (.ref x), .val (.int r_1), .unset, .unset, .unset, .unset] [(.int r_1)])) _
      refine XS.ifYes X1.here hx rfl (pc0 := 8) (pc' := 13) rfl (hb hby d9_8) rfl ((if0 _ _).trans (tlt hc8_2).2.2.1) (by decide) (by decide) ?_
      show Steps p.tables e below (T1.setTop (mkF m 13 #[.val (.ref x), .val (.int r_1), .unset, .unset, .unset, .unset] [])) _
      refine st4 _ ?_
      show Steps p.tables e below (T4.setTop (mkF m 16 #[.val (.ref x), .val (.int r_1), .unset, .unset, .unset, .unset] [(.ref ss)])) _
      refine XS.astoreN X4.here hx rfl (hb hby d9_16) rfl rfl (l' := #[.val (.ref x), .val (.int r_1), .val (.ref ss), .unset, .unset, .unset]) rfl ?_
      show Steps p.tables e below (T4.setTop (mkF m 17 #[.val (.ref x), .val (.int r_1), .val (.ref ss), .unset, .unset, .unset] [])) _
      refine XS.aloadN X4.here hx rfl (hb hby d9_17) rfl rfl ?_
      show Steps p.tables e below (T4.setTop (mkF m 18 #[.val (.ref x), .val (.int r_1), .val (.ref ss), .unset, .unset, .unset] [(.ref ss)])) _
      refine X4.arraylength hx (by rw [e4]; exact Ac5.1) (State.isArrayOf_alike hZ.alike Ac5.2.1) (g := (mkF m 18 #[.val (.ref x), .val (.int r_1), .val (.ref ss), .unset, .unset, .unset] [(.ref ss)])) rfl rfl (hb hby d9_18) _ ?_
      rw [len_of Sc5 Nc5]
      show Steps p.tables e below (T4.setTop (mkF m 19 #[.val (.ref x), .val (.int r_1), .val (.ref ss), .unset, .unset, .unset] [(.int (3 : Int32))])) _
      refine XS.istoreN X4.here hx rfl (hb hby d9_19) rfl (l' := #[.val (.ref x), .val (.int r_1), .val (.ref ss), .val (.int (3 : Int32)), .unset, .unset]) rfl ?_
      show Steps p.tables e below (T4.setTop (mkF m 20 #[.val (.ref x), .val (.int r_1), .val (.ref ss), .val (.int (3 : Int32)), .unset, .unset] [])) _
      refine XS.iconst X4.here hx rfl (hb hby d9_20) ?_
      show Steps p.tables e below (T4.setTop (mkF m 21 #[.val (.ref x), .val (.int r_1), .val (.ref ss), .val (.int (3 : Int32)), .unset, .unset] [(.int (0 : Int32))])) _
      refine XS.istore X4.here hx rfl (hb hby d9_21) rfl (l' := #[.val (.ref x), .val (.int r_1), .val (.ref ss), .val (.int (3 : Int32)), .val (.int (0 : Int32)), .unset]) rfl ?_
      show Steps p.tables e below (T4.setTop (mkF m 23 #[.val (.ref x), .val (.int r_1), .val (.ref ss), .val (.int (3 : Int32)), .val (.int (0 : Int32)), .unset] [])) _
      refine XS.iload X4.here hx rfl (hb hby d9_23) rfl ?_
      show Steps p.tables e below (T4.setTop (mkF m 25 #[.val (.ref x), .val (.int r_1), .val (.ref ss), .val (.int (3 : Int32)), .val (.int (0 : Int32)), .unset] [(.int (0 : Int32))])) _
      refine XS.iloadN X4.here hx rfl (hb hby d9_25) rfl ?_
      show Steps p.tables e below (T4.setTop (mkF m 26 #[.val (.ref x), .val (.int r_1), .val (.ref ss), .val (.int (3 : Int32)), .val (.int (0 : Int32)), .unset] [(.int (3 : Int32)), (.int (0 : Int32))])) _
      refine XS.icmpNo X4.here hx rfl (hb hby d9_26) rfl (tlt (by decide : (0 : Int32) < (3 : Int32))).2.1 ?_
      show Steps p.tables e below (T4.setTop (mkF m 29 #[.val (.ref x), .val (.int r_1), .val (.ref ss), .val (.int (3 : Int32)), .val (.int (0 : Int32)), .unset] [])) _
      refine XS.aloadN X4.here hx rfl (hb hby d9_29) rfl rfl ?_
      show Steps p.tables e below (T4.setTop (mkF m 30 #[.val (.ref x), .val (.int r_1), .val (.ref ss), .val (.int (3 : Int32)), .val (.int (0 : Int32)), .unset] [(.ref ss)])) _
      refine XS.iload X4.here hx rfl (hb hby d9_30) rfl ?_
      show Steps p.tables e below (T4.setTop (mkF m 32 #[.val (.ref x), .val (.int r_1), .val (.ref ss), .val (.int (3 : Int32)), .val (.int (0 : Int32)), .unset] [(.int (0 : Int32)), (.ref ss)])) _
      refine X4.caload hx (j := (0 : Int32)) (v := (.int (47 : Int32))) (by rw [e4]; exact Ac6.1) (State.isArrayOf_alike hZ.alike Ac6.2.1) Ac6.2.2 hinc6 (Has.at Hc6 hinc6 rfl) (g := (mkF m 32 #[.val (.ref x), .val (.int r_1), .val (.ref ss), .val (.int (3 : Int32)), .val (.int (0 : Int32)), .unset] [(.int (0 : Int32)), (.ref ss)])) rfl rfl (hb hby d9_32) _ ?_
      show Steps p.tables e below (T4.setTop (mkF m 33 #[.val (.ref x), .val (.int r_1), .val (.ref ss), .val (.int (3 : Int32)), .val (.int (0 : Int32)), .unset] [(.int (47 : Int32))])) _
      refine XS.istore X4.here hx rfl (hb hby d9_33) rfl (l' := #[.val (.ref x), .val (.int r_1), .val (.ref ss), .val (.int (3 : Int32)), .val (.int (0 : Int32)), .val (.int (47 : Int32))]) rfl ?_
      show Steps p.tables e below (T4.setTop (mkF m 35 #[.val (.ref x), .val (.int r_1), .val (.ref ss), .val (.int (3 : Int32)), .val (.int (0 : Int32)), .val (.int (47 : Int32))] [])) _
      refine XS.aloadN X4.here hx rfl (hb hby d9_35) rfl rfl ?_
      show Steps p.tables e below (T4.setTop (mkF m 36 #[.val (.ref x), .val (.int r_1), .val (.ref ss), .val (.int (3 : Int32)), .val (.int (0 : Int32)), .val (.int (47 : Int32))] [(.ref x)])) _
      refine XS.iload X4.here hx rfl (hb hby d9_36) rfl ?_
      show Steps p.tables e below (T4.setTop (mkF m 38 #[.val (.ref x), .val (.int r_1), .val (.ref ss), .val (.int (3 : Int32)), .val (.int (0 : Int32)), .val (.int (47 : Int32))] [(.int (47 : Int32)), (.ref x)])) _
      refine XS.iloadN X4.here hx rfl (hb hby d9_38) rfl ?_
      show Steps p.tables e below (T4.setTop (mkF m 39 #[.val (.ref x), .val (.int r_1), .val (.ref ss), .val (.int (3 : Int32)), .val (.int (0 : Int32)), .val (.int (47 : Int32))] [(.int r_1), (.int (47 : Int32)), (.ref x)])) _
      refine XS.iconst X4.here hx rfl (hb hby d9_39) ?_
      show Steps p.tables e below (T4.setTop (mkF m 40 #[.val (.ref x), .val (.int r_1), .val (.ref ss), .val (.int (3 : Int32)), .val (.int (0 : Int32)), .val (.int (47 : Int32))] [(.int (1 : Int32)), (.int r_1), (.int (47 : Int32)), (.ref x)])) _
      refine XS.isub X4.here hx rfl (hb hby d9_40) rfl ?_
      show Steps p.tables e below (T4.setTop (mkF m 41 #[.val (.ref x), .val (.int r_1), .val (.ref ss), .val (.int (3 : Int32)), .val (.int (0 : Int32)), .val (.int (47 : Int32))] [(.int (r_1 - (1 : Int32))), (.int (47 : Int32)), (.ref x)])) _
      refine st7.trans ?_
      exact kt
    by_cases hc44_8 : r_7 < (0 : Int32)
    · obtain ⟨c10, Ac10, qc10, Sc10, Nc10, Hc10, Gc10⟩ := id V_ss
      have hinc10 := inb_of Sc10 (j := (1 : Int32)) ⟨by decide, by decide⟩
      obtain ⟨cq11, kq11, q11a, q11b, q11c⟩ := isOf hZ e7 E_x
      obtain ⟨_, _, ⟨T11, L11, k11, n11⟩, -, X11, ⟨Lc11, hQ11, l11, y11, z11⟩, st11⟩ := X7.virtualBack hx (y := (⟨nm1, "lastIndexOf", "(II)I"⟩ : MethodName)) (z := (⟨nm1, "lastIndexOf", "(II)I"⟩ : MethodName)) hown (mvT hZ (own_w hw 145 rfl)) (mvT hZ (own_w hw 146 rfl)) (notFace_of_selects (args := #[]) (mvT hZ (own_w hw 148 rfl))) (mvT hZ (own_w hw 148 rfl)) (mvT hZ (own_w hw 147 rfl)) (by decide) (backOf (W := 0) (rm30 l Z a0 hw [] x (63 : Int32) (r_1 - (1 : Int32)) tb kb bs z0 h0 n0 Z0 E_x F_value_x F_coder_x V_tb S_COMPACT_STRINGS hz (by decide) (by decide) (own_c2 (own_c1 t1_0 hc8_2)).1 (own_c2 (own_c1 t1_0 hc8_2)).2) hZ (own_w hw 149 rfl) (own_w hw 7 rfl) (by decide) (by decide)) q11a q11c (g := (mkF m 41 #[.val (.ref x), .val (.int r_1), .val (.ref ss), .val (.int (3 : Int32)), .val (.int (1 : Int32)), .val (.int (63 : Int32))] [(.int (r_1 - (1 : Int32))), (.int (63 : Int32)), (.ref x)])) rfl (by rw [hml]; rfl) (Steps.refl _) (argsL := [(.int (63 : Int32)), (.int (r_1 - (1 : Int32)))]) (rest := []) (lenOf pd__28II_29I rfl) rfl (by show 2 * 0 + _ ≤ _; exact Nat.le_of_eq rfl) (hb hby d9_41) (fun _ _ => ⟨rfl, e7, (by decide : 0 + 0 ≤ _), (by decide : 0 + 0 ≤ _)⟩)
      dsimp only [Pt.U, Pt.locs, Pt.cells, Pt.slots] at y11 z11 st11 hQ11
      change Stand p l e _ s m _ below meth c T11 L11 k11 n11 at X11
      change L11 = _ ++ Lc11 at l11
      subst y11 z11
      obtain ⟨r_11, rfl, N11q, e11⟩ := hQ11
      have N11 : Fr n0 L11 := l11 ▸ Fr.app N7 N11q
      have pre13 : ∀ t, Steps p.tables e below (T11.setTop (mkF m 44 #[.val (.ref x), .val (.int r_1), .val (.ref ss), .val (.int (3 : Int32)), .val (.int (1 : Int32)), .val (.int (63 : Int32))] [(.int r_11)])) t → Steps p.tables e below (s₁.setTop (entryFrame m #[(.ref x)] 6)) t := fun t kt => by
        refine pre9 t ?_
        show Steps p.tables e below (T7.setTop (mkF m 44 #[.val (.ref x), .val (.int r_1), .val (.ref ss), .val (.int (3 : Int32)), .val (.int (0 : Int32)), .val (.int (47 : Int32))] [(.int r_7)])) _
        refine XS.ifYes X7.here hx rfl (pc0 := 44) (pc' := 49) rfl (hb hby d9_44) rfl ((if0 _ _).trans (tlt hc44_8).1) (by decide) (by decide) ?_
        show Steps p.tables e below (T7.setTop (mkF m 49 #[.val (.ref x), .val (.int r_1), .val (.ref ss), .val (.int (3 : Int32)), .val (.int (0 : Int32)), .val (.int (47 : Int32))] [])) _
        refine XS.iinc X7.here hx rfl (hb hby d9_49) rfl (l' := #[.val (.ref x), .val (.int r_1), .val (.ref ss), .val (.int (3 : Int32)), .val (.int (1 : Int32)), .val (.int (47 : Int32))]) rfl ?_
        show Steps p.tables e below (T7.setTop (mkF m 52 #[.val (.ref x), .val (.int r_1), .val (.ref ss), .val (.int (3 : Int32)), .val (.int (1 : Int32)), .val (.int (47 : Int32))] [])) _
        refine XS.goto X7.here hx rfl (pc0 := 52) (pc' := 23) rfl (hb hby d9_52) (by decide) (by decide) ?_
        show Steps p.tables e below (T7.setTop (mkF m 23 #[.val (.ref x), .val (.int r_1), .val (.ref ss), .val (.int (3 : Int32)), .val (.int (1 : Int32)), .val (.int (47 : Int32))] [])) _
        refine XS.iload X7.here hx rfl (hb hby d9_23) rfl ?_
        show Steps p.tables e below (T7.setTop (mkF m 25 #[.val (.ref x), .val (.int r_1), .val (.ref ss), .val (.int (3 : Int32)), .val (.int (1 : Int32)), .val (.int (47 : Int32))] [(.int (1 : Int32))])) _
        refine XS.iloadN X7.here hx rfl (hb hby d9_25) rfl ?_
        show Steps p.tables e below (T7.setTop (mkF m 26 #[.val (.ref x), .val (.int r_1), .val (.ref ss), .val (.int (3 : Int32)), .val (.int (1 : Int32)), .val (.int (47 : Int32))] [(.int (3 : Int32)), (.int (1 : Int32))])) _
        refine XS.icmpNo X7.here hx rfl (hb hby d9_26) rfl (tlt (by decide : (1 : Int32) < (3 : Int32))).2.1 ?_
        show Steps p.tables e below (T7.setTop (mkF m 29 #[.val (.ref x), .val (.int r_1), .val (.ref ss), .val (.int (3 : Int32)), .val (.int (1 : Int32)), .val (.int (47 : Int32))] [])) _
        refine XS.aloadN X7.here hx rfl (hb hby d9_29) rfl rfl ?_
        show Steps p.tables e below (T7.setTop (mkF m 30 #[.val (.ref x), .val (.int r_1), .val (.ref ss), .val (.int (3 : Int32)), .val (.int (1 : Int32)), .val (.int (47 : Int32))] [(.ref ss)])) _
        refine XS.iload X7.here hx rfl (hb hby d9_30) rfl ?_
        show Steps p.tables e below (T7.setTop (mkF m 32 #[.val (.ref x), .val (.int r_1), .val (.ref ss), .val (.int (3 : Int32)), .val (.int (1 : Int32)), .val (.int (47 : Int32))] [(.int (1 : Int32)), (.ref ss)])) _
        refine X7.caload hx (j := (1 : Int32)) (v := (.int (63 : Int32))) (by rw [e7]; exact Ac10.1) (State.isArrayOf_alike hZ.alike Ac10.2.1) Ac10.2.2 hinc10 (Has.at Hc10 hinc10 rfl) (g := (mkF m 32 #[.val (.ref x), .val (.int r_1), .val (.ref ss), .val (.int (3 : Int32)), .val (.int (1 : Int32)), .val (.int (47 : Int32))] [(.int (1 : Int32)), (.ref ss)])) rfl rfl (hb hby d9_32) _ ?_
        show Steps p.tables e below (T7.setTop (mkF m 33 #[.val (.ref x), .val (.int r_1), .val (.ref ss), .val (.int (3 : Int32)), .val (.int (1 : Int32)), .val (.int (47 : Int32))] [(.int (63 : Int32))])) _
        refine XS.istore X7.here hx rfl (hb hby d9_33) rfl (l' := #[.val (.ref x), .val (.int r_1), .val (.ref ss), .val (.int (3 : Int32)), .val (.int (1 : Int32)), .val (.int (63 : Int32))]) rfl ?_
        show Steps p.tables e below (T7.setTop (mkF m 35 #[.val (.ref x), .val (.int r_1), .val (.ref ss), .val (.int (3 : Int32)), .val (.int (1 : Int32)), .val (.int (63 : Int32))] [])) _
        refine XS.aloadN X7.here hx rfl (hb hby d9_35) rfl rfl ?_
        show Steps p.tables e below (T7.setTop (mkF m 36 #[.val (.ref x), .val (.int r_1), .val (.ref ss), .val (.int (3 : Int32)), .val (.int (1 : Int32)), .val (.int (63 : Int32))] [(.ref x)])) _
        refine XS.iload X7.here hx rfl (hb hby d9_36) rfl ?_
        show Steps p.tables e below (T7.setTop (mkF m 38 #[.val (.ref x), .val (.int r_1), .val (.ref ss), .val (.int (3 : Int32)), .val (.int (1 : Int32)), .val (.int (63 : Int32))] [(.int (63 : Int32)), (.ref x)])) _
        refine XS.iloadN X7.here hx rfl (hb hby d9_38) rfl ?_
        show Steps p.tables e below (T7.setTop (mkF m 39 #[.val (.ref x), .val (.int r_1), .val (.ref ss), .val (.int (3 : Int32)), .val (.int (1 : Int32)), .val (.int (63 : Int32))] [(.int r_1), (.int (63 : Int32)), (.ref x)])) _
        refine XS.iconst X7.here hx rfl (hb hby d9_39) ?_
        show Steps p.tables e below (T7.setTop (mkF m 40 #[.val (.ref x), .val (.int r_1), .val (.ref ss), .val (.int (3 : Int32)), .val (.int (1 : Int32)), .val (.int (63 : Int32))] [(.int (1 : Int32)), (.int r_1), (.int (63 : Int32)), (.ref x)])) _
        refine XS.isub X7.here hx rfl (hb hby d9_40) rfl ?_
        show Steps p.tables e below (T7.setTop (mkF m 41 #[.val (.ref x), .val (.int r_1), .val (.ref ss), .val (.int (3 : Int32)), .val (.int (1 : Int32)), .val (.int (63 : Int32))] [(.int (r_1 - (1 : Int32))), (.int (63 : Int32)), (.ref x)])) _
        refine st11.trans ?_
        exact kt
      by_cases hc44_12 : r_11 < (0 : Int32)
      · obtain ⟨c14, Ac14, qc14, Sc14, Nc14, Hc14, Gc14⟩ := id V_ss
        have hinc14 := inb_of Sc14 (j := (2 : Int32)) ⟨by decide, by decide⟩
        obtain ⟨cq15, kq15, q15a, q15b, q15c⟩ := isOf hZ e11 E_x
        obtain ⟨_, _, ⟨T15, L15, k15, n15⟩, -, X15, ⟨Lc15, hQ15, l15, y15, z15⟩, st15⟩ := X11.virtualBack hx (y := (⟨nm1, "lastIndexOf", "(II)I"⟩ : MethodName)) (z := (⟨nm1, "lastIndexOf", "(II)I"⟩ : MethodName)) hown (mvT hZ (own_w hw 145 rfl)) (mvT hZ (own_w hw 146 rfl)) (notFace_of_selects (args := #[]) (mvT hZ (own_w hw 148 rfl))) (mvT hZ (own_w hw 148 rfl)) (mvT hZ (own_w hw 147 rfl)) (by decide) (backOf (W := 0) (rm30 l Z a0 hw [] x (35 : Int32) (r_1 - (1 : Int32)) tb kb bs z0 h0 n0 Z0 E_x F_value_x F_coder_x V_tb S_COMPACT_STRINGS hz (by decide) (by decide) (own_c2 (own_c1 t1_0 hc8_2)).1 (own_c2 (own_c1 t1_0 hc8_2)).2) hZ (own_w hw 149 rfl) (own_w hw 7 rfl) (by decide) (by decide)) q15a q15c (g := (mkF m 41 #[.val (.ref x), .val (.int r_1), .val (.ref ss), .val (.int (3 : Int32)), .val (.int (2 : Int32)), .val (.int (35 : Int32))] [(.int (r_1 - (1 : Int32))), (.int (35 : Int32)), (.ref x)])) rfl (by rw [hml]; rfl) (Steps.refl _) (argsL := [(.int (35 : Int32)), (.int (r_1 - (1 : Int32)))]) (rest := []) (lenOf pd__28II_29I rfl) rfl (by show 2 * 0 + _ ≤ _; exact Nat.le_of_eq rfl) (hb hby d9_41) (fun _ _ => ⟨rfl, e11, (by decide : 0 + 0 ≤ _), (by decide : 0 + 0 ≤ _)⟩)
        dsimp only [Pt.U, Pt.locs, Pt.cells, Pt.slots] at y15 z15 st15 hQ15
        change Stand p l e _ s m _ below meth c T15 L15 k15 n15 at X15
        change L15 = _ ++ Lc15 at l15
        subst y15 z15
        obtain ⟨r_15, rfl, N15q, e15⟩ := hQ15
        have N15 : Fr n0 L15 := l15 ▸ Fr.app N11 N15q
        have pre17 : ∀ t, Steps p.tables e below (T15.setTop (mkF m 44 #[.val (.ref x), .val (.int r_1), .val (.ref ss), .val (.int (3 : Int32)), .val (.int (2 : Int32)), .val (.int (35 : Int32))] [(.int r_15)])) t → Steps p.tables e below (s₁.setTop (entryFrame m #[(.ref x)] 6)) t := fun t kt => by
          refine pre13 t ?_
          show Steps p.tables e below (T11.setTop (mkF m 44 #[.val (.ref x), .val (.int r_1), .val (.ref ss), .val (.int (3 : Int32)), .val (.int (1 : Int32)), .val (.int (63 : Int32))] [(.int r_11)])) _
          refine XS.ifYes X11.here hx rfl (pc0 := 44) (pc' := 49) rfl (hb hby d9_44) rfl ((if0 _ _).trans (tlt hc44_12).1) (by decide) (by decide) ?_
          show Steps p.tables e below (T11.setTop (mkF m 49 #[.val (.ref x), .val (.int r_1), .val (.ref ss), .val (.int (3 : Int32)), .val (.int (1 : Int32)), .val (.int (63 : Int32))] [])) _
          refine XS.iinc X11.here hx rfl (hb hby d9_49) rfl (l' := #[.val (.ref x), .val (.int r_1), .val (.ref ss), .val (.int (3 : Int32)), .val (.int (2 : Int32)), .val (.int (63 : Int32))]) rfl ?_
          show Steps p.tables e below (T11.setTop (mkF m 52 #[.val (.ref x), .val (.int r_1), .val (.ref ss), .val (.int (3 : Int32)), .val (.int (2 : Int32)), .val (.int (63 : Int32))] [])) _
          refine XS.goto X11.here hx rfl (pc0 := 52) (pc' := 23) rfl (hb hby d9_52) (by decide) (by decide) ?_
          show Steps p.tables e below (T11.setTop (mkF m 23 #[.val (.ref x), .val (.int r_1), .val (.ref ss), .val (.int (3 : Int32)), .val (.int (2 : Int32)), .val (.int (63 : Int32))] [])) _
          refine XS.iload X11.here hx rfl (hb hby d9_23) rfl ?_
          show Steps p.tables e below (T11.setTop (mkF m 25 #[.val (.ref x), .val (.int r_1), .val (.ref ss), .val (.int (3 : Int32)), .val (.int (2 : Int32)), .val (.int (63 : Int32))] [(.int (2 : Int32))])) _
          refine XS.iloadN X11.here hx rfl (hb hby d9_25) rfl ?_
          show Steps p.tables e below (T11.setTop (mkF m 26 #[.val (.ref x), .val (.int r_1), .val (.ref ss), .val (.int (3 : Int32)), .val (.int (2 : Int32)), .val (.int (63 : Int32))] [(.int (3 : Int32)), (.int (2 : Int32))])) _
          refine XS.icmpNo X11.here hx rfl (hb hby d9_26) rfl (tlt (by decide : (2 : Int32) < (3 : Int32))).2.1 ?_
          show Steps p.tables e below (T11.setTop (mkF m 29 #[.val (.ref x), .val (.int r_1), .val (.ref ss), .val (.int (3 : Int32)), .val (.int (2 : Int32)), .val (.int (63 : Int32))] [])) _
          refine XS.aloadN X11.here hx rfl (hb hby d9_29) rfl rfl ?_
          show Steps p.tables e below (T11.setTop (mkF m 30 #[.val (.ref x), .val (.int r_1), .val (.ref ss), .val (.int (3 : Int32)), .val (.int (2 : Int32)), .val (.int (63 : Int32))] [(.ref ss)])) _
          refine XS.iload X11.here hx rfl (hb hby d9_30) rfl ?_
          show Steps p.tables e below (T11.setTop (mkF m 32 #[.val (.ref x), .val (.int r_1), .val (.ref ss), .val (.int (3 : Int32)), .val (.int (2 : Int32)), .val (.int (63 : Int32))] [(.int (2 : Int32)), (.ref ss)])) _
          refine X11.caload hx (j := (2 : Int32)) (v := (.int (35 : Int32))) (by rw [e11]; exact Ac14.1) (State.isArrayOf_alike hZ.alike Ac14.2.1) Ac14.2.2 hinc14 (Has.at Hc14 hinc14 rfl) (g := (mkF m 32 #[.val (.ref x), .val (.int r_1), .val (.ref ss), .val (.int (3 : Int32)), .val (.int (2 : Int32)), .val (.int (63 : Int32))] [(.int (2 : Int32)), (.ref ss)])) rfl rfl (hb hby d9_32) _ ?_
          show Steps p.tables e below (T11.setTop (mkF m 33 #[.val (.ref x), .val (.int r_1), .val (.ref ss), .val (.int (3 : Int32)), .val (.int (2 : Int32)), .val (.int (63 : Int32))] [(.int (35 : Int32))])) _
          refine XS.istore X11.here hx rfl (hb hby d9_33) rfl (l' := #[.val (.ref x), .val (.int r_1), .val (.ref ss), .val (.int (3 : Int32)), .val (.int (2 : Int32)), .val (.int (35 : Int32))]) rfl ?_
          show Steps p.tables e below (T11.setTop (mkF m 35 #[.val (.ref x), .val (.int r_1), .val (.ref ss), .val (.int (3 : Int32)), .val (.int (2 : Int32)), .val (.int (35 : Int32))] [])) _
          refine XS.aloadN X11.here hx rfl (hb hby d9_35) rfl rfl ?_
          show Steps p.tables e below (T11.setTop (mkF m 36 #[.val (.ref x), .val (.int r_1), .val (.ref ss), .val (.int (3 : Int32)), .val (.int (2 : Int32)), .val (.int (35 : Int32))] [(.ref x)])) _
          refine XS.iload X11.here hx rfl (hb hby d9_36) rfl ?_
          show Steps p.tables e below (T11.setTop (mkF m 38 #[.val (.ref x), .val (.int r_1), .val (.ref ss), .val (.int (3 : Int32)), .val (.int (2 : Int32)), .val (.int (35 : Int32))] [(.int (35 : Int32)), (.ref x)])) _
          refine XS.iloadN X11.here hx rfl (hb hby d9_38) rfl ?_
          show Steps p.tables e below (T11.setTop (mkF m 39 #[.val (.ref x), .val (.int r_1), .val (.ref ss), .val (.int (3 : Int32)), .val (.int (2 : Int32)), .val (.int (35 : Int32))] [(.int r_1), (.int (35 : Int32)), (.ref x)])) _
          refine XS.iconst X11.here hx rfl (hb hby d9_39) ?_
          show Steps p.tables e below (T11.setTop (mkF m 40 #[.val (.ref x), .val (.int r_1), .val (.ref ss), .val (.int (3 : Int32)), .val (.int (2 : Int32)), .val (.int (35 : Int32))] [(.int (1 : Int32)), (.int r_1), (.int (35 : Int32)), (.ref x)])) _
          refine XS.isub X11.here hx rfl (hb hby d9_40) rfl ?_
          show Steps p.tables e below (T11.setTop (mkF m 41 #[.val (.ref x), .val (.int r_1), .val (.ref ss), .val (.int (3 : Int32)), .val (.int (2 : Int32)), .val (.int (35 : Int32))] [(.int (r_1 - (1 : Int32))), (.int (35 : Int32)), (.ref x)])) _
          refine st15.trans ?_
          exact kt
        by_cases hc44_16 : r_15 < (0 : Int32)
        · obtain ⟨fs, hr, hrun, hended, hW, hsame⟩ := X15.leave (v := some (.int (r_1 + (1 : Int32)))) (fun h => by rw [Bd.returns] at h; cases h)
          refine ⟨_, _, pre17 _ ?_, hrun, hended, _, _, rfl, ?_, ⟨_, rfl⟩, hW, hsame.mono (by decide) (by decide)⟩
          · show Steps p.tables e below (T15.setTop (mkF m 44 #[.val (.ref x), .val (.int r_1), .val (.ref ss), .val (.int (3 : Int32)), .val (.int (2 : Int32)), .val (.int (35 : Int32))] [(.int r_15)])) _
            refine XS.ifYes X15.here hx rfl (pc0 := 44) (pc' := 49) rfl (hb hby d9_44) rfl ((if0 _ _).trans (tlt hc44_16).1) (by decide) (by decide) ?_
            show Steps p.tables e below (T15.setTop (mkF m 49 #[.val (.ref x), .val (.int r_1), .val (.ref ss), .val (.int (3 : Int32)), .val (.int (2 : Int32)), .val (.int (35 : Int32))] [])) _
            refine XS.iinc X15.here hx rfl (hb hby d9_49) rfl (l' := #[.val (.ref x), .val (.int r_1), .val (.ref ss), .val (.int (3 : Int32)), .val (.int (3 : Int32)), .val (.int (35 : Int32))]) rfl ?_
            show Steps p.tables e below (T15.setTop (mkF m 52 #[.val (.ref x), .val (.int r_1), .val (.ref ss), .val (.int (3 : Int32)), .val (.int (3 : Int32)), .val (.int (35 : Int32))] [])) _
            refine XS.goto X15.here hx rfl (pc0 := 52) (pc' := 23) rfl (hb hby d9_52) (by decide) (by decide) ?_
            show Steps p.tables e below (T15.setTop (mkF m 23 #[.val (.ref x), .val (.int r_1), .val (.ref ss), .val (.int (3 : Int32)), .val (.int (3 : Int32)), .val (.int (35 : Int32))] [])) _
            refine XS.iload X15.here hx rfl (hb hby d9_23) rfl ?_
            show Steps p.tables e below (T15.setTop (mkF m 25 #[.val (.ref x), .val (.int r_1), .val (.ref ss), .val (.int (3 : Int32)), .val (.int (3 : Int32)), .val (.int (35 : Int32))] [(.int (3 : Int32))])) _
            refine XS.iloadN X15.here hx rfl (hb hby d9_25) rfl ?_
            show Steps p.tables e below (T15.setTop (mkF m 26 #[.val (.ref x), .val (.int r_1), .val (.ref ss), .val (.int (3 : Int32)), .val (.int (3 : Int32)), .val (.int (35 : Int32))] [(.int (3 : Int32)), (.int (3 : Int32))])) _
            refine XS.icmpYes X15.here hx rfl (pc0 := 26) (pc' := 55) rfl (hb hby d9_26) rfl (flt (by decide : ¬ ((3 : Int32) < (3 : Int32)))).2.1 (by decide) (by decide) ?_
            show Steps p.tables e below (T15.setTop (mkF m 55 #[.val (.ref x), .val (.int r_1), .val (.ref ss), .val (.int (3 : Int32)), .val (.int (3 : Int32)), .val (.int (35 : Int32))] [])) _
            refine XS.iloadN X15.here hx rfl (hb hby d9_55) rfl ?_
            show Steps p.tables e below (T15.setTop (mkF m 56 #[.val (.ref x), .val (.int r_1), .val (.ref ss), .val (.int (3 : Int32)), .val (.int (3 : Int32)), .val (.int (35 : Int32))] [(.int r_1)])) _
            refine XS.iconst X15.here hx rfl (hb hby d9_56) ?_
            show Steps p.tables e below (T15.setTop (mkF m 57 #[.val (.ref x), .val (.int r_1), .val (.ref ss), .val (.int (3 : Int32)), .val (.int (3 : Int32)), .val (.int (35 : Int32))] [(.int (1 : Int32)), (.int r_1)])) _
            refine XS.iadd X15.here hx rfl (hb hby d9_57) rfl ?_
            show Steps p.tables e below (T15.setTop (mkF m 58 #[.val (.ref x), .val (.int r_1), .val (.ref ss), .val (.int (3 : Int32)), .val (.int (3 : Int32)), .val (.int (35 : Int32))] [(.int (r_1 + (1 : Int32)))])) _
            exact retI X15 hx Bd.returns (hb hby d9_58) hr
          · show Q_rm9 Z x tb kb bs z0 ss ks h0 n0 _ T15.heap _
            rw [e15]
            exact ⟨(r_1 + (1 : Int32)), rfl, N15, rfl, (own_c3 (own_c1 t1_0 hc8_2))⟩
        · obtain ⟨fs, hr, hrun, hended, hW, hsame⟩ := X15.leave (v := some (.int (0 : Int32))) (fun h => by rw [Bd.returns] at h; cases h)
          refine ⟨_, _, pre17 _ ?_, hrun, hended, _, _, rfl, ?_, ⟨_, rfl⟩, hW, hsame.mono (by decide) (by decide)⟩
          · show Steps p.tables e below (T15.setTop (mkF m 44 #[.val (.ref x), .val (.int r_1), .val (.ref ss), .val (.int (3 : Int32)), .val (.int (2 : Int32)), .val (.int (35 : Int32))] [(.int r_15)])) _
            refine XS.ifNo X15.here hx rfl (hb hby d9_44) rfl ((if0 _ _).trans (flt hc44_16).1) ?_
            show Steps p.tables e below (T15.setTop (mkF m 47 #[.val (.ref x), .val (.int r_1), .val (.ref ss), .val (.int (3 : Int32)), .val (.int (2 : Int32)), .val (.int (35 : Int32))] [])) _
            refine XS.iconst X15.here hx rfl (hb hby d9_47) ?_
            show Steps p.tables e below (T15.setTop (mkF m 48 #[.val (.ref x), .val (.int r_1), .val (.ref ss), .val (.int (3 : Int32)), .val (.int (2 : Int32)), .val (.int (35 : Int32))] [(.int (0 : Int32))])) _
            exact retI X15 hx Bd.returns (hb hby d9_48) hr
          · show Q_rm9 Z x tb kb bs z0 ss ks h0 n0 _ T15.heap _
            rw [e15]
            exact ⟨(0 : Int32), rfl, N15, rfl, (by decide)⟩
      · obtain ⟨fs, hr, hrun, hended, hW, hsame⟩ := X11.leave (v := some (.int (0 : Int32))) (fun h => by rw [Bd.returns] at h; cases h)
        refine ⟨_, _, pre13 _ ?_, hrun, hended, _, _, rfl, ?_, ⟨_, rfl⟩, hW, hsame.mono (by decide) (by decide)⟩
        · show Steps p.tables e below (T11.setTop (mkF m 44 #[.val (.ref x), .val (.int r_1), .val (.ref ss), .val (.int (3 : Int32)), .val (.int (1 : Int32)), .val (.int (63 : Int32))] [(.int r_11)])) _
          refine XS.ifNo X11.here hx rfl (hb hby d9_44) rfl ((if0 _ _).trans (flt hc44_12).1) ?_
          show Steps p.tables e below (T11.setTop (mkF m 47 #[.val (.ref x), .val (.int r_1), .val (.ref ss), .val (.int (3 : Int32)), .val (.int (1 : Int32)), .val (.int (63 : Int32))] [])) _
          refine XS.iconst X11.here hx rfl (hb hby d9_47) ?_
          show Steps p.tables e below (T11.setTop (mkF m 48 #[.val (.ref x), .val (.int r_1), .val (.ref ss), .val (.int (3 : Int32)), .val (.int (1 : Int32)), .val (.int (63 : Int32))] [(.int (0 : Int32))])) _
          exact retI X11 hx Bd.returns (hb hby d9_48) hr
        · show Q_rm9 Z x tb kb bs z0 ss ks h0 n0 _ T11.heap _
          rw [e11]
          exact ⟨(0 : Int32), rfl, N11, rfl, (by decide)⟩
    · obtain ⟨fs, hr, hrun, hended, hW, hsame⟩ := X7.leave (v := some (.int (0 : Int32))) (fun h => by rw [Bd.returns] at h; cases h)
      refine ⟨_, _, pre9 _ ?_, hrun, hended, _, _, rfl, ?_, ⟨_, rfl⟩, hW, hsame.mono (by decide) (by decide)⟩
      · show Steps p.tables e below (T7.setTop (mkF m 44 #[.val (.ref x), .val (.int r_1), .val (.ref ss), .val (.int (3 : Int32)), .val (.int (0 : Int32)), .val (.int (47 : Int32))] [(.int r_7)])) _
        refine XS.ifNo X7.here hx rfl (hb hby d9_44) rfl ((if0 _ _).trans (flt hc44_8).1) ?_
        show Steps p.tables e below (T7.setTop (mkF m 47 #[.val (.ref x), .val (.int r_1), .val (.ref ss), .val (.int (3 : Int32)), .val (.int (0 : Int32)), .val (.int (47 : Int32))] [])) _
        refine XS.iconst X7.here hx rfl (hb hby d9_47) ?_
        show Steps p.tables e below (T7.setTop (mkF m 48 #[.val (.ref x), .val (.int r_1), .val (.ref ss), .val (.int (3 : Int32)), .val (.int (0 : Int32)), .val (.int (47 : Int32))] [(.int (0 : Int32))])) _
        exact retI X7 hx Bd.returns (hb hby d9_48) hr
      · show Q_rm9 Z x tb kb bs z0 ss ks h0 n0 _ T7.heap _
        rw [e7]
        exact ⟨(0 : Int32), rfl, N7, rfl, (by decide)⟩
  · obtain ⟨fs, hr, hrun, hended, hW, hsame⟩ := X1.leave (v := some (.int (0 : Int32))) (fun h => by rw [Bd.returns] at h; cases h)
    refine ⟨_, _, pre3 _ ?_, hrun, hended, _, _, rfl, ?_, ⟨_, rfl⟩, hW, hsame.mono (by decide) (by decide)⟩
    · show Steps p.tables e below (T1.setTop (mkF m 8 #[.val (.ref x), .val (.int r_1), .unset, .unset, .unset, .unset] [(.int r_1)])) _
      refine XS.ifNo X1.here hx rfl (hb hby d9_8) rfl ((if0 _ _).trans (flt hc8_2).2.2.1) ?_
      show Steps p.tables e below (T1.setTop (mkF m 11 #[.val (.ref x), .val (.int r_1), .unset, .unset, .unset, .unset] [])) _
      refine XS.iconst X1.here hx rfl (hb hby d9_11) ?_
      show Steps p.tables e below (T1.setTop (mkF m 12 #[.val (.ref x), .val (.int r_1), .unset, .unset, .unset, .unset] [(.int (0 : Int32))])) _
      exact retI X1 hx Bd.returns (hb hby d9_12) hr
    · show Q_rm9 Z x tb kb bs z0 ss ks h0 n0 _ T1.heap _
      rw [e1]
      exact ⟨(0 : Int32), rfl, N1, rfl, (by decide)⟩
theorem own_swf {bs : List Int32} {a : Int32} (h0 : 0 ≤ a.toInt) (h : ¬ (own_sw bs a = 0)) : a.toInt ≤ 4 ∧ bs.getD a.toInt.toNat 0 = 47 ∧ bs.getD (a.toInt.toNat + 1) 0 = 47 := by
  unfold own_sw at h
  by_cases h4 : (4 : Int32) < a
  · rw [if_pos h4] at h; exact absurd rfl h
  · rw [if_neg h4] at h
    have q := own_h4 h0 h4
    have e := own_inc h0 (by omega)
    have e1 : (a + (0 : Int32)).toNatClampNeg = a.toInt.toNat := by rw [Int32.add_zero]; rfl
    have e2 : (a + (1 : Int32)).toNatClampNeg = a.toInt.toNat + 1 := by show (a + (1 : Int32)).toInt.toNat = _; omega
    unfold own_mm at h
    rw [e1, e2] at h
    by_cases g1 : bs.getD a.toInt.toNat 0 = 47
    · rw [if_pos g1] at h
      by_cases g2 : bs.getD (a.toInt.toNat + 1) 0 = 47
      · exact ⟨by omega, g1, g2⟩
      · rw [if_neg g2] at h; exact absurd (by decide) h
    · rw [if_neg g1] at h; exact absurd (by decide) h
theorem own_swt {bs : List Int32} {a : Int32} (h0 : 0 ≤ a.toInt) (h4 : a.toInt ≤ 4) (g1 : bs.getD a.toInt.toNat 0 = 47) (g2 : bs.getD (a.toInt.toNat + 1) 0 = 47) : ¬ (own_sw bs a = 0) := by
  unfold own_sw
  have e4 : (4 : Int32).toInt = 4 := by decide
  have h5 : ¬ ((4 : Int32) < a) := by rw [Int32.lt_iff_toInt_lt, e4]; omega
  have e := own_inc h0 (by omega)
  have e1 : (a + (0 : Int32)).toNatClampNeg = a.toInt.toNat := by rw [Int32.add_zero]; rfl
  have e2 : (a + (1 : Int32)).toNatClampNeg = a.toInt.toNat + 1 := by show (a + (1 : Int32)).toInt.toNat = _; omega
  unfold own_mm
  rw [if_neg h5, e1, e2, if_pos g1, if_pos g2]; decide
/-- a place at or behind a that holds another sign lies behind both -/
theorem own_far {bs : List Int32} {a r ch : Int32} (h0 : 0 ≤ a.toInt) (g1 : bs.getD a.toInt.toNat 0 = 47) (g2 : bs.getD (a.toInt.toNat + 1) 0 = 47) (hc : ¬ (ch.toInt8.toInt32 = 47)) (hr : ¬ r.toInt < 0) (h : r.toInt < 0 ∨ (a.toInt ≤ r.toInt ∧ r.toInt < 6 ∧ bs.getD r.toNatClampNeg 0 = ch.toInt8.toInt32)) : a.toInt + 2 ≤ r.toInt := by
  rcases h with h | ⟨q1, q2, q3⟩
  · exact absurd h hr
  · have e : r.toNatClampNeg = r.toInt.toNat := rfl
    rw [e] at q3
    by_cases k1 : r.toInt = a.toInt
    · rw [k1, g1] at q3; exact absurd q3.symm hc
    · by_cases k2 : r.toInt = a.toInt + 1
      · rw [k2, show (a.toInt + 1).toNat = a.toInt.toNat + 1 by omega, g2] at q3; exact absurd q3.symm hc
      · omega
theorem own_n0 {r : Int32} (h : ¬ (r < (0 : Int32))) : ¬ r.toInt < 0 := by rw [Int32.lt_iff_toInt_lt, Int32.toInt_zero] at h; exact h
/-- pathEnd, where the authority stands -/
theorem own_q {a h r q : Int32} (hh : a.toInt + 2 ≤ h.toInt) (hr : ¬ r.toInt < 0 → a.toInt + 2 ≤ r.toInt) (e : q = if r < (0 : Int32) then h else if h < r then h else r) : a.toInt + 2 ≤ q.toInt := by
  subst e
  split
  · exact hh
  · rename_i k
    split
    · exact hh
    · exact hr (own_n0 k)
theorem own_pl {a q : Int32} (h : a.toInt + 2 ≤ q.toInt) : a < q := by rw [Int32.lt_iff_toInt_lt]; omega
theorem own_ir {a : Int32} : ¬ (a < a) := by rw [Int32.lt_iff_toInt_lt]; omega
theorem d8_0 : decode prog_68_method_3_code 0 = .ok (.aload_n 0, 1) := by decide +kernel
theorem pd__28Ljava_2flang_2fString_3b_29I : parseMethodDescriptor "(Ljava/lang/String;)I" = some ⟨[(.object nm1)], some .int⟩ := by decide +kernel
theorem d8_1 : decode prog_68_method_3_code 1 = .ok (.invokestatic 85, 3) := by decide +kernel
theorem d8_4 : decode prog_68_method_3_code 4 = .ok (.istore_n 1, 1) := by decide +kernel
theorem d8_5 : decode prog_68_method_3_code 5 = .ok (.aload_n 0, 1) := by decide +kernel
theorem d8_6 : decode prog_68_method_3_code 6 = .ok (.bipush 35, 2) := by decide +kernel
theorem d8_8 : decode prog_68_method_3_code 8 = .ok (.iload_n 1, 1) := by decide +kernel
theorem d8_9 : decode prog_68_method_3_code 9 = .ok (.invokevirtual 88, 3) := by decide +kernel
theorem d8_12 : decode prog_68_method_3_code 12 = .ok (.istore_n 2, 1) := by decide +kernel
theorem d8_13 : decode prog_68_method_3_code 13 = .ok (.iload_n 2, 1) := by decide +kernel
theorem d8_14 : decode prog_68_method_3_code 14 = .ok (.ifCond .ge 8, 3) := by decide +kernel
theorem d8_17 : decode prog_68_method_3_code 17 = .ok (.aload_n 0, 1) := by decide +kernel
theorem d8_18 : decode prog_68_method_3_code 18 = .ok (.invokevirtual 76, 3) := by decide +kernel
theorem d8_21 : decode prog_68_method_3_code 21 = .ok (.istore_n 2, 1) := by decide +kernel
theorem d8_22 : decode prog_68_method_3_code 22 = .ok (.aload_n 0, 1) := by decide +kernel
theorem d8_23 : decode prog_68_method_3_code 23 = .ok (.bipush 63, 2) := by decide +kernel
theorem d8_25 : decode prog_68_method_3_code 25 = .ok (.iload_n 1, 1) := by decide +kernel
theorem d8_26 : decode prog_68_method_3_code 26 = .ok (.invokevirtual 88, 3) := by decide +kernel
theorem d8_29 : decode prog_68_method_3_code 29 = .ok (.istore_n 3, 1) := by decide +kernel
theorem d8_30 : decode prog_68_method_3_code 30 = .ok (.iload_n 3, 1) := by decide +kernel
theorem d8_31 : decode prog_68_method_3_code 31 = .ok (.ifCond .lt 8, 3) := by decide +kernel
theorem d8_39 : decode prog_68_method_3_code 39 = .ok (.iload_n 2, 1) := by decide +kernel
theorem d8_40 : decode prog_68_method_3_code 40 = .ok (.istore_n 3, 1) := by decide +kernel
theorem d8_34 : decode prog_68_method_3_code 34 = .ok (.iload_n 3, 1) := by decide +kernel
theorem d8_35 : decode prog_68_method_3_code 35 = .ok (.iload_n 2, 1) := by decide +kernel
theorem d8_36 : decode prog_68_method_3_code 36 = .ok (.if_icmp .le 5, 3) := by decide +kernel
theorem d8_41 : decode prog_68_method_3_code 41 = .ok (.iload_n 1, 1) := by decide +kernel
theorem d8_42 : decode prog_68_method_3_code 42 = .ok (.istore 4, 2) := by decide +kernel
theorem d8_44 : decode prog_68_method_3_code 44 = .ok (.aload_n 0, 1) := by decide +kernel
theorem d8_45 : decode prog_68_method_3_code 45 = .ok (.ldc 92, 2) := by decide +kernel
theorem d8_47 : decode prog_68_method_3_code 47 = .ok (.iload_n 1, 1) := by decide +kernel
theorem pd__28Ljava_2flang_2fString_3bI_29Z : parseMethodDescriptor "(Ljava/lang/String;I)Z" = some ⟨[(.object nm1), .int], some .boolean⟩ := by decide +kernel
theorem d8_48 : decode prog_68_method_3_code 48 = .ok (.invokevirtual 94, 3) := by decide +kernel
theorem d8_51 : decode prog_68_method_3_code 51 = .ok (.ifCond .eq 28, 3) := by decide +kernel
theorem d8_79 : decode prog_68_method_3_code 79 = .ok (.new 42, 3) := by decide +kernel
theorem d8_82 : decode prog_68_method_3_code 82 = .ok (.dup, 1) := by decide +kernel
theorem d8_83 : decode prog_68_method_3_code 83 = .ok (.iload_n 1, 1) := by decide +kernel
theorem d8_84 : decode prog_68_method_3_code 84 = .ok (.iload 4, 2) := by decide +kernel
theorem d8_86 : decode prog_68_method_3_code 86 = .ok (.iload_n 3, 1) := by decide +kernel
theorem d8_87 : decode prog_68_method_3_code 87 = .ok (.iload_n 2, 1) := by decide +kernel
theorem pd__28IIII_29V : parseMethodDescriptor "(IIII)V" = some ⟨[.int, .int, .int, .int], none⟩ := by decide +kernel
theorem d8_88 : decode prog_68_method_3_code 88 = .ok (.invokespecial 98, 3) := by decide +kernel
theorem d8_91 : decode prog_68_method_3_code 91 = .ok (.areturn, 1) := by decide +kernel
theorem d8_54 : decode prog_68_method_3_code 54 = .ok (.aload_n 0, 1) := by decide +kernel
theorem d8_55 : decode prog_68_method_3_code 55 = .ok (.bipush 47, 2) := by decide +kernel
theorem d8_57 : decode prog_68_method_3_code 57 = .ok (.iload_n 1, 1) := by decide +kernel
theorem d8_58 : decode prog_68_method_3_code 58 = .ok (.iconst 2, 1) := by decide +kernel
theorem d8_59 : decode prog_68_method_3_code 59 = .ok (.iadd, 1) := by decide +kernel
theorem d8_60 : decode prog_68_method_3_code 60 = .ok (.invokevirtual 88, 3) := by decide +kernel
theorem d8_63 : decode prog_68_method_3_code 63 = .ok (.istore 4, 2) := by decide +kernel
theorem d8_65 : decode prog_68_method_3_code 65 = .ok (.iload 4, 2) := by decide +kernel
theorem d8_67 : decode prog_68_method_3_code 67 = .ok (.ifCond .lt 9, 3) := by decide +kernel
theorem d8_76 : decode prog_68_method_3_code 76 = .ok (.iload_n 3, 1) := by decide +kernel
theorem d8_77 : decode prog_68_method_3_code 77 = .ok (.istore 4, 2) := by decide +kernel
theorem d8_70 : decode prog_68_method_3_code 70 = .ok (.iload 4, 2) := by decide +kernel
theorem d8_72 : decode prog_68_method_3_code 72 = .ok (.iload_n 3, 1) := by decide +kernel
theorem d8_73 : decode prog_68_method_3_code 73 = .ok (.if_icmp .le 6, 3) := by decide +kernel
theorem ef_rm8 (m : MethodId) (x : Addr) : entryFrame m #[(.ref x)] 5 = mkF m 0 #[.val (.ref x), .unset, .unset, .unset, .unset] [] := by first | (simp [entryFrame, mkF, argsToLocals, Value.category]; done) | rfl
def Q_rm8 (Z : State) (x : Addr) (tb : Addr) (kb : ClassId) (bs : List Int32) (z0 : Int32) (ss : Addr) (ks : ClassId) (Ts : List String) (h0 : Heap) (n0 : Nat) (v : Option Value) (h : Heap) (L : List Loc) (vm : Vm) : Prop := ∃ r : Addr, ∃ a : Int32, ∃ ps : Int32, v = some (.ref r) ∧ Fr n0 L ∧ Keep h0 h [] ∧ Exa Z h r nm0 ∧ Fld Z h r nm0 "afterScheme" "I" (.int a) ∧ Fld Z h r nm0 "pathStart" "I" (.int ps) ∧ ((a < ps) ↔ ¬ (own_sw bs a = 0)) ∧ 0 ≤ a.toInt ∧ a.toInt ≤ 6
set_option maxRecDepth 65536 in
set_option maxHeartbeats 40000000 in
theorem rm8 (l : Launch) (Z : State) (a0 : Array Value) (hw : ∀ d ∈ tables_1, d.before a0 Z = true) (ws : List Jvm.Cond) (x : Addr) (tb : Addr) (kb : ClassId) (bs : List Int32) (z0 : Int32) (ss : Addr) (ks : ClassId) (Ts : List String) (h0 : Heap) (n0 : Nat) (Z0 : n0 ≤ h0.size) (E_x : Exa Z h0 x nm1) (F_value_x : Fld Z h0 x nm1 "value" "[B" (.ref tb)) (F_coder_x : Fld Z h0 x nm1 "coder" "B" (.int (0 : Int32))) (V_tb : Arv Z h0 tb kb .byte (6 : Int32) (bs.map Value.int) (.int (0 : Int32))) (S_COMPACT_STRINGS : Sta Z h0 nm1 "COMPACT_STRINGS" "Z" (.int z0)) (hz : ¬ (z0 = (0 : Int32))) (S_SCHEME_STOPS : Sta Z h0 nm2 "SCHEME_STOPS" "[C" (.ref ss)) (V_ss : Arv Z h0 ss ks .char (3 : Int32) [(.int (47 : Int32)), (.int (63 : Int32)), (.int (35 : Int32))] (.int (0 : Int32))) (hn0 : h0.size ≤ n0) (hkeep : ∀ (b : Addr) (cl : Cell), Z.heap[b]? = some cl → h0[b]? = some cl) (hcw : Jvm.Lit.compactW.before a0 Z = true) (hch : Jvm.Lit.constHeld Z nm2 92) (hnt : "//" ∉ Ts) :
    MetFree l (⟨nm2, "split", "(Ljava/lang/String;)Lcom/example/basepoint/basepoint/uri/UriReference$Split;"⟩ : MethodName) (head1 (Jvm.Cond.code (⟨nm2, "split", "(Ljava/lang/String;)Lcom/example/basepoint/basepoint/uri/UriReference$Split;"⟩ : MethodName) prog_68_method_3_code 5 (some (.object nm0)) :: ws) ({ frames := 5, cells := 3, slots := 16, locals := 76 } : Room)) (fun a U => a = #[(.ref x)] ∧ Z.Warmed39 U.vm ∧ U.heap = h0 ∧ IB Z U.vm Ts) (fun _ _ _ _ _ => True) (fun _ U o U' => ∃ v L, o = .returned v ∧ Q_rm8 Z x tb kb bs z0 ss ks Ts h0 n0 v U'.heap L U'.vm ∧ ReturnedEndW U o U' L ({ frames := 5, cells := 3, slots := 16, locals := 76 } : Room).cells ({ frames := 5, cells := 3, slots := 16, locals := 76 } : Room).slots) := by
  refine MetFree.of_bodySF (plainFor_of_name pn_com_example_basepoint_basepoint_uri_UriReference) hisR ?_
  intro p e s m args below meth c s₁ Bd hml0 hP hK
  obtain ⟨rfl, hZ0', hh, I0⟩ := hP
  have hZ0 : Z.Warmed39 (s.setVm s.vm).vm := hZ0'
  have hS0 : s.Since s.vm 0 := (State.WarmedH.refl s).since 0
  have hk0 : 0 ≤ h0.size := Nat.zero_le _
  have hkz : ∀ (b : Addr) (cl : Cell), Z.heap[b]? = some cl → s.heap[b]? = some cl := fun b cl q => by rw [hh]; exact hkeep b cl q
  have hfu : ∀ {L : List Loc}, Fr n0 L → Fr s.heap.size L := fun N y hy => Nat.le_trans (by rw [hh]; exact hn0) (N y hy)
  have hx := Bd.exec
  have hby := Bd.bytes
  have hml : c.maxLocals = 5 := hml0
  have hown0 : (s.setVm s.vm).vm.findClass nm2 = some m.cls := findClass_of_methodNamed Bd.named
  have hnm := (name_of_methodNamed Bd.named Bd.method).1
  have X0 : Stand p l e ({ frames := 5, cells := 3, slots := 16, locals := 76 } : Room) (s.setVm s.vm) m #[(.ref x)] below meth c s₁ [] 0 0 := Stand.of_body Bd
  have e0 : s₁.heap = h0 := by rw [← hh, Bd.state]; rfl
  have N0 := Fr.nil n0
  have pre0 : ∀ t, Steps p.tables e below (s₁.setTop (mkF m 0 #[.val (.ref x), .unset, .unset, .unset, .unset] [])) t → Steps p.tables e below (s₁.setTop (entryFrame m #[(.ref x)] 5)) t := fun t k => castTop (ef_rm8 m x) k
  obtain ⟨_, _, ⟨T1, L1, k1, n1⟩, -, X1, ⟨Lc1, hQ1, l1, y1, z1⟩, st1⟩ := Jvm.LawKit.callS X0 hx (y := (⟨nm2, "afterScheme", "(Ljava/lang/String;)I"⟩ : MethodName)) hown0 (mvT hZ0 (own_w hw 38 rfl)) (mvT hZ0 (own_w hw 39 rfl)) (mvT hZ0 (own_w hw 36 rfl)) (mvT hZ0 (own_w hw 40 rfl)) (by decide) (backOf (W := 0) (rm9 l Z a0 hw [] x tb kb bs z0 ss ks h0 n0 Z0 E_x F_value_x F_coder_x V_tb S_COMPACT_STRINGS hz S_SCHEME_STOPS V_ss) hZ0 (own_w hw 40 rfl) (own_w hw 36 rfl) (by decide) (by decide)) (g := (mkF m 1 #[.val (.ref x), .unset, .unset, .unset, .unset] [(.ref x)])) rfl (by rw [hml]; rfl) (argsL := [(.ref x)]) (rest := []) (lenOf pd__28Ljava_2flang_2fString_3b_29I rfl) rfl (by show 2 * 0 + _ ≤ _; exact Nat.le_of_eq rfl) (hb hby d8_1) (fun _ _ => ⟨rfl, e0, (by decide : 0 + 0 ≤ _), (by decide : 0 + 0 ≤ _)⟩)
  dsimp only [Pt.U, Pt.locs, Pt.cells, Pt.slots] at y1 z1 st1 hQ1
  change Stand p l e _ _ m _ below meth c T1 L1 k1 n1 at X1
  change L1 = _ ++ Lc1 at l1
  subst y1 z1
  obtain ⟨a_1, rfl, N1q, e1, t1_0⟩ := hQ1
  have N1 : Fr n0 L1 := l1 ▸ Fr.app N0 N1q
  obtain ⟨cq2, kq2, q2a, q2b, q2c⟩ := isOf hZ0 e1 E_x
  obtain ⟨_, _, ⟨T2, L2, k2, n2⟩, -, X2, ⟨Lc2, hQ2, l2, y2, z2⟩, st2⟩ := X1.virtualBack hx (y := (⟨nm1, "indexOf", "(II)I"⟩ : MethodName)) (z := (⟨nm1, "indexOf", "(II)I"⟩ : MethodName)) hown0 (mvT hZ0 (own_w hw 83 rfl)) (mvT hZ0 (own_w hw 47 rfl)) (notFace_of_selects (args := #[]) (mvT hZ0 (own_w hw 49 rfl))) (mvT hZ0 (own_w hw 49 rfl)) (mvT hZ0 (own_w hw 48 rfl)) (by decide) (backOf (W := 0) (rm11 l Z a0 hw [] x (35 : Int32) a_1 tb kb bs z0 h0 n0 Z0 E_x F_value_x F_coder_x V_tb S_COMPACT_STRINGS hz (by decide) (by decide) t1_0.1 (by omega)) hZ0 (own_w hw 50 rfl) (own_w hw 7 rfl) (by decide) (by decide)) q2a q2c (g := (mkF m 9 #[.val (.ref x), .val (.int a_1), .unset, .unset, .unset] [(.int a_1), (.int (35 : Int32)), (.ref x)])) rfl (by rw [hml]; rfl) (Steps.refl _) (argsL := [(.int (35 : Int32)), (.int a_1)]) (rest := []) (lenOf pd__28II_29I rfl) rfl (by show 2 * 0 + _ ≤ _; exact Nat.le_of_eq rfl) (hb hby d8_9) (fun _ _ => ⟨rfl, e1, (by decide : 0 + 0 ≤ _), (by decide : 0 + 0 ≤ _)⟩)
  dsimp only [Pt.U, Pt.locs, Pt.cells, Pt.slots] at y2 z2 st2 hQ2
  change Stand p l e _ _ m _ below meth c T2 L2 k2 n2 at X2
  change L2 = _ ++ Lc2 at l2
  subst y2 z2
  obtain ⟨r_2, rfl, N2q, e2, t2_0⟩ := hQ2
  have N2 : Fr n0 L2 := l2 ▸ Fr.app N1 N2q
  have pre4 : ∀ t, Steps p.tables e below (T2.setTop (mkF m 14 #[.val (.ref x), .val (.int a_1), .val (.int r_2), .unset, .unset] [(.int r_2)])) t → Steps p.tables e below (s₁.setTop (entryFrame m #[(.ref x)] 5)) t := fun t kt => by
    refine pre0 t ?_
    show Steps p.tables e below (s₁.setTop (mkF m 0 #[.val (.ref x), .unset, .unset, .unset, .unset] [])) _
    refine XS.aloadN X0.here hx rfl (hb hby d8_0) rfl rfl ?_
    show Steps p.tables e below (s₁.setTop (mkF m 1 #[.val (.ref x), .unset, .unset, .unset, .unset] [(.ref x)])) _
    refine st1 _ ?_
    show Steps p.tables e below (T1.setTop (mkF m 4 #[.val (.ref x), .unset, .unset, .unset, .unset] [(.int a_1)])) _
    refine XS.istoreN X1.here hx rfl (hb hby d8_4) rfl (l' := #[.val (.ref x), .val (.int a_1), .unset, .unset, .unset]) rfl ?_
    show Steps p.tables e below (T1.setTop (mkF m 5 #[.val (.ref x), .val (.int a_1), .unset, .unset, .unset] [])) _
    refine XS.aloadN X1.here hx rfl (hb hby d8_5) rfl rfl ?_
    show Steps p.tables e below (T1.setTop (mkF m 6 #[.val (.ref x), .val (.int a_1), .unset, .unset, .unset] [(.ref x)])) _
    refine XS.bipush X1.here hx rfl (hb hby d8_6) ?_
    show Steps p.tables e below (T1.setTop (mkF m 8 #[.val (.ref x), .val (.int a_1), .unset, .unset, .unset] [(.int (35 : Int32)), (.ref x)])) _
    refine XS.iloadN X1.here hx rfl (hb hby d8_8) rfl ?_
    show Steps p.tables e below (T1.setTop (mkF m 9 #[.val (.ref x), .val (.int a_1), .unset, .unset, .unset] [(.int a_1), (.int (35 : Int32)), (.ref x)])) _
    refine st2.trans ?_
    show Steps p.tables e below (T2.setTop (mkF m 12 #[.val (.ref x), .val (.int a_1), .unset, .unset, .unset] [(.int r_2)])) _
    refine XS.istoreN X2.here hx rfl (hb hby d8_12) rfl (l' := #[.val (.ref x), .val (.int a_1), .val (.int r_2), .unset, .unset]) rfl ?_
    show Steps p.tables e below (T2.setTop (mkF m 13 #[.val (.ref x), .val (.int a_1), .val (.int r_2), .unset, .unset] [])) _
    refine XS.iloadN X2.here hx rfl (hb hby d8_13) rfl ?_
    exact kt
  by_cases hc14_3 : r_2 < (0 : Int32)
  · obtain ⟨cq5, kq5, q5a, q5b, q5c⟩ := isOf hZ0 e2 E_x
    obtain ⟨_, _, ⟨T5, L5, k5, n5⟩, -, X5, ⟨Lc5, hQ5, l5, y5, z5⟩, st5⟩ := X2.virtualBack hx (y := (⟨nm1, "length", "()I"⟩ : MethodName)) (z := (⟨nm1, "length", "()I"⟩ : MethodName)) hown0 (mvT hZ0 (own_w hw 153 rfl)) (mvT hZ0 (own_w hw 57 rfl)) (notFace_of_selects (args := #[]) (mvT hZ0 (own_w hw 59 rfl))) (mvT hZ0 (own_w hw 59 rfl)) (mvT hZ0 (own_w hw 58 rfl)) (by decide) (backOf (W := 0) (rmlen6 l Z a0 hw [] x tb kb (bs.map Value.int) z0 h0 n0 Z0 E_x F_coder_x F_value_x V_tb S_COMPACT_STRINGS hz) hZ0 (own_w hw 60 rfl) (own_w hw 7 rfl) (by decide) (by decide)) q5a q5c (g := (mkF m 18 #[.val (.ref x), .val (.int a_1), .val (.int r_2), .unset, .unset] [(.ref x)])) rfl (by rw [hml]; rfl) (Steps.refl _) (argsL := []) (rest := []) (lenOf pd__28_29I rfl) rfl (by show 2 * 0 + _ ≤ _; exact Nat.le_of_eq rfl) (hb hby d8_18) (fun _ _ => ⟨rfl, e2, (by decide : 0 + 0 ≤ _), (by decide : 0 + 0 ≤ _)⟩)
    dsimp only [Pt.U, Pt.locs, Pt.cells, Pt.slots] at y5 z5 st5 hQ5
    change Stand p l e _ _ m _ below meth c T5 L5 k5 n5 at X5
    change L5 = _ ++ Lc5 at l5
    subst y5 z5
    obtain ⟨rfl, N5q, e5⟩ := hQ5
    have N5 : Fr n0 L5 := l5 ▸ Fr.app N2 N5q
    obtain ⟨cq6, kq6, q6a, q6b, q6c⟩ := isOf hZ0 e5 E_x
    obtain ⟨_, _, ⟨T6, L6, k6, n6⟩, -, X6, ⟨Lc6, hQ6, l6, y6, z6⟩, st6⟩ := X5.virtualBack hx (y := (⟨nm1, "indexOf", "(II)I"⟩ : MethodName)) (z := (⟨nm1, "indexOf", "(II)I"⟩ : MethodName)) hown0 (mvT hZ0 (own_w hw 83 rfl)) (mvT hZ0 (own_w hw 47 rfl)) (notFace_of_selects (args := #[]) (mvT hZ0 (own_w hw 49 rfl))) (mvT hZ0 (own_w hw 49 rfl)) (mvT hZ0 (own_w hw 48 rfl)) (by decide) (backOf (W := 0) (rm11 l Z a0 hw [] x (63 : Int32) a_1 tb kb bs z0 h0 n0 Z0 E_x F_value_x F_coder_x V_tb S_COMPACT_STRINGS hz (by decide) (by decide) t1_0.1 (by omega)) hZ0 (own_w hw 50 rfl) (own_w hw 7 rfl) (by decide) (by decide)) q6a q6c (g := (mkF m 26 #[.val (.ref x), .val (.int a_1), .val (.int (6 : Int32)), .unset, .unset] [(.int a_1), (.int (63 : Int32)), (.ref x)])) rfl (by rw [hml]; rfl) (Steps.refl _) (argsL := [(.int (63 : Int32)), (.int a_1)]) (rest := []) (lenOf pd__28II_29I rfl) rfl (by show 2 * 0 + _ ≤ _; exact Nat.le_of_eq rfl) (hb hby d8_26) (fun _ _ => ⟨rfl, e5, (by decide : 0 + 0 ≤ _), (by decide : 0 + 0 ≤ _)⟩)
    dsimp only [Pt.U, Pt.locs, Pt.cells, Pt.slots] at y6 z6 st6 hQ6
    change Stand p l e _ _ m _ below meth c T6 L6 k6 n6 at X6
    change L6 = _ ++ Lc6 at l6
    subst y6 z6
    obtain ⟨r_6, rfl, N6q, e6, t6_0⟩ := hQ6
    have N6 : Fr n0 L6 := l6 ▸ Fr.app N5 N6q
    have pre8 : ∀ t, Steps p.tables e below (T6.setTop (mkF m 30 #[.val (.ref x), .val (.int a_1), .val (.int (6 : Int32)), .val (.int r_6), .unset] [])) t → Steps p.tables e below (s₁.setTop (entryFrame m #[(.ref x)] 5)) t := fun t kt => by
      refine pre4 t ?_
      show Steps p.tables e below (T2.setTop (mkF m 14 #[.val (.ref x), .val (.int a_1), .val (.int r_2), .unset, .unset] [(.int r_2)])) _
      refine XS.ifNo X2.here hx rfl (hb hby d8_14) rfl ((if0 _ _).trans (tlt hc14_3).2.1) ?_
      show Steps p.tables e below (T2.setTop (mkF m 17 #[.val (.ref x), .val (.int a_1), .val (.int r_2), .unset, .unset] [])) _
      refine XS.aloadN X2.here hx rfl (hb hby d8_17) rfl rfl ?_
      show Steps p.tables e below (T2.setTop (mkF m 18 #[.val (.ref x), .val (.int a_1), .val (.int r_2), .unset, .unset] [(.ref x)])) _
      refine st5.trans ?_
      show Steps p.tables e below (T5.setTop (mkF m 21 #[.val (.ref x), .val (.int a_1), .val (.int r_2), .unset, .unset] [(.int (6 : Int32))])) _
      refine XS.istoreN X5.here hx rfl (hb hby d8_21) rfl (l' := #[.val (.ref x), .val (.int a_1), .val (.int (6 : Int32)), .unset, .unset]) rfl ?_
      show Steps p.tables e below (T5.setTop (mkF m 22 #[.val (.ref x), .val (.int a_1), .val (.int (6 : Int32)), .unset, .unset] [])) _
      refine XS.aloadN X5.here hx rfl (hb hby d8_22) rfl rfl ?_
      show Steps p.tables e below (T5.setTop (mkF m 23 #[.val (.ref x), .val (.int a_1), .val (.int (6 : Int32)), .unset, .unset] [(.ref x)])) _
      refine XS.bipush X5.here hx rfl (hb hby d8_23) ?_
      show Steps p.tables e below (T5.setTop (mkF m 25 #[.val (.ref x), .val (.int a_1), .val (.int (6 : Int32)), .unset, .unset] [(.int (63 : Int32)), (.ref x)])) _
      refine XS.iloadN X5.here hx rfl (hb hby d8_25) rfl ?_
      show Steps p.tables e below (T5.setTop (mkF m 26 #[.val (.ref x), .val (.int a_1), .val (.int (6 : Int32)), .unset, .unset] [(.int a_1), (.int (63 : Int32)), (.ref x)])) _
      refine st6.trans ?_
      show Steps p.tables e below (T6.setTop (mkF m 29 #[.val (.ref x), .val (.int a_1), .val (.int (6 : Int32)), .unset, .unset] [(.int r_6)])) _
      refine XS.istoreN X6.here hx rfl (hb hby d8_29) rfl (l' := #[.val (.ref x), .val (.int a_1), .val (.int (6 : Int32)), .val (.int r_6), .unset]) rfl ?_
      exact kt
    obtain ⟨qq7, h_qq7, pre11⟩ : ∃ z : Int32, z = (if r_6 < (0 : Int32) then (6 : Int32) else (if (6 : Int32) < r_6 then (6 : Int32) else r_6)) ∧ ∀ t, Steps p.tables e below (T6.setTop (mkF m 41 #[.val (.ref x), .val (.int a_1), .val (.int (6 : Int32)), .val (.int z), .unset] [])) t → Steps p.tables e below (s₁.setTop (entryFrame m #[(.ref x)] 5)) t := by
      by_cases hj31_9 : r_6 < (0 : Int32)
      · exact ⟨_, by rw [if_pos hj31_9], fun t kt => by
          refine pre8 t ?_
          show Steps p.tables e below (T6.setTop (mkF m 30 #[.val (.ref x), .val (.int a_1), .val (.int (6 : Int32)), .val (.int r_6), .unset] [])) _
          refine XS.iloadN X6.here hx rfl (hb hby d8_30) rfl ?_
          show Steps p.tables e below (T6.setTop (mkF m 31 #[.val (.ref x), .val (.int a_1), .val (.int (6 : Int32)), .val (.int r_6), .unset] [(.int r_6)])) _
          refine XS.ifYes X6.here hx rfl (pc0 := 31) (pc' := 39) rfl (hb hby d8_31) rfl ((if0 _ _).trans (tlt hj31_9).1) (by decide) (by decide) ?_
          show Steps p.tables e below (T6.setTop (mkF m 39 #[.val (.ref x), .val (.int a_1), .val (.int (6 : Int32)), .val (.int r_6), .unset] [])) _
          refine XS.iloadN X6.here hx rfl (hb hby d8_39) rfl ?_
          show Steps p.tables e below (T6.setTop (mkF m 40 #[.val (.ref x), .val (.int a_1), .val (.int (6 : Int32)), .val (.int r_6), .unset] [(.int (6 : Int32))])) _
          refine XS.istoreN X6.here hx rfl (hb hby d8_40) rfl (l' := #[.val (.ref x), .val (.int a_1), .val (.int (6 : Int32)), .val (.int (6 : Int32)), .unset]) rfl ?_
          exact kt⟩
      · by_cases hj36_10 : (6 : Int32) < r_6
        · exact ⟨_, by rw [if_neg hj31_9, if_pos hj36_10], fun t kt => by
            refine pre8 t ?_
            show Steps p.tables e below (T6.setTop (mkF m 30 #[.val (.ref x), .val (.int a_1), .val (.int (6 : Int32)), .val (.int r_6), .unset] [])) _
            refine XS.iloadN X6.here hx rfl (hb hby d8_30) rfl ?_
            show Steps p.tables e below (T6.setTop (mkF m 31 #[.val (.ref x), .val (.int a_1), .val (.int (6 : Int32)), .val (.int r_6), .unset] [(.int r_6)])) _
            refine XS.ifNo X6.here hx rfl (hb hby d8_31) rfl ((if0 _ _).trans (flt hj31_9).1) ?_
            show Steps p.tables e below (T6.setTop (mkF m 34 #[.val (.ref x), .val (.int a_1), .val (.int (6 : Int32)), .val (.int r_6), .unset] [])) _
            refine XS.iloadN X6.here hx rfl (hb hby d8_34) rfl ?_
            show Steps p.tables e below (T6.setTop (mkF m 35 #[.val (.ref x), .val (.int a_1), .val (.int (6 : Int32)), .val (.int r_6), .unset] [(.int r_6)])) _
            refine XS.iloadN X6.here hx rfl (hb hby d8_35) rfl ?_
            show Steps p.tables e below (T6.setTop (mkF m 36 #[.val (.ref x), .val (.int a_1), .val (.int (6 : Int32)), .val (.int r_6), .unset] [(.int (6 : Int32)), (.int r_6)])) _
            refine XS.icmpNo X6.here hx rfl (hb hby d8_36) rfl (tlt hj36_10).2.2.2 ?_
            show Steps p.tables e below (T6.setTop (mkF m 39 #[.val (.ref x), .val (.int a_1), .val (.int (6 : Int32)), .val (.int r_6), .unset] [])) _
            refine XS.iloadN X6.here hx rfl (hb hby d8_39) rfl ?_
            show Steps p.tables e below (T6.setTop (mkF m 40 #[.val (.ref x), .val (.int a_1), .val (.int (6 : Int32)), .val (.int r_6), .unset] [(.int (6 : Int32))])) _
            refine XS.istoreN X6.here hx rfl (hb hby d8_40) rfl (l' := #[.val (.ref x), .val (.int a_1), .val (.int (6 : Int32)), .val (.int (6 : Int32)), .unset]) rfl ?_
            exact kt⟩
        · exact ⟨_, by rw [if_neg hj31_9, if_neg hj36_10], fun t kt => by
            refine pre8 t ?_
            show Steps p.tables e below (T6.setTop (mkF m 30 #[.val (.ref x), .val (.int a_1), .val (.int (6 : Int32)), .val (.int r_6), .unset] [])) _
            refine XS.iloadN X6.here hx rfl (hb hby d8_30) rfl ?_
            show Steps p.tables e below (T6.setTop (mkF m 31 #[.val (.ref x), .val (.int a_1), .val (.int (6 : Int32)), .val (.int r_6), .unset] [(.int r_6)])) _
            refine XS.ifNo X6.here hx rfl (hb hby d8_31) rfl ((if0 _ _).trans (flt hj31_9).1) ?_
            show Steps p.tables e below (T6.setTop (mkF m 34 #[.val (.ref x), .val (.int a_1), .val (.int (6 : Int32)), .val (.int r_6), .unset] [])) _
            refine XS.iloadN X6.here hx rfl (hb hby d8_34) rfl ?_
            show Steps p.tables e below (T6.setTop (mkF m 35 #[.val (.ref x), .val (.int a_1), .val (.int (6 : Int32)), .val (.int r_6), .unset] [(.int r_6)])) _
            refine XS.iloadN X6.here hx rfl (hb hby d8_35) rfl ?_
            show Steps p.tables e below (T6.setTop (mkF m 36 #[.val (.ref x), .val (.int a_1), .val (.int (6 : Int32)), .val (.int r_6), .unset] [(.int (6 : Int32)), (.int r_6)])) _
            refine XS.icmpYes X6.here hx rfl (pc0 := 36) (pc' := 41) rfl (hb hby d8_36) rfl (flt hj36_10).2.2.2 (by decide) (by decide) ?_
            exact kt⟩
    obtain ⟨a12, T12, h12, k12, b12, kb12, X12, e12, E12, hS12, hk12, hZ12, hown12, Ea12, Fc12, Fv12, Vb12, la12, lb12, I12, Li12, st12⟩ := ldcSVL (s := s) X6 hx hZ0 hown0 (own_w hw 84 rfl) (own_wS hw) e6 hS0 hk0 (hfu N6) hkz I0 hnt hch hcw (vs := [(.int (47 : Int32)), (.int (47 : Int32))]) (z := (2 : Int32)) ⟨by decide, rfl⟩ (by decide) (by decide) (g := (mkF m 45 #[.val (.ref x), .val (.int a_1), .val (.int (6 : Int32)), .val (.int qq7), .val (.int a_1)] [(.ref x)])) rfl (hb hby d8_45) (n := 8) (by decide) (by decide) (by decide) (by decide)
    have K13 : Keep h0 h12 [] := (Keep.refl h0 []).ext E12
    have f15 : Exa Z h12 x nm1 := (E_x.ext E12)
    have na14 : x ≠ b12 := Exa.neArv f15 Vb12 (own_w hw 6 rfl)
    have f16 : Fld Z h12 x nm1 "value" "[B" (.ref tb) := (F_value_x.ext E12)
    have f17 : Fld Z h12 x nm1 "coder" "B" (.int (0 : Int32)) := (F_coder_x.ext E12)
    have f18 : Arv Z h12 tb kb .byte (6 : Int32) (bs.map Value.int) (.int (0 : Int32)) := (V_tb.ext E12)
    have f19 : Sta Z h12 nm1 "COMPACT_STRINGS" "Z" (.int z0) := (S_COMPACT_STRINGS.ext E12)
    obtain ⟨cq20, kq20, q20a, q20b, q20c⟩ := isOf hZ12 e12 f15
    obtain ⟨_, _, ⟨T20, L20, k20, n20⟩, -, X20, ⟨Lc20, hQ20, l20, y20, z20⟩, st20⟩ := X12.virtualBack hx (y := (⟨nm1, "startsWith", "(Ljava/lang/String;I)Z"⟩ : MethodName)) (z := (⟨nm1, "startsWith", "(Ljava/lang/String;I)Z"⟩ : MethodName)) hown12 (mvT hZ12 (own_w hw 87 rfl)) (mvT hZ12 (own_w hw 88 rfl)) (notFace_of_selects (args := #[]) (mvT hZ12 (own_w hw 90 rfl))) (mvT hZ12 (own_w hw 90 rfl)) (mvT hZ12 (own_w hw 89 rfl)) (by decide) (backOf (W := 0) (rm20 l Z a0 hw [] x a12 a_1 tb kb bs z0 b12 kb12 h12 n0 (Nat.le_trans Z0 K13.1) f15 f16 f17 f18 Ea12 Fv12 Fc12 Vb12 f19 hz t1_0.1) hZ12 (own_w hw 91 rfl) (own_w hw 7 rfl) (by decide) (by decide)) q20a q20c (g := (mkF m 48 #[.val (.ref x), .val (.int a_1), .val (.int (6 : Int32)), .val (.int qq7), .val (.int a_1)] [(.int a_1), (.ref a12), (.ref x)])) rfl (by rw [hml]; rfl) (Steps.refl _) (argsL := [(.ref a12), (.int a_1)]) (rest := []) (lenOf pd__28Ljava_2flang_2fString_3bI_29Z rfl) rfl (by show 2 * 0 + _ ≤ _; exact Nat.le_of_eq rfl) (hb hby d8_48) (fun _ _ => ⟨rfl, e12, (by decide : 2 + 0 ≤ _), (by decide : 12 + 0 ≤ _)⟩)
    dsimp only [Pt.U, Pt.locs, Pt.cells, Pt.slots] at y20 z20 st20 hQ20
    change Stand p l e _ _ m _ below meth c T20 L20 k20 n20 at X20
    change L20 = _ ++ Lc20 at l20
    subst y20 z20
    obtain ⟨rfl, N20q, e20⟩ := hQ20
    have N20 : Fr n0 L20 := l20 ▸ Fr.app N6 N20q
    have pre22 : ∀ t, Steps p.tables e below (T20.setTop (mkF m 51 #[.val (.ref x), .val (.int a_1), .val (.int (6 : Int32)), .val (.int qq7), .val (.int a_1)] [(.int (own_sw bs a_1))])) t → Steps p.tables e below (s₁.setTop (entryFrame m #[(.ref x)] 5)) t := fun t kt => by
      refine pre11 t ?_
      show Steps p.tables e below (T6.setTop (mkF m 41 #[.val (.ref x), .val (.int a_1), .val (.int (6 : Int32)), .val (.int qq7), .unset] [])) _
      refine XS.iloadN X6.here hx rfl (hb hby d8_41) rfl ?_
      show Steps p.tables e below (T6.setTop (mkF m 42 #[.val (.ref x), .val (.int a_1), .val (.int (6 : Int32)), .val (.int qq7), .unset] [(.int a_1)])) _
      refine XS.istore X6.here hx rfl (hb hby d8_42) rfl (l' := #[.val (.ref x), .val (.int a_1), .val (.int (6 : Int32)), .val (.int qq7), .val (.int a_1)]) rfl ?_
      show Steps p.tables e below (T6.setTop (mkF m 44 #[.val (.ref x), .val (.int a_1), .val (.int (6 : Int32)), .val (.int qq7), .val (.int a_1)] [])) _
      refine XS.aloadN X6.here hx rfl (hb hby d8_44) rfl rfl ?_
      show Steps p.tables e below (T6.setTop (mkF m 45 #[.val (.ref x), .val (.int a_1), .val (.int (6 : Int32)), .val (.int qq7), .val (.int a_1)] [(.ref x)])) _
      refine st12 _ ?_
      show Steps p.tables e below (T12.setTop (mkF m 47 #[.val (.ref x), .val (.int a_1), .val (.int (6 : Int32)), .val (.int qq7), .val (.int a_1)] [(.ref a12), (.ref x)])) _
      refine XS.iloadN X12.here hx rfl (hb hby d8_47) rfl ?_
      show Steps p.tables e below (T12.setTop (mkF m 48 #[.val (.ref x), .val (.int a_1), .val (.int (6 : Int32)), .val (.int qq7), .val (.int a_1)] [(.int a_1), (.ref a12), (.ref x)])) _
      refine st20.trans ?_
      exact kt
    by_cases hc51_21 : (own_sw bs a_1) = (0 : Int32)
    · have f23 : Arv Z h12 ss ks .char (3 : Int32) [(.int (47 : Int32)), (.int (63 : Int32)), (.int (35 : Int32))] (.int (0 : Int32)) := (V_ss.ext E12)
      obtain ⟨T24, h24, X24, e24, E24, A24, D24, -, st24⟩ := newO X20 hx hZ12 hown12 (own_w hw 96 rfl) (own_w hw 97 rfl) (own_w hw 98 rfl) e20 (g := (mkF m 79 #[.val (.ref x), .val (.int a_1), .val (.int (6 : Int32)), .val (.int qq7), .val (.int a_1)] [])) rfl (hb hby d8_79) (by decide) (by decide)
      obtain ⟨b24, g24⟩ : ∃ z, z = h12.size := ⟨_, rfl⟩
      rw [← g24] at A24 D24 st24
      have ne_a12_b24 : a12 ≠ b24 := Nat.ne_of_lt (Nat.lt_of_lt_of_le Ea12.lt (Nat.le_of_eq g24.symm))
      have ne_b12_b24 : b12 ≠ b24 := Nat.ne_of_lt (Nat.lt_of_lt_of_le Vb12.lt (Nat.le_of_eq g24.symm))
      have ne_ss_b24 : ss ≠ b24 := Nat.ne_of_lt (Nat.lt_of_lt_of_le f23.lt (Nat.le_of_eq g24.symm))
      have ne_tb_b24 : tb ≠ b24 := Nat.ne_of_lt (Nat.lt_of_lt_of_le f18.lt (Nat.le_of_eq g24.symm))
      have ne_x_b24 : x ≠ b24 := Nat.ne_of_lt (Nat.lt_of_lt_of_le f15.lt (Nat.le_of_eq g24.symm))
      have g_b24 : n0 ≤ b24 := Nat.le_trans (Nat.le_trans Z0 K13.1) (Nat.le_of_eq g24.symm)
      have sz_b24 : h0.size ≤ b24 := Nat.le_trans K13.1 (Nat.le_of_eq g24.symm)
      have K25 : Keep h0 h24 [] := K13.ext E24
      have F_afterScheme_b24 : Fld Z h24 b24 nm0 "afterScheme" "I" (.int (0 : Int32)) := D24 (Or.inr (own_w hw 109 rfl)) (ty := .int) (by decide)
      have F_pathStart_b24 : Fld Z h24 b24 nm0 "pathStart" "I" (.int (0 : Int32)) := D24 (Or.inr (own_w hw 111 rfl)) (ty := .int) (by decide)
      have F_pathEnd_b24 : Fld Z h24 b24 nm0 "pathEnd" "I" (.int (0 : Int32)) := D24 (Or.inr (own_w hw 113 rfl)) (ty := .int) (by decide)
      have F_fragmentStart_b24 : Fld Z h24 b24 nm0 "fragmentStart" "I" (.int (0 : Int32)) := D24 (Or.inr (own_w hw 115 rfl)) (ty := .int) (by decide)
      have f27 : Exa Z h24 a12 nm1 := (Ea12.ext E24)
      have f28 : Arv Z h24 b12 kb12 .byte (2 : Int32) [(.int (47 : Int32)), (.int (47 : Int32))] (.int (0 : Int32)) := (Vb12.ext E24)
      have f29 : Arv Z h24 ss ks .char (3 : Int32) [(.int (47 : Int32)), (.int (63 : Int32)), (.int (35 : Int32))] (.int (0 : Int32)) := (f23.ext E24)
      have f30 : Arv Z h24 tb kb .byte (6 : Int32) (bs.map Value.int) (.int (0 : Int32)) := (f18.ext E24)
      have f31 : Exa Z h24 x nm1 := (f15.ext E24)
      obtain ⟨_, _, ⟨T26, L26, k26, n26⟩, -, X26, ⟨Lc26, hQ26, l26, y26, z26⟩, st26⟩ := X24.specialBack hx (y := (⟨nm0, "<init>", "(IIII)V"⟩ : MethodName)) rfl hown12 (mvT hZ12 (own_w hw 99 rfl)) (mvT hZ12 (own_w hw 100 rfl)) (mvT hZ12 (own_w hw 101 rfl)) (by decide) (backOf (W := 1) (rm22 l Z a0 hw [] b24 a_1 a_1 qq7 (6 : Int32) (.int (0 : Int32)) (.int (0 : Int32)) (.int (0 : Int32)) (.int (0 : Int32)) h24 n0 (Nat.le_trans Z0 K25.1) A24 F_afterScheme_b24 F_pathStart_b24 F_pathEnd_b24 F_fragmentStart_b24 g_b24) hZ12 (own_w hw 101 rfl) (own_w hw 98 rfl) (by decide) (by decide)) (g := (mkF m 88 #[.val (.ref x), .val (.int a_1), .val (.int (6 : Int32)), .val (.int qq7), .val (.int a_1)] [(.int (6 : Int32)), (.int qq7), (.int a_1), (.int a_1), (.ref b24), (.ref b24)])) rfl (by rw [hml]; rfl) (Steps.refl _) (a := b24) (argsL := [(.int a_1), (.int a_1), (.int qq7), (.int (6 : Int32))]) (rest := [(.ref b24)]) (lenOf pd__28IIII_29V rfl) rfl (by show 2 * 0 + _ ≤ _; exact Nat.le_of_eq rfl) (hb hby d8_88) (fun _ _ => ⟨rfl, e24, (by decide : 3 + 0 ≤ _), (by decide : 16 + 0 ≤ _)⟩)
      dsimp only [Pt.U, Pt.locs, Pt.cells, Pt.slots] at y26 z26 st26 hQ26
      change Stand p l e _ _ m _ below meth c T26 L26 k26 n26 at X26
      change L26 = _ ++ Lc26 at l26
      subst y26 z26
      obtain ⟨rfl, N26q, K26q, t26_0, t26_1, t26_2⟩ := hQ26
      have N26 : Fr n0 L26 := l26 ▸ Fr.app N20 N26q
      have K26 : Keep h0 T26.heap [] := K25.trans K26q (allS (P := fun xz => xz ∈ [] ∨ h0.size ≤ xz) (Or.inr sz_b24) all0)
      obtain ⟨fs, hr, hrun, hended, hRW⟩ := X26.leaveW hS12 (Nat.le_trans (Nat.le_trans hk12 E24.1) K26q.1) (v := some (.ref b24)) (fun h => by rw [Bd.returns] at h; cases h)
      refine ⟨_, _, pre22 _ ?_, hrun, hended, _, _, rfl, ?_, hRW.1, hRW.2.1, hRW.2.2.1, hRW.2.2.2.mono (by decide) (by decide)⟩
      · show Steps p.tables e below (T20.setTop (mkF m 51 #[.val (.ref x), .val (.int a_1), .val (.int (6 : Int32)), .val (.int qq7), .val (.int a_1)] [(.int (own_sw bs a_1))])) _
        refine XS.ifYes X20.here hx rfl (pc0 := 51) (pc' := 79) rfl (hb hby d8_51) rfl ((if0 _ _).trans (teq hc51_21).1) (by decide) (by decide) ?_
        show Steps p.tables e below (T20.setTop (mkF m 79 #[.val (.ref x), .val (.int a_1), .val (.int (6 : Int32)), .val (.int qq7), .val (.int a_1)] [])) _
        refine st24 _ ?_
        show Steps p.tables e below (T24.setTop (mkF m 82 #[.val (.ref x), .val (.int a_1), .val (.int (6 : Int32)), .val (.int qq7), .val (.int a_1)] [(.ref b24)])) _
        refine XS.dup X24.here hx rfl (hb hby d8_82) rfl rfl ?_
        show Steps p.tables e below (T24.setTop (mkF m 83 #[.val (.ref x), .val (.int a_1), .val (.int (6 : Int32)), .val (.int qq7), .val (.int a_1)] [(.ref b24), (.ref b24)])) _
        refine XS.iloadN X24.here hx rfl (hb hby d8_83) rfl ?_
        show Steps p.tables e below (T24.setTop (mkF m 84 #[.val (.ref x), .val (.int a_1), .val (.int (6 : Int32)), .val (.int qq7), .val (.int a_1)] [(.int a_1), (.ref b24), (.ref b24)])) _
        refine XS.iload X24.here hx rfl (hb hby d8_84) rfl ?_
        show Steps p.tables e below (T24.setTop (mkF m 86 #[.val (.ref x), .val (.int a_1), .val (.int (6 : Int32)), .val (.int qq7), .val (.int a_1)] [(.int a_1), (.int a_1), (.ref b24), (.ref b24)])) _
        refine XS.iloadN X24.here hx rfl (hb hby d8_86) rfl ?_
        show Steps p.tables e below (T24.setTop (mkF m 87 #[.val (.ref x), .val (.int a_1), .val (.int (6 : Int32)), .val (.int qq7), .val (.int a_1)] [(.int qq7), (.int a_1), (.int a_1), (.ref b24), (.ref b24)])) _
        refine XS.iloadN X24.here hx rfl (hb hby d8_87) rfl ?_
        show Steps p.tables e below (T24.setTop (mkF m 88 #[.val (.ref x), .val (.int a_1), .val (.int (6 : Int32)), .val (.int qq7), .val (.int a_1)] [(.int (6 : Int32)), (.int qq7), (.int a_1), (.int a_1), (.ref b24), (.ref b24)])) _
        refine st26.trans ?_
        show Steps p.tables e below (T26.setTop (mkF m 91 #[.val (.ref x), .val (.int a_1), .val (.int (6 : Int32)), .val (.int qq7), .val (.int a_1)] [(.ref b24)])) _
        jvm_step X26.here [X26.here.top, hx, (hb hby d8_91), X26.method', Bd.returns, Value.isRef, FieldType.isReference]
        first | (intro acts; rw [hr _ acts rfl rfl rfl]) | rw [hr _ _ rfl rfl rfl]
        exact Steps.refl _
      · show Q_rm8 Z x tb kb bs z0 ss ks Ts h0 n0 _ T26.heap _ T26.vm
        exact ⟨b24, a_1, a_1, rfl, N26, K26, t26_0, t26_1, t26_2, ⟨⟨fun q => absurd q own_ir, fun q => absurd hc51_21 q⟩, t1_0⟩⟩
    · have eaa_1 := own_inc2 t1_0.1 (by omega)
      have f33 : Arv Z h12 ss ks .char (3 : Int32) [(.int (47 : Int32)), (.int (63 : Int32)), (.int (35 : Int32))] (.int (0 : Int32)) := (V_ss.ext E12)
      obtain ⟨cq32, kq32, q32a, q32b, q32c⟩ := isOf hZ12 e20 f15
      obtain ⟨_, _, ⟨T32, L32, k32, n32⟩, -, X32, ⟨Lc32, hQ32, l32, y32, z32⟩, st32⟩ := X20.virtualBack hx (y := (⟨nm1, "indexOf", "(II)I"⟩ : MethodName)) (z := (⟨nm1, "indexOf", "(II)I"⟩ : MethodName)) hown12 (mvT hZ12 (own_w hw 83 rfl)) (mvT hZ12 (own_w hw 47 rfl)) (notFace_of_selects (args := #[]) (mvT hZ12 (own_w hw 49 rfl))) (mvT hZ12 (own_w hw 49 rfl)) (mvT hZ12 (own_w hw 48 rfl)) (by decide) (backOf (W := 0) (rm11 l Z a0 hw [] x (47 : Int32) (a_1 + (2 : Int32)) tb kb bs z0 h12 n0 (Nat.le_trans Z0 K13.1) f15 f16 f17 f18 f19 hz (by decide) (by decide) (by omega) (by omega)) hZ12 (own_w hw 50 rfl) (own_w hw 7 rfl) (by decide) (by decide)) q32a q32c (g := (mkF m 60 #[.val (.ref x), .val (.int a_1), .val (.int (6 : Int32)), .val (.int qq7), .val (.int a_1)] [(.int (a_1 + (2 : Int32))), (.int (47 : Int32)), (.ref x)])) rfl (by rw [hml]; rfl) (Steps.refl _) (argsL := [(.int (47 : Int32)), (.int (a_1 + (2 : Int32)))]) (rest := []) (lenOf pd__28II_29I rfl) rfl (by show 2 * 0 + _ ≤ _; exact Nat.le_of_eq rfl) (hb hby d8_60) (fun _ _ => ⟨rfl, e20, (by decide : 2 + 0 ≤ _), (by decide : 12 + 0 ≤ _)⟩)
      dsimp only [Pt.U, Pt.locs, Pt.cells, Pt.slots] at y32 z32 st32 hQ32
      change Stand p l e _ _ m _ below meth c T32 L32 k32 n32 at X32
      change L32 = _ ++ Lc32 at l32
      subst y32 z32
      obtain ⟨r_32, rfl, N32q, e32, t32_0⟩ := hQ32
      have N32 : Fr n0 L32 := l32 ▸ Fr.app N20 N32q
      have pre35 : ∀ t, Steps p.tables e below (T32.setTop (mkF m 65 #[.val (.ref x), .val (.int a_1), .val (.int (6 : Int32)), .val (.int qq7), .val (.int r_32)] [])) t → Steps p.tables e below (s₁.setTop (entryFrame m #[(.ref x)] 5)) t := fun t kt => by
        refine pre22 t ?_
        show Steps p.tables e below (T20.setTop (mkF m 51 #[.val (.ref x), .val (.int a_1), .val (.int (6 : Int32)), .val (.int qq7), .val (.int a_1)] [(.int (own_sw bs a_1))])) _
        refine XS.ifNo X20.here hx rfl (hb hby d8_51) rfl ((if0 _ _).trans (feq hc51_21).1) ?_
        show Steps p.tables e below (T20.setTop (mkF m 54 #[.val (.ref x), .val (.int a_1), .val (.int (6 : Int32)), .val (.int qq7), .val (.int a_1)] [])) _
        refine XS.aloadN X20.here hx rfl (hb hby d8_54) rfl rfl ?_
        show Steps p.tables e below (T20.setTop (mkF m 55 #[.val (.ref x), .val (.int a_1), .val (.int (6 : Int32)), .val (.int qq7), .val (.int a_1)] [(.ref x)])) _
        refine XS.bipush X20.here hx rfl (hb hby d8_55) ?_
        show Steps p.tables e below (T20.setTop (mkF m 57 #[.val (.ref x), .val (.int a_1), .val (.int (6 : Int32)), .val (.int qq7), .val (.int a_1)] [(.int (47 : Int32)), (.ref x)])) _
        refine XS.iloadN X20.here hx rfl (hb hby d8_57) rfl ?_
        show Steps p.tables e below (T20.setTop (mkF m 58 #[.val (.ref x), .val (.int a_1), .val (.int (6 : Int32)), .val (.int qq7), .val (.int a_1)] [(.int a_1), (.int (47 : Int32)), (.ref x)])) _
        refine XS.iconst X20.here hx rfl (hb hby d8_58) ?_
        show Steps p.tables e below (T20.setTop (mkF m 59 #[.val (.ref x), .val (.int a_1), .val (.int (6 : Int32)), .val (.int qq7), .val (.int a_1)] [(.int (2 : Int32)), (.int a_1), (.int (47 : Int32)), (.ref x)])) _
        refine XS.iadd X20.here hx rfl (hb hby d8_59) rfl ?_
        show Steps p.tables e below (T20.setTop (mkF m 60 #[.val (.ref x), .val (.int a_1), .val (.int (6 : Int32)), .val (.int qq7), .val (.int a_1)] [(.int (a_1 + (2 : Int32))), (.int (47 : Int32)), (.ref x)])) _
        refine st32.trans ?_
        show Steps p.tables e below (T32.setTop (mkF m 63 #[.val (.ref x), .val (.int a_1), .val (.int (6 : Int32)), .val (.int qq7), .val (.int a_1)] [(.int r_32)])) _
        refine XS.istore X32.here hx rfl (hb hby d8_63) rfl (l' := #[.val (.ref x), .val (.int a_1), .val (.int (6 : Int32)), .val (.int qq7), .val (.int r_32)]) rfl ?_
        exact kt
      obtain ⟨pp34, h_pp34, pre38⟩ : ∃ z : Int32, z = (if r_32 < (0 : Int32) then qq7 else (if qq7 < r_32 then qq7 else r_32)) ∧ ∀ t, Steps p.tables e below (T32.setTop (mkF m 79 #[.val (.ref x), .val (.int a_1), .val (.int (6 : Int32)), .val (.int qq7), .val (.int z)] [])) t → Steps p.tables e below (s₁.setTop (entryFrame m #[(.ref x)] 5)) t := by
        by_cases hj67_36 : r_32 < (0 : Int32)
        · exact ⟨_, by rw [if_pos hj67_36], fun t kt => by
            refine pre35 t ?_
            show Steps p.tables e below (T32.setTop (mkF m 65 #[.val (.ref x), .val (.int a_1), .val (.int (6 : Int32)), .val (.int qq7), .val (.int r_32)] [])) _
            refine XS.iload X32.here hx rfl (hb hby d8_65) rfl ?_
            show Steps p.tables e below (T32.setTop (mkF m 67 #[.val (.ref x), .val (.int a_1), .val (.int (6 : Int32)), .val (.int qq7), .val (.int r_32)] [(.int r_32)])) _
            refine XS.ifYes X32.here hx rfl (pc0 := 67) (pc' := 76) rfl (hb hby d8_67) rfl ((if0 _ _).trans (tlt hj67_36).1) (by decide) (by decide) ?_
            show Steps p.tables e below (T32.setTop (mkF m 76 #[.val (.ref x), .val (.int a_1), .val (.int (6 : Int32)), .val (.int qq7), .val (.int r_32)] [])) _
            refine XS.iloadN X32.here hx rfl (hb hby d8_76) rfl ?_
            show Steps p.tables e below (T32.setTop (mkF m 77 #[.val (.ref x), .val (.int a_1), .val (.int (6 : Int32)), .val (.int qq7), .val (.int r_32)] [(.int qq7)])) _
            refine XS.istore X32.here hx rfl (hb hby d8_77) rfl (l' := #[.val (.ref x), .val (.int a_1), .val (.int (6 : Int32)), .val (.int qq7), .val (.int qq7)]) rfl ?_
            exact kt⟩
        · by_cases hj73_37 : qq7 < r_32
          · exact ⟨_, by rw [if_neg hj67_36, if_pos hj73_37], fun t kt => by
              refine pre35 t ?_
              show Steps p.tables e below (T32.setTop (mkF m 65 #[.val (.ref x), .val (.int a_1), .val (.int (6 : Int32)), .val (.int qq7), .val (.int r_32)] [])) _
              refine XS.iload X32.here hx rfl (hb hby d8_65) rfl ?_
              show Steps p.tables e below (T32.setTop (mkF m 67 #[.val (.ref x), .val (.int a_1), .val (.int (6 : Int32)), .val (.int qq7), .val (.int r_32)] [(.int r_32)])) _
              refine XS.ifNo X32.here hx rfl (hb hby d8_67) rfl ((if0 _ _).trans (flt hj67_36).1) ?_
              show Steps p.tables e below (T32.setTop (mkF m 70 #[.val (.ref x), .val (.int a_1), .val (.int (6 : Int32)), .val (.int qq7), .val (.int r_32)] [])) _
              refine XS.iload X32.here hx rfl (hb hby d8_70) rfl ?_
              show Steps p.tables e below (T32.setTop (mkF m 72 #[.val (.ref x), .val (.int a_1), .val (.int (6 : Int32)), .val (.int qq7), .val (.int r_32)] [(.int r_32)])) _
              refine XS.iloadN X32.here hx rfl (hb hby d8_72) rfl ?_
              show Steps p.tables e below (T32.setTop (mkF m 73 #[.val (.ref x), .val (.int a_1), .val (.int (6 : Int32)), .val (.int qq7), .val (.int r_32)] [(.int qq7), (.int r_32)])) _
              refine XS.icmpNo X32.here hx rfl (hb hby d8_73) rfl (tlt hj73_37).2.2.2 ?_
              show Steps p.tables e below (T32.setTop (mkF m 76 #[.val (.ref x), .val (.int a_1), .val (.int (6 : Int32)), .val (.int qq7), .val (.int r_32)] [])) _
              refine XS.iloadN X32.here hx rfl (hb hby d8_76) rfl ?_
              show Steps p.tables e below (T32.setTop (mkF m 77 #[.val (.ref x), .val (.int a_1), .val (.int (6 : Int32)), .val (.int qq7), .val (.int r_32)] [(.int qq7)])) _
              refine XS.istore X32.here hx rfl (hb hby d8_77) rfl (l' := #[.val (.ref x), .val (.int a_1), .val (.int (6 : Int32)), .val (.int qq7), .val (.int qq7)]) rfl ?_
              exact kt⟩
          · exact ⟨_, by rw [if_neg hj67_36, if_neg hj73_37], fun t kt => by
              refine pre35 t ?_
              show Steps p.tables e below (T32.setTop (mkF m 65 #[.val (.ref x), .val (.int a_1), .val (.int (6 : Int32)), .val (.int qq7), .val (.int r_32)] [])) _
              refine XS.iload X32.here hx rfl (hb hby d8_65) rfl ?_
              show Steps p.tables e below (T32.setTop (mkF m 67 #[.val (.ref x), .val (.int a_1), .val (.int (6 : Int32)), .val (.int qq7), .val (.int r_32)] [(.int r_32)])) _
              refine XS.ifNo X32.here hx rfl (hb hby d8_67) rfl ((if0 _ _).trans (flt hj67_36).1) ?_
              show Steps p.tables e below (T32.setTop (mkF m 70 #[.val (.ref x), .val (.int a_1), .val (.int (6 : Int32)), .val (.int qq7), .val (.int r_32)] [])) _
              refine XS.iload X32.here hx rfl (hb hby d8_70) rfl ?_
              show Steps p.tables e below (T32.setTop (mkF m 72 #[.val (.ref x), .val (.int a_1), .val (.int (6 : Int32)), .val (.int qq7), .val (.int r_32)] [(.int r_32)])) _
              refine XS.iloadN X32.here hx rfl (hb hby d8_72) rfl ?_
              show Steps p.tables e below (T32.setTop (mkF m 73 #[.val (.ref x), .val (.int a_1), .val (.int (6 : Int32)), .val (.int qq7), .val (.int r_32)] [(.int qq7), (.int r_32)])) _
              refine XS.icmpYes X32.here hx rfl (pc0 := 73) (pc' := 79) rfl (hb hby d8_73) rfl (flt hj73_37).2.2.2 (by decide) (by decide) ?_
              exact kt⟩
      obtain ⟨T39, h39, X39, e39, E39, A39, D39, -, st39⟩ := newO X32 hx hZ12 hown12 (own_w hw 96 rfl) (own_w hw 97 rfl) (own_w hw 98 rfl) e32 (g := (mkF m 79 #[.val (.ref x), .val (.int a_1), .val (.int (6 : Int32)), .val (.int qq7), .val (.int pp34)] [])) rfl (hb hby d8_79) (by decide) (by decide)
      obtain ⟨b39, g39⟩ : ∃ z, z = h12.size := ⟨_, rfl⟩
      rw [← g39] at A39 D39 st39
      have ne_a12_b39 : a12 ≠ b39 := Nat.ne_of_lt (Nat.lt_of_lt_of_le Ea12.lt (Nat.le_of_eq g39.symm))
      have ne_b12_b39 : b12 ≠ b39 := Nat.ne_of_lt (Nat.lt_of_lt_of_le Vb12.lt (Nat.le_of_eq g39.symm))
      have ne_ss_b39 : ss ≠ b39 := Nat.ne_of_lt (Nat.lt_of_lt_of_le f33.lt (Nat.le_of_eq g39.symm))
      have ne_tb_b39 : tb ≠ b39 := Nat.ne_of_lt (Nat.lt_of_lt_of_le f18.lt (Nat.le_of_eq g39.symm))
      have ne_x_b39 : x ≠ b39 := Nat.ne_of_lt (Nat.lt_of_lt_of_le f15.lt (Nat.le_of_eq g39.symm))
      have g_b39 : n0 ≤ b39 := Nat.le_trans (Nat.le_trans Z0 K13.1) (Nat.le_of_eq g39.symm)
      have sz_b39 : h0.size ≤ b39 := Nat.le_trans K13.1 (Nat.le_of_eq g39.symm)
      have K40 : Keep h0 h39 [] := K13.ext E39
      have F_afterScheme_b39 : Fld Z h39 b39 nm0 "afterScheme" "I" (.int (0 : Int32)) := D39 (Or.inr (own_w hw 109 rfl)) (ty := .int) (by decide)
      have F_pathStart_b39 : Fld Z h39 b39 nm0 "pathStart" "I" (.int (0 : Int32)) := D39 (Or.inr (own_w hw 111 rfl)) (ty := .int) (by decide)
      have F_pathEnd_b39 : Fld Z h39 b39 nm0 "pathEnd" "I" (.int (0 : Int32)) := D39 (Or.inr (own_w hw 113 rfl)) (ty := .int) (by decide)
      have F_fragmentStart_b39 : Fld Z h39 b39 nm0 "fragmentStart" "I" (.int (0 : Int32)) := D39 (Or.inr (own_w hw 115 rfl)) (ty := .int) (by decide)
      have f42 : Exa Z h39 a12 nm1 := (Ea12.ext E39)
      have f43 : Arv Z h39 b12 kb12 .byte (2 : Int32) [(.int (47 : Int32)), (.int (47 : Int32))] (.int (0 : Int32)) := (Vb12.ext E39)
      have f44 : Arv Z h39 ss ks .char (3 : Int32) [(.int (47 : Int32)), (.int (63 : Int32)), (.int (35 : Int32))] (.int (0 : Int32)) := (f33.ext E39)
      have f45 : Arv Z h39 tb kb .byte (6 : Int32) (bs.map Value.int) (.int (0 : Int32)) := (f18.ext E39)
      have f46 : Exa Z h39 x nm1 := (f15.ext E39)
      obtain ⟨_, _, ⟨T41, L41, k41, n41⟩, -, X41, ⟨Lc41, hQ41, l41, y41, z41⟩, st41⟩ := X39.specialBack hx (y := (⟨nm0, "<init>", "(IIII)V"⟩ : MethodName)) rfl hown12 (mvT hZ12 (own_w hw 99 rfl)) (mvT hZ12 (own_w hw 100 rfl)) (mvT hZ12 (own_w hw 101 rfl)) (by decide) (backOf (W := 1) (rm22 l Z a0 hw [] b39 a_1 pp34 qq7 (6 : Int32) (.int (0 : Int32)) (.int (0 : Int32)) (.int (0 : Int32)) (.int (0 : Int32)) h39 n0 (Nat.le_trans Z0 K40.1) A39 F_afterScheme_b39 F_pathStart_b39 F_pathEnd_b39 F_fragmentStart_b39 g_b39) hZ12 (own_w hw 101 rfl) (own_w hw 98 rfl) (by decide) (by decide)) (g := (mkF m 88 #[.val (.ref x), .val (.int a_1), .val (.int (6 : Int32)), .val (.int qq7), .val (.int pp34)] [(.int (6 : Int32)), (.int qq7), (.int pp34), (.int a_1), (.ref b39), (.ref b39)])) rfl (by rw [hml]; rfl) (Steps.refl _) (a := b39) (argsL := [(.int a_1), (.int pp34), (.int qq7), (.int (6 : Int32))]) (rest := [(.ref b39)]) (lenOf pd__28IIII_29V rfl) rfl (by show 2 * 0 + _ ≤ _; exact Nat.le_of_eq rfl) (hb hby d8_88) (fun _ _ => ⟨rfl, e39, (by decide : 3 + 0 ≤ _), (by decide : 16 + 0 ≤ _)⟩)
      dsimp only [Pt.U, Pt.locs, Pt.cells, Pt.slots] at y41 z41 st41 hQ41
      change Stand p l e _ _ m _ below meth c T41 L41 k41 n41 at X41
      change L41 = _ ++ Lc41 at l41
      subst y41 z41
      obtain ⟨rfl, N41q, K41q, t41_0, t41_1, t41_2⟩ := hQ41
      have N41 : Fr n0 L41 := l41 ▸ Fr.app N32 N41q
      have K41 : Keep h0 T41.heap [] := K40.trans K41q (allS (P := fun xz => xz ∈ [] ∨ h0.size ≤ xz) (Or.inr sz_b39) all0)
      have hhpp34 : a_1.toInt + 2 ≤ (6 : Int32).toInt := (by have w := (own_swf t1_0.1 hc51_21); have e6 := own_i6; omega)
      have hqpp34 := own_q hhpp34 (fun k => own_far t1_0.1 (own_swf t1_0.1 hc51_21).2.1 (own_swf t1_0.1 hc51_21).2.2 (by decide) k t6_0) h_qq7
      have hppp34 : a_1.toInt + 2 ≤ pp34.toInt := own_q hqpp34 (fun k => by rcases t32_0 with z | z; exact absurd z k; omega) h_pp34
      obtain ⟨fs, hr, hrun, hended, hRW⟩ := X41.leaveW hS12 (Nat.le_trans (Nat.le_trans hk12 E39.1) K41q.1) (v := some (.ref b39)) (fun h => by rw [Bd.returns] at h; cases h)
      refine ⟨_, _, pre38 _ ?_, hrun, hended, _, _, rfl, ?_, hRW.1, hRW.2.1, hRW.2.2.1, hRW.2.2.2.mono (by decide) (by decide)⟩
      · show Steps p.tables e below (T32.setTop (mkF m 79 #[.val (.ref x), .val (.int a_1), .val (.int (6 : Int32)), .val (.int qq7), .val (.int pp34)] [])) _
        refine st39 _ ?_
        show Steps p.tables e below (T39.setTop (mkF m 82 #[.val (.ref x), .val (.int a_1), .val (.int (6 : Int32)), .val (.int qq7), .val (.int pp34)] [(.ref b39)])) _
        refine XS.dup X39.here hx rfl (hb hby d8_82) rfl rfl ?_
        show Steps p.tables e below (T39.setTop (mkF m 83 #[.val (.ref x), .val (.int a_1), .val (.int (6 : Int32)), .val (.int qq7), .val (.int pp34)] [(.ref b39), (.ref b39)])) _
        refine XS.iloadN X39.here hx rfl (hb hby d8_83) rfl ?_
        show Steps p.tables e below (T39.setTop (mkF m 84 #[.val (.ref x), .val (.int a_1), .val (.int (6 : Int32)), .val (.int qq7), .val (.int pp34)] [(.int a_1), (.ref b39), (.ref b39)])) _
        refine XS.iload X39.here hx rfl (hb hby d8_84) rfl ?_
        show Steps p.tables e below (T39.setTop (mkF m 86 #[.val (.ref x), .val (.int a_1), .val (.int (6 : Int32)), .val (.int qq7), .val (.int pp34)] [(.int pp34), (.int a_1), (.ref b39), (.ref b39)])) _
        refine XS.iloadN X39.here hx rfl (hb hby d8_86) rfl ?_
        show Steps p.tables e below (T39.setTop (mkF m 87 #[.val (.ref x), .val (.int a_1), .val (.int (6 : Int32)), .val (.int qq7), .val (.int pp34)] [(.int qq7), (.int pp34), (.int a_1), (.ref b39), (.ref b39)])) _
        refine XS.iloadN X39.here hx rfl (hb hby d8_87) rfl ?_
        show Steps p.tables e below (T39.setTop (mkF m 88 #[.val (.ref x), .val (.int a_1), .val (.int (6 : Int32)), .val (.int qq7), .val (.int pp34)] [(.int (6 : Int32)), (.int qq7), (.int pp34), (.int a_1), (.ref b39), (.ref b39)])) _
        refine st41.trans ?_
        show Steps p.tables e below (T41.setTop (mkF m 91 #[.val (.ref x), .val (.int a_1), .val (.int (6 : Int32)), .val (.int qq7), .val (.int pp34)] [(.ref b39)])) _
        jvm_step X41.here [X41.here.top, hx, (hb hby d8_91), X41.method', Bd.returns, Value.isRef, FieldType.isReference]
        first | (intro acts; rw [hr _ acts rfl rfl rfl]) | rw [hr _ _ rfl rfl rfl]
        exact Steps.refl _
      · show Q_rm8 Z x tb kb bs z0 ss ks Ts h0 n0 _ T41.heap _ T41.vm
        exact ⟨b39, a_1, pp34, rfl, N41, K41, t41_0, t41_1, t41_2, ⟨⟨fun _ => hc51_21, fun _ => own_pl hppp34⟩, t1_0⟩⟩
  · obtain ⟨cq47, kq47, q47a, q47b, q47c⟩ := isOf hZ0 e2 E_x
    obtain ⟨_, _, ⟨T47, L47, k47, n47⟩, -, X47, ⟨Lc47, hQ47, l47, y47, z47⟩, st47⟩ := X2.virtualBack hx (y := (⟨nm1, "indexOf", "(II)I"⟩ : MethodName)) (z := (⟨nm1, "indexOf", "(II)I"⟩ : MethodName)) hown0 (mvT hZ0 (own_w hw 83 rfl)) (mvT hZ0 (own_w hw 47 rfl)) (notFace_of_selects (args := #[]) (mvT hZ0 (own_w hw 49 rfl))) (mvT hZ0 (own_w hw 49 rfl)) (mvT hZ0 (own_w hw 48 rfl)) (by decide) (backOf (W := 0) (rm11 l Z a0 hw [] x (63 : Int32) a_1 tb kb bs z0 h0 n0 Z0 E_x F_value_x F_coder_x V_tb S_COMPACT_STRINGS hz (by decide) (by decide) t1_0.1 (by omega)) hZ0 (own_w hw 50 rfl) (own_w hw 7 rfl) (by decide) (by decide)) q47a q47c (g := (mkF m 26 #[.val (.ref x), .val (.int a_1), .val (.int r_2), .unset, .unset] [(.int a_1), (.int (63 : Int32)), (.ref x)])) rfl (by rw [hml]; rfl) (Steps.refl _) (argsL := [(.int (63 : Int32)), (.int a_1)]) (rest := []) (lenOf pd__28II_29I rfl) rfl (by show 2 * 0 + _ ≤ _; exact Nat.le_of_eq rfl) (hb hby d8_26) (fun _ _ => ⟨rfl, e2, (by decide : 0 + 0 ≤ _), (by decide : 0 + 0 ≤ _)⟩)
    dsimp only [Pt.U, Pt.locs, Pt.cells, Pt.slots] at y47 z47 st47 hQ47
    change Stand p l e _ _ m _ below meth c T47 L47 k47 n47 at X47
    change L47 = _ ++ Lc47 at l47
    subst y47 z47
    obtain ⟨r_47, rfl, N47q, e47, t47_0⟩ := hQ47
    have N47 : Fr n0 L47 := l47 ▸ Fr.app N2 N47q
    have pre49 : ∀ t, Steps p.tables e below (T47.setTop (mkF m 30 #[.val (.ref x), .val (.int a_1), .val (.int r_2), .val (.int r_47), .unset] [])) t → Steps p.tables e below (s₁.setTop (entryFrame m #[(.ref x)] 5)) t := fun t kt => by
      refine pre4 t ?_
      show Steps p.tables e below (T2.setTop (mkF m 14 #[.val (.ref x), .val (.int a_1), .val (.int r_2), .unset, .unset] [(.int r_2)])) _
      refine XS.ifYes X2.here hx rfl (pc0 := 14) (pc' := 22) rfl (hb hby d8_14) rfl ((if0 _ _).trans (flt hc14_3).2.1) (by decide) (by decide) ?_
      show Steps p.tables e below (T2.setTop (mkF m 22 #[.val (.ref x), .val (.int a_1), .val (.int r_2), .unset, .unset] [])) _
      refine XS.aloadN X2.here hx rfl (hb hby d8_22) rfl rfl ?_
      show Steps p.tables e below (T2.setTop (mkF m 23 #[.val (.ref x), .val (.int a_1), .val (.int r_2), .unset, .unset] [(.ref x)])) _
      refine XS.bipush X2.here hx rfl (hb hby d8_23) ?_
      show Steps p.tables e below (T2.setTop (mkF m 25 #[.val (.ref x), .val (.int a_1), .val (.int r_2), .unset, .unset] [(.int (63 : Int32)), (.ref x)])) _
      refine XS.iloadN X2.here hx rfl (hb hby d8_25) rfl ?_
      show Steps p.tables e below (T2.setTop (mkF m 26 #[.val (.ref x), .val (.int a_1), .val (.int r_2), .unset, .unset] [(.int a_1), (.int (63 : Int32)), (.ref x)])) _
      refine st47.trans ?_
      show Steps p.tables e below (T47.setTop (mkF m 29 #[.val (.ref x), .val (.int a_1), .val (.int r_2), .unset, .unset] [(.int r_47)])) _
      refine XS.istoreN X47.here hx rfl (hb hby d8_29) rfl (l' := #[.val (.ref x), .val (.int a_1), .val (.int r_2), .val (.int r_47), .unset]) rfl ?_
      exact kt
    obtain ⟨qq48, h_qq48, pre52⟩ : ∃ z : Int32, z = (if r_47 < (0 : Int32) then r_2 else (if r_2 < r_47 then r_2 else r_47)) ∧ ∀ t, Steps p.tables e below (T47.setTop (mkF m 41 #[.val (.ref x), .val (.int a_1), .val (.int r_2), .val (.int z), .unset] [])) t → Steps p.tables e below (s₁.setTop (entryFrame m #[(.ref x)] 5)) t := by
      by_cases hj31_50 : r_47 < (0 : Int32)
      · exact ⟨_, by rw [if_pos hj31_50], fun t kt => by
          refine pre49 t ?_
          show Steps p.tables e below (T47.setTop (mkF m 30 #[.val (.ref x), .val (.int a_1), .val (.int r_2), .val (.int r_47), .unset] [])) _
          refine XS.iloadN X47.here hx rfl (hb hby d8_30) rfl ?_
          show Steps p.tables e below (T47.setTop (mkF m 31 #[.val (.ref x), .val (.int a_1), .val (.int r_2), .val (.int r_47), .unset] [(.int r_47)])) _
          refine XS.ifYes X47.here hx rfl (pc0 := 31) (pc' := 39) rfl (hb hby d8_31) rfl ((if0 _ _).trans (tlt hj31_50).1) (by decide) (by decide) ?_
          show Steps p.tables e below (T47.setTop (mkF m 39 #[.val (.ref x), .val (.int a_1), .val (.int r_2), .val (.int r_47), .unset] [])) _
          refine XS.iloadN X47.here hx rfl (hb hby d8_39) rfl ?_
          show Steps p.tables e below (T47.setTop (mkF m 40 #[.val (.ref x), .val (.int a_1), .val (.int r_2), .val (.int r_47), .unset] [(.int r_2)])) _
          refine XS.istoreN X47.here hx rfl (hb hby d8_40) rfl (l' := #[.val (.ref x), .val (.int a_1), .val (.int r_2), .val (.int r_2), .unset]) rfl ?_
          exact kt⟩
      · by_cases hj36_51 : r_2 < r_47
        · exact ⟨_, by rw [if_neg hj31_50, if_pos hj36_51], fun t kt => by
            refine pre49 t ?_
            show Steps p.tables e below (T47.setTop (mkF m 30 #[.val (.ref x), .val (.int a_1), .val (.int r_2), .val (.int r_47), .unset] [])) _
            refine XS.iloadN X47.here hx rfl (hb hby d8_30) rfl ?_
            show Steps p.tables e below (T47.setTop (mkF m 31 #[.val (.ref x), .val (.int a_1), .val (.int r_2), .val (.int r_47), .unset] [(.int r_47)])) _
            refine XS.ifNo X47.here hx rfl (hb hby d8_31) rfl ((if0 _ _).trans (flt hj31_50).1) ?_
            show Steps p.tables e below (T47.setTop (mkF m 34 #[.val (.ref x), .val (.int a_1), .val (.int r_2), .val (.int r_47), .unset] [])) _
            refine XS.iloadN X47.here hx rfl (hb hby d8_34) rfl ?_
            show Steps p.tables e below (T47.setTop (mkF m 35 #[.val (.ref x), .val (.int a_1), .val (.int r_2), .val (.int r_47), .unset] [(.int r_47)])) _
            refine XS.iloadN X47.here hx rfl (hb hby d8_35) rfl ?_
            show Steps p.tables e below (T47.setTop (mkF m 36 #[.val (.ref x), .val (.int a_1), .val (.int r_2), .val (.int r_47), .unset] [(.int r_2), (.int r_47)])) _
            refine XS.icmpNo X47.here hx rfl (hb hby d8_36) rfl (tlt hj36_51).2.2.2 ?_
            show Steps p.tables e below (T47.setTop (mkF m 39 #[.val (.ref x), .val (.int a_1), .val (.int r_2), .val (.int r_47), .unset] [])) _
            refine XS.iloadN X47.here hx rfl (hb hby d8_39) rfl ?_
            show Steps p.tables e below (T47.setTop (mkF m 40 #[.val (.ref x), .val (.int a_1), .val (.int r_2), .val (.int r_47), .unset] [(.int r_2)])) _
            refine XS.istoreN X47.here hx rfl (hb hby d8_40) rfl (l' := #[.val (.ref x), .val (.int a_1), .val (.int r_2), .val (.int r_2), .unset]) rfl ?_
            exact kt⟩
        · exact ⟨_, by rw [if_neg hj31_50, if_neg hj36_51], fun t kt => by
            refine pre49 t ?_
            show Steps p.tables e below (T47.setTop (mkF m 30 #[.val (.ref x), .val (.int a_1), .val (.int r_2), .val (.int r_47), .unset] [])) _
            refine XS.iloadN X47.here hx rfl (hb hby d8_30) rfl ?_
            show Steps p.tables e below (T47.setTop (mkF m 31 #[.val (.ref x), .val (.int a_1), .val (.int r_2), .val (.int r_47), .unset] [(.int r_47)])) _
            refine XS.ifNo X47.here hx rfl (hb hby d8_31) rfl ((if0 _ _).trans (flt hj31_50).1) ?_
            show Steps p.tables e below (T47.setTop (mkF m 34 #[.val (.ref x), .val (.int a_1), .val (.int r_2), .val (.int r_47), .unset] [])) _
            refine XS.iloadN X47.here hx rfl (hb hby d8_34) rfl ?_
            show Steps p.tables e below (T47.setTop (mkF m 35 #[.val (.ref x), .val (.int a_1), .val (.int r_2), .val (.int r_47), .unset] [(.int r_47)])) _
            refine XS.iloadN X47.here hx rfl (hb hby d8_35) rfl ?_
            show Steps p.tables e below (T47.setTop (mkF m 36 #[.val (.ref x), .val (.int a_1), .val (.int r_2), .val (.int r_47), .unset] [(.int r_2), (.int r_47)])) _
            refine XS.icmpYes X47.here hx rfl (pc0 := 36) (pc' := 41) rfl (hb hby d8_36) rfl (flt hj36_51).2.2.2 (by decide) (by decide) ?_
            exact kt⟩
    obtain ⟨a53, T53, h53, k53, b53, kb53, X53, e53, E53, hS53, hk53, hZ53, hown53, Ea53, Fc53, Fv53, Vb53, la53, lb53, I53, Li53, st53⟩ := ldcSVL (s := s) X47 hx hZ0 hown0 (own_w hw 84 rfl) (own_wS hw) e47 hS0 hk0 (hfu N47) hkz I0 hnt hch hcw (vs := [(.int (47 : Int32)), (.int (47 : Int32))]) (z := (2 : Int32)) ⟨by decide, rfl⟩ (by decide) (by decide) (g := (mkF m 45 #[.val (.ref x), .val (.int a_1), .val (.int r_2), .val (.int qq48), .val (.int a_1)] [(.ref x)])) rfl (hb hby d8_45) (n := 8) (by decide) (by decide) (by decide) (by decide)
    have K54 : Keep h0 h53 [] := (Keep.refl h0 []).ext E53
    have f56 : Exa Z h53 x nm1 := (E_x.ext E53)
    have na55 : x ≠ b53 := Exa.neArv f56 Vb53 (own_w hw 6 rfl)
    have f57 : Fld Z h53 x nm1 "value" "[B" (.ref tb) := (F_value_x.ext E53)
    have f58 : Fld Z h53 x nm1 "coder" "B" (.int (0 : Int32)) := (F_coder_x.ext E53)
    have f59 : Arv Z h53 tb kb .byte (6 : Int32) (bs.map Value.int) (.int (0 : Int32)) := (V_tb.ext E53)
    have f60 : Sta Z h53 nm1 "COMPACT_STRINGS" "Z" (.int z0) := (S_COMPACT_STRINGS.ext E53)
    obtain ⟨cq61, kq61, q61a, q61b, q61c⟩ := isOf hZ53 e53 f56
    obtain ⟨_, _, ⟨T61, L61, k61, n61⟩, -, X61, ⟨Lc61, hQ61, l61, y61, z61⟩, st61⟩ := X53.virtualBack hx (y := (⟨nm1, "startsWith", "(Ljava/lang/String;I)Z"⟩ : MethodName)) (z := (⟨nm1, "startsWith", "(Ljava/lang/String;I)Z"⟩ : MethodName)) hown53 (mvT hZ53 (own_w hw 87 rfl)) (mvT hZ53 (own_w hw 88 rfl)) (notFace_of_selects (args := #[]) (mvT hZ53 (own_w hw 90 rfl))) (mvT hZ53 (own_w hw 90 rfl)) (mvT hZ53 (own_w hw 89 rfl)) (by decide) (backOf (W := 0) (rm20 l Z a0 hw [] x a53 a_1 tb kb bs z0 b53 kb53 h53 n0 (Nat.le_trans Z0 K54.1) f56 f57 f58 f59 Ea53 Fv53 Fc53 Vb53 f60 hz t1_0.1) hZ53 (own_w hw 91 rfl) (own_w hw 7 rfl) (by decide) (by decide)) q61a q61c (g := (mkF m 48 #[.val (.ref x), .val (.int a_1), .val (.int r_2), .val (.int qq48), .val (.int a_1)] [(.int a_1), (.ref a53), (.ref x)])) rfl (by rw [hml]; rfl) (Steps.refl _) (argsL := [(.ref a53), (.int a_1)]) (rest := []) (lenOf pd__28Ljava_2flang_2fString_3bI_29Z rfl) rfl (by show 2 * 0 + _ ≤ _; exact Nat.le_of_eq rfl) (hb hby d8_48) (fun _ _ => ⟨rfl, e53, (by decide : 2 + 0 ≤ _), (by decide : 12 + 0 ≤ _)⟩)
    dsimp only [Pt.U, Pt.locs, Pt.cells, Pt.slots] at y61 z61 st61 hQ61
    change Stand p l e _ _ m _ below meth c T61 L61 k61 n61 at X61
    change L61 = _ ++ Lc61 at l61
    subst y61 z61
    obtain ⟨rfl, N61q, e61⟩ := hQ61
    have N61 : Fr n0 L61 := l61 ▸ Fr.app N47 N61q
    have pre63 : ∀ t, Steps p.tables e below (T61.setTop (mkF m 51 #[.val (.ref x), .val (.int a_1), .val (.int r_2), .val (.int qq48), .val (.int a_1)] [(.int (own_sw bs a_1))])) t → Steps p.tables e below (s₁.setTop (entryFrame m #[(.ref x)] 5)) t := fun t kt => by
      refine pre52 t ?_
      show Steps p.tables e below (T47.setTop (mkF m 41 #[.val (.ref x), .val (.int a_1), .val (.int r_2), .val (.int qq48), .unset] [])) _
      refine XS.iloadN X47.here hx rfl (hb hby d8_41) rfl ?_
      show Steps p.tables e below (T47.setTop (mkF m 42 #[.val (.ref x), .val (.int a_1), .val (.int r_2), .val (.int qq48), .unset] [(.int a_1)])) _
      refine XS.istore X47.here hx rfl (hb hby d8_42) rfl (l' := #[.val (.ref x), .val (.int a_1), .val (.int r_2), .val (.int qq48), .val (.int a_1)]) rfl ?_
      show Steps p.tables e below (T47.setTop (mkF m 44 #[.val (.ref x), .val (.int a_1), .val (.int r_2), .val (.int qq48), .val (.int a_1)] [])) _
      refine XS.aloadN X47.here hx rfl (hb hby d8_44) rfl rfl ?_
      show Steps p.tables e below (T47.setTop (mkF m 45 #[.val (.ref x), .val (.int a_1), .val (.int r_2), .val (.int qq48), .val (.int a_1)] [(.ref x)])) _
      refine st53 _ ?_
      show Steps p.tables e below (T53.setTop (mkF m 47 #[.val (.ref x), .val (.int a_1), .val (.int r_2), .val (.int qq48), .val (.int a_1)] [(.ref a53), (.ref x)])) _
      refine XS.iloadN X53.here hx rfl (hb hby d8_47) rfl ?_
      show Steps p.tables e below (T53.setTop (mkF m 48 #[.val (.ref x), .val (.int a_1), .val (.int r_2), .val (.int qq48), .val (.int a_1)] [(.int a_1), (.ref a53), (.ref x)])) _
      refine st61.trans ?_
      exact kt
    by_cases hc51_62 : (own_sw bs a_1) = (0 : Int32)
    · have f64 : Arv Z h53 ss ks .char (3 : Int32) [(.int (47 : Int32)), (.int (63 : Int32)), (.int (35 : Int32))] (.int (0 : Int32)) := (V_ss.ext E53)
      obtain ⟨T65, h65, X65, e65, E65, A65, D65, -, st65⟩ := newO X61 hx hZ53 hown53 (own_w hw 96 rfl) (own_w hw 97 rfl) (own_w hw 98 rfl) e61 (g := (mkF m 79 #[.val (.ref x), .val (.int a_1), .val (.int r_2), .val (.int qq48), .val (.int a_1)] [])) rfl (hb hby d8_79) (by decide) (by decide)
      obtain ⟨b65, g65⟩ : ∃ z, z = h53.size := ⟨_, rfl⟩
      rw [← g65] at A65 D65 st65
      have ne_a53_b65 : a53 ≠ b65 := Nat.ne_of_lt (Nat.lt_of_lt_of_le Ea53.lt (Nat.le_of_eq g65.symm))
      have ne_b53_b65 : b53 ≠ b65 := Nat.ne_of_lt (Nat.lt_of_lt_of_le Vb53.lt (Nat.le_of_eq g65.symm))
      have ne_ss_b65 : ss ≠ b65 := Nat.ne_of_lt (Nat.lt_of_lt_of_le f64.lt (Nat.le_of_eq g65.symm))
      have ne_tb_b65 : tb ≠ b65 := Nat.ne_of_lt (Nat.lt_of_lt_of_le f59.lt (Nat.le_of_eq g65.symm))
      have ne_x_b65 : x ≠ b65 := Nat.ne_of_lt (Nat.lt_of_lt_of_le f56.lt (Nat.le_of_eq g65.symm))
      have g_b65 : n0 ≤ b65 := Nat.le_trans (Nat.le_trans Z0 K54.1) (Nat.le_of_eq g65.symm)
      have sz_b65 : h0.size ≤ b65 := Nat.le_trans K54.1 (Nat.le_of_eq g65.symm)
      have K66 : Keep h0 h65 [] := K54.ext E65
      have F_afterScheme_b65 : Fld Z h65 b65 nm0 "afterScheme" "I" (.int (0 : Int32)) := D65 (Or.inr (own_w hw 109 rfl)) (ty := .int) (by decide)
      have F_pathStart_b65 : Fld Z h65 b65 nm0 "pathStart" "I" (.int (0 : Int32)) := D65 (Or.inr (own_w hw 111 rfl)) (ty := .int) (by decide)
      have F_pathEnd_b65 : Fld Z h65 b65 nm0 "pathEnd" "I" (.int (0 : Int32)) := D65 (Or.inr (own_w hw 113 rfl)) (ty := .int) (by decide)
      have F_fragmentStart_b65 : Fld Z h65 b65 nm0 "fragmentStart" "I" (.int (0 : Int32)) := D65 (Or.inr (own_w hw 115 rfl)) (ty := .int) (by decide)
      have f68 : Exa Z h65 a53 nm1 := (Ea53.ext E65)
      have f69 : Arv Z h65 b53 kb53 .byte (2 : Int32) [(.int (47 : Int32)), (.int (47 : Int32))] (.int (0 : Int32)) := (Vb53.ext E65)
      have f70 : Arv Z h65 ss ks .char (3 : Int32) [(.int (47 : Int32)), (.int (63 : Int32)), (.int (35 : Int32))] (.int (0 : Int32)) := (f64.ext E65)
      have f71 : Arv Z h65 tb kb .byte (6 : Int32) (bs.map Value.int) (.int (0 : Int32)) := (f59.ext E65)
      have f72 : Exa Z h65 x nm1 := (f56.ext E65)
      obtain ⟨_, _, ⟨T67, L67, k67, n67⟩, -, X67, ⟨Lc67, hQ67, l67, y67, z67⟩, st67⟩ := X65.specialBack hx (y := (⟨nm0, "<init>", "(IIII)V"⟩ : MethodName)) rfl hown53 (mvT hZ53 (own_w hw 99 rfl)) (mvT hZ53 (own_w hw 100 rfl)) (mvT hZ53 (own_w hw 101 rfl)) (by decide) (backOf (W := 1) (rm22 l Z a0 hw [] b65 a_1 a_1 qq48 r_2 (.int (0 : Int32)) (.int (0 : Int32)) (.int (0 : Int32)) (.int (0 : Int32)) h65 n0 (Nat.le_trans Z0 K66.1) A65 F_afterScheme_b65 F_pathStart_b65 F_pathEnd_b65 F_fragmentStart_b65 g_b65) hZ53 (own_w hw 101 rfl) (own_w hw 98 rfl) (by decide) (by decide)) (g := (mkF m 88 #[.val (.ref x), .val (.int a_1), .val (.int r_2), .val (.int qq48), .val (.int a_1)] [(.int r_2), (.int qq48), (.int a_1), (.int a_1), (.ref b65), (.ref b65)])) rfl (by rw [hml]; rfl) (Steps.refl _) (a := b65) (argsL := [(.int a_1), (.int a_1), (.int qq48), (.int r_2)]) (rest := [(.ref b65)]) (lenOf pd__28IIII_29V rfl) rfl (by show 2 * 0 + _ ≤ _; exact Nat.le_of_eq rfl) (hb hby d8_88) (fun _ _ => ⟨rfl, e65, (by decide : 3 + 0 ≤ _), (by decide : 16 + 0 ≤ _)⟩)
      dsimp only [Pt.U, Pt.locs, Pt.cells, Pt.slots] at y67 z67 st67 hQ67
      change Stand p l e _ _ m _ below meth c T67 L67 k67 n67 at X67
      change L67 = _ ++ Lc67 at l67
      subst y67 z67
      obtain ⟨rfl, N67q, K67q, t67_0, t67_1, t67_2⟩ := hQ67
      have N67 : Fr n0 L67 := l67 ▸ Fr.app N61 N67q
      have K67 : Keep h0 T67.heap [] := K66.trans K67q (allS (P := fun xz => xz ∈ [] ∨ h0.size ≤ xz) (Or.inr sz_b65) all0)
      obtain ⟨fs, hr, hrun, hended, hRW⟩ := X67.leaveW hS53 (Nat.le_trans (Nat.le_trans hk53 E65.1) K67q.1) (v := some (.ref b65)) (fun h => by rw [Bd.returns] at h; cases h)
      refine ⟨_, _, pre63 _ ?_, hrun, hended, _, _, rfl, ?_, hRW.1, hRW.2.1, hRW.2.2.1, hRW.2.2.2.mono (by decide) (by decide)⟩
      · show Steps p.tables e below (T61.setTop (mkF m 51 #[.val (.ref x), .val (.int a_1), .val (.int r_2), .val (.int qq48), .val (.int a_1)] [(.int (own_sw bs a_1))])) _
        refine XS.ifYes X61.here hx rfl (pc0 := 51) (pc' := 79) rfl (hb hby d8_51) rfl ((if0 _ _).trans (teq hc51_62).1) (by decide) (by decide) ?_
        show Steps p.tables e below (T61.setTop (mkF m 79 #[.val (.ref x), .val (.int a_1), .val (.int r_2), .val (.int qq48), .val (.int a_1)] [])) _
        refine st65 _ ?_
        show Steps p.tables e below (T65.setTop (mkF m 82 #[.val (.ref x), .val (.int a_1), .val (.int r_2), .val (.int qq48), .val (.int a_1)] [(.ref b65)])) _
        refine XS.dup X65.here hx rfl (hb hby d8_82) rfl rfl ?_
        show Steps p.tables e below (T65.setTop (mkF m 83 #[.val (.ref x), .val (.int a_1), .val (.int r_2), .val (.int qq48), .val (.int a_1)] [(.ref b65), (.ref b65)])) _
        refine XS.iloadN X65.here hx rfl (hb hby d8_83) rfl ?_
        show Steps p.tables e below (T65.setTop (mkF m 84 #[.val (.ref x), .val (.int a_1), .val (.int r_2), .val (.int qq48), .val (.int a_1)] [(.int a_1), (.ref b65), (.ref b65)])) _
        refine XS.iload X65.here hx rfl (hb hby d8_84) rfl ?_
        show Steps p.tables e below (T65.setTop (mkF m 86 #[.val (.ref x), .val (.int a_1), .val (.int r_2), .val (.int qq48), .val (.int a_1)] [(.int a_1), (.int a_1), (.ref b65), (.ref b65)])) _
        refine XS.iloadN X65.here hx rfl (hb hby d8_86) rfl ?_
        show Steps p.tables e below (T65.setTop (mkF m 87 #[.val (.ref x), .val (.int a_1), .val (.int r_2), .val (.int qq48), .val (.int a_1)] [(.int qq48), (.int a_1), (.int a_1), (.ref b65), (.ref b65)])) _
        refine XS.iloadN X65.here hx rfl (hb hby d8_87) rfl ?_
        show Steps p.tables e below (T65.setTop (mkF m 88 #[.val (.ref x), .val (.int a_1), .val (.int r_2), .val (.int qq48), .val (.int a_1)] [(.int r_2), (.int qq48), (.int a_1), (.int a_1), (.ref b65), (.ref b65)])) _
        refine st67.trans ?_
        show Steps p.tables e below (T67.setTop (mkF m 91 #[.val (.ref x), .val (.int a_1), .val (.int r_2), .val (.int qq48), .val (.int a_1)] [(.ref b65)])) _
        jvm_step X67.here [X67.here.top, hx, (hb hby d8_91), X67.method', Bd.returns, Value.isRef, FieldType.isReference]
        first | (intro acts; rw [hr _ acts rfl rfl rfl]) | rw [hr _ _ rfl rfl rfl]
        exact Steps.refl _
      · show Q_rm8 Z x tb kb bs z0 ss ks Ts h0 n0 _ T67.heap _ T67.vm
        exact ⟨b65, a_1, a_1, rfl, N67, K67, t67_0, t67_1, t67_2, ⟨⟨fun q => absurd q own_ir, fun q => absurd hc51_62 q⟩, t1_0⟩⟩
    · have eaa_1 := own_inc2 t1_0.1 (by omega)
      have f74 : Arv Z h53 ss ks .char (3 : Int32) [(.int (47 : Int32)), (.int (63 : Int32)), (.int (35 : Int32))] (.int (0 : Int32)) := (V_ss.ext E53)
      obtain ⟨cq73, kq73, q73a, q73b, q73c⟩ := isOf hZ53 e61 f56
      obtain ⟨_, _, ⟨T73, L73, k73, n73⟩, -, X73, ⟨Lc73, hQ73, l73, y73, z73⟩, st73⟩ := X61.virtualBack hx (y := (⟨nm1, "indexOf", "(II)I"⟩ : MethodName)) (z := (⟨nm1, "indexOf", "(II)I"⟩ : MethodName)) hown53 (mvT hZ53 (own_w hw 83 rfl)) (mvT hZ53 (own_w hw 47 rfl)) (notFace_of_selects (args := #[]) (mvT hZ53 (own_w hw 49 rfl))) (mvT hZ53 (own_w hw 49 rfl)) (mvT hZ53 (own_w hw 48 rfl)) (by decide) (backOf (W := 0) (rm11 l Z a0 hw [] x (47 : Int32) (a_1 + (2 : Int32)) tb kb bs z0 h53 n0 (Nat.le_trans Z0 K54.1) f56 f57 f58 f59 f60 hz (by decide) (by decide) (by omega) (by omega)) hZ53 (own_w hw 50 rfl) (own_w hw 7 rfl) (by decide) (by decide)) q73a q73c (g := (mkF m 60 #[.val (.ref x), .val (.int a_1), .val (.int r_2), .val (.int qq48), .val (.int a_1)] [(.int (a_1 + (2 : Int32))), (.int (47 : Int32)), (.ref x)])) rfl (by rw [hml]; rfl) (Steps.refl _) (argsL := [(.int (47 : Int32)), (.int (a_1 + (2 : Int32)))]) (rest := []) (lenOf pd__28II_29I rfl) rfl (by show 2 * 0 + _ ≤ _; exact Nat.le_of_eq rfl) (hb hby d8_60) (fun _ _ => ⟨rfl, e61, (by decide : 2 + 0 ≤ _), (by decide : 12 + 0 ≤ _)⟩)
      dsimp only [Pt.U, Pt.locs, Pt.cells, Pt.slots] at y73 z73 st73 hQ73
      change Stand p l e _ _ m _ below meth c T73 L73 k73 n73 at X73
      change L73 = _ ++ Lc73 at l73
      subst y73 z73
      obtain ⟨r_73, rfl, N73q, e73, t73_0⟩ := hQ73
      have N73 : Fr n0 L73 := l73 ▸ Fr.app N61 N73q
      have pre76 : ∀ t, Steps p.tables e below (T73.setTop (mkF m 65 #[.val (.ref x), .val (.int a_1), .val (.int r_2), .val (.int qq48), .val (.int r_73)] [])) t → Steps p.tables e below (s₁.setTop (entryFrame m #[(.ref x)] 5)) t := fun t kt => by
        refine pre63 t ?_
        show Steps p.tables e below (T61.setTop (mkF m 51 #[.val (.ref x), .val (.int a_1), .val (.int r_2), .val (.int qq48), .val (.int a_1)] [(.int (own_sw bs a_1))])) _
        refine XS.ifNo X61.here hx rfl (hb hby d8_51) rfl ((if0 _ _).trans (feq hc51_62).1) ?_
        show Steps p.tables e below (T61.setTop (mkF m 54 #[.val (.ref x), .val (.int a_1), .val (.int r_2), .val (.int qq48), .val (.int a_1)] [])) _
        refine XS.aloadN X61.here hx rfl (hb hby d8_54) rfl rfl ?_
        show Steps p.tables e below (T61.setTop (mkF m 55 #[.val (.ref x), .val (.int a_1), .val (.int r_2), .val (.int qq48), .val (.int a_1)] [(.ref x)])) _
        refine XS.bipush X61.here hx rfl (hb hby d8_55) ?_
        show Steps p.tables e below (T61.setTop (mkF m 57 #[.val (.ref x), .val (.int a_1), .val (.int r_2), .val (.int qq48), .val (.int a_1)] [(.int (47 : Int32)), (.ref x)])) _
        refine XS.iloadN X61.here hx rfl (hb hby d8_57) rfl ?_
        show Steps p.tables e below (T61.setTop (mkF m 58 #[.val (.ref x), .val (.int a_1), .val (.int r_2), .val (.int qq48), .val (.int a_1)] [(.int a_1), (.int (47 : Int32)), (.ref x)])) _
        refine XS.iconst X61.here hx rfl (hb hby d8_58) ?_
        show Steps p.tables e below (T61.setTop (mkF m 59 #[.val (.ref x), .val (.int a_1), .val (.int r_2), .val (.int qq48), .val (.int a_1)] [(.int (2 : Int32)), (.int a_1), (.int (47 : Int32)), (.ref x)])) _
        refine XS.iadd X61.here hx rfl (hb hby d8_59) rfl ?_
        show Steps p.tables e below (T61.setTop (mkF m 60 #[.val (.ref x), .val (.int a_1), .val (.int r_2), .val (.int qq48), .val (.int a_1)] [(.int (a_1 + (2 : Int32))), (.int (47 : Int32)), (.ref x)])) _
        refine st73.trans ?_
        show Steps p.tables e below (T73.setTop (mkF m 63 #[.val (.ref x), .val (.int a_1), .val (.int r_2), .val (.int qq48), .val (.int a_1)] [(.int r_73)])) _
        refine XS.istore X73.here hx rfl (hb hby d8_63) rfl (l' := #[.val (.ref x), .val (.int a_1), .val (.int r_2), .val (.int qq48), .val (.int r_73)]) rfl ?_
        exact kt
      obtain ⟨pp75, h_pp75, pre79⟩ : ∃ z : Int32, z = (if r_73 < (0 : Int32) then qq48 else (if qq48 < r_73 then qq48 else r_73)) ∧ ∀ t, Steps p.tables e below (T73.setTop (mkF m 79 #[.val (.ref x), .val (.int a_1), .val (.int r_2), .val (.int qq48), .val (.int z)] [])) t → Steps p.tables e below (s₁.setTop (entryFrame m #[(.ref x)] 5)) t := by
        by_cases hj67_77 : r_73 < (0 : Int32)
        · exact ⟨_, by rw [if_pos hj67_77], fun t kt => by
            refine pre76 t ?_
            show Steps p.tables e below (T73.setTop (mkF m 65 #[.val (.ref x), .val (.int a_1), .val (.int r_2), .val (.int qq48), .val (.int r_73)] [])) _
            refine XS.iload X73.here hx rfl (hb hby d8_65) rfl ?_
            show Steps p.tables e below (T73.setTop (mkF m 67 #[.val (.ref x), .val (.int a_1), .val (.int r_2), .val (.int qq48), .val (.int r_73)] [(.int r_73)])) _
            refine XS.ifYes X73.here hx rfl (pc0 := 67) (pc' := 76) rfl (hb hby d8_67) rfl ((if0 _ _).trans (tlt hj67_77).1) (by decide) (by decide) ?_
            show Steps p.tables e below (T73.setTop (mkF m 76 #[.val (.ref x), .val (.int a_1), .val (.int r_2), .val (.int qq48), .val (.int r_73)] [])) _
            refine XS.iloadN X73.here hx rfl (hb hby d8_76) rfl ?_
            show Steps p.tables e below (T73.setTop (mkF m 77 #[.val (.ref x), .val (.int a_1), .val (.int r_2), .val (.int qq48), .val (.int r_73)] [(.int qq48)])) _
            refine XS.istore X73.here hx rfl (hb hby d8_77) rfl (l' := #[.val (.ref x), .val (.int a_1), .val (.int r_2), .val (.int qq48), .val (.int qq48)]) rfl ?_
            exact kt⟩
        · by_cases hj73_78 : qq48 < r_73
          · exact ⟨_, by rw [if_neg hj67_77, if_pos hj73_78], fun t kt => by
              refine pre76 t ?_
              show Steps p.tables e below (T73.setTop (mkF m 65 #[.val (.ref x), .val (.int a_1), .val (.int r_2), .val (.int qq48), .val (.int r_73)] [])) _
              refine XS.iload X73.here hx rfl (hb hby d8_65) rfl ?_
              show Steps p.tables e below (T73.setTop (mkF m 67 #[.val (.ref x), .val (.int a_1), .val (.int r_2), .val (.int qq48), .val (.int r_73)] [(.int r_73)])) _
              refine XS.ifNo X73.here hx rfl (hb hby d8_67) rfl ((if0 _ _).trans (flt hj67_77).1) ?_
              show Steps p.tables e below (T73.setTop (mkF m 70 #[.val (.ref x), .val (.int a_1), .val (.int r_2), .val (.int qq48), .val (.int r_73)] [])) _
              refine XS.iload X73.here hx rfl (hb hby d8_70) rfl ?_
              show Steps p.tables e below (T73.setTop (mkF m 72 #[.val (.ref x), .val (.int a_1), .val (.int r_2), .val (.int qq48), .val (.int r_73)] [(.int r_73)])) _
              refine XS.iloadN X73.here hx rfl (hb hby d8_72) rfl ?_
              show Steps p.tables e below (T73.setTop (mkF m 73 #[.val (.ref x), .val (.int a_1), .val (.int r_2), .val (.int qq48), .val (.int r_73)] [(.int qq48), (.int r_73)])) _
              refine XS.icmpNo X73.here hx rfl (hb hby d8_73) rfl (tlt hj73_78).2.2.2 ?_
              show Steps p.tables e below (T73.setTop (mkF m 76 #[.val (.ref x), .val (.int a_1), .val (.int r_2), .val (.int qq48), .val (.int r_73)] [])) _
              refine XS.iloadN X73.here hx rfl (hb hby d8_76) rfl ?_
              show Steps p.tables e below (T73.setTop (mkF m 77 #[.val (.ref x), .val (.int a_1), .val (.int r_2), .val (.int qq48), .val (.int r_73)] [(.int qq48)])) _
              refine XS.istore X73.here hx rfl (hb hby d8_77) rfl (l' := #[.val (.ref x), .val (.int a_1), .val (.int r_2), .val (.int qq48), .val (.int qq48)]) rfl ?_
              exact kt⟩
          · exact ⟨_, by rw [if_neg hj67_77, if_neg hj73_78], fun t kt => by
              refine pre76 t ?_
              show Steps p.tables e below (T73.setTop (mkF m 65 #[.val (.ref x), .val (.int a_1), .val (.int r_2), .val (.int qq48), .val (.int r_73)] [])) _
              refine XS.iload X73.here hx rfl (hb hby d8_65) rfl ?_
              show Steps p.tables e below (T73.setTop (mkF m 67 #[.val (.ref x), .val (.int a_1), .val (.int r_2), .val (.int qq48), .val (.int r_73)] [(.int r_73)])) _
              refine XS.ifNo X73.here hx rfl (hb hby d8_67) rfl ((if0 _ _).trans (flt hj67_77).1) ?_
              show Steps p.tables e below (T73.setTop (mkF m 70 #[.val (.ref x), .val (.int a_1), .val (.int r_2), .val (.int qq48), .val (.int r_73)] [])) _
              refine XS.iload X73.here hx rfl (hb hby d8_70) rfl ?_
              show Steps p.tables e below (T73.setTop (mkF m 72 #[.val (.ref x), .val (.int a_1), .val (.int r_2), .val (.int qq48), .val (.int r_73)] [(.int r_73)])) _
              refine XS.iloadN X73.here hx rfl (hb hby d8_72) rfl ?_
              show Steps p.tables e below (T73.setTop (mkF m 73 #[.val (.ref x), .val (.int a_1), .val (.int r_2), .val (.int qq48), .val (.int r_73)] [(.int qq48), (.int r_73)])) _
              refine XS.icmpYes X73.here hx rfl (pc0 := 73) (pc' := 79) rfl (hb hby d8_73) rfl (flt hj73_78).2.2.2 (by decide) (by decide) ?_
              exact kt⟩
      obtain ⟨T80, h80, X80, e80, E80, A80, D80, -, st80⟩ := newO X73 hx hZ53 hown53 (own_w hw 96 rfl) (own_w hw 97 rfl) (own_w hw 98 rfl) e73 (g := (mkF m 79 #[.val (.ref x), .val (.int a_1), .val (.int r_2), .val (.int qq48), .val (.int pp75)] [])) rfl (hb hby d8_79) (by decide) (by decide)
      obtain ⟨b80, g80⟩ : ∃ z, z = h53.size := ⟨_, rfl⟩
      rw [← g80] at A80 D80 st80
      have ne_a53_b80 : a53 ≠ b80 := Nat.ne_of_lt (Nat.lt_of_lt_of_le Ea53.lt (Nat.le_of_eq g80.symm))
      have ne_b53_b80 : b53 ≠ b80 := Nat.ne_of_lt (Nat.lt_of_lt_of_le Vb53.lt (Nat.le_of_eq g80.symm))
      have ne_ss_b80 : ss ≠ b80 := Nat.ne_of_lt (Nat.lt_of_lt_of_le f74.lt (Nat.le_of_eq g80.symm))
      have ne_tb_b80 : tb ≠ b80 := Nat.ne_of_lt (Nat.lt_of_lt_of_le f59.lt (Nat.le_of_eq g80.symm))
      have ne_x_b80 : x ≠ b80 := Nat.ne_of_lt (Nat.lt_of_lt_of_le f56.lt (Nat.le_of_eq g80.symm))
      have g_b80 : n0 ≤ b80 := Nat.le_trans (Nat.le_trans Z0 K54.1) (Nat.le_of_eq g80.symm)
      have sz_b80 : h0.size ≤ b80 := Nat.le_trans K54.1 (Nat.le_of_eq g80.symm)
      have K81 : Keep h0 h80 [] := K54.ext E80
      have F_afterScheme_b80 : Fld Z h80 b80 nm0 "afterScheme" "I" (.int (0 : Int32)) := D80 (Or.inr (own_w hw 109 rfl)) (ty := .int) (by decide)
      have F_pathStart_b80 : Fld Z h80 b80 nm0 "pathStart" "I" (.int (0 : Int32)) := D80 (Or.inr (own_w hw 111 rfl)) (ty := .int) (by decide)
      have F_pathEnd_b80 : Fld Z h80 b80 nm0 "pathEnd" "I" (.int (0 : Int32)) := D80 (Or.inr (own_w hw 113 rfl)) (ty := .int) (by decide)
      have F_fragmentStart_b80 : Fld Z h80 b80 nm0 "fragmentStart" "I" (.int (0 : Int32)) := D80 (Or.inr (own_w hw 115 rfl)) (ty := .int) (by decide)
      have f83 : Exa Z h80 a53 nm1 := (Ea53.ext E80)
      have f84 : Arv Z h80 b53 kb53 .byte (2 : Int32) [(.int (47 : Int32)), (.int (47 : Int32))] (.int (0 : Int32)) := (Vb53.ext E80)
      have f85 : Arv Z h80 ss ks .char (3 : Int32) [(.int (47 : Int32)), (.int (63 : Int32)), (.int (35 : Int32))] (.int (0 : Int32)) := (f74.ext E80)
      have f86 : Arv Z h80 tb kb .byte (6 : Int32) (bs.map Value.int) (.int (0 : Int32)) := (f59.ext E80)
      have f87 : Exa Z h80 x nm1 := (f56.ext E80)
      obtain ⟨_, _, ⟨T82, L82, k82, n82⟩, -, X82, ⟨Lc82, hQ82, l82, y82, z82⟩, st82⟩ := X80.specialBack hx (y := (⟨nm0, "<init>", "(IIII)V"⟩ : MethodName)) rfl hown53 (mvT hZ53 (own_w hw 99 rfl)) (mvT hZ53 (own_w hw 100 rfl)) (mvT hZ53 (own_w hw 101 rfl)) (by decide) (backOf (W := 1) (rm22 l Z a0 hw [] b80 a_1 pp75 qq48 r_2 (.int (0 : Int32)) (.int (0 : Int32)) (.int (0 : Int32)) (.int (0 : Int32)) h80 n0 (Nat.le_trans Z0 K81.1) A80 F_afterScheme_b80 F_pathStart_b80 F_pathEnd_b80 F_fragmentStart_b80 g_b80) hZ53 (own_w hw 101 rfl) (own_w hw 98 rfl) (by decide) (by decide)) (g := (mkF m 88 #[.val (.ref x), .val (.int a_1), .val (.int r_2), .val (.int qq48), .val (.int pp75)] [(.int r_2), (.int qq48), (.int pp75), (.int a_1), (.ref b80), (.ref b80)])) rfl (by rw [hml]; rfl) (Steps.refl _) (a := b80) (argsL := [(.int a_1), (.int pp75), (.int qq48), (.int r_2)]) (rest := [(.ref b80)]) (lenOf pd__28IIII_29V rfl) rfl (by show 2 * 0 + _ ≤ _; exact Nat.le_of_eq rfl) (hb hby d8_88) (fun _ _ => ⟨rfl, e80, (by decide : 3 + 0 ≤ _), (by decide : 16 + 0 ≤ _)⟩)
      dsimp only [Pt.U, Pt.locs, Pt.cells, Pt.slots] at y82 z82 st82 hQ82
      change Stand p l e _ _ m _ below meth c T82 L82 k82 n82 at X82
      change L82 = _ ++ Lc82 at l82
      subst y82 z82
      obtain ⟨rfl, N82q, K82q, t82_0, t82_1, t82_2⟩ := hQ82
      have N82 : Fr n0 L82 := l82 ▸ Fr.app N73 N82q
      have K82 : Keep h0 T82.heap [] := K81.trans K82q (allS (P := fun xz => xz ∈ [] ∨ h0.size ≤ xz) (Or.inr sz_b80) all0)
      have hhpp75 : a_1.toInt + 2 ≤ r_2.toInt := (own_far t1_0.1 (own_swf t1_0.1 hc51_62).2.1 (own_swf t1_0.1 hc51_62).2.2 (by decide) (own_n0 hc14_3) t2_0)
      have hqpp75 := own_q hhpp75 (fun k => own_far t1_0.1 (own_swf t1_0.1 hc51_62).2.1 (own_swf t1_0.1 hc51_62).2.2 (by decide) k t47_0) h_qq48
      have hppp75 : a_1.toInt + 2 ≤ pp75.toInt := own_q hqpp75 (fun k => by rcases t73_0 with z | z; exact absurd z k; omega) h_pp75
      obtain ⟨fs, hr, hrun, hended, hRW⟩ := X82.leaveW hS53 (Nat.le_trans (Nat.le_trans hk53 E80.1) K82q.1) (v := some (.ref b80)) (fun h => by rw [Bd.returns] at h; cases h)
      refine ⟨_, _, pre79 _ ?_, hrun, hended, _, _, rfl, ?_, hRW.1, hRW.2.1, hRW.2.2.1, hRW.2.2.2.mono (by decide) (by decide)⟩
      · show Steps p.tables e below (T73.setTop (mkF m 79 #[.val (.ref x), .val (.int a_1), .val (.int r_2), .val (.int qq48), .val (.int pp75)] [])) _
        refine st80 _ ?_
        show Steps p.tables e below (T80.setTop (mkF m 82 #[.val (.ref x), .val (.int a_1), .val (.int r_2), .val (.int qq48), .val (.int pp75)] [(.ref b80)])) _
        refine XS.dup X80.here hx rfl (hb hby d8_82) rfl rfl ?_
        show Steps p.tables e below (T80.setTop (mkF m 83 #[.val (.ref x), .val (.int a_1), .val (.int r_2), .val (.int qq48), .val (.int pp75)] [(.ref b80), (.ref b80)])) _
        refine XS.iloadN X80.here hx rfl (hb hby d8_83) rfl ?_
        show Steps p.tables e below (T80.setTop (mkF m 84 #[.val (.ref x), .val (.int a_1), .val (.int r_2), .val (.int qq48), .val (.int pp75)] [(.int a_1), (.ref b80), (.ref b80)])) _
        refine XS.iload X80.here hx rfl (hb hby d8_84) rfl ?_
        show Steps p.tables e below (T80.setTop (mkF m 86 #[.val (.ref x), .val (.int a_1), .val (.int r_2), .val (.int qq48), .val (.int pp75)] [(.int pp75), (.int a_1), (.ref b80), (.ref b80)])) _
        refine XS.iloadN X80.here hx rfl (hb hby d8_86) rfl ?_
        show Steps p.tables e below (T80.setTop (mkF m 87 #[.val (.ref x), .val (.int a_1), .val (.int r_2), .val (.int qq48), .val (.int pp75)] [(.int qq48), (.int pp75), (.int a_1), (.ref b80), (.ref b80)])) _
        refine XS.iloadN X80.here hx rfl (hb hby d8_87) rfl ?_
        show Steps p.tables e below (T80.setTop (mkF m 88 #[.val (.ref x), .val (.int a_1), .val (.int r_2), .val (.int qq48), .val (.int pp75)] [(.int r_2), (.int qq48), (.int pp75), (.int a_1), (.ref b80), (.ref b80)])) _
        refine st82.trans ?_
        show Steps p.tables e below (T82.setTop (mkF m 91 #[.val (.ref x), .val (.int a_1), .val (.int r_2), .val (.int qq48), .val (.int pp75)] [(.ref b80)])) _
        jvm_step X82.here [X82.here.top, hx, (hb hby d8_91), X82.method', Bd.returns, Value.isRef, FieldType.isReference]
        first | (intro acts; rw [hr _ acts rfl rfl rfl]) | rw [hr _ _ rfl rfl rfl]
        exact Steps.refl _
      · show Q_rm8 Z x tb kb bs z0 ss ks Ts h0 n0 _ T82.heap _ T82.vm
        exact ⟨b80, a_1, pp75, rfl, N82, K82, t82_0, t82_1, t82_2, ⟨⟨fun _ => hc51_62, fun _ => own_pl hppp75⟩, t1_0⟩⟩
theorem d1_0 : decode method_2_code 0 = .ok (.iload_n 0, 1) := by decide +kernel
theorem d1_1 : decode method_2_code 1 = .ok (.bipush 7, 2) := by decide +kernel
theorem d1_3 : decode method_2_code 3 = .ok (.iand, 1) := by decide +kernel
theorem d1_4 : decode method_2_code 4 = .ok (.istore_n 1, 1) := by decide +kernel
theorem d1_5 : decode method_2_code 5 = .ok (.iload_n 1, 1) := by decide +kernel
theorem d1_6 : decode method_2_code 6 = .ok (.ifCond .ne 6, 3) := by decide +kernel
theorem d1_9 : decode method_2_code 9 = .ok (.bipush 58, 2) := by decide +kernel
theorem d1_12 : decode method_2_code 12 = .ok (.iload_n 1, 1) := by decide +kernel
theorem d1_13 : decode method_2_code 13 = .ok (.iconst 1, 1) := by decide +kernel
theorem d1_14 : decode method_2_code 14 = .ok (.if_icmp .ne 6, 3) := by decide +kernel
theorem d1_17 : decode method_2_code 17 = .ok (.bipush 47, 2) := by decide +kernel
theorem d1_20 : decode method_2_code 20 = .ok (.iload_n 1, 1) := by decide +kernel
theorem d1_21 : decode method_2_code 21 = .ok (.iconst 2, 1) := by decide +kernel
theorem d1_22 : decode method_2_code 22 = .ok (.if_icmp .ne 6, 3) := by decide +kernel
theorem d1_25 : decode method_2_code 25 = .ok (.bipush 63, 2) := by decide +kernel
theorem d1_28 : decode method_2_code 28 = .ok (.iload_n 1, 1) := by decide +kernel
theorem d1_29 : decode method_2_code 29 = .ok (.iconst 3, 1) := by decide +kernel
theorem d1_30 : decode method_2_code 30 = .ok (.if_icmp .ne 6, 3) := by decide +kernel
theorem d1_33 : decode method_2_code 33 = .ok (.bipush 35, 2) := by decide +kernel
theorem d1_36 : decode method_2_code 36 = .ok (.iload_n 1, 1) := by decide +kernel
theorem d1_37 : decode method_2_code 37 = .ok (.iconst 4, 1) := by decide +kernel
theorem d1_38 : decode method_2_code 38 = .ok (.if_icmp .ne 6, 3) := by decide +kernel
theorem d1_41 : decode method_2_code 41 = .ok (.bipush 97, 2) := by decide +kernel
theorem d1_44 : decode method_2_code 44 = .ok (.iload_n 1, 1) := by decide +kernel
theorem d1_45 : decode method_2_code 45 = .ok (.iconst 5, 1) := by decide +kernel
theorem d1_46 : decode method_2_code 46 = .ok (.if_icmp .ne 6, 3) := by decide +kernel
theorem d1_49 : decode method_2_code 49 = .ok (.bipush 47, 2) := by decide +kernel
theorem d1_52 : decode method_2_code 52 = .ok (.iload_n 1, 1) := by decide +kernel
theorem d1_53 : decode method_2_code 53 = .ok (.bipush 6, 2) := by decide +kernel
theorem d1_55 : decode method_2_code 55 = .ok (.if_icmp .ne 6, 3) := by decide +kernel
theorem d1_58 : decode method_2_code 58 = .ok (.bipush 58, 2) := by decide +kernel
theorem d1_61 : decode method_2_code 61 = .ok (.iload_n 0, 1) := by decide +kernel
theorem d1_62 : decode method_2_code 62 = .ok (.iconst 3, 1) := by decide +kernel
theorem d1_63 : decode method_2_code 63 = .ok (.iushr, 1) := by decide +kernel
theorem d1_64 : decode method_2_code 64 = .ok (.sipush 255, 3) := by decide +kernel
theorem d1_67 : decode method_2_code 67 = .ok (.iand, 1) := by decide +kernel
theorem d1_68 : decode method_2_code 68 = .ok (.i2c, 1) := by decide +kernel
theorem d1_11 : decode method_2_code 11 = .ok (.ireturn, 1) := by decide +kernel
theorem d1_19 : decode method_2_code 19 = .ok (.ireturn, 1) := by decide +kernel
theorem d1_27 : decode method_2_code 27 = .ok (.ireturn, 1) := by decide +kernel
theorem d1_35 : decode method_2_code 35 = .ok (.ireturn, 1) := by decide +kernel
theorem d1_43 : decode method_2_code 43 = .ok (.ireturn, 1) := by decide +kernel
theorem d1_51 : decode method_2_code 51 = .ok (.ireturn, 1) := by decide +kernel
theorem d1_60 : decode method_2_code 60 = .ok (.ireturn, 1) := by decide +kernel
theorem d1_69 : decode method_2_code 69 = .ok (.ireturn, 1) := by decide +kernel
theorem pn_com_example_basepoint_basepoint_uri_UriReferenceSplitHasAuthorityPinLaw : plainName nm3 = true := by first | (simp [plainName, overriddenIn]; done) | decide +kernel
def own_pick (p1 : Int32) : Int32 := (if (p1 &&& (7 : Int32)) = (0 : Int32) then (58 : Int32) else (if (p1 &&& (7 : Int32)) = (1 : Int32) then (47 : Int32) else (if (p1 &&& (7 : Int32)) = (2 : Int32) then (63 : Int32) else (if (p1 &&& (7 : Int32)) = (3 : Int32) then (35 : Int32) else (if (p1 &&& (7 : Int32)) = (4 : Int32) then (97 : Int32) else (if (p1 &&& (7 : Int32)) = (5 : Int32) then (47 : Int32) else (if (p1 &&& (7 : Int32)) = (6 : Int32) then (58 : Int32) else (nar .char ((((p1.toUInt32 >>> ((3 : Int32) &&& 31).toUInt32).toInt32) &&& (255 : Int32)).toUInt32.toUInt16.toUInt32.toInt32)))))))))
theorem ef_rm1 (m : MethodId) (p1 : Int32) : entryFrame m #[(.int p1)] 2 = mkF m 0 #[.val (.int p1), .unset] [] := by first | (simp [entryFrame, mkF, argsToLocals, Value.category]; done) | rfl
def Q_rm1 (Z : State) (p1 : Int32) (h0 : Heap) (n0 : Nat) (v : Option Value) (h : Heap) (L : List Loc) : Prop := v = some (.int (own_pick p1)) ∧ Fr n0 L ∧ h = h0
set_option maxRecDepth 65536 in
set_option maxHeartbeats 40000000 in
theorem rm1 (l : Launch) (Z : State) (a0 : Array Value) (hw : ∀ d ∈ tables_1, d.before a0 Z = true) (ws : List Jvm.Cond) (p1 : Int32) (h0 : Heap) (n0 : Nat) (Z0 : n0 ≤ h0.size) :
    MetFree l (⟨nm3, "pick", "(I)C"⟩ : MethodName) (head1 (Jvm.Cond.code (⟨nm3, "pick", "(I)C"⟩ : MethodName) method_2_code 2 (some .char) :: ws) ({ frames := 0, cells := 0, slots := 0, locals := 0 } : Room)) (fun a U => a = #[(.int p1)] ∧ Z.Warmed39 U.vm ∧ U.heap = h0) (fun _ _ _ _ _ => True) (fun _ U o U' => ∃ v L, o = .returned v ∧ Q_rm1 Z p1 h0 n0 v U'.heap L ∧ FrameEnd U o U' L ({ frames := 0, cells := 0, slots := 0, locals := 0 } : Room).cells ({ frames := 0, cells := 0, slots := 0, locals := 0 } : Room).slots) := by
  refine MetFree.of_bodySF (plainFor_of_name pn_com_example_basepoint_basepoint_uri_UriReferenceSplitHasAuthorityPinLaw) hisR ?_
  intro p e s m args below meth c s₁ Bd hml0 hP hK
  obtain ⟨rfl, hZ, hh⟩ := hP
  have hx := Bd.exec
  have hby := Bd.bytes
  have hml : c.maxLocals = 2 := hml0
  have hown : s.vm.findClass nm3 = some m.cls := findClass_of_methodNamed Bd.named
  have hnm := (name_of_methodNamed Bd.named Bd.method).1
  have X0 : Stand p l e ({ frames := 0, cells := 0, slots := 0, locals := 0 } : Room) s m #[(.int p1)] below meth c s₁ [] 0 0 := Stand.of_body Bd
  have e0 : s₁.heap = h0 := by rw [← hh, Bd.state]; rfl
  have N0 := Fr.nil n0
  have pre0 : ∀ t, Steps p.tables e below (s₁.setTop (mkF m 0 #[.val (.int p1), .unset] [])) t → Steps p.tables e below (s₁.setTop (entryFrame m #[(.int p1)] 2)) t := fun t k => castTop (ef_rm1 m p1) k
  have pre2 : ∀ t, Steps p.tables e below (s₁.setTop (mkF m 6 #[.val (.int p1), .val (.int (p1 &&& (7 : Int32)))] [(.int (p1 &&& (7 : Int32)))])) t → Steps p.tables e below (s₁.setTop (entryFrame m #[(.int p1)] 2)) t := fun t kt => by
    refine pre0 t ?_
    show Steps p.tables e below (s₁.setTop (mkF m 0 #[.val (.int p1), .unset] [])) _
    refine XS.iloadN X0.here hx rfl (hb hby d1_0) rfl ?_
    show Steps p.tables e below (s₁.setTop (mkF m 1 #[.val (.int p1), .unset] [(.int p1)])) _
    refine XS.bipush X0.here hx rfl (hb hby d1_1) ?_
    show Steps p.tables e below (s₁.setTop (mkF m 3 #[.val (.int p1), .unset] [(.int (7 : Int32)), (.int p1)])) _
    refine XS.iand X0.here hx rfl (hb hby d1_3) rfl ?_
    show Steps p.tables e below (s₁.setTop (mkF m 4 #[.val (.int p1), .unset] [(.int (p1 &&& (7 : Int32)))])) _
    refine XS.istoreN X0.here hx rfl (hb hby d1_4) rfl (l' := #[.val (.int p1), .val (.int (p1 &&& (7 : Int32)))]) rfl ?_
    show Steps p.tables e below (s₁.setTop (mkF m 5 #[.val (.int p1), .val (.int (p1 &&& (7 : Int32)))] [])) _
    refine XS.iloadN X0.here hx rfl (hb hby d1_5) rfl ?_
    exact kt
  by_cases hc6_1 : (p1 &&& (7 : Int32)) = (0 : Int32)
  · obtain ⟨fs, hr, hrun, hended, hW, hsame⟩ := X0.leave (v := some (.int (58 : Int32))) (fun h => by rw [Bd.returns] at h; cases h)
    refine ⟨_, _, pre2 _ ?_, hrun, hended, _, _, rfl, ?_, ⟨_, rfl⟩, hW, hsame.mono (by decide) (by decide)⟩
    · show Steps p.tables e below (s₁.setTop (mkF m 6 #[.val (.int p1), .val (.int (p1 &&& (7 : Int32)))] [(.int (p1 &&& (7 : Int32)))])) _
      refine XS.ifNo X0.here hx rfl (hb hby d1_6) rfl ((if0 _ _).trans (teq hc6_1).2) ?_
      show Steps p.tables e below (s₁.setTop (mkF m 9 #[.val (.int p1), .val (.int (p1 &&& (7 : Int32)))] [])) _
      refine XS.bipush X0.here hx rfl (hb hby d1_9) ?_
      show Steps p.tables e below (s₁.setTop (mkF m 11 #[.val (.int p1), .val (.int (p1 &&& (7 : Int32)))] [(.int (58 : Int32))])) _
      exact retN X0 hx (t := .char) Bd.returns (by simp) (hb hby d1_11) hr
    · show Q_rm1 Z p1 h0 n0 _ s₁.heap _
      rw [e0]
      exact ⟨by rw [own_pick, if_pos hc6_1], N0, rfl⟩
  · have pre4 : ∀ t, Steps p.tables e below (s₁.setTop (mkF m 14 #[.val (.int p1), .val (.int (p1 &&& (7 : Int32)))] [(.int (1 : Int32)), (.int (p1 &&& (7 : Int32)))])) t → Steps p.tables e below (s₁.setTop (entryFrame m #[(.int p1)] 2)) t := fun t kt => by
      refine pre2 t ?_
      show Steps p.tables e below (s₁.setTop (mkF m 6 #[.val (.int p1), .val (.int (p1 &&& (7 : Int32)))] [(.int (p1 &&& (7 : Int32)))])) _
      refine XS.ifYes X0.here hx rfl (pc0 := 6) (pc' := 12) rfl (hb hby d1_6) rfl ((if0 _ _).trans (feq hc6_1).2) (by decide) (by decide) ?_
      show Steps p.tables e below (s₁.setTop (mkF m 12 #[.val (.int p1), .val (.int (p1 &&& (7 : Int32)))] [])) _
      refine XS.iloadN X0.here hx rfl (hb hby d1_12) rfl ?_
      show Steps p.tables e below (s₁.setTop (mkF m 13 #[.val (.int p1), .val (.int (p1 &&& (7 : Int32)))] [(.int (p1 &&& (7 : Int32)))])) _
      refine XS.iconst X0.here hx rfl (hb hby d1_13) ?_
      exact kt
    by_cases hc14_3 : (p1 &&& (7 : Int32)) = (1 : Int32)
    · obtain ⟨fs, hr, hrun, hended, hW, hsame⟩ := X0.leave (v := some (.int (47 : Int32))) (fun h => by rw [Bd.returns] at h; cases h)
      refine ⟨_, _, pre4 _ ?_, hrun, hended, _, _, rfl, ?_, ⟨_, rfl⟩, hW, hsame.mono (by decide) (by decide)⟩
      · show Steps p.tables e below (s₁.setTop (mkF m 14 #[.val (.int p1), .val (.int (p1 &&& (7 : Int32)))] [(.int (1 : Int32)), (.int (p1 &&& (7 : Int32)))])) _
        refine XS.icmpNo X0.here hx rfl (hb hby d1_14) rfl (teq hc14_3).2 ?_
        show Steps p.tables e below (s₁.setTop (mkF m 17 #[.val (.int p1), .val (.int (p1 &&& (7 : Int32)))] [])) _
        refine XS.bipush X0.here hx rfl (hb hby d1_17) ?_
        show Steps p.tables e below (s₁.setTop (mkF m 19 #[.val (.int p1), .val (.int (p1 &&& (7 : Int32)))] [(.int (47 : Int32))])) _
        exact retN X0 hx (t := .char) Bd.returns (by simp) (hb hby d1_19) hr
      · show Q_rm1 Z p1 h0 n0 _ s₁.heap _
        rw [e0]
        exact ⟨by rw [own_pick, if_neg hc6_1, if_pos hc14_3], N0, rfl⟩
    · have pre6 : ∀ t, Steps p.tables e below (s₁.setTop (mkF m 22 #[.val (.int p1), .val (.int (p1 &&& (7 : Int32)))] [(.int (2 : Int32)), (.int (p1 &&& (7 : Int32)))])) t → Steps p.tables e below (s₁.setTop (entryFrame m #[(.int p1)] 2)) t := fun t kt => by
        refine pre4 t ?_
        show Steps p.tables e below (s₁.setTop (mkF m 14 #[.val (.int p1), .val (.int (p1 &&& (7 : Int32)))] [(.int (1 : Int32)), (.int (p1 &&& (7 : Int32)))])) _
        refine XS.icmpYes X0.here hx rfl (pc0 := 14) (pc' := 20) rfl (hb hby d1_14) rfl (feq hc14_3).2 (by decide) (by decide) ?_
        show Steps p.tables e below (s₁.setTop (mkF m 20 #[.val (.int p1), .val (.int (p1 &&& (7 : Int32)))] [])) _
        refine XS.iloadN X0.here hx rfl (hb hby d1_20) rfl ?_
        show Steps p.tables e below (s₁.setTop (mkF m 21 #[.val (.int p1), .val (.int (p1 &&& (7 : Int32)))] [(.int (p1 &&& (7 : Int32)))])) _
        refine XS.iconst X0.here hx rfl (hb hby d1_21) ?_
        exact kt
      by_cases hc22_5 : (p1 &&& (7 : Int32)) = (2 : Int32)
      · obtain ⟨fs, hr, hrun, hended, hW, hsame⟩ := X0.leave (v := some (.int (63 : Int32))) (fun h => by rw [Bd.returns] at h; cases h)
        refine ⟨_, _, pre6 _ ?_, hrun, hended, _, _, rfl, ?_, ⟨_, rfl⟩, hW, hsame.mono (by decide) (by decide)⟩
        · show Steps p.tables e below (s₁.setTop (mkF m 22 #[.val (.int p1), .val (.int (p1 &&& (7 : Int32)))] [(.int (2 : Int32)), (.int (p1 &&& (7 : Int32)))])) _
          refine XS.icmpNo X0.here hx rfl (hb hby d1_22) rfl (teq hc22_5).2 ?_
          show Steps p.tables e below (s₁.setTop (mkF m 25 #[.val (.int p1), .val (.int (p1 &&& (7 : Int32)))] [])) _
          refine XS.bipush X0.here hx rfl (hb hby d1_25) ?_
          show Steps p.tables e below (s₁.setTop (mkF m 27 #[.val (.int p1), .val (.int (p1 &&& (7 : Int32)))] [(.int (63 : Int32))])) _
          exact retN X0 hx (t := .char) Bd.returns (by simp) (hb hby d1_27) hr
        · show Q_rm1 Z p1 h0 n0 _ s₁.heap _
          rw [e0]
          exact ⟨by rw [own_pick, if_neg hc6_1, if_neg hc14_3, if_pos hc22_5], N0, rfl⟩
      · have pre8 : ∀ t, Steps p.tables e below (s₁.setTop (mkF m 30 #[.val (.int p1), .val (.int (p1 &&& (7 : Int32)))] [(.int (3 : Int32)), (.int (p1 &&& (7 : Int32)))])) t → Steps p.tables e below (s₁.setTop (entryFrame m #[(.int p1)] 2)) t := fun t kt => by
          refine pre6 t ?_
          show Steps p.tables e below (s₁.setTop (mkF m 22 #[.val (.int p1), .val (.int (p1 &&& (7 : Int32)))] [(.int (2 : Int32)), (.int (p1 &&& (7 : Int32)))])) _
          refine XS.icmpYes X0.here hx rfl (pc0 := 22) (pc' := 28) rfl (hb hby d1_22) rfl (feq hc22_5).2 (by decide) (by decide) ?_
          show Steps p.tables e below (s₁.setTop (mkF m 28 #[.val (.int p1), .val (.int (p1 &&& (7 : Int32)))] [])) _
          refine XS.iloadN X0.here hx rfl (hb hby d1_28) rfl ?_
          show Steps p.tables e below (s₁.setTop (mkF m 29 #[.val (.int p1), .val (.int (p1 &&& (7 : Int32)))] [(.int (p1 &&& (7 : Int32)))])) _
          refine XS.iconst X0.here hx rfl (hb hby d1_29) ?_
          exact kt
        by_cases hc30_7 : (p1 &&& (7 : Int32)) = (3 : Int32)
        · obtain ⟨fs, hr, hrun, hended, hW, hsame⟩ := X0.leave (v := some (.int (35 : Int32))) (fun h => by rw [Bd.returns] at h; cases h)
          refine ⟨_, _, pre8 _ ?_, hrun, hended, _, _, rfl, ?_, ⟨_, rfl⟩, hW, hsame.mono (by decide) (by decide)⟩
          · show Steps p.tables e below (s₁.setTop (mkF m 30 #[.val (.int p1), .val (.int (p1 &&& (7 : Int32)))] [(.int (3 : Int32)), (.int (p1 &&& (7 : Int32)))])) _
            refine XS.icmpNo X0.here hx rfl (hb hby d1_30) rfl (teq hc30_7).2 ?_
            show Steps p.tables e below (s₁.setTop (mkF m 33 #[.val (.int p1), .val (.int (p1 &&& (7 : Int32)))] [])) _
            refine XS.bipush X0.here hx rfl (hb hby d1_33) ?_
            show Steps p.tables e below (s₁.setTop (mkF m 35 #[.val (.int p1), .val (.int (p1 &&& (7 : Int32)))] [(.int (35 : Int32))])) _
            exact retN X0 hx (t := .char) Bd.returns (by simp) (hb hby d1_35) hr
          · show Q_rm1 Z p1 h0 n0 _ s₁.heap _
            rw [e0]
            exact ⟨by rw [own_pick, if_neg hc6_1, if_neg hc14_3, if_neg hc22_5, if_pos hc30_7], N0, rfl⟩
        · have pre10 : ∀ t, Steps p.tables e below (s₁.setTop (mkF m 38 #[.val (.int p1), .val (.int (p1 &&& (7 : Int32)))] [(.int (4 : Int32)), (.int (p1 &&& (7 : Int32)))])) t → Steps p.tables e below (s₁.setTop (entryFrame m #[(.int p1)] 2)) t := fun t kt => by
            refine pre8 t ?_
            show Steps p.tables e below (s₁.setTop (mkF m 30 #[.val (.int p1), .val (.int (p1 &&& (7 : Int32)))] [(.int (3 : Int32)), (.int (p1 &&& (7 : Int32)))])) _
            refine XS.icmpYes X0.here hx rfl (pc0 := 30) (pc' := 36) rfl (hb hby d1_30) rfl (feq hc30_7).2 (by decide) (by decide) ?_
            show Steps p.tables e below (s₁.setTop (mkF m 36 #[.val (.int p1), .val (.int (p1 &&& (7 : Int32)))] [])) _
            refine XS.iloadN X0.here hx rfl (hb hby d1_36) rfl ?_
            show Steps p.tables e below (s₁.setTop (mkF m 37 #[.val (.int p1), .val (.int (p1 &&& (7 : Int32)))] [(.int (p1 &&& (7 : Int32)))])) _
            refine XS.iconst X0.here hx rfl (hb hby d1_37) ?_
            exact kt
          by_cases hc38_9 : (p1 &&& (7 : Int32)) = (4 : Int32)
          · obtain ⟨fs, hr, hrun, hended, hW, hsame⟩ := X0.leave (v := some (.int (97 : Int32))) (fun h => by rw [Bd.returns] at h; cases h)
            refine ⟨_, _, pre10 _ ?_, hrun, hended, _, _, rfl, ?_, ⟨_, rfl⟩, hW, hsame.mono (by decide) (by decide)⟩
            · show Steps p.tables e below (s₁.setTop (mkF m 38 #[.val (.int p1), .val (.int (p1 &&& (7 : Int32)))] [(.int (4 : Int32)), (.int (p1 &&& (7 : Int32)))])) _
              refine XS.icmpNo X0.here hx rfl (hb hby d1_38) rfl (teq hc38_9).2 ?_
              show Steps p.tables e below (s₁.setTop (mkF m 41 #[.val (.int p1), .val (.int (p1 &&& (7 : Int32)))] [])) _
              refine XS.bipush X0.here hx rfl (hb hby d1_41) ?_
              show Steps p.tables e below (s₁.setTop (mkF m 43 #[.val (.int p1), .val (.int (p1 &&& (7 : Int32)))] [(.int (97 : Int32))])) _
              exact retN X0 hx (t := .char) Bd.returns (by simp) (hb hby d1_43) hr
            · show Q_rm1 Z p1 h0 n0 _ s₁.heap _
              rw [e0]
              exact ⟨by rw [own_pick, if_neg hc6_1, if_neg hc14_3, if_neg hc22_5, if_neg hc30_7, if_pos hc38_9], N0, rfl⟩
          · have pre12 : ∀ t, Steps p.tables e below (s₁.setTop (mkF m 46 #[.val (.int p1), .val (.int (p1 &&& (7 : Int32)))] [(.int (5 : Int32)), (.int (p1 &&& (7 : Int32)))])) t → Steps p.tables e below (s₁.setTop (entryFrame m #[(.int p1)] 2)) t := fun t kt => by
              refine pre10 t ?_
              show Steps p.tables e below (s₁.setTop (mkF m 38 #[.val (.int p1), .val (.int (p1 &&& (7 : Int32)))] [(.int (4 : Int32)), (.int (p1 &&& (7 : Int32)))])) _
              refine XS.icmpYes X0.here hx rfl (pc0 := 38) (pc' := 44) rfl (hb hby d1_38) rfl (feq hc38_9).2 (by decide) (by decide) ?_
              show Steps p.tables e below (s₁.setTop (mkF m 44 #[.val (.int p1), .val (.int (p1 &&& (7 : Int32)))] [])) _
              refine XS.iloadN X0.here hx rfl (hb hby d1_44) rfl ?_
              show Steps p.tables e below (s₁.setTop (mkF m 45 #[.val (.int p1), .val (.int (p1 &&& (7 : Int32)))] [(.int (p1 &&& (7 : Int32)))])) _
              refine XS.iconst X0.here hx rfl (hb hby d1_45) ?_
              exact kt
            by_cases hc46_11 : (p1 &&& (7 : Int32)) = (5 : Int32)
            · obtain ⟨fs, hr, hrun, hended, hW, hsame⟩ := X0.leave (v := some (.int (47 : Int32))) (fun h => by rw [Bd.returns] at h; cases h)
              refine ⟨_, _, pre12 _ ?_, hrun, hended, _, _, rfl, ?_, ⟨_, rfl⟩, hW, hsame.mono (by decide) (by decide)⟩
              · show Steps p.tables e below (s₁.setTop (mkF m 46 #[.val (.int p1), .val (.int (p1 &&& (7 : Int32)))] [(.int (5 : Int32)), (.int (p1 &&& (7 : Int32)))])) _
                refine XS.icmpNo X0.here hx rfl (hb hby d1_46) rfl (teq hc46_11).2 ?_
                show Steps p.tables e below (s₁.setTop (mkF m 49 #[.val (.int p1), .val (.int (p1 &&& (7 : Int32)))] [])) _
                refine XS.bipush X0.here hx rfl (hb hby d1_49) ?_
                show Steps p.tables e below (s₁.setTop (mkF m 51 #[.val (.int p1), .val (.int (p1 &&& (7 : Int32)))] [(.int (47 : Int32))])) _
                exact retN X0 hx (t := .char) Bd.returns (by simp) (hb hby d1_51) hr
              · show Q_rm1 Z p1 h0 n0 _ s₁.heap _
                rw [e0]
                exact ⟨by rw [own_pick, if_neg hc6_1, if_neg hc14_3, if_neg hc22_5, if_neg hc30_7, if_neg hc38_9, if_pos hc46_11], N0, rfl⟩
            · have pre14 : ∀ t, Steps p.tables e below (s₁.setTop (mkF m 55 #[.val (.int p1), .val (.int (p1 &&& (7 : Int32)))] [(.int (6 : Int32)), (.int (p1 &&& (7 : Int32)))])) t → Steps p.tables e below (s₁.setTop (entryFrame m #[(.int p1)] 2)) t := fun t kt => by
                refine pre12 t ?_
                show Steps p.tables e below (s₁.setTop (mkF m 46 #[.val (.int p1), .val (.int (p1 &&& (7 : Int32)))] [(.int (5 : Int32)), (.int (p1 &&& (7 : Int32)))])) _
                refine XS.icmpYes X0.here hx rfl (pc0 := 46) (pc' := 52) rfl (hb hby d1_46) rfl (feq hc46_11).2 (by decide) (by decide) ?_
                show Steps p.tables e below (s₁.setTop (mkF m 52 #[.val (.int p1), .val (.int (p1 &&& (7 : Int32)))] [])) _
                refine XS.iloadN X0.here hx rfl (hb hby d1_52) rfl ?_
                show Steps p.tables e below (s₁.setTop (mkF m 53 #[.val (.int p1), .val (.int (p1 &&& (7 : Int32)))] [(.int (p1 &&& (7 : Int32)))])) _
                refine XS.bipush X0.here hx rfl (hb hby d1_53) ?_
                exact kt
              by_cases hc55_13 : (p1 &&& (7 : Int32)) = (6 : Int32)
              · obtain ⟨fs, hr, hrun, hended, hW, hsame⟩ := X0.leave (v := some (.int (58 : Int32))) (fun h => by rw [Bd.returns] at h; cases h)
                refine ⟨_, _, pre14 _ ?_, hrun, hended, _, _, rfl, ?_, ⟨_, rfl⟩, hW, hsame.mono (by decide) (by decide)⟩
                · show Steps p.tables e below (s₁.setTop (mkF m 55 #[.val (.int p1), .val (.int (p1 &&& (7 : Int32)))] [(.int (6 : Int32)), (.int (p1 &&& (7 : Int32)))])) _
                  refine XS.icmpNo X0.here hx rfl (hb hby d1_55) rfl (teq hc55_13).2 ?_
                  show Steps p.tables e below (s₁.setTop (mkF m 58 #[.val (.int p1), .val (.int (p1 &&& (7 : Int32)))] [])) _
                  refine XS.bipush X0.here hx rfl (hb hby d1_58) ?_
                  show Steps p.tables e below (s₁.setTop (mkF m 60 #[.val (.int p1), .val (.int (p1 &&& (7 : Int32)))] [(.int (58 : Int32))])) _
                  exact retN X0 hx (t := .char) Bd.returns (by simp) (hb hby d1_60) hr
                · show Q_rm1 Z p1 h0 n0 _ s₁.heap _
                  rw [e0]
                  exact ⟨by rw [own_pick, if_neg hc6_1, if_neg hc14_3, if_neg hc22_5, if_neg hc30_7, if_neg hc38_9, if_neg hc46_11, if_pos hc55_13], N0, rfl⟩
              · obtain ⟨fs, hr, hrun, hended, hW, hsame⟩ := X0.leave (v := some (.int (nar .char ((((p1.toUInt32 >>> ((3 : Int32) &&& 31).toUInt32).toInt32) &&& (255 : Int32)).toUInt32.toUInt16.toUInt32.toInt32)))) (fun h => by rw [Bd.returns] at h; cases h)
                refine ⟨_, _, pre14 _ ?_, hrun, hended, _, _, rfl, ?_, ⟨_, rfl⟩, hW, hsame.mono (by decide) (by decide)⟩
                · show Steps p.tables e below (s₁.setTop (mkF m 55 #[.val (.int p1), .val (.int (p1 &&& (7 : Int32)))] [(.int (6 : Int32)), (.int (p1 &&& (7 : Int32)))])) _
                  refine XS.icmpYes X0.here hx rfl (pc0 := 55) (pc' := 61) rfl (hb hby d1_55) rfl (feq hc55_13).2 (by decide) (by decide) ?_
                  show Steps p.tables e below (s₁.setTop (mkF m 61 #[.val (.int p1), .val (.int (p1 &&& (7 : Int32)))] [])) _
                  refine XS.iloadN X0.here hx rfl (hb hby d1_61) rfl ?_
                  show Steps p.tables e below (s₁.setTop (mkF m 62 #[.val (.int p1), .val (.int (p1 &&& (7 : Int32)))] [(.int p1)])) _
                  refine XS.iconst X0.here hx rfl (hb hby d1_62) ?_
                  show Steps p.tables e below (s₁.setTop (mkF m 63 #[.val (.int p1), .val (.int (p1 &&& (7 : Int32)))] [(.int (3 : Int32)), (.int p1)])) _
                  refine XS.iushr X0.here hx rfl (hb hby d1_63) rfl ?_
                  show Steps p.tables e below (s₁.setTop (mkF m 64 #[.val (.int p1), .val (.int (p1 &&& (7 : Int32)))] [(.int ((p1.toUInt32 >>> ((3 : Int32) &&& 31).toUInt32).toInt32))])) _
                  refine XS.sipush X0.here hx rfl (hb hby d1_64) ?_
                  show Steps p.tables e below (s₁.setTop (mkF m 67 #[.val (.int p1), .val (.int (p1 &&& (7 : Int32)))] [(.int (255 : Int32)), (.int ((p1.toUInt32 >>> ((3 : Int32) &&& 31).toUInt32).toInt32))])) _
                  refine XS.iand X0.here hx rfl (hb hby d1_67) rfl ?_
                  show Steps p.tables e below (s₁.setTop (mkF m 68 #[.val (.int p1), .val (.int (p1 &&& (7 : Int32)))] [(.int (((p1.toUInt32 >>> ((3 : Int32) &&& 31).toUInt32).toInt32) &&& (255 : Int32)))])) _
                  refine XS.i2c X0.here hx rfl (hb hby d1_68) rfl ?_
                  show Steps p.tables e below (s₁.setTop (mkF m 69 #[.val (.int p1), .val (.int (p1 &&& (7 : Int32)))] [(.int ((((p1.toUInt32 >>> ((3 : Int32) &&& 31).toUInt32).toInt32) &&& (255 : Int32)).toUInt32.toUInt16.toUInt32.toInt32))])) _
                  exact retN X0 hx (t := .char) Bd.returns (by simp) (hb hby d1_69) hr
                · show Q_rm1 Z p1 h0 n0 _ s₁.heap _
                  rw [e0]
                  exact ⟨by rw [own_pick, if_neg hc6_1, if_neg hc14_3, if_neg hc22_5, if_neg hc30_7, if_neg hc38_9, if_neg hc46_11, if_neg hc55_13], N0, rfl⟩
theorem own_b255 (x : Int32) : ¬ nar .char ((x &&& (255 : Int32)).toUInt32.toUInt16.toUInt32.toInt32) < 0 ∧ ¬ (255 : Int32) < nar .char ((x &&& (255 : Int32)).toUInt32.toUInt16.toUInt32.toInt32) ∧ nar .char (nar .char ((x &&& (255 : Int32)).toUInt32.toUInt16.toUInt32.toInt32)) = nar .char ((x &&& (255 : Int32)).toUInt32.toUInt16.toUInt32.toInt32) := by
  have t : ∀ k : Fin 256, ¬ nar .char ((Int32.ofNat k.val).toUInt32.toUInt16.toUInt32.toInt32) < 0 ∧ ¬ (255 : Int32) < nar .char ((Int32.ofNat k.val).toUInt32.toUInt16.toUInt32.toInt32) ∧ nar .char (nar .char ((Int32.ofNat k.val).toUInt32.toUInt16.toUInt32.toInt32)) = nar .char ((Int32.ofNat k.val).toUInt32.toUInt16.toUInt32.toInt32) := by decide +kernel
  have h : (x &&& 255).toBitVec.toNat < 256 := by
    simp only [Int32.toBitVec_and, BitVec.toNat_and]
    exact Nat.lt_succ_of_le Nat.and_le_right
  have e : (x &&& 255) = Int32.ofNat (x &&& 255).toBitVec.toNat := by
    apply Int32.toBitVec_inj.mp
    show _ = BitVec.ofNat 32 _
    rw [BitVec.ofNat_toNat]; simp
  rw [e]
  exact t ⟨_, h⟩
def own_ok (c : Int32) : Prop := ¬ c < 0 ∧ ¬ (255 : Int32) < c ∧ nar .char c = c
theorem own_pk (p : Int32) : own_ok (own_pick p) := by
  unfold own_pick
  split
  · unfold own_ok; decide
  split
  · unfold own_ok; decide
  split
  · unfold own_ok; decide
  split
  · unfold own_ok; decide
  split
  · unfold own_ok; decide
  split
  · unfold own_ok; decide
  split
  · unfold own_ok; decide
  exact own_b255 _
def own_c (p : Int32) : Int32 := nar .char (own_pick p)
theorem own_cb (p : Int32) : ¬ own_c p < 0 ∧ ¬ (255 : Int32) < own_c p := by rw [own_c, (own_pk p).2.2]; exact ⟨(own_pk p).1, (own_pk p).2.1⟩
def own_cs (p1 p2 p3 p4 p5 p6 : Int32) : List Int32 := [own_c p1, own_c p2, own_c p3, own_c p4, own_c p5, own_c p6]
theorem own_csb (p1 p2 p3 p4 p5 p6 : Int32) : ∀ c ∈ own_cs p1 p2 p3 p4 p5 p6, ¬ c < 0 ∧ ¬ (255 : Int32) < c := fun c hc => by
  simp only [own_cs, List.mem_cons, List.not_mem_nil, or_false] at hc
  rcases hc with rfl | rfl | rfl | rfl | rfl | rfl <;> exact own_cb _
theorem own_lo {c : Int32} (h : ¬ c < 0 ∧ ¬ (255 : Int32) < c) : c.toInt8.toInt32 = 47 ↔ c = 47 := by
  have t : ∀ k : Fin 256, ((Int32.ofNat k.val).toInt8.toInt32 = 47 ↔ Int32.ofNat k.val = 47) := by decide +kernel
  have e1 : (255 : Int32).toInt = 255 := by decide
  rw [Int32.lt_iff_toInt_lt, Int32.lt_iff_toInt_lt, Int32.toInt_zero, e1] at h
  have e : c = Int32.ofNat c.toInt.toNat := by
    apply Int32.toInt_inj.mp
    rw [Int32.toInt_ofNat_of_lt (by omega)]; omega
  rw [e]
  exact t ⟨c.toInt.toNat, by omega⟩
theorem own_at (cs : List Int32) (h : ∀ c ∈ cs, ¬ c < 0 ∧ ¬ (255 : Int32) < c) (j : Nat) : (cs.map (fun c => c.toInt8.toInt32)).getD j 0 = 47 ↔ cs.getD j 0 = 47 := by
  induction cs generalizing j with
  | nil => simp
  | cons a cs ih => cases j with
    | zero => simpa using own_lo (h a (List.mem_cons_self ..))
    | succ j => simpa using ih (fun c hc => h c (List.mem_cons_of_mem _ hc)) j
theorem own_ha1 {a ps : Int32} (h : a < ps) : own_ha a ps = 1 := by rw [own_ha, if_pos h]
theorem own_ha0 {a ps : Int32} (h : ¬ (a < ps)) : own_ha a ps = 0 := by rw [own_ha, if_neg h]
theorem own_l5 {a : Int32} (h0 : 0 ≤ a.toInt) (h6 : a.toInt ≤ 6) : ((a + (1 : Int32)) < (6 : Int32)) ↔ a.toInt ≤ 4 := by
  rw [Int32.lt_iff_toInt_lt, own_i6, own_inc h0 (by omega)]; omega
theorem own_of {a : Int32} (h0 : 0 ≤ a.toInt) : a = Int32.ofNat a.toInt.toNat := by
  apply Int32.toInt_inj.mp
  rw [Int32.toInt_ofNat_of_lt (by have := Int32.toInt_lt a; omega)]; omega
theorem own_of1 {a : Int32} (h0 : 0 ≤ a.toInt) (h6 : a.toInt ≤ 6) : (a + (1 : Int32)) = Int32.ofNat (a.toInt.toNat + 1) := by
  apply Int32.toInt_inj.mp
  rw [Int32.toInt_ofNat_of_lt (by omega), own_inc h0 (by omega)]; omega
theorem own_yes {cs : List Int32} {a ps : Int32} (hb : ∀ c ∈ cs, ¬ c < 0 ∧ ¬ (255 : Int32) < c) (h : ((a < ps) ↔ ¬ (own_sw (cs.map (fun c => c.toInt8.toInt32)) a = 0)) ∧ 0 ≤ a.toInt ∧ a.toInt ≤ 6) (k1 : (a + (1 : Int32)) < (6 : Int32)) (k2 : cs.getD a.toInt.toNat 0 = 47) (k3 : cs.getD (a.toInt.toNat + 1) 0 = 47) : own_ha a ps = 1 :=
  own_ha1 (h.1.mpr (own_swt h.2.1 ((own_l5 h.2.1 h.2.2).mp k1) ((own_at cs hb _).mpr k2) ((own_at cs hb _).mpr k3)))
theorem own_no {cs : List Int32} {a ps : Int32} (hb : ∀ c ∈ cs, ¬ c < 0 ∧ ¬ (255 : Int32) < c) (h : ((a < ps) ↔ ¬ (own_sw (cs.map (fun c => c.toInt8.toInt32)) a = 0)) ∧ 0 ≤ a.toInt ∧ a.toInt ≤ 6) (k : ¬ ((a + (1 : Int32)) < (6 : Int32)) ∨ ¬ (cs.getD a.toInt.toNat 0 = 47) ∨ ¬ (cs.getD (a.toInt.toNat + 1) 0 = 47)) : own_ha a ps = 0 :=
  own_ha0 fun q => by
    obtain ⟨w1, w2, w3⟩ := own_swf h.2.1 (h.1.mp q)
    rcases k with k | k | k
    · exact k ((own_l5 h.2.1 h.2.2).mpr w1)
    · exact k ((own_at cs hb _).mp w2)
    · exact k ((own_at cs hb _).mp w3)
theorem own_chS {p : Program} {l : Launch} {e : Env} {R : Room} {s : State} {args : Array Value} {below : List Frame} {len W : Nat} {Z : State} {a0 : Array Value} {h : Heap} {n0 : Nat} (hZ : Z.Warmed39 s.vm) (hw : ∀ d ∈ tables_1, d.before a0 Z = true)
    {x tb : Addr} {kb : ClassId} {cs : List Int32} {N2 : Int32} {vs : List Value} {fm : Value} {i : Nat} {j z : Int32} (E : Exa Z h x nm1) (V : Fld Z h x nm1 "value" "[B" (.ref tb)) (C : Fld Z h x nm1 "coder" "B" (.int 0)) (K : Arv Z h tb kb .byte N2 vs (.int 0)) (hc : StrChars.Road.CodA cs 0 N2 vs) (hb : ∀ c ∈ cs, ¬ c < 0 ∧ ¬ (255 : Int32) < c) (l2 : cs.length ≤ 4000)
    (S : Sta Z h nm1 "COMPACT_STRINGS" "Z" (.int z)) (hz : ¬ z = 0) (F : Sta Z h "jdk/internal/util/Preconditions" "SIOOBE_FORMATTER" "Ljava/util/function/BiFunction;" fm) (rf : fm.isRef = true) (hi : i < cs.length) (hj : j = Int32.ofNat i) (hfr : 4 ≤ R.frames) (hlo : W + 53 ≤ R.locals) :
    Back l R p e below s args (⟨nm1, "charAt", "(I)C"⟩ : MethodName) len W (fun P a => a = #[.ref x, .int j] ∧ P.U.heap = h ∧ P.cells + 0 ≤ R.cells ∧ P.slots + 0 ≤ R.slots)
      (fun P _ v B => ∃ L, (v = some (.int (cs.getD i 0)) ∧ Fr n0 L ∧ B.U.heap = h) ∧ B.locs = P.locs ++ L ∧ B.cells = P.cells + 0 ∧ B.slots = P.slots + 0) :=
  Back.mono (StrChars.Road.chN hZ (fun d hd => hw d ((by decide +kernel : ∀ d ∈ StrChars.Road.wordsChN, d ∈ tables_1) d hd)) (kI := 4) (own_w hw 6 rfl) E V C K hc (own_up _ hb) S hz F rf l2 hi hj hfr hlo) (fun _ _ h => h) (fun P a v B hp hq => by
    obtain ⟨L, ⟨q, e1, e2⟩, r⟩ := hq
    subst e1
    exact ⟨[], ⟨q, Fr.nil n0, e2⟩, r⟩)
theorem pd__28I_29C : parseMethodDescriptor "(I)C" = some ⟨[.int], some .char⟩ := by decide +kernel
theorem pd__28_5bC_29V : parseMethodDescriptor "([C)V" = some ⟨[(.array .char)], none⟩ := by decide +kernel
theorem pd__28Ljava_2flang_2fString_3b_29Lcom_2fexample_2fbasepoint_2fbasepoint_2furi_2fUriReference_24Split_3b : parseMethodDescriptor "(Ljava/lang/String;)Lcom/example/basepoint/basepoint/uri/UriReference$Split;" = some ⟨[(.object nm1)], some (.object nm0)⟩ := by decide +kernel
theorem ef_rm0 (m : MethodId) (p1 : Int32) (p2 : Int32) (p3 : Int32) (p4 : Int32) (p5 : Int32) (p6 : Int32) : entryFrame m #[(.int p1), (.int p2), (.int p3), (.int p4), (.int p5), (.int p6)] maxLocals = mkF m 0 #[.val (.int p1), .val (.int p2), .val (.int p3), .val (.int p4), .val (.int p5), .val (.int p6), .unset, .unset, .unset, .unset, .unset] [] := by first | (simp [entryFrame, mkF, argsToLocals, Value.category, maxLocals]; done) | rfl
def Q_rm0 (Z : State) (p1 : Int32) (p2 : Int32) (p3 : Int32) (p4 : Int32) (p5 : Int32) (p6 : Int32) (z0 : Int32) (ss : Addr) (ks : ClassId) (fm : Value) (h0 : Heap) (n0 : Nat) (v : Option Value) (h : Heap) (L : List Loc) (vm : Vm) : Prop := v = some (.int (1 : Int32)) ∧ Fr n0 L
set_option maxRecDepth 65536 in
set_option maxHeartbeats 40000000 in
theorem rm0 (l : Launch) (Z : State) (a0 : Array Value) (hw : ∀ d ∈ tables_1, d.before a0 Z = true) (ws : List Jvm.Cond) (p1 : Int32) (p2 : Int32) (p3 : Int32) (p4 : Int32) (p5 : Int32) (p6 : Int32) (z0 : Int32) (ss : Addr) (ks : ClassId) (fm : Value) (h0 : Heap) (n0 : Nat) (Z0 : n0 ≤ h0.size) (S_COMPACT_STRINGS : Sta Z h0 nm1 "COMPACT_STRINGS" "Z" (.int z0)) (hz : ¬ (z0 = (0 : Int32))) (S_SCHEME_STOPS : Sta Z h0 nm2 "SCHEME_STOPS" "[C" (.ref ss)) (V_ss : Arv Z h0 ss ks .char (3 : Int32) [(.int (47 : Int32)), (.int (63 : Int32)), (.int (35 : Int32))] (.int (0 : Int32))) (S_SIOOBE_FORMATTER : Sta Z h0 "jdk/internal/util/Preconditions" "SIOOBE_FORMATTER" "Ljava/util/function/BiFunction;" fm) (hn0 : h0.size ≤ n0) (hkeep : ∀ (b : Addr) (cl : Cell), Z.heap[b]? = some cl → h0[b]? = some cl) (hcw : Jvm.Lit.compactW.before a0 Z = true) (hch : Jvm.Lit.constHeld Z nm2 92) (rfm : fm.isRef = true) :
    MetFree l x (head1 (Jvm.Cond.code x code maxLocals ret :: ws) room_1) (fun a U => a = #[(.int p1), (.int p2), (.int p3), (.int p4), (.int p5), (.int p6)] ∧ Z.Warmed39 U.vm ∧ U.heap = h0 ∧ IB Z U.vm ([] : List String)) (fun _ _ _ _ _ => True) (fun _ U o U' => ∃ v L, o = .returned v ∧ Q_rm0 Z p1 p2 p3 p4 p5 p6 z0 ss ks fm h0 n0 v U'.heap L U'.vm ∧ ReturnedEndW U o U' L room_1.cells room_1.slots) := by
  refine MetFree.of_bodySF (plainFor_of_name pn_com_example_basepoint_basepoint_uri_UriReferenceSplitHasAuthorityPinLaw) hisR ?_
  intro p e s m args below meth c s₁ Bd hml0 hP hK
  obtain ⟨rfl, hZ0', hh, I0⟩ := hP
  have hZ0 : Z.Warmed39 (s.setVm s.vm).vm := hZ0'
  have hS0 : s.Since s.vm 0 := (State.WarmedH.refl s).since 0
  have hk0 : 0 ≤ h0.size := Nat.zero_le _
  have hkz : ∀ (b : Addr) (cl : Cell), Z.heap[b]? = some cl → s.heap[b]? = some cl := fun b cl q => by rw [hh]; exact hkeep b cl q
  have hfu : ∀ {L : List Loc}, Fr n0 L → Fr s.heap.size L := fun N y hy => Nat.le_trans (by rw [hh]; exact hn0) (N y hy)
  have hx := Bd.exec
  have hby := Bd.bytes
  have hml : c.maxLocals = 11 := hml0
  have hown0 : (s.setVm s.vm).vm.findClass nm3 = some m.cls := findClass_of_methodNamed Bd.named
  have hnm := (name_of_methodNamed Bd.named Bd.method).1
  have X0 : Stand p l e room_1 (s.setVm s.vm) m #[(.int p1), (.int p2), (.int p3), (.int p4), (.int p5), (.int p6)] below meth c s₁ [] 0 0 := Stand.of_body Bd
  have e0 : s₁.heap = h0 := by rw [← hh, Bd.state]; rfl
  have N0 := Fr.nil n0
  have pre0 : ∀ t, Steps p.tables e below (s₁.setTop (mkF m 0 #[.val (.int p1), .val (.int p2), .val (.int p3), .val (.int p4), .val (.int p5), .val (.int p6), .unset, .unset, .unset, .unset, .unset] [])) t → Steps p.tables e below (s₁.setTop (entryFrame m #[(.int p1), (.int p2), (.int p3), (.int p4), (.int p5), (.int p6)] maxLocals)) t := fun t k => castTop (ef_rm0 m p1 p2 p3 p4 p5 p6) k
  obtain ⟨T1, h1, k1, X1, e1, E1, A1, st1⟩ := newP X0 hx hZ0 (own_w hw 0 rfl) e0 (g := (mkF m 2 #[.val (.int p1), .val (.int p2), .val (.int p3), .val (.int p4), .val (.int p5), .val (.int p6), .unset, .unset, .unset, .unset, .unset] [(.int (6 : Int32))])) rfl (hb hby at_2) rfl (by decide) (cap := 6) (by decide) (by decide) (by decide) (by decide)
  obtain ⟨b1, g1⟩ : ∃ z, z = h0.size := ⟨_, rfl⟩
  rw [← g1] at A1 st1
  have ne_ss_b1 : ss ≠ b1 := Nat.ne_of_lt (Nat.lt_of_lt_of_le V_ss.lt (Nat.le_of_eq g1.symm))
  have g_b1 : n0 ≤ b1 := Nat.le_trans Z0 (Nat.le_of_eq g1.symm)
  have sz_b1 : h0.size ≤ b1 := Nat.le_trans (Keep.refl h0 []).1 (Nat.le_of_eq g1.symm)
  have K2 : Keep h0 h1 [] := (Keep.refl h0 []).ext E1
  have V_b1 : Arv Z h1 b1 k1 .char (6 : Int32) [(.int (0 : Int32)), (.int (0 : Int32)), (.int (0 : Int32)), (.int (0 : Int32)), (.int (0 : Int32)), (.int (0 : Int32))] (.int (0 : Int32)) := (Arv.new A1 (by decide)).pad (pad_rep [] (.int (0 : Int32)) 6)
  obtain ⟨_, _, ⟨T3, L3, k3, n3⟩, -, X3, ⟨Lc3, hQ3, l3, y3, z3⟩, st3⟩ := Jvm.LawKit.callS X1 hx (y := (⟨nm3, "pick", "(I)C"⟩ : MethodName)) hown0 (mvT hZ0 (own_w hw 1 rfl)) (mvT hZ0 (own_w hw 2 rfl)) (mvT hZ0 (own_w hw 3 rfl)) (mvT hZ0 (own_w hw 4 rfl)) (by decide) (backOf (W := 2) (rm1 l Z a0 hw [] p1 h1 n0 (Nat.le_trans Z0 K2.1) ) hZ0 (own_w hw 4 rfl) (own_w hw 3 rfl) (by decide) (by decide)) (g := (mkF m 10 #[.val (.int p1), .val (.int p2), .val (.int p3), .val (.int p4), .val (.int p5), .val (.int p6), .val (.ref b1), .unset, .unset, .unset, .unset] [(.int p1), (.int (0 : Int32)), (.ref b1)])) rfl (by rw [hml]; rfl) (argsL := [(.int p1)]) (rest := [(.int (0 : Int32)), (.ref b1)]) (lenOf pd__28I_29C rfl) rfl (by show 2 * 0 + _ ≤ _; exact Nat.le_of_eq rfl) (hb hby at_10) (fun _ _ => ⟨rfl, e1, (by decide : 1 + 0 ≤ _), (by decide : 6 + 0 ≤ _)⟩)
  dsimp only [Pt.U, Pt.locs, Pt.cells, Pt.slots] at y3 z3 st3 hQ3
  change Stand p l e _ _ m _ below meth c T3 L3 k3 n3 at X3
  change L3 = _ ++ Lc3 at l3
  subst y3 z3
  obtain ⟨rfl, N3q, e3⟩ := hQ3
  have N3 : Fr n0 L3 := l3 ▸ Fr.app N0 N3q
  obtain ⟨c4, Ac4, qc4, Sc4, Nc4, Hc4, Gc4⟩ := id V_b1
  obtain ⟨T5, h5, X5, e5, W5, st5⟩ := stC X3 hx hZ0 e3 Ac4 (j := (0 : Int32)) (inb_of Sc4 ⟨by decide, by decide⟩) (g := (mkF m 13 #[.val (.int p1), .val (.int p2), .val (.int p3), .val (.int p4), .val (.int p5), .val (.int p6), .val (.ref b1), .unset, .unset, .unset, .unset] [(.int (own_pick p1)), (.int (0 : Int32)), (.ref b1)])) rfl rfl (hb hby at_13)
  have K6 : Keep h0 h5 [] := K2.wr W5 (Or.inr sz_b1)
  have N7 := Fr.snoc X5 N3 g_b1
  have Vw5 := Arv.set Ac4 qc4 Sc4 Nc4 Hc4 Gc4 (fits_nar_char _) W5 0 rfl (Nat.le_of_ble_eq_true rfl)
  change Arv Z h5 b1 k1 .char (6 : Int32) [(.int (nar .char (own_pick p1))), (.int (0 : Int32)), (.int (0 : Int32)), (.int (0 : Int32)), (.int (0 : Int32)), (.int (0 : Int32))] (.int (0 : Int32)) at Vw5
  obtain ⟨_, _, ⟨T8, L8, k8, n8⟩, -, X8, ⟨Lc8, hQ8, l8, y8, z8⟩, st8⟩ := Jvm.LawKit.callS X5 hx (y := (⟨nm3, "pick", "(I)C"⟩ : MethodName)) hown0 (mvT hZ0 (own_w hw 1 rfl)) (mvT hZ0 (own_w hw 2 rfl)) (mvT hZ0 (own_w hw 3 rfl)) (mvT hZ0 (own_w hw 4 rfl)) (by decide) (backOf (W := 2) (rm1 l Z a0 hw [] p2 h5 n0 (Nat.le_trans Z0 K6.1) ) hZ0 (own_w hw 4 rfl) (own_w hw 3 rfl) (by decide) (by decide)) (g := (mkF m 18 #[.val (.int p1), .val (.int p2), .val (.int p3), .val (.int p4), .val (.int p5), .val (.int p6), .val (.ref b1), .unset, .unset, .unset, .unset] [(.int p2), (.int (1 : Int32)), (.ref b1)])) rfl (by rw [hml]; rfl) (argsL := [(.int p2)]) (rest := [(.int (1 : Int32)), (.ref b1)]) (lenOf pd__28I_29C rfl) rfl (by show 2 * 0 + _ ≤ _; exact Nat.le_of_eq rfl) (hb hby at_18) (fun _ _ => ⟨rfl, e5, (by decide : 1 + 0 ≤ _), (by decide : 6 + 0 ≤ _)⟩)
  dsimp only [Pt.U, Pt.locs, Pt.cells, Pt.slots] at y8 z8 st8 hQ8
  change Stand p l e _ _ m _ below meth c T8 L8 k8 n8 at X8
  change L8 = _ ++ Lc8 at l8
  subst y8 z8
  obtain ⟨rfl, N8q, e8⟩ := hQ8
  have N8 : Fr n0 L8 := l8 ▸ Fr.app N7 N8q
  obtain ⟨c9, Ac9, qc9, Sc9, Nc9, Hc9, Gc9⟩ := id Vw5
  obtain ⟨T10, h10, X10, e10, W10, st10⟩ := stC X8 hx hZ0 e8 Ac9 (j := (1 : Int32)) (inb_of Sc9 ⟨by decide, by decide⟩) (g := (mkF m 21 #[.val (.int p1), .val (.int p2), .val (.int p3), .val (.int p4), .val (.int p5), .val (.int p6), .val (.ref b1), .unset, .unset, .unset, .unset] [(.int (own_pick p2)), (.int (1 : Int32)), (.ref b1)])) rfl rfl (hb hby at_21)
  have K11 : Keep h0 h10 [] := K6.wr W10 (Or.inr sz_b1)
  have N12 := Fr.snoc X10 N8 g_b1
  have Vw10 := Arv.set Ac9 qc9 Sc9 Nc9 Hc9 Gc9 (fits_nar_char _) W10 1 rfl (Nat.le_of_ble_eq_true rfl)
  change Arv Z h10 b1 k1 .char (6 : Int32) [(.int (nar .char (own_pick p1))), (.int (nar .char (own_pick p2))), (.int (0 : Int32)), (.int (0 : Int32)), (.int (0 : Int32)), (.int (0 : Int32))] (.int (0 : Int32)) at Vw10
  obtain ⟨_, _, ⟨T13, L13, k13, n13⟩, -, X13, ⟨Lc13, hQ13, l13, y13, z13⟩, st13⟩ := Jvm.LawKit.callS X10 hx (y := (⟨nm3, "pick", "(I)C"⟩ : MethodName)) hown0 (mvT hZ0 (own_w hw 1 rfl)) (mvT hZ0 (own_w hw 2 rfl)) (mvT hZ0 (own_w hw 3 rfl)) (mvT hZ0 (own_w hw 4 rfl)) (by decide) (backOf (W := 2) (rm1 l Z a0 hw [] p3 h10 n0 (Nat.le_trans Z0 K11.1) ) hZ0 (own_w hw 4 rfl) (own_w hw 3 rfl) (by decide) (by decide)) (g := (mkF m 26 #[.val (.int p1), .val (.int p2), .val (.int p3), .val (.int p4), .val (.int p5), .val (.int p6), .val (.ref b1), .unset, .unset, .unset, .unset] [(.int p3), (.int (2 : Int32)), (.ref b1)])) rfl (by rw [hml]; rfl) (argsL := [(.int p3)]) (rest := [(.int (2 : Int32)), (.ref b1)]) (lenOf pd__28I_29C rfl) rfl (by show 2 * 0 + _ ≤ _; exact Nat.le_of_eq rfl) (hb hby at_26) (fun _ _ => ⟨rfl, e10, (by decide : 1 + 0 ≤ _), (by decide : 6 + 0 ≤ _)⟩)
  dsimp only [Pt.U, Pt.locs, Pt.cells, Pt.slots] at y13 z13 st13 hQ13
  change Stand p l e _ _ m _ below meth c T13 L13 k13 n13 at X13
  change L13 = _ ++ Lc13 at l13
  subst y13 z13
  obtain ⟨rfl, N13q, e13⟩ := hQ13
  have N13 : Fr n0 L13 := l13 ▸ Fr.app N12 N13q
  obtain ⟨c14, Ac14, qc14, Sc14, Nc14, Hc14, Gc14⟩ := id Vw10
  obtain ⟨T15, h15, X15, e15, W15, st15⟩ := stC X13 hx hZ0 e13 Ac14 (j := (2 : Int32)) (inb_of Sc14 ⟨by decide, by decide⟩) (g := (mkF m 29 #[.val (.int p1), .val (.int p2), .val (.int p3), .val (.int p4), .val (.int p5), .val (.int p6), .val (.ref b1), .unset, .unset, .unset, .unset] [(.int (own_pick p3)), (.int (2 : Int32)), (.ref b1)])) rfl rfl (hb hby at_29)
  have K16 : Keep h0 h15 [] := K11.wr W15 (Or.inr sz_b1)
  have N17 := Fr.snoc X15 N13 g_b1
  have Vw15 := Arv.set Ac14 qc14 Sc14 Nc14 Hc14 Gc14 (fits_nar_char _) W15 2 rfl (Nat.le_of_ble_eq_true rfl)
  change Arv Z h15 b1 k1 .char (6 : Int32) [(.int (nar .char (own_pick p1))), (.int (nar .char (own_pick p2))), (.int (nar .char (own_pick p3))), (.int (0 : Int32)), (.int (0 : Int32)), (.int (0 : Int32))] (.int (0 : Int32)) at Vw15
  obtain ⟨_, _, ⟨T18, L18, k18, n18⟩, -, X18, ⟨Lc18, hQ18, l18, y18, z18⟩, st18⟩ := Jvm.LawKit.callS X15 hx (y := (⟨nm3, "pick", "(I)C"⟩ : MethodName)) hown0 (mvT hZ0 (own_w hw 1 rfl)) (mvT hZ0 (own_w hw 2 rfl)) (mvT hZ0 (own_w hw 3 rfl)) (mvT hZ0 (own_w hw 4 rfl)) (by decide) (backOf (W := 2) (rm1 l Z a0 hw [] p4 h15 n0 (Nat.le_trans Z0 K16.1) ) hZ0 (own_w hw 4 rfl) (own_w hw 3 rfl) (by decide) (by decide)) (g := (mkF m 34 #[.val (.int p1), .val (.int p2), .val (.int p3), .val (.int p4), .val (.int p5), .val (.int p6), .val (.ref b1), .unset, .unset, .unset, .unset] [(.int p4), (.int (3 : Int32)), (.ref b1)])) rfl (by rw [hml]; rfl) (argsL := [(.int p4)]) (rest := [(.int (3 : Int32)), (.ref b1)]) (lenOf pd__28I_29C rfl) rfl (by show 2 * 0 + _ ≤ _; exact Nat.le_of_eq rfl) (hb hby at_34) (fun _ _ => ⟨rfl, e15, (by decide : 1 + 0 ≤ _), (by decide : 6 + 0 ≤ _)⟩)
  dsimp only [Pt.U, Pt.locs, Pt.cells, Pt.slots] at y18 z18 st18 hQ18
  change Stand p l e _ _ m _ below meth c T18 L18 k18 n18 at X18
  change L18 = _ ++ Lc18 at l18
  subst y18 z18
  obtain ⟨rfl, N18q, e18⟩ := hQ18
  have N18 : Fr n0 L18 := l18 ▸ Fr.app N17 N18q
  obtain ⟨c19, Ac19, qc19, Sc19, Nc19, Hc19, Gc19⟩ := id Vw15
  obtain ⟨T20, h20, X20, e20, W20, st20⟩ := stC X18 hx hZ0 e18 Ac19 (j := (3 : Int32)) (inb_of Sc19 ⟨by decide, by decide⟩) (g := (mkF m 37 #[.val (.int p1), .val (.int p2), .val (.int p3), .val (.int p4), .val (.int p5), .val (.int p6), .val (.ref b1), .unset, .unset, .unset, .unset] [(.int (own_pick p4)), (.int (3 : Int32)), (.ref b1)])) rfl rfl (hb hby at_37)
  have K21 : Keep h0 h20 [] := K16.wr W20 (Or.inr sz_b1)
  have N22 := Fr.snoc X20 N18 g_b1
  have Vw20 := Arv.set Ac19 qc19 Sc19 Nc19 Hc19 Gc19 (fits_nar_char _) W20 3 rfl (Nat.le_of_ble_eq_true rfl)
  change Arv Z h20 b1 k1 .char (6 : Int32) [(.int (nar .char (own_pick p1))), (.int (nar .char (own_pick p2))), (.int (nar .char (own_pick p3))), (.int (nar .char (own_pick p4))), (.int (0 : Int32)), (.int (0 : Int32))] (.int (0 : Int32)) at Vw20
  obtain ⟨_, _, ⟨T23, L23, k23, n23⟩, -, X23, ⟨Lc23, hQ23, l23, y23, z23⟩, st23⟩ := Jvm.LawKit.callS X20 hx (y := (⟨nm3, "pick", "(I)C"⟩ : MethodName)) hown0 (mvT hZ0 (own_w hw 1 rfl)) (mvT hZ0 (own_w hw 2 rfl)) (mvT hZ0 (own_w hw 3 rfl)) (mvT hZ0 (own_w hw 4 rfl)) (by decide) (backOf (W := 2) (rm1 l Z a0 hw [] p5 h20 n0 (Nat.le_trans Z0 K21.1) ) hZ0 (own_w hw 4 rfl) (own_w hw 3 rfl) (by decide) (by decide)) (g := (mkF m 43 #[.val (.int p1), .val (.int p2), .val (.int p3), .val (.int p4), .val (.int p5), .val (.int p6), .val (.ref b1), .unset, .unset, .unset, .unset] [(.int p5), (.int (4 : Int32)), (.ref b1)])) rfl (by rw [hml]; rfl) (argsL := [(.int p5)]) (rest := [(.int (4 : Int32)), (.ref b1)]) (lenOf pd__28I_29C rfl) rfl (by show 2 * 0 + _ ≤ _; exact Nat.le_of_eq rfl) (hb hby at_43) (fun _ _ => ⟨rfl, e20, (by decide : 1 + 0 ≤ _), (by decide : 6 + 0 ≤ _)⟩)
  dsimp only [Pt.U, Pt.locs, Pt.cells, Pt.slots] at y23 z23 st23 hQ23
  change Stand p l e _ _ m _ below meth c T23 L23 k23 n23 at X23
  change L23 = _ ++ Lc23 at l23
  subst y23 z23
  obtain ⟨rfl, N23q, e23⟩ := hQ23
  have N23 : Fr n0 L23 := l23 ▸ Fr.app N22 N23q
  obtain ⟨c24, Ac24, qc24, Sc24, Nc24, Hc24, Gc24⟩ := id Vw20
  obtain ⟨T25, h25, X25, e25, W25, st25⟩ := stC X23 hx hZ0 e23 Ac24 (j := (4 : Int32)) (inb_of Sc24 ⟨by decide, by decide⟩) (g := (mkF m 46 #[.val (.int p1), .val (.int p2), .val (.int p3), .val (.int p4), .val (.int p5), .val (.int p6), .val (.ref b1), .unset, .unset, .unset, .unset] [(.int (own_pick p5)), (.int (4 : Int32)), (.ref b1)])) rfl rfl (hb hby at_46)
  have K26 : Keep h0 h25 [] := K21.wr W25 (Or.inr sz_b1)
  have N27 := Fr.snoc X25 N23 g_b1
  have Vw25 := Arv.set Ac24 qc24 Sc24 Nc24 Hc24 Gc24 (fits_nar_char _) W25 4 rfl (Nat.le_of_ble_eq_true rfl)
  change Arv Z h25 b1 k1 .char (6 : Int32) [(.int (nar .char (own_pick p1))), (.int (nar .char (own_pick p2))), (.int (nar .char (own_pick p3))), (.int (nar .char (own_pick p4))), (.int (nar .char (own_pick p5))), (.int (0 : Int32))] (.int (0 : Int32)) at Vw25
  obtain ⟨_, _, ⟨T28, L28, k28, n28⟩, -, X28, ⟨Lc28, hQ28, l28, y28, z28⟩, st28⟩ := Jvm.LawKit.callS X25 hx (y := (⟨nm3, "pick", "(I)C"⟩ : MethodName)) hown0 (mvT hZ0 (own_w hw 1 rfl)) (mvT hZ0 (own_w hw 2 rfl)) (mvT hZ0 (own_w hw 3 rfl)) (mvT hZ0 (own_w hw 4 rfl)) (by decide) (backOf (W := 2) (rm1 l Z a0 hw [] p6 h25 n0 (Nat.le_trans Z0 K26.1) ) hZ0 (own_w hw 4 rfl) (own_w hw 3 rfl) (by decide) (by decide)) (g := (mkF m 52 #[.val (.int p1), .val (.int p2), .val (.int p3), .val (.int p4), .val (.int p5), .val (.int p6), .val (.ref b1), .unset, .unset, .unset, .unset] [(.int p6), (.int (5 : Int32)), (.ref b1)])) rfl (by rw [hml]; rfl) (argsL := [(.int p6)]) (rest := [(.int (5 : Int32)), (.ref b1)]) (lenOf pd__28I_29C rfl) rfl (by show 2 * 0 + _ ≤ _; exact Nat.le_of_eq rfl) (hb hby at_52) (fun _ _ => ⟨rfl, e25, (by decide : 1 + 0 ≤ _), (by decide : 6 + 0 ≤ _)⟩)
  dsimp only [Pt.U, Pt.locs, Pt.cells, Pt.slots] at y28 z28 st28 hQ28
  change Stand p l e _ _ m _ below meth c T28 L28 k28 n28 at X28
  change L28 = _ ++ Lc28 at l28
  subst y28 z28
  obtain ⟨rfl, N28q, e28⟩ := hQ28
  have N28 : Fr n0 L28 := l28 ▸ Fr.app N27 N28q
  obtain ⟨c29, Ac29, qc29, Sc29, Nc29, Hc29, Gc29⟩ := id Vw25
  obtain ⟨T30, h30, X30, e30, W30, st30⟩ := stC X28 hx hZ0 e28 Ac29 (j := (5 : Int32)) (inb_of Sc29 ⟨by decide, by decide⟩) (g := (mkF m 55 #[.val (.int p1), .val (.int p2), .val (.int p3), .val (.int p4), .val (.int p5), .val (.int p6), .val (.ref b1), .unset, .unset, .unset, .unset] [(.int (own_pick p6)), (.int (5 : Int32)), (.ref b1)])) rfl rfl (hb hby at_55)
  have K31 : Keep h0 h30 [] := K26.wr W30 (Or.inr sz_b1)
  have N32 := Fr.snoc X30 N28 g_b1
  have Vw30 := Arv.set Ac29 qc29 Sc29 Nc29 Hc29 Gc29 (fits_nar_char _) W30 5 rfl (Nat.le_of_ble_eq_true rfl)
  change Arv Z h30 b1 k1 .char (6 : Int32) [(.int (nar .char (own_pick p1))), (.int (nar .char (own_pick p2))), (.int (nar .char (own_pick p3))), (.int (nar .char (own_pick p4))), (.int (nar .char (own_pick p5))), (.int (nar .char (own_pick p6)))] (.int (0 : Int32)) at Vw30
  have f33 : Arv Z h30 ss ks .char (3 : Int32) [(.int (47 : Int32)), (.int (63 : Int32)), (.int (35 : Int32))] (.int (0 : Int32)) := (((((((V_ss.ext E1).other W5 ne_ss_b1).other W10 ne_ss_b1).other W15 ne_ss_b1).other W20 ne_ss_b1).other W25 ne_ss_b1).other W30 ne_ss_b1)
  obtain ⟨T34, h34, X34, e34, E34, A34, D34, -, st34⟩ := newO X30 hx hZ0 hown0 (own_w hw 5 rfl) (own_w hw 6 rfl) (own_w hw 7 rfl) e30 (g := (mkF m 56 #[.val (.int p1), .val (.int p2), .val (.int p3), .val (.int p4), .val (.int p5), .val (.int p6), .val (.ref b1), .unset, .unset, .unset, .unset] [])) rfl (hb hby at_56) (by decide) (by decide)
  obtain ⟨b34, g34⟩ : ∃ z, z = h30.size := ⟨_, rfl⟩
  rw [← g34] at A34 D34 st34
  have ne_b1_b34 : b1 ≠ b34 := Nat.ne_of_lt (Nat.lt_of_lt_of_le Vw30.lt (Nat.le_of_eq g34.symm))
  have ne_ss_b34 : ss ≠ b34 := Nat.ne_of_lt (Nat.lt_of_lt_of_le f33.lt (Nat.le_of_eq g34.symm))
  have g_b34 : n0 ≤ b34 := Nat.le_trans (Nat.le_trans Z0 K31.1) (Nat.le_of_eq g34.symm)
  have sz_b34 : h0.size ≤ b34 := Nat.le_trans K31.1 (Nat.le_of_eq g34.symm)
  have K35 : Keep h0 h34 [] := K31.ext E34
  have F_coder_b34 : Fld Z h34 b34 nm1 "coder" "B" (.int (0 : Int32)) := D34 (Or.inr (own_w hw 31 rfl)) (ty := .byte) (by decide)
  have F_value_b34 : Fld Z h34 b34 nm1 "value" "[B" .null := D34 (Or.inr (own_w hw 33 rfl)) (ty := (.array .byte)) (by decide)
  have f37 : Arv Z h34 b1 k1 .char (6 : Int32) [(.int (nar .char (own_pick p1))), (.int (nar .char (own_pick p2))), (.int (nar .char (own_pick p3))), (.int (nar .char (own_pick p4))), (.int (nar .char (own_pick p5))), (.int (nar .char (own_pick p6)))] (.int (0 : Int32)) := (Vw30.ext E34)
  have f38 : Sta Z h34 nm1 "COMPACT_STRINGS" "Z" (.int z0) := ((((((((S_COMPACT_STRINGS.ext E1).wr W5).wr W10).wr W15).wr W20).wr W25).wr W30).ext E34)
  have f39 : Arv Z h34 ss ks .char (3 : Int32) [(.int (47 : Int32)), (.int (63 : Int32)), (.int (35 : Int32))] (.int (0 : Int32)) := (f33.ext E34)
  obtain ⟨_, _, ⟨T36, L36, k36, n36⟩, -, X36, ⟨Lc36, hQ36, l36, y36, z36⟩, st36⟩ := X34.specialBack hx (y := (⟨nm1, "<init>", "([C)V"⟩ : MethodName)) rfl hown0 (mvT hZ0 (own_w hw 8 rfl)) (mvT hZ0 (own_w hw 9 rfl)) (mvT hZ0 (own_w hw 10 rfl)) (by decide) (own_mkS (W := 1) hZ0 hw (cs := (own_cs p1 p2 p3 p4 p5 p6)) (n := 6) g_b34 (Nat.le_trans Z0 K35.1) A34 F_value_b34 F_coder_b34 f37 f38 hz rfl rfl (by decide) (by decide) (own_csb p1 p2 p3 p4 p5 p6) (by decide) (by decide)) (g := (mkF m 62 #[.val (.int p1), .val (.int p2), .val (.int p3), .val (.int p4), .val (.int p5), .val (.int p6), .val (.ref b1), .unset, .unset, .unset, .unset] [(.ref b1), (.ref b34), (.ref b34)])) rfl (by rw [hml]; rfl) (Steps.refl _) (a := b34) (argsL := [(.ref b1)]) (rest := [(.ref b34)]) (lenOf pd__28_5bC_29V rfl) rfl (by show 2 * 0 + _ ≤ _; exact Nat.le_of_eq rfl) (hb hby at_62) (fun _ _ => ⟨rfl, e34, (by decide : 2 + 1 ≤ _), (by decide : 10 + 6 ≤ _)⟩)
  dsimp only [Pt.U, Pt.locs, Pt.cells, Pt.slots] at y36 z36 st36 hQ36
  change Stand p l e _ _ m _ below meth c T36 L36 k36 n36 at X36
  change L36 = _ ++ Lc36 at l36
  subst y36 z36
  obtain ⟨t_36, kb_36, rfl, N36q, K36q, t36_0, t36_1, t36_2, t36_3, t36_4, t36_5⟩ := hQ36
  have N36 : Fr n0 L36 := l36 ▸ Fr.app N32 N36q
  have K36 : Keep h0 T36.heap [] := K35.trans K36q (allS (P := fun xz => xz ∈ [] ∨ h0.size ≤ xz) (Or.inr sz_b34) all0)
  have ne_b1_t_36 : b1 ≠ t_36 := Nat.ne_of_lt (Nat.lt_of_lt_of_le f37.lt t36_1)
  have ne_b34_t_36 : b34 ≠ t_36 := Nat.ne_of_lt (Nat.lt_of_lt_of_le A34.lt t36_1)
  have ne_ss_t_36 : ss ≠ t_36 := Nat.ne_of_lt (Nat.lt_of_lt_of_le f39.lt t36_1)
  have sz_t_36 : h0.size ≤ t_36 := Nat.le_trans K35.1 t36_1
  have pre40 : ∀ t, Steps p.tables e below (T36.setTop (mkF m 65 #[.val (.int p1), .val (.int p2), .val (.int p3), .val (.int p4), .val (.int p5), .val (.int p6), .val (.ref b1), .unset, .unset, .unset, .unset] [(.ref b34)])) t → Steps p.tables e below (s₁.setTop (entryFrame m #[(.int p1), (.int p2), (.int p3), (.int p4), (.int p5), (.int p6)] maxLocals)) t := fun t kt => by
    refine pre0 t ?_
    show Steps p.tables e below (s₁.setTop (mkF m 0 #[.val (.int p1), .val (.int p2), .val (.int p3), .val (.int p4), .val (.int p5), .val (.int p6), .unset, .unset, .unset, .unset, .unset] [])) _
    refine XS.bipush X0.here hx rfl (hb hby at_0) ?_
    show Steps p.tables e below (s₁.setTop (mkF m 2 #[.val (.int p1), .val (.int p2), .val (.int p3), .val (.int p4), .val (.int p5), .val (.int p6), .unset, .unset, .unset, .unset, .unset] [(.int (6 : Int32))])) _
    refine st1 _ ?_
    show Steps p.tables e below (T1.setTop (mkF m 4 #[.val (.int p1), .val (.int p2), .val (.int p3), .val (.int p4), .val (.int p5), .val (.int p6), .unset, .unset, .unset, .unset, .unset] [(.ref b1)])) _
    refine XS.astore X1.here hx rfl (hb hby at_4) rfl rfl (l' := #[.val (.int p1), .val (.int p2), .val (.int p3), .val (.int p4), .val (.int p5), .val (.int p6), .val (.ref b1), .unset, .unset, .unset, .unset]) rfl ?_
    show Steps p.tables e below (T1.setTop (mkF m 6 #[.val (.int p1), .val (.int p2), .val (.int p3), .val (.int p4), .val (.int p5), .val (.int p6), .val (.ref b1), .unset, .unset, .unset, .unset] [])) _
    refine XS.aload X1.here hx rfl (hb hby at_6) rfl rfl ?_
    show Steps p.tables e below (T1.setTop (mkF m 8 #[.val (.int p1), .val (.int p2), .val (.int p3), .val (.int p4), .val (.int p5), .val (.int p6), .val (.ref b1), .unset, .unset, .unset, .unset] [(.ref b1)])) _
    refine XS.iconst X1.here hx rfl (hb hby at_8) ?_
    show Steps p.tables e below (T1.setTop (mkF m 9 #[.val (.int p1), .val (.int p2), .val (.int p3), .val (.int p4), .val (.int p5), .val (.int p6), .val (.ref b1), .unset, .unset, .unset, .unset] [(.int (0 : Int32)), (.ref b1)])) _
    refine XS.iloadN X1.here hx rfl (hb hby at_9) rfl ?_
    show Steps p.tables e below (T1.setTop (mkF m 10 #[.val (.int p1), .val (.int p2), .val (.int p3), .val (.int p4), .val (.int p5), .val (.int p6), .val (.ref b1), .unset, .unset, .unset, .unset] [(.int p1), (.int (0 : Int32)), (.ref b1)])) _
    refine st3 _ ?_
    show Steps p.tables e below (T3.setTop (mkF m 13 #[.val (.int p1), .val (.int p2), .val (.int p3), .val (.int p4), .val (.int p5), .val (.int p6), .val (.ref b1), .unset, .unset, .unset, .unset] [(.int (own_pick p1)), (.int (0 : Int32)), (.ref b1)])) _
    refine st5 _ ?_
    show Steps p.tables e below (T5.setTop (mkF m 14 #[.val (.int p1), .val (.int p2), .val (.int p3), .val (.int p4), .val (.int p5), .val (.int p6), .val (.ref b1), .unset, .unset, .unset, .unset] [])) _
    refine XS.aload X5.here hx rfl (hb hby at_14) rfl rfl ?_
    show Steps p.tables e below (T5.setTop (mkF m 16 #[.val (.int p1), .val (.int p2), .val (.int p3), .val (.int p4), .val (.int p5), .val (.int p6), .val (.ref b1), .unset, .unset, .unset, .unset] [(.ref b1)])) _
    refine XS.iconst X5.here hx rfl (hb hby at_16) ?_
    show Steps p.tables e below (T5.setTop (mkF m 17 #[.val (.int p1), .val (.int p2), .val (.int p3), .val (.int p4), .val (.int p5), .val (.int p6), .val (.ref b1), .unset, .unset, .unset, .unset] [(.int (1 : Int32)), (.ref b1)])) _
    refine XS.iloadN X5.here hx rfl (hb hby at_17) rfl ?_
    show Steps p.tables e below (T5.setTop (mkF m 18 #[.val (.int p1), .val (.int p2), .val (.int p3), .val (.int p4), .val (.int p5), .val (.int p6), .val (.ref b1), .unset, .unset, .unset, .unset] [(.int p2), (.int (1 : Int32)), (.ref b1)])) _
    refine st8 _ ?_
    show Steps p.tables e below (T8.setTop (mkF m 21 #[.val (.int p1), .val (.int p2), .val (.int p3), .val (.int p4), .val (.int p5), .val (.int p6), .val (.ref b1), .unset, .unset, .unset, .unset] [(.int (own_pick p2)), (.int (1 : Int32)), (.ref b1)])) _
    refine st10 _ ?_
    show Steps p.tables e below (T10.setTop (mkF m 22 #[.val (.int p1), .val (.int p2), .val (.int p3), .val (.int p4), .val (.int p5), .val (.int p6), .val (.ref b1), .unset, .unset, .unset, .unset] [])) _
    refine XS.aload X10.here hx rfl (hb hby at_22) rfl rfl ?_
    show Steps p.tables e below (T10.setTop (mkF m 24 #[.val (.int p1), .val (.int p2), .val (.int p3), .val (.int p4), .val (.int p5), .val (.int p6), .val (.ref b1), .unset, .unset, .unset, .unset] [(.ref b1)])) _
    refine XS.iconst X10.here hx rfl (hb hby at_24) ?_
    show Steps p.tables e below (T10.setTop (mkF m 25 #[.val (.int p1), .val (.int p2), .val (.int p3), .val (.int p4), .val (.int p5), .val (.int p6), .val (.ref b1), .unset, .unset, .unset, .unset] [(.int (2 : Int32)), (.ref b1)])) _
    refine XS.iloadN X10.here hx rfl (hb hby at_25) rfl ?_
    show Steps p.tables e below (T10.setTop (mkF m 26 #[.val (.int p1), .val (.int p2), .val (.int p3), .val (.int p4), .val (.int p5), .val (.int p6), .val (.ref b1), .unset, .unset, .unset, .unset] [(.int p3), (.int (2 : Int32)), (.ref b1)])) _
    refine st13 _ ?_
    show Steps p.tables e below (T13.setTop (mkF m 29 #[.val (.int p1), .val (.int p2), .val (.int p3), .val (.int p4), .val (.int p5), .val (.int p6), .val (.ref b1), .unset, .unset, .unset, .unset] [(.int (own_pick p3)), (.int (2 : Int32)), (.ref b1)])) _
    refine st15 _ ?_
    show Steps p.tables e below (T15.setTop (mkF m 30 #[.val (.int p1), .val (.int p2), .val (.int p3), .val (.int p4), .val (.int p5), .val (.int p6), .val (.ref b1), .unset, .unset, .unset, .unset] [])) _
    refine XS.aload X15.here hx rfl (hb hby at_30) rfl rfl ?_
    show Steps p.tables e below (T15.setTop (mkF m 32 #[.val (.int p1), .val (.int p2), .val (.int p3), .val (.int p4), .val (.int p5), .val (.int p6), .val (.ref b1), .unset, .unset, .unset, .unset] [(.ref b1)])) _
    refine XS.iconst X15.here hx rfl (hb hby at_32) ?_
    show Steps p.tables e below (T15.setTop (mkF m 33 #[.val (.int p1), .val (.int p2), .val (.int p3), .val (.int p4), .val (.int p5), .val (.int p6), .val (.ref b1), .unset, .unset, .unset, .unset] [(.int (3 : Int32)), (.ref b1)])) _
    refine XS.iloadN X15.here hx rfl (hb hby at_33) rfl ?_
    show Steps p.tables e below (T15.setTop (mkF m 34 #[.val (.int p1), .val (.int p2), .val (.int p3), .val (.int p4), .val (.int p5), .val (.int p6), .val (.ref b1), .unset, .unset, .unset, .unset] [(.int p4), (.int (3 : Int32)), (.ref b1)])) _
    refine st18 _ ?_
    show Steps p.tables e below (T18.setTop (mkF m 37 #[.val (.int p1), .val (.int p2), .val (.int p3), .val (.int p4), .val (.int p5), .val (.int p6), .val (.ref b1), .unset, .unset, .unset, .unset] [(.int (own_pick p4)), (.int (3 : Int32)), (.ref b1)])) _
    refine st20 _ ?_
    show Steps p.tables e below (T20.setTop (mkF m 38 #[.val (.int p1), .val (.int p2), .val (.int p3), .val (.int p4), .val (.int p5), .val (.int p6), .val (.ref b1), .unset, .unset, .unset, .unset] [])) _
    refine XS.aload X20.here hx rfl (hb hby at_38) rfl rfl ?_
    show Steps p.tables e below (T20.setTop (mkF m 40 #[.val (.int p1), .val (.int p2), .val (.int p3), .val (.int p4), .val (.int p5), .val (.int p6), .val (.ref b1), .unset, .unset, .unset, .unset] [(.ref b1)])) _
    refine XS.iconst X20.here hx rfl (hb hby at_40) ?_
    show Steps p.tables e below (T20.setTop (mkF m 41 #[.val (.int p1), .val (.int p2), .val (.int p3), .val (.int p4), .val (.int p5), .val (.int p6), .val (.ref b1), .unset, .unset, .unset, .unset] [(.int (4 : Int32)), (.ref b1)])) _
    refine XS.iload X20.here hx rfl (hb hby at_41) rfl ?_
    show Steps p.tables e below (T20.setTop (mkF m 43 #[.val (.int p1), .val (.int p2), .val (.int p3), .val (.int p4), .val (.int p5), .val (.int p6), .val (.ref b1), .unset, .unset, .unset, .unset] [(.int p5), (.int (4 : Int32)), (.ref b1)])) _
    refine st23 _ ?_
    show Steps p.tables e below (T23.setTop (mkF m 46 #[.val (.int p1), .val (.int p2), .val (.int p3), .val (.int p4), .val (.int p5), .val (.int p6), .val (.ref b1), .unset, .unset, .unset, .unset] [(.int (own_pick p5)), (.int (4 : Int32)), (.ref b1)])) _
    refine st25 _ ?_
    show Steps p.tables e below (T25.setTop (mkF m 47 #[.val (.int p1), .val (.int p2), .val (.int p3), .val (.int p4), .val (.int p5), .val (.int p6), .val (.ref b1), .unset, .unset, .unset, .unset] [])) _
    refine XS.aload X25.here hx rfl (hb hby at_47) rfl rfl ?_
    show Steps p.tables e below (T25.setTop (mkF m 49 #[.val (.int p1), .val (.int p2), .val (.int p3), .val (.int p4), .val (.int p5), .val (.int p6), .val (.ref b1), .unset, .unset, .unset, .unset] [(.ref b1)])) _
    refine XS.iconst X25.here hx rfl (hb hby at_49) ?_
    show Steps p.tables e below (T25.setTop (mkF m 50 #[.val (.int p1), .val (.int p2), .val (.int p3), .val (.int p4), .val (.int p5), .val (.int p6), .val (.ref b1), .unset, .unset, .unset, .unset] [(.int (5 : Int32)), (.ref b1)])) _
    refine XS.iload X25.here hx rfl (hb hby at_50) rfl ?_
    show Steps p.tables e below (T25.setTop (mkF m 52 #[.val (.int p1), .val (.int p2), .val (.int p3), .val (.int p4), .val (.int p5), .val (.int p6), .val (.ref b1), .unset, .unset, .unset, .unset] [(.int p6), (.int (5 : Int32)), (.ref b1)])) _
    refine st28 _ ?_
    show Steps p.tables e below (T28.setTop (mkF m 55 #[.val (.int p1), .val (.int p2), .val (.int p3), .val (.int p4), .val (.int p5), .val (.int p6), .val (.ref b1), .unset, .unset, .unset, .unset] [(.int (own_pick p6)), (.int (5 : Int32)), (.ref b1)])) _
    refine st30 _ ?_
    show Steps p.tables e below (T30.setTop (mkF m 56 #[.val (.int p1), .val (.int p2), .val (.int p3), .val (.int p4), .val (.int p5), .val (.int p6), .val (.ref b1), .unset, .unset, .unset, .unset] [])) _
    refine st34 _ ?_
    show Steps p.tables e below (T34.setTop (mkF m 59 #[.val (.int p1), .val (.int p2), .val (.int p3), .val (.int p4), .val (.int p5), .val (.int p6), .val (.ref b1), .unset, .unset, .unset, .unset] [(.ref b34)])) _
    refine XS.dup X34.here hx rfl (hb hby at_59) rfl rfl ?_
    show Steps p.tables e below (T34.setTop (mkF m 60 #[.val (.int p1), .val (.int p2), .val (.int p3), .val (.int p4), .val (.int p5), .val (.int p6), .val (.ref b1), .unset, .unset, .unset, .unset] [(.ref b34), (.ref b34)])) _
    refine XS.aload X34.here hx rfl (hb hby at_60) rfl rfl ?_
    show Steps p.tables e below (T34.setTop (mkF m 62 #[.val (.int p1), .val (.int p2), .val (.int p3), .val (.int p4), .val (.int p5), .val (.int p6), .val (.ref b1), .unset, .unset, .unset, .unset] [(.ref b1), (.ref b34), (.ref b34)])) _
    refine st36.trans ?_
    exact kt
  have f41 : Sta Z T36.heap nm1 "COMPACT_STRINGS" "Z" (.int z0) := (own_staKeep f38 K36q (own_nsE A34 own_ns0))
  have f42 : Sta Z T36.heap nm2 "SCHEME_STOPS" "[C" (.ref ss) := (own_staKeep ((((((((S_SCHEME_STOPS.ext E1).wr W5).wr W10).wr W15).wr W20).wr W25).wr W30).ext E34) K36q (own_nsE A34 own_ns0))
  have f43 : Arv Z T36.heap ss ks .char (3 : Int32) [(.int (47 : Int32)), (.int (63 : Int32)), (.int (35 : Int32))] (.int (0 : Int32)) := (f39.keep K36q (ninS ne_ss_b34 nin0))
  have f45 : Arv Z T36.heap b1 k1 .char (6 : Int32) [(.int (nar .char (own_pick p1))), (.int (nar .char (own_pick p2))), (.int (nar .char (own_pick p3))), (.int (nar .char (own_pick p4))), (.int (nar .char (own_pick p5))), (.int (nar .char (own_pick p6)))] (.int (0 : Int32)) := (f37.keep K36q (ninS ne_b1_b34 nin0))
  obtain ⟨_, _, ⟨T44, L44, k44, n44⟩, -, X44, hs44, hg44, ⟨Lc44, hQ44, l44, y44, z44⟩, st44⟩ := callSS X36 hx (y := (⟨nm2, "split", "(Ljava/lang/String;)Lcom/example/basepoint/basepoint/uri/UriReference$Split;"⟩ : MethodName)) hown0 (mvT hZ0 (own_w hw 34 rfl)) (mvT hZ0 (own_w hw 35 rfl)) (mvT hZ0 (own_w hw 36 rfl)) (mvT hZ0 (own_w hw 37 rfl)) (by decide) (own_backS (W := 0) (rm8 l Z a0 hw [] b34 t_36 kb_36 ((own_cs p1 p2 p3 p4 p5 p6).map (fun c => c.toInt8.toInt32)) z0 ss ks ([] : List String) T36.heap (Array.size T36.heap) (Nat.le_refl _) t36_2 t36_4 t36_3 t36_5 f41 hz f42 f43 (Nat.le_refl _) (fun b cl q => K36.2.1 b cl (hkeep b cl q) (fun h => nomatch h)) hcw hch (by decide)) hZ0 I0 (own_w hw 37 rfl) (own_w hw 36 rfl) (by decide) (by decide)) (g := (mkF m 69 #[.val (.int p1), .val (.int p2), .val (.int p3), .val (.int p4), .val (.int p5), .val (.int p6), .val (.ref b1), .val (.ref b34), .unset, .unset, .unset] [(.ref b34)])) rfl (by rw [hml]; rfl) (argsL := [(.ref b34)]) (rest := []) (lenOf pd__28Ljava_2flang_2fString_3b_29Lcom_2fexample_2fbasepoint_2fbasepoint_2furi_2fUriReference_24Split_3b rfl) rfl (by show 2 * 0 + _ ≤ _; exact Nat.le_of_eq rfl) (hb hby at_69) (fun _ _ => ⟨rfl, rfl, (by decide : 3 + 3 ≤ _), (by decide : 16 + 16 ≤ _)⟩)
  dsimp only [Pt.U, Pt.locs, Pt.cells, Pt.slots] at hs44 hg44
  dsimp only [Pt.U, Pt.locs, Pt.cells, Pt.slots] at y44 z44 st44 hQ44
  change Stand p l e _ _ m _ below meth c T44 L44 k44 n44 at X44
  change L44 = _ ++ Lc44 at l44
  subst y44 z44
  obtain ⟨r_44, a_44, ps_44, rfl, N44q, K44q, t44_0, t44_1, t44_2, t44_3⟩ := hQ44
  have N44 : Fr n0 L44 := l44 ▸ Fr.app N36 (own_frm (Nat.le_trans Z0 K36.1) N44q)
  obtain ⟨X44r, hS44, hZ44, hown44⟩ := rebS hS0 (Nat.le_trans (Nat.le_trans (Nat.le_trans (Nat.le_trans (Nat.le_trans (Nat.le_trans (Nat.le_trans (Nat.le_trans (Nat.le_trans hk0 E1.1) (Keep.of_wr W5).1) (Keep.of_wr W10).1) (Keep.of_wr W15).1) (Keep.of_wr W20).1) (Keep.of_wr W25).1) (Keep.of_wr W30).1) E34.1) K36q.1) X44 hs44 hg44 hZ0 hown0
  replace X44 := X44r
  have K44 : Keep h0 T44.heap [] := K36.trans K44q all0
  obtain ⟨cq46, kq46, q46a, q46b, q46c⟩ := isOf hZ44 rfl t44_0
  obtain ⟨_, _, ⟨T46, L46, k46, n46⟩, -, X46, ⟨Lc46, hQ46, l46, y46, z46⟩, st46⟩ := X44.virtualBack hx (y := (⟨nm0, "afterScheme", "()I"⟩ : MethodName)) (z := (⟨nm0, "afterScheme", "()I"⟩ : MethodName)) hown44 (mvT hZ44 (own_w hw 116 rfl)) (mvT hZ44 (own_w hw 117 rfl)) (notFace_of_selects (args := #[]) (mvT hZ44 (own_w hw 119 rfl))) (mvT hZ44 (own_w hw 119 rfl)) (mvT hZ44 (own_w hw 118 rfl)) (by decide) (backOf (W := 0) (rm24 l Z a0 hw [] r_44 a_44 ps_44 T44.heap n0 (Nat.le_trans Z0 K44.1) t44_0 t44_1 t44_2) hZ44 (own_w hw 120 rfl) (own_w hw 98 rfl) (by decide) (by decide)) q46a q46c (g := (mkF m 76 #[.val (.int p1), .val (.int p2), .val (.int p3), .val (.int p4), .val (.int p5), .val (.int p6), .val (.ref b1), .val (.ref b34), .val (.ref r_44), .unset, .unset] [(.ref r_44)])) rfl (by rw [hml]; rfl) (Steps.refl _) (argsL := []) (rest := []) (lenOf pd__28_29I rfl) rfl (by show 2 * 0 + _ ≤ _; exact Nat.le_of_eq rfl) (hb hby at_76) (fun _ _ => ⟨rfl, rfl, (by decide : 6 + 0 ≤ _), (by decide : 32 + 0 ≤ _)⟩)
  dsimp only [Pt.U, Pt.locs, Pt.cells, Pt.slots] at y46 z46 st46 hQ46
  change Stand p l e _ _ m _ below meth c T46 L46 k46 n46 at X46
  change L46 = _ ++ Lc46 at l46
  subst y46 z46
  obtain ⟨rfl, N46q, e46⟩ := hQ46
  have N46 : Fr n0 L46 := l46 ▸ Fr.app N44 N46q
  have f47 : Exa Z T44.heap b34 nm1 := (t36_2.keep K44q)
  have f48 : Fld Z T44.heap b34 nm1 "coder" "B" (.int (0 : Int32)) := (t36_3.keep K44q nin0)
  have f49 : Fld Z T44.heap b34 nm1 "value" "[B" (.ref t_36) := (t36_4.keep K44q nin0)
  have f50 : Arv Z T44.heap t_36 kb_36 .byte (6 : Int32) (((own_cs p1 p2 p3 p4 p5 p6).map (fun c => c.toInt8.toInt32)).map Value.int) (.int (0 : Int32)) := (t36_5.keep K44q nin0)
  have f51 : Sta Z T44.heap nm1 "COMPACT_STRINGS" "Z" (.int z0) := (own_staKeep f41 K44q own_ns0)
  obtain ⟨cq52, kq52, q52a, q52b, q52c⟩ := isOf hZ44 e46 f47
  obtain ⟨_, _, ⟨T52, L52, k52, n52⟩, -, X52, ⟨Lc52, hQ52, l52, y52, z52⟩, st52⟩ := X46.virtualBack hx (y := (⟨nm1, "length", "()I"⟩ : MethodName)) (z := (⟨nm1, "length", "()I"⟩ : MethodName)) hown44 (mvT hZ44 (own_w hw 121 rfl)) (mvT hZ44 (own_w hw 57 rfl)) (notFace_of_selects (args := #[]) (mvT hZ44 (own_w hw 59 rfl))) (mvT hZ44 (own_w hw 59 rfl)) (mvT hZ44 (own_w hw 58 rfl)) (by decide) (backOf (W := 1) (rmlen6 l Z a0 hw [] b34 t_36 kb_36 (((own_cs p1 p2 p3 p4 p5 p6).map (fun c => c.toInt8.toInt32)).map Value.int) z0 T44.heap n0 (Nat.le_trans Z0 K44.1) f47 f48 f49 f50 f51 hz) hZ44 (own_w hw 60 rfl) (own_w hw 7 rfl) (by decide) (by decide)) q52a q52c (g := (mkF m 92 #[.val (.int p1), .val (.int p2), .val (.int p3), .val (.int p4), .val (.int p5), .val (.int p6), .val (.ref b1), .val (.ref b34), .val (.ref r_44), .val (.int a_44), .unset] [(.ref b34), (.int (a_44 + (1 : Int32)))])) rfl (by rw [hml]; rfl) (Steps.refl _) (argsL := []) (rest := [(.int (a_44 + (1 : Int32)))]) (lenOf pd__28_29I rfl) rfl (by show 2 * 0 + _ ≤ _; exact Nat.le_of_eq rfl) (hb hby at_92) (fun _ _ => ⟨rfl, e46, (by decide : 6 + 0 ≤ _), (by decide : 32 + 0 ≤ _)⟩)
  dsimp only [Pt.U, Pt.locs, Pt.cells, Pt.slots] at y52 z52 st52 hQ52
  change Stand p l e _ _ m _ below meth c T52 L52 k52 n52 at X52
  change L52 = _ ++ Lc52 at l52
  subst y52 z52
  obtain ⟨rfl, N52q, e52⟩ := hQ52
  have N52 : Fr n0 L52 := l52 ▸ Fr.app N46 N52q
  have pre54 : ∀ t, Steps p.tables e below (T52.setTop (mkF m 95 #[.val (.int p1), .val (.int p2), .val (.int p3), .val (.int p4), .val (.int p5), .val (.int p6), .val (.ref b1), .val (.ref b34), .val (.ref r_44), .val (.int a_44), .unset] [(.int (6 : Int32)), (.int (a_44 + (1 : Int32)))])) t → Steps p.tables e below (s₁.setTop (entryFrame m #[(.int p1), (.int p2), (.int p3), (.int p4), (.int p5), (.int p6)] maxLocals)) t := fun t kt => by
    refine pre40 t ?_
    show Steps p.tables e below (T36.setTop (mkF m 65 #[.val (.int p1), .val (.int p2), .val (.int p3), .val (.int p4), .val (.int p5), .val (.int p6), .val (.ref b1), .unset, .unset, .unset, .unset] [(.ref b34)])) _
    refine XS.astore X36.here hx rfl (hb hby at_65) rfl rfl (l' := #[.val (.int p1), .val (.int p2), .val (.int p3), .val (.int p4), .val (.int p5), .val (.int p6), .val (.ref b1), .val (.ref b34), .unset, .unset, .unset]) rfl ?_
    show Steps p.tables e below (T36.setTop (mkF m 67 #[.val (.int p1), .val (.int p2), .val (.int p3), .val (.int p4), .val (.int p5), .val (.int p6), .val (.ref b1), .val (.ref b34), .unset, .unset, .unset] [])) _
    refine XS.aload X36.here hx rfl (hb hby at_67) rfl rfl ?_
    show Steps p.tables e below (T36.setTop (mkF m 69 #[.val (.int p1), .val (.int p2), .val (.int p3), .val (.int p4), .val (.int p5), .val (.int p6), .val (.ref b1), .val (.ref b34), .unset, .unset, .unset] [(.ref b34)])) _
    refine st44.trans ?_
    show Steps p.tables e below (T44.setTop (mkF m 72 #[.val (.int p1), .val (.int p2), .val (.int p3), .val (.int p4), .val (.int p5), .val (.int p6), .val (.ref b1), .val (.ref b34), .unset, .unset, .unset] [(.ref r_44)])) _
    refine XS.astore X44.here hx rfl (hb hby at_72) rfl rfl (l' := #[.val (.int p1), .val (.int p2), .val (.int p3), .val (.int p4), .val (.int p5), .val (.int p6), .val (.ref b1), .val (.ref b34), .val (.ref r_44), .unset, .unset]) rfl ?_
    show Steps p.tables e below (T44.setTop (mkF m 74 #[.val (.int p1), .val (.int p2), .val (.int p3), .val (.int p4), .val (.int p5), .val (.int p6), .val (.ref b1), .val (.ref b34), .val (.ref r_44), .unset, .unset] [])) _
    refine XS.aload X44.here hx rfl (hb hby at_74) rfl rfl ?_
    show Steps p.tables e below (T44.setTop (mkF m 76 #[.val (.int p1), .val (.int p2), .val (.int p3), .val (.int p4), .val (.int p5), .val (.int p6), .val (.ref b1), .val (.ref b34), .val (.ref r_44), .unset, .unset] [(.ref r_44)])) _
    refine st46.trans ?_
    show Steps p.tables e below (T46.setTop (mkF m 79 #[.val (.int p1), .val (.int p2), .val (.int p3), .val (.int p4), .val (.int p5), .val (.int p6), .val (.ref b1), .val (.ref b34), .val (.ref r_44), .unset, .unset] [(.int a_44)])) _
    refine XS.istore X46.here hx rfl (hb hby at_79) rfl (l' := #[.val (.int p1), .val (.int p2), .val (.int p3), .val (.int p4), .val (.int p5), .val (.int p6), .val (.ref b1), .val (.ref b34), .val (.ref r_44), .val (.int a_44), .unset]) rfl ?_
    show Steps p.tables e below (T46.setTop (mkF m 81 #[.val (.int p1), .val (.int p2), .val (.int p3), .val (.int p4), .val (.int p5), .val (.int p6), .val (.ref b1), .val (.ref b34), .val (.ref r_44), .val (.int a_44), .unset] [])) _
    refine XS.iload X46.here hx rfl (hb hby at_81) rfl ?_
    show Steps p.tables e below (T46.setTop (mkF m 83 #[.val (.int p1), .val (.int p2), .val (.int p3), .val (.int p4), .val (.int p5), .val (.int p6), .val (.ref b1), .val (.ref b34), .val (.ref r_44), .val (.int a_44), .unset] [(.int a_44)])) _
    refine XS.ifNo X46.here hx rfl (hb hby at_83) rfl ((if0 _ _).trans (flt (own_i0 t44_3.2.1 : ¬ (a_44 < (0 : Int32)))).1) ?_
    show Steps p.tables e below (T46.setTop (mkF m 86 #[.val (.int p1), .val (.int p2), .val (.int p3), .val (.int p4), .val (.int p5), .val (.int p6), .val (.ref b1), .val (.ref b34), .val (.ref r_44), .val (.int a_44), .unset] [])) _
    refine XS.iload X46.here hx rfl (hb hby at_86) rfl ?_
    show Steps p.tables e below (T46.setTop (mkF m 88 #[.val (.int p1), .val (.int p2), .val (.int p3), .val (.int p4), .val (.int p5), .val (.int p6), .val (.ref b1), .val (.ref b34), .val (.ref r_44), .val (.int a_44), .unset] [(.int a_44)])) _
    refine XS.iconst X46.here hx rfl (hb hby at_88) ?_
    show Steps p.tables e below (T46.setTop (mkF m 89 #[.val (.int p1), .val (.int p2), .val (.int p3), .val (.int p4), .val (.int p5), .val (.int p6), .val (.ref b1), .val (.ref b34), .val (.ref r_44), .val (.int a_44), .unset] [(.int (1 : Int32)), (.int a_44)])) _
    refine XS.iadd X46.here hx rfl (hb hby at_89) rfl ?_
    show Steps p.tables e below (T46.setTop (mkF m 90 #[.val (.int p1), .val (.int p2), .val (.int p3), .val (.int p4), .val (.int p5), .val (.int p6), .val (.ref b1), .val (.ref b34), .val (.ref r_44), .val (.int a_44), .unset] [(.int (a_44 + (1 : Int32)))])) _
    refine XS.aload X46.here hx rfl (hb hby at_90) rfl rfl ?_
    show Steps p.tables e below (T46.setTop (mkF m 92 #[.val (.int p1), .val (.int p2), .val (.int p3), .val (.int p4), .val (.int p5), .val (.int p6), .val (.ref b1), .val (.ref b34), .val (.ref r_44), .val (.int a_44), .unset] [(.ref b34), (.int (a_44 + (1 : Int32)))])) _
    refine st52.trans ?_
    exact kt
  by_cases hc95_53 : (a_44 + (1 : Int32)) < (6 : Int32)
  · have hL5 := ((own_l5 t44_3.2.1 t44_3.2.2).mp hc95_53)
    have hls : (own_cs p1 p2 p3 p4 p5 p6).length = 6 := rfl
    have f56 : Sta Z T44.heap "jdk/internal/util/Preconditions" "SIOOBE_FORMATTER" "Ljava/util/function/BiFunction;" fm := (own_staKeep (own_staKeep ((((((((S_SIOOBE_FORMATTER.ext E1).wr W5).wr W10).wr W15).wr W20).wr W25).wr W30).ext E34) K36q (own_nsE A34 own_ns0)) K44q own_ns0)
    obtain ⟨cq55, kq55, q55a, q55b, q55c⟩ := isOf hZ44 e52 f47
    obtain ⟨_, _, ⟨T55, L55, k55, n55⟩, -, X55, ⟨Lc55, hQ55, l55, y55, z55⟩, st55⟩ := X52.virtualBack hx (y := (⟨nm1, "charAt", "(I)C"⟩ : MethodName)) (z := (⟨nm1, "charAt", "(I)C"⟩ : MethodName)) hown44 (mvT hZ44 (own_w hw 122 rfl)) (mvT hZ44 (own_w hw 123 rfl)) (notFace_of_selects (args := #[]) (mvT hZ44 (own_w hw 125 rfl))) (mvT hZ44 (own_w hw 125 rfl)) (mvT hZ44 (own_w hw 124 rfl)) (by decide) (own_chS (W := 0) (n0 := n0) hZ44 hw (cs := (own_cs p1 p2 p3 p4 p5 p6)) (i := a_44.toInt.toNat) f47 f49 f48 f50 (StrChars.Road.codOf (n := 6) rfl (fun c hc => ((own_csb p1 p2 p3 p4 p5 p6) c hc).2)) (own_csb p1 p2 p3 p4 p5 p6) (Nat.le_of_ble_eq_true rfl) f51 hz f56 rfm (by omega) (own_of t44_3.2.1) (by decide) (by decide)) q55a q55c (g := (mkF m 102 #[.val (.int p1), .val (.int p2), .val (.int p3), .val (.int p4), .val (.int p5), .val (.int p6), .val (.ref b1), .val (.ref b34), .val (.ref r_44), .val (.int a_44), .unset] [(.int a_44), (.ref b34)])) rfl (by rw [hml]; rfl) (Steps.refl _) (argsL := [(.int a_44)]) (rest := []) (lenOf pd__28I_29C rfl) rfl (by show 2 * 0 + _ ≤ _; exact Nat.le_of_eq rfl) (hb hby at_102) (fun _ _ => ⟨rfl, e52, (by decide : 6 + 0 ≤ _), (by decide : 32 + 0 ≤ _)⟩)
    dsimp only [Pt.U, Pt.locs, Pt.cells, Pt.slots] at y55 z55 st55 hQ55
    change Stand p l e _ _ m _ below meth c T55 L55 k55 n55 at X55
    change L55 = _ ++ Lc55 at l55
    subst y55 z55
    obtain ⟨rfl, N55q, e55⟩ := hQ55
    have N55 : Fr n0 L55 := l55 ▸ Fr.app N52 N55q
    have pre58 : ∀ t, Steps p.tables e below (T55.setTop (mkF m 107 #[.val (.int p1), .val (.int p2), .val (.int p3), .val (.int p4), .val (.int p5), .val (.int p6), .val (.ref b1), .val (.ref b34), .val (.ref r_44), .val (.int a_44), .unset] [(.int (47 : Int32)), (.int (((own_cs p1 p2 p3 p4 p5 p6)).getD (a_44.toInt.toNat) 0))])) t → Steps p.tables e below (s₁.setTop (entryFrame m #[(.int p1), (.int p2), (.int p3), (.int p4), (.int p5), (.int p6)] maxLocals)) t := fun t kt => by
      refine pre54 t ?_
      show Steps p.tables e below (T52.setTop (mkF m 95 #[.val (.int p1), .val (.int p2), .val (.int p3), .val (.int p4), .val (.int p5), .val (.int p6), .val (.ref b1), .val (.ref b34), .val (.ref r_44), .val (.int a_44), .unset] [(.int (6 : Int32)), (.int (a_44 + (1 : Int32)))])) _
      refine XS.icmpNo X52.here hx rfl (hb hby at_95) rfl (tlt hc95_53).2.1 ?_
      show Steps p.tables e below (T52.setTop (mkF m 98 #[.val (.int p1), .val (.int p2), .val (.int p3), .val (.int p4), .val (.int p5), .val (.int p6), .val (.ref b1), .val (.ref b34), .val (.ref r_44), .val (.int a_44), .unset] [])) _
      refine XS.aload X52.here hx rfl (hb hby at_98) rfl rfl ?_
      show Steps p.tables e below (T52.setTop (mkF m 100 #[.val (.int p1), .val (.int p2), .val (.int p3), .val (.int p4), .val (.int p5), .val (.int p6), .val (.ref b1), .val (.ref b34), .val (.ref r_44), .val (.int a_44), .unset] [(.ref b34)])) _
      refine XS.iload X52.here hx rfl (hb hby at_100) rfl ?_
      show Steps p.tables e below (T52.setTop (mkF m 102 #[.val (.int p1), .val (.int p2), .val (.int p3), .val (.int p4), .val (.int p5), .val (.int p6), .val (.ref b1), .val (.ref b34), .val (.ref r_44), .val (.int a_44), .unset] [(.int a_44), (.ref b34)])) _
      refine st55.trans ?_
      show Steps p.tables e below (T55.setTop (mkF m 105 #[.val (.int p1), .val (.int p2), .val (.int p3), .val (.int p4), .val (.int p5), .val (.int p6), .val (.ref b1), .val (.ref b34), .val (.ref r_44), .val (.int a_44), .unset] [(.int (((own_cs p1 p2 p3 p4 p5 p6)).getD (a_44.toInt.toNat) 0))])) _
      refine XS.bipush X55.here hx rfl (hb hby at_105) ?_
      exact kt
    by_cases hc107_57 : (((own_cs p1 p2 p3 p4 p5 p6)).getD (a_44.toInt.toNat) 0) = (47 : Int32)
    · obtain ⟨cq59, kq59, q59a, q59b, q59c⟩ := isOf hZ44 e55 f47
      obtain ⟨_, _, ⟨T59, L59, k59, n59⟩, -, X59, ⟨Lc59, hQ59, l59, y59, z59⟩, st59⟩ := X55.virtualBack hx (y := (⟨nm1, "charAt", "(I)C"⟩ : MethodName)) (z := (⟨nm1, "charAt", "(I)C"⟩ : MethodName)) hown44 (mvT hZ44 (own_w hw 122 rfl)) (mvT hZ44 (own_w hw 123 rfl)) (notFace_of_selects (args := #[]) (mvT hZ44 (own_w hw 125 rfl))) (mvT hZ44 (own_w hw 125 rfl)) (mvT hZ44 (own_w hw 124 rfl)) (by decide) (own_chS (W := 0) (n0 := n0) hZ44 hw (cs := (own_cs p1 p2 p3 p4 p5 p6)) (i := a_44.toInt.toNat + 1) f47 f49 f48 f50 (StrChars.Road.codOf (n := 6) rfl (fun c hc => ((own_csb p1 p2 p3 p4 p5 p6) c hc).2)) (own_csb p1 p2 p3 p4 p5 p6) (Nat.le_of_ble_eq_true rfl) f51 hz f56 rfm (by omega) (own_of1 t44_3.2.1 t44_3.2.2) (by decide) (by decide)) q59a q59c (g := (mkF m 116 #[.val (.int p1), .val (.int p2), .val (.int p3), .val (.int p4), .val (.int p5), .val (.int p6), .val (.ref b1), .val (.ref b34), .val (.ref r_44), .val (.int a_44), .unset] [(.int (a_44 + (1 : Int32))), (.ref b34)])) rfl (by rw [hml]; rfl) (Steps.refl _) (argsL := [(.int (a_44 + (1 : Int32)))]) (rest := []) (lenOf pd__28I_29C rfl) rfl (by show 2 * 0 + _ ≤ _; exact Nat.le_of_eq rfl) (hb hby at_116) (fun _ _ => ⟨rfl, e55, (by decide : 6 + 0 ≤ _), (by decide : 32 + 0 ≤ _)⟩)
      dsimp only [Pt.U, Pt.locs, Pt.cells, Pt.slots] at y59 z59 st59 hQ59
      change Stand p l e _ _ m _ below meth c T59 L59 k59 n59 at X59
      change L59 = _ ++ Lc59 at l59
      subst y59 z59
      obtain ⟨rfl, N59q, e59⟩ := hQ59
      have N59 : Fr n0 L59 := l59 ▸ Fr.app N55 N59q
      have pre61 : ∀ t, Steps p.tables e below (T59.setTop (mkF m 121 #[.val (.int p1), .val (.int p2), .val (.int p3), .val (.int p4), .val (.int p5), .val (.int p6), .val (.ref b1), .val (.ref b34), .val (.ref r_44), .val (.int a_44), .unset] [(.int (47 : Int32)), (.int (((own_cs p1 p2 p3 p4 p5 p6)).getD (a_44.toInt.toNat + 1) 0))])) t → Steps p.tables e below (s₁.setTop (entryFrame m #[(.int p1), (.int p2), (.int p3), (.int p4), (.int p5), (.int p6)] maxLocals)) t := fun t kt => by
        refine pre58 t ?_
        show Steps p.tables e below (T55.setTop (mkF m 107 #[.val (.int p1), .val (.int p2), .val (.int p3), .val (.int p4), .val (.int p5), .val (.int p6), .val (.ref b1), .val (.ref b34), .val (.ref r_44), .val (.int a_44), .unset] [(.int (47 : Int32)), (.int (((own_cs p1 p2 p3 p4 p5 p6)).getD (a_44.toInt.toNat) 0))])) _
        refine XS.icmpNo X55.here hx rfl (hb hby at_107) rfl (teq hc107_57).2 ?_
        show Steps p.tables e below (T55.setTop (mkF m 110 #[.val (.int p1), .val (.int p2), .val (.int p3), .val (.int p4), .val (.int p5), .val (.int p6), .val (.ref b1), .val (.ref b34), .val (.ref r_44), .val (.int a_44), .unset] [])) _
        refine XS.aload X55.here hx rfl (hb hby at_110) rfl rfl ?_
        show Steps p.tables e below (T55.setTop (mkF m 112 #[.val (.int p1), .val (.int p2), .val (.int p3), .val (.int p4), .val (.int p5), .val (.int p6), .val (.ref b1), .val (.ref b34), .val (.ref r_44), .val (.int a_44), .unset] [(.ref b34)])) _
        refine XS.iload X55.here hx rfl (hb hby at_112) rfl ?_
        show Steps p.tables e below (T55.setTop (mkF m 114 #[.val (.int p1), .val (.int p2), .val (.int p3), .val (.int p4), .val (.int p5), .val (.int p6), .val (.ref b1), .val (.ref b34), .val (.ref r_44), .val (.int a_44), .unset] [(.int a_44), (.ref b34)])) _
        refine XS.iconst X55.here hx rfl (hb hby at_114) ?_
        show Steps p.tables e below (T55.setTop (mkF m 115 #[.val (.int p1), .val (.int p2), .val (.int p3), .val (.int p4), .val (.int p5), .val (.int p6), .val (.ref b1), .val (.ref b34), .val (.ref r_44), .val (.int a_44), .unset] [(.int (1 : Int32)), (.int a_44), (.ref b34)])) _
        refine XS.iadd X55.here hx rfl (hb hby at_115) rfl ?_
        show Steps p.tables e below (T55.setTop (mkF m 116 #[.val (.int p1), .val (.int p2), .val (.int p3), .val (.int p4), .val (.int p5), .val (.int p6), .val (.ref b1), .val (.ref b34), .val (.ref r_44), .val (.int a_44), .unset] [(.int (a_44 + (1 : Int32))), (.ref b34)])) _
        refine st59.trans ?_
        show Steps p.tables e below (T59.setTop (mkF m 119 #[.val (.int p1), .val (.int p2), .val (.int p3), .val (.int p4), .val (.int p5), .val (.int p6), .val (.ref b1), .val (.ref b34), .val (.ref r_44), .val (.int a_44), .unset] [(.int (((own_cs p1 p2 p3 p4 p5 p6)).getD (a_44.toInt.toNat + 1) 0))])) _
        refine XS.bipush X59.here hx rfl (hb hby at_119) ?_
        exact kt
      by_cases hc121_60 : (((own_cs p1 p2 p3 p4 p5 p6)).getD (a_44.toInt.toNat + 1) 0) = (47 : Int32)
      · obtain ⟨cq62, kq62, q62a, q62b, q62c⟩ := isOf hZ44 e59 t44_0
        obtain ⟨_, _, ⟨T62, L62, k62, n62⟩, -, X62, ⟨Lc62, hQ62, l62, y62, z62⟩, st62⟩ := X59.virtualBack hx (y := (⟨nm0, "hasAuthority", "()Z"⟩ : MethodName)) (z := (⟨nm0, "hasAuthority", "()Z"⟩ : MethodName)) hown44 (mvT hZ44 (own_w hw 138 rfl)) (mvT hZ44 (own_w hw 139 rfl)) (notFace_of_selects (args := #[]) (mvT hZ44 (own_w hw 141 rfl))) (mvT hZ44 (own_w hw 141 rfl)) (mvT hZ44 (own_w hw 140 rfl)) (by decide) (backOf (W := 0) (rm29 l Z a0 hw [] r_44 a_44 ps_44 T44.heap n0 (Nat.le_trans Z0 K44.1) t44_0 t44_1 t44_2) hZ44 (own_w hw 142 rfl) (own_w hw 98 rfl) (by decide) (by decide)) q62a q62c (g := (mkF m 133 #[.val (.int p1), .val (.int p2), .val (.int p3), .val (.int p4), .val (.int p5), .val (.int p6), .val (.ref b1), .val (.ref b34), .val (.ref r_44), .val (.int a_44), .val (.int (1 : Int32))] [(.ref r_44)])) rfl (by rw [hml]; rfl) (Steps.refl _) (argsL := []) (rest := []) (lenOf pd__28_29Z rfl) rfl (by show 2 * 0 + _ ≤ _; exact Nat.le_of_eq rfl) (hb hby at_133) (fun _ _ => ⟨rfl, e59, (by decide : 6 + 0 ≤ _), (by decide : 32 + 0 ≤ _)⟩)
        dsimp only [Pt.U, Pt.locs, Pt.cells, Pt.slots] at y62 z62 st62 hQ62
        change Stand p l e _ _ m _ below meth c T62 L62 k62 n62 at X62
        change L62 = _ ++ Lc62 at l62
        subst y62 z62
        obtain ⟨rfl, N62q, e62⟩ := hQ62
        have N62 : Fr n0 L62 := l62 ▸ Fr.app N59 N62q
        obtain ⟨fs, hr, hrun, hended, hRW⟩ := X62.leaveW hS44 (Nat.le_trans (Nat.le_refl _) (Nat.le_of_eq (congrArg Array.size e62.symm))) (v := some (.int (1 : Int32))) (fun h => by rw [Bd.returns] at h; cases h)
        refine ⟨_, _, pre61 _ ?_, hrun, hended, _, _, rfl, ?_, hRW.1, hRW.2.1, hRW.2.2.1, hRW.2.2.2.mono (by decide) (by decide)⟩
        · show Steps p.tables e below (T59.setTop (mkF m 121 #[.val (.int p1), .val (.int p2), .val (.int p3), .val (.int p4), .val (.int p5), .val (.int p6), .val (.ref b1), .val (.ref b34), .val (.ref r_44), .val (.int a_44), .unset] [(.int (47 : Int32)), (.int (((own_cs p1 p2 p3 p4 p5 p6)).getD (a_44.toInt.toNat + 1) 0))])) _
          refine XS.icmpNo X59.here hx rfl (hb hby at_121) rfl (teq hc121_60).2 ?_
          show Steps p.tables e below (T59.setTop (mkF m 124 #[.val (.int p1), .val (.int p2), .val (.int p3), .val (.int p4), .val (.int p5), .val (.int p6), .val (.ref b1), .val (.ref b34), .val (.ref r_44), .val (.int a_44), .unset] [])) _
          refine XS.iconst X59.here hx rfl (hb hby at_124) ?_
          show Steps p.tables e below (T59.setTop (mkF m 125 #[.val (.int p1), .val (.int p2), .val (.int p3), .val (.int p4), .val (.int p5), .val (.int p6), .val (.ref b1), .val (.ref b34), .val (.ref r_44), .val (.int a_44), .unset] [(.int (1 : Int32))])) _
          refine XS.goto X59.here hx rfl (pc0 := 125) (pc' := 129) rfl (hb hby at_125) (by decide) (by decide) ?_
          show Steps p.tables e below (T59.setTop (mkF m 129 #[.val (.int p1), .val (.int p2), .val (.int p3), .val (.int p4), .val (.int p5), .val (.int p6), .val (.ref b1), .val (.ref b34), .val (.ref r_44), .val (.int a_44), .unset] [(.int (1 : Int32))])) _
          refine XS.istore X59.here hx rfl (hb hby at_129) rfl (l' := #[.val (.int p1), .val (.int p2), .val (.int p3), .val (.int p4), .val (.int p5), .val (.int p6), .val (.ref b1), .val (.ref b34), .val (.ref r_44), .val (.int a_44), .val (.int (1 : Int32))]) rfl ?_
          show Steps p.tables e below (T59.setTop (mkF m 131 #[.val (.int p1), .val (.int p2), .val (.int p3), .val (.int p4), .val (.int p5), .val (.int p6), .val (.ref b1), .val (.ref b34), .val (.ref r_44), .val (.int a_44), .val (.int (1 : Int32))] [])) _
          refine XS.aload X59.here hx rfl (hb hby at_131) rfl rfl ?_
          show Steps p.tables e below (T59.setTop (mkF m 133 #[.val (.int p1), .val (.int p2), .val (.int p3), .val (.int p4), .val (.int p5), .val (.int p6), .val (.ref b1), .val (.ref b34), .val (.ref r_44), .val (.int a_44), .val (.int (1 : Int32))] [(.ref r_44)])) _
          refine st62.trans ?_
          show Steps p.tables e below (T62.setTop (mkF m 136 #[.val (.int p1), .val (.int p2), .val (.int p3), .val (.int p4), .val (.int p5), .val (.int p6), .val (.ref b1), .val (.ref b34), .val (.ref r_44), .val (.int a_44), .val (.int (1 : Int32))] [(.int (own_ha a_44 ps_44))])) _
          refine XS.iload X62.here hx rfl (hb hby at_136) rfl ?_
          show Steps p.tables e below (T62.setTop (mkF m 138 #[.val (.int p1), .val (.int p2), .val (.int p3), .val (.int p4), .val (.int p5), .val (.int p6), .val (.ref b1), .val (.ref b34), .val (.ref r_44), .val (.int a_44), .val (.int (1 : Int32))] [(.int (1 : Int32)), (.int (own_ha a_44 ps_44))])) _
          refine XS.icmpNo X62.here hx rfl (hb hby at_138) rfl (teq (own_yes (own_csb p1 p2 p3 p4 p5 p6) t44_3 hc95_53 hc107_57 hc121_60 : (own_ha a_44 ps_44) = (1 : Int32))).2 ?_
          show Steps p.tables e below (T62.setTop (mkF m 141 #[.val (.int p1), .val (.int p2), .val (.int p3), .val (.int p4), .val (.int p5), .val (.int p6), .val (.ref b1), .val (.ref b34), .val (.ref r_44), .val (.int a_44), .val (.int (1 : Int32))] [])) _
          refine XS.iconst X62.here hx rfl (hb hby at_141) ?_
          show Steps p.tables e below (T62.setTop (mkF m 142 #[.val (.int p1), .val (.int p2), .val (.int p3), .val (.int p4), .val (.int p5), .val (.int p6), .val (.ref b1), .val (.ref b34), .val (.ref r_44), .val (.int a_44), .val (.int (1 : Int32))] [(.int (1 : Int32))])) _
          refine XS.goto X62.here hx rfl (pc0 := 142) (pc' := 146) rfl (hb hby at_142) (by decide) (by decide) ?_
          show Steps p.tables e below (T62.setTop (mkF m 146 #[.val (.int p1), .val (.int p2), .val (.int p3), .val (.int p4), .val (.int p5), .val (.int p6), .val (.ref b1), .val (.ref b34), .val (.ref r_44), .val (.int a_44), .val (.int (1 : Int32))] [(.int (1 : Int32))])) _
          exact retN X62 hx (t := .boolean) Bd.returns (by simp) (hb hby at_146) hr
        · show Q_rm0 Z p1 p2 p3 p4 p5 p6 z0 ss ks fm h0 n0 _ T62.heap _ T62.vm
          rw [e62]
          exact ⟨rfl, N62⟩
      · obtain ⟨cq63, kq63, q63a, q63b, q63c⟩ := isOf hZ44 e59 t44_0
        obtain ⟨_, _, ⟨T63, L63, k63, n63⟩, -, X63, ⟨Lc63, hQ63, l63, y63, z63⟩, st63⟩ := X59.virtualBack hx (y := (⟨nm0, "hasAuthority", "()Z"⟩ : MethodName)) (z := (⟨nm0, "hasAuthority", "()Z"⟩ : MethodName)) hown44 (mvT hZ44 (own_w hw 138 rfl)) (mvT hZ44 (own_w hw 139 rfl)) (notFace_of_selects (args := #[]) (mvT hZ44 (own_w hw 141 rfl))) (mvT hZ44 (own_w hw 141 rfl)) (mvT hZ44 (own_w hw 140 rfl)) (by decide) (backOf (W := 0) (rm29 l Z a0 hw [] r_44 a_44 ps_44 T44.heap n0 (Nat.le_trans Z0 K44.1) t44_0 t44_1 t44_2) hZ44 (own_w hw 142 rfl) (own_w hw 98 rfl) (by decide) (by decide)) q63a q63c (g := (mkF m 133 #[.val (.int p1), .val (.int p2), .val (.int p3), .val (.int p4), .val (.int p5), .val (.int p6), .val (.ref b1), .val (.ref b34), .val (.ref r_44), .val (.int a_44), .val (.int (0 : Int32))] [(.ref r_44)])) rfl (by rw [hml]; rfl) (Steps.refl _) (argsL := []) (rest := []) (lenOf pd__28_29Z rfl) rfl (by show 2 * 0 + _ ≤ _; exact Nat.le_of_eq rfl) (hb hby at_133) (fun _ _ => ⟨rfl, e59, (by decide : 6 + 0 ≤ _), (by decide : 32 + 0 ≤ _)⟩)
        dsimp only [Pt.U, Pt.locs, Pt.cells, Pt.slots] at y63 z63 st63 hQ63
        change Stand p l e _ _ m _ below meth c T63 L63 k63 n63 at X63
        change L63 = _ ++ Lc63 at l63
        subst y63 z63
        obtain ⟨rfl, N63q, e63⟩ := hQ63
        have N63 : Fr n0 L63 := l63 ▸ Fr.app N59 N63q
        obtain ⟨fs, hr, hrun, hended, hRW⟩ := X63.leaveW hS44 (Nat.le_trans (Nat.le_refl _) (Nat.le_of_eq (congrArg Array.size e63.symm))) (v := some (.int (1 : Int32))) (fun h => by rw [Bd.returns] at h; cases h)
        refine ⟨_, _, pre61 _ ?_, hrun, hended, _, _, rfl, ?_, hRW.1, hRW.2.1, hRW.2.2.1, hRW.2.2.2.mono (by decide) (by decide)⟩
        · show Steps p.tables e below (T59.setTop (mkF m 121 #[.val (.int p1), .val (.int p2), .val (.int p3), .val (.int p4), .val (.int p5), .val (.int p6), .val (.ref b1), .val (.ref b34), .val (.ref r_44), .val (.int a_44), .unset] [(.int (47 : Int32)), (.int (((own_cs p1 p2 p3 p4 p5 p6)).getD (a_44.toInt.toNat + 1) 0))])) _
          refine XS.icmpYes X59.here hx rfl (pc0 := 121) (pc' := 128) rfl (hb hby at_121) rfl (feq hc121_60).2 (by decide) (by decide) ?_
          show Steps p.tables e below (T59.setTop (mkF m 128 #[.val (.int p1), .val (.int p2), .val (.int p3), .val (.int p4), .val (.int p5), .val (.int p6), .val (.ref b1), .val (.ref b34), .val (.ref r_44), .val (.int a_44), .unset] [])) _
          refine XS.iconst X59.here hx rfl (hb hby at_128) ?_
          show Steps p.tables e below (T59.setTop (mkF m 129 #[.val (.int p1), .val (.int p2), .val (.int p3), .val (.int p4), .val (.int p5), .val (.int p6), .val (.ref b1), .val (.ref b34), .val (.ref r_44), .val (.int a_44), .unset] [(.int (0 : Int32))])) _
          refine XS.istore X59.here hx rfl (hb hby at_129) rfl (l' := #[.val (.int p1), .val (.int p2), .val (.int p3), .val (.int p4), .val (.int p5), .val (.int p6), .val (.ref b1), .val (.ref b34), .val (.ref r_44), .val (.int a_44), .val (.int (0 : Int32))]) rfl ?_
          show Steps p.tables e below (T59.setTop (mkF m 131 #[.val (.int p1), .val (.int p2), .val (.int p3), .val (.int p4), .val (.int p5), .val (.int p6), .val (.ref b1), .val (.ref b34), .val (.ref r_44), .val (.int a_44), .val (.int (0 : Int32))] [])) _
          refine XS.aload X59.here hx rfl (hb hby at_131) rfl rfl ?_
          show Steps p.tables e below (T59.setTop (mkF m 133 #[.val (.int p1), .val (.int p2), .val (.int p3), .val (.int p4), .val (.int p5), .val (.int p6), .val (.ref b1), .val (.ref b34), .val (.ref r_44), .val (.int a_44), .val (.int (0 : Int32))] [(.ref r_44)])) _
          refine st63.trans ?_
          show Steps p.tables e below (T63.setTop (mkF m 136 #[.val (.int p1), .val (.int p2), .val (.int p3), .val (.int p4), .val (.int p5), .val (.int p6), .val (.ref b1), .val (.ref b34), .val (.ref r_44), .val (.int a_44), .val (.int (0 : Int32))] [(.int (own_ha a_44 ps_44))])) _
          refine XS.iload X63.here hx rfl (hb hby at_136) rfl ?_
          show Steps p.tables e below (T63.setTop (mkF m 138 #[.val (.int p1), .val (.int p2), .val (.int p3), .val (.int p4), .val (.int p5), .val (.int p6), .val (.ref b1), .val (.ref b34), .val (.ref r_44), .val (.int a_44), .val (.int (0 : Int32))] [(.int (0 : Int32)), (.int (own_ha a_44 ps_44))])) _
          refine XS.icmpNo X63.here hx rfl (hb hby at_138) rfl (teq (own_no (own_csb p1 p2 p3 p4 p5 p6) t44_3 (Or.inr (Or.inr hc121_60)) : (own_ha a_44 ps_44) = (0 : Int32))).2 ?_
          show Steps p.tables e below (T63.setTop (mkF m 141 #[.val (.int p1), .val (.int p2), .val (.int p3), .val (.int p4), .val (.int p5), .val (.int p6), .val (.ref b1), .val (.ref b34), .val (.ref r_44), .val (.int a_44), .val (.int (0 : Int32))] [])) _
          refine XS.iconst X63.here hx rfl (hb hby at_141) ?_
          show Steps p.tables e below (T63.setTop (mkF m 142 #[.val (.int p1), .val (.int p2), .val (.int p3), .val (.int p4), .val (.int p5), .val (.int p6), .val (.ref b1), .val (.ref b34), .val (.ref r_44), .val (.int a_44), .val (.int (0 : Int32))] [(.int (1 : Int32))])) _
          refine XS.goto X63.here hx rfl (pc0 := 142) (pc' := 146) rfl (hb hby at_142) (by decide) (by decide) ?_
          show Steps p.tables e below (T63.setTop (mkF m 146 #[.val (.int p1), .val (.int p2), .val (.int p3), .val (.int p4), .val (.int p5), .val (.int p6), .val (.ref b1), .val (.ref b34), .val (.ref r_44), .val (.int a_44), .val (.int (0 : Int32))] [(.int (1 : Int32))])) _
          exact retN X63 hx (t := .boolean) Bd.returns (by simp) (hb hby at_146) hr
        · show Q_rm0 Z p1 p2 p3 p4 p5 p6 z0 ss ks fm h0 n0 _ T63.heap _ T63.vm
          rw [e63]
          exact ⟨rfl, N63⟩
    · obtain ⟨cq64, kq64, q64a, q64b, q64c⟩ := isOf hZ44 e55 t44_0
      obtain ⟨_, _, ⟨T64, L64, k64, n64⟩, -, X64, ⟨Lc64, hQ64, l64, y64, z64⟩, st64⟩ := X55.virtualBack hx (y := (⟨nm0, "hasAuthority", "()Z"⟩ : MethodName)) (z := (⟨nm0, "hasAuthority", "()Z"⟩ : MethodName)) hown44 (mvT hZ44 (own_w hw 138 rfl)) (mvT hZ44 (own_w hw 139 rfl)) (notFace_of_selects (args := #[]) (mvT hZ44 (own_w hw 141 rfl))) (mvT hZ44 (own_w hw 141 rfl)) (mvT hZ44 (own_w hw 140 rfl)) (by decide) (backOf (W := 0) (rm29 l Z a0 hw [] r_44 a_44 ps_44 T44.heap n0 (Nat.le_trans Z0 K44.1) t44_0 t44_1 t44_2) hZ44 (own_w hw 142 rfl) (own_w hw 98 rfl) (by decide) (by decide)) q64a q64c (g := (mkF m 133 #[.val (.int p1), .val (.int p2), .val (.int p3), .val (.int p4), .val (.int p5), .val (.int p6), .val (.ref b1), .val (.ref b34), .val (.ref r_44), .val (.int a_44), .val (.int (0 : Int32))] [(.ref r_44)])) rfl (by rw [hml]; rfl) (Steps.refl _) (argsL := []) (rest := []) (lenOf pd__28_29Z rfl) rfl (by show 2 * 0 + _ ≤ _; exact Nat.le_of_eq rfl) (hb hby at_133) (fun _ _ => ⟨rfl, e55, (by decide : 6 + 0 ≤ _), (by decide : 32 + 0 ≤ _)⟩)
      dsimp only [Pt.U, Pt.locs, Pt.cells, Pt.slots] at y64 z64 st64 hQ64
      change Stand p l e _ _ m _ below meth c T64 L64 k64 n64 at X64
      change L64 = _ ++ Lc64 at l64
      subst y64 z64
      obtain ⟨rfl, N64q, e64⟩ := hQ64
      have N64 : Fr n0 L64 := l64 ▸ Fr.app N55 N64q
      obtain ⟨fs, hr, hrun, hended, hRW⟩ := X64.leaveW hS44 (Nat.le_trans (Nat.le_refl _) (Nat.le_of_eq (congrArg Array.size e64.symm))) (v := some (.int (1 : Int32))) (fun h => by rw [Bd.returns] at h; cases h)
      refine ⟨_, _, pre58 _ ?_, hrun, hended, _, _, rfl, ?_, hRW.1, hRW.2.1, hRW.2.2.1, hRW.2.2.2.mono (by decide) (by decide)⟩
      · show Steps p.tables e below (T55.setTop (mkF m 107 #[.val (.int p1), .val (.int p2), .val (.int p3), .val (.int p4), .val (.int p5), .val (.int p6), .val (.ref b1), .val (.ref b34), .val (.ref r_44), .val (.int a_44), .unset] [(.int (47 : Int32)), (.int (((own_cs p1 p2 p3 p4 p5 p6)).getD (a_44.toInt.toNat) 0))])) _
        refine XS.icmpYes X55.here hx rfl (pc0 := 107) (pc' := 128) rfl (hb hby at_107) rfl (feq hc107_57).2 (by decide) (by decide) ?_
        show Steps p.tables e below (T55.setTop (mkF m 128 #[.val (.int p1), .val (.int p2), .val (.int p3), .val (.int p4), .val (.int p5), .val (.int p6), .val (.ref b1), .val (.ref b34), .val (.ref r_44), .val (.int a_44), .unset] [])) _
        refine XS.iconst X55.here hx rfl (hb hby at_128) ?_
        show Steps p.tables e below (T55.setTop (mkF m 129 #[.val (.int p1), .val (.int p2), .val (.int p3), .val (.int p4), .val (.int p5), .val (.int p6), .val (.ref b1), .val (.ref b34), .val (.ref r_44), .val (.int a_44), .unset] [(.int (0 : Int32))])) _
        refine XS.istore X55.here hx rfl (hb hby at_129) rfl (l' := #[.val (.int p1), .val (.int p2), .val (.int p3), .val (.int p4), .val (.int p5), .val (.int p6), .val (.ref b1), .val (.ref b34), .val (.ref r_44), .val (.int a_44), .val (.int (0 : Int32))]) rfl ?_
        show Steps p.tables e below (T55.setTop (mkF m 131 #[.val (.int p1), .val (.int p2), .val (.int p3), .val (.int p4), .val (.int p5), .val (.int p6), .val (.ref b1), .val (.ref b34), .val (.ref r_44), .val (.int a_44), .val (.int (0 : Int32))] [])) _
        refine XS.aload X55.here hx rfl (hb hby at_131) rfl rfl ?_
        show Steps p.tables e below (T55.setTop (mkF m 133 #[.val (.int p1), .val (.int p2), .val (.int p3), .val (.int p4), .val (.int p5), .val (.int p6), .val (.ref b1), .val (.ref b34), .val (.ref r_44), .val (.int a_44), .val (.int (0 : Int32))] [(.ref r_44)])) _
        refine st64.trans ?_
        show Steps p.tables e below (T64.setTop (mkF m 136 #[.val (.int p1), .val (.int p2), .val (.int p3), .val (.int p4), .val (.int p5), .val (.int p6), .val (.ref b1), .val (.ref b34), .val (.ref r_44), .val (.int a_44), .val (.int (0 : Int32))] [(.int (own_ha a_44 ps_44))])) _
        refine XS.iload X64.here hx rfl (hb hby at_136) rfl ?_
        show Steps p.tables e below (T64.setTop (mkF m 138 #[.val (.int p1), .val (.int p2), .val (.int p3), .val (.int p4), .val (.int p5), .val (.int p6), .val (.ref b1), .val (.ref b34), .val (.ref r_44), .val (.int a_44), .val (.int (0 : Int32))] [(.int (0 : Int32)), (.int (own_ha a_44 ps_44))])) _
        refine XS.icmpNo X64.here hx rfl (hb hby at_138) rfl (teq (own_no (own_csb p1 p2 p3 p4 p5 p6) t44_3 (Or.inr (Or.inl hc107_57)) : (own_ha a_44 ps_44) = (0 : Int32))).2 ?_
        show Steps p.tables e below (T64.setTop (mkF m 141 #[.val (.int p1), .val (.int p2), .val (.int p3), .val (.int p4), .val (.int p5), .val (.int p6), .val (.ref b1), .val (.ref b34), .val (.ref r_44), .val (.int a_44), .val (.int (0 : Int32))] [])) _
        refine XS.iconst X64.here hx rfl (hb hby at_141) ?_
        show Steps p.tables e below (T64.setTop (mkF m 142 #[.val (.int p1), .val (.int p2), .val (.int p3), .val (.int p4), .val (.int p5), .val (.int p6), .val (.ref b1), .val (.ref b34), .val (.ref r_44), .val (.int a_44), .val (.int (0 : Int32))] [(.int (1 : Int32))])) _
        refine XS.goto X64.here hx rfl (pc0 := 142) (pc' := 146) rfl (hb hby at_142) (by decide) (by decide) ?_
        show Steps p.tables e below (T64.setTop (mkF m 146 #[.val (.int p1), .val (.int p2), .val (.int p3), .val (.int p4), .val (.int p5), .val (.int p6), .val (.ref b1), .val (.ref b34), .val (.ref r_44), .val (.int a_44), .val (.int (0 : Int32))] [(.int (1 : Int32))])) _
        exact retN X64 hx (t := .boolean) Bd.returns (by simp) (hb hby at_146) hr
      · show Q_rm0 Z p1 p2 p3 p4 p5 p6 z0 ss ks fm h0 n0 _ T64.heap _ T64.vm
        rw [e64]
        exact ⟨rfl, N64⟩
  · obtain ⟨cq65, kq65, q65a, q65b, q65c⟩ := isOf hZ44 e52 t44_0
    obtain ⟨_, _, ⟨T65, L65, k65, n65⟩, -, X65, ⟨Lc65, hQ65, l65, y65, z65⟩, st65⟩ := X52.virtualBack hx (y := (⟨nm0, "hasAuthority", "()Z"⟩ : MethodName)) (z := (⟨nm0, "hasAuthority", "()Z"⟩ : MethodName)) hown44 (mvT hZ44 (own_w hw 138 rfl)) (mvT hZ44 (own_w hw 139 rfl)) (notFace_of_selects (args := #[]) (mvT hZ44 (own_w hw 141 rfl))) (mvT hZ44 (own_w hw 141 rfl)) (mvT hZ44 (own_w hw 140 rfl)) (by decide) (backOf (W := 0) (rm29 l Z a0 hw [] r_44 a_44 ps_44 T44.heap n0 (Nat.le_trans Z0 K44.1) t44_0 t44_1 t44_2) hZ44 (own_w hw 142 rfl) (own_w hw 98 rfl) (by decide) (by decide)) q65a q65c (g := (mkF m 133 #[.val (.int p1), .val (.int p2), .val (.int p3), .val (.int p4), .val (.int p5), .val (.int p6), .val (.ref b1), .val (.ref b34), .val (.ref r_44), .val (.int a_44), .val (.int (0 : Int32))] [(.ref r_44)])) rfl (by rw [hml]; rfl) (Steps.refl _) (argsL := []) (rest := []) (lenOf pd__28_29Z rfl) rfl (by show 2 * 0 + _ ≤ _; exact Nat.le_of_eq rfl) (hb hby at_133) (fun _ _ => ⟨rfl, e52, (by decide : 6 + 0 ≤ _), (by decide : 32 + 0 ≤ _)⟩)
    dsimp only [Pt.U, Pt.locs, Pt.cells, Pt.slots] at y65 z65 st65 hQ65
    change Stand p l e _ _ m _ below meth c T65 L65 k65 n65 at X65
    change L65 = _ ++ Lc65 at l65
    subst y65 z65
    obtain ⟨rfl, N65q, e65⟩ := hQ65
    have N65 : Fr n0 L65 := l65 ▸ Fr.app N52 N65q
    obtain ⟨fs, hr, hrun, hended, hRW⟩ := X65.leaveW hS44 (Nat.le_trans (Nat.le_refl _) (Nat.le_of_eq (congrArg Array.size e65.symm))) (v := some (.int (1 : Int32))) (fun h => by rw [Bd.returns] at h; cases h)
    refine ⟨_, _, pre54 _ ?_, hrun, hended, _, _, rfl, ?_, hRW.1, hRW.2.1, hRW.2.2.1, hRW.2.2.2.mono (by decide) (by decide)⟩
    · show Steps p.tables e below (T52.setTop (mkF m 95 #[.val (.int p1), .val (.int p2), .val (.int p3), .val (.int p4), .val (.int p5), .val (.int p6), .val (.ref b1), .val (.ref b34), .val (.ref r_44), .val (.int a_44), .unset] [(.int (6 : Int32)), (.int (a_44 + (1 : Int32)))])) _
      refine XS.icmpYes X52.here hx rfl (pc0 := 95) (pc' := 128) rfl (hb hby at_95) rfl (flt hc95_53).2.1 (by decide) (by decide) ?_
      show Steps p.tables e below (T52.setTop (mkF m 128 #[.val (.int p1), .val (.int p2), .val (.int p3), .val (.int p4), .val (.int p5), .val (.int p6), .val (.ref b1), .val (.ref b34), .val (.ref r_44), .val (.int a_44), .unset] [])) _
      refine XS.iconst X52.here hx rfl (hb hby at_128) ?_
      show Steps p.tables e below (T52.setTop (mkF m 129 #[.val (.int p1), .val (.int p2), .val (.int p3), .val (.int p4), .val (.int p5), .val (.int p6), .val (.ref b1), .val (.ref b34), .val (.ref r_44), .val (.int a_44), .unset] [(.int (0 : Int32))])) _
      refine XS.istore X52.here hx rfl (hb hby at_129) rfl (l' := #[.val (.int p1), .val (.int p2), .val (.int p3), .val (.int p4), .val (.int p5), .val (.int p6), .val (.ref b1), .val (.ref b34), .val (.ref r_44), .val (.int a_44), .val (.int (0 : Int32))]) rfl ?_
      show Steps p.tables e below (T52.setTop (mkF m 131 #[.val (.int p1), .val (.int p2), .val (.int p3), .val (.int p4), .val (.int p5), .val (.int p6), .val (.ref b1), .val (.ref b34), .val (.ref r_44), .val (.int a_44), .val (.int (0 : Int32))] [])) _
      refine XS.aload X52.here hx rfl (hb hby at_131) rfl rfl ?_
      show Steps p.tables e below (T52.setTop (mkF m 133 #[.val (.int p1), .val (.int p2), .val (.int p3), .val (.int p4), .val (.int p5), .val (.int p6), .val (.ref b1), .val (.ref b34), .val (.ref r_44), .val (.int a_44), .val (.int (0 : Int32))] [(.ref r_44)])) _
      refine st65.trans ?_
      show Steps p.tables e below (T65.setTop (mkF m 136 #[.val (.int p1), .val (.int p2), .val (.int p3), .val (.int p4), .val (.int p5), .val (.int p6), .val (.ref b1), .val (.ref b34), .val (.ref r_44), .val (.int a_44), .val (.int (0 : Int32))] [(.int (own_ha a_44 ps_44))])) _
      refine XS.iload X65.here hx rfl (hb hby at_136) rfl ?_
      show Steps p.tables e below (T65.setTop (mkF m 138 #[.val (.int p1), .val (.int p2), .val (.int p3), .val (.int p4), .val (.int p5), .val (.int p6), .val (.ref b1), .val (.ref b34), .val (.ref r_44), .val (.int a_44), .val (.int (0 : Int32))] [(.int (0 : Int32)), (.int (own_ha a_44 ps_44))])) _
      refine XS.icmpNo X65.here hx rfl (hb hby at_138) rfl (teq (own_no (own_csb p1 p2 p3 p4 p5 p6) t44_3 (Or.inl hc95_53) : (own_ha a_44 ps_44) = (0 : Int32))).2 ?_
      show Steps p.tables e below (T65.setTop (mkF m 141 #[.val (.int p1), .val (.int p2), .val (.int p3), .val (.int p4), .val (.int p5), .val (.int p6), .val (.ref b1), .val (.ref b34), .val (.ref r_44), .val (.int a_44), .val (.int (0 : Int32))] [])) _
      refine XS.iconst X65.here hx rfl (hb hby at_141) ?_
      show Steps p.tables e below (T65.setTop (mkF m 142 #[.val (.int p1), .val (.int p2), .val (.int p3), .val (.int p4), .val (.int p5), .val (.int p6), .val (.ref b1), .val (.ref b34), .val (.ref r_44), .val (.int a_44), .val (.int (0 : Int32))] [(.int (1 : Int32))])) _
      refine XS.goto X65.here hx rfl (pc0 := 142) (pc' := 146) rfl (hb hby at_142) (by decide) (by decide) ?_
      show Steps p.tables e below (T65.setTop (mkF m 146 #[.val (.int p1), .val (.int p2), .val (.int p3), .val (.int p4), .val (.int p5), .val (.int p6), .val (.ref b1), .val (.ref b34), .val (.ref r_44), .val (.int a_44), .val (.int (0 : Int32))] [(.int (1 : Int32))])) _
      exact retN X65 hx (t := .boolean) Bd.returns (by simp) (hb hby at_146) hr
    · show Q_rm0 Z p1 p2 p3 p4 p5 p6 z0 ss ks fm h0 n0 _ T65.heap _ T65.vm
      rw [e65]
      exact ⟨rfl, N65⟩
theorem own_hasL (c : Cell) : ∀ (r : List Value) (i : Nat), c.slots.toList.drop i = r → HasL c i r
  | [], _, _ => trivial
  | v :: r, i, h => ⟨by
      have q : c.slots.toList[i]? = some v := by rw [← List.head?_drop, h]; rfl
      simpa using q, own_hasL c r (i + 1) (by rw [← List.tail_drop, h]; rfl)⟩
theorem own_arr {s : State} {args : Array Value} {t : Term} {ty : FieldType} {k : Int32} {a : Addr} (ev : t.eval args s none [] s = some (.ref a)) (hx : (Cond.arrayOf t ty).value args s none s [] = some true) (hl : (Cond.eq (Term.length t) (Term.int k)).value args s none s [] = some true) : ∃ c, Arr s s.heap a c ty ∧ c.slots.size < 2 ^ 31 ∧ c.slots.size.toInt32 = k := by
  obtain ⟨c, A⟩ := Arr.start ev hx
  obtain ⟨x, y, hx', hy, K1, K2⟩ := cmp_v (Or.inl hl)
  cases (Term.int_eval k).symm.trans hy
  obtain ⟨z, rfl⟩ := K2
  have q := gotT (Cond.eq_ints hx' hy) hl
  subst q
  obtain ⟨b, cell, g1, g2, g3, g4⟩ := Jvm.Lib.length_spec hx'
  have g5 := Value.ref.inj (Option.some.inj (ev.symm.trans g1))
  subst g5
  have g6 := Option.some.inj (A.1.symm.trans (State.arrayAt?_spec g2).1)
  subst g6
  exact ⟨_, A, g3, (Value.int.inj g4).symm⟩
theorem own_sz {n : Nat} {k : Int32} (q : n < 2 ^ 31) (e : n.toInt32 = k) : k.toNatClampNeg = n := by
  subst e
  exact Int32.toNatClampNeg_ofNat_of_lt q
theorem own_el {s : State} {args : Array Value} {t : Term} {ty : FieldType} {k : Int32} {j : Nat} {a : Addr} {c : Cell} (ev : t.eval args s none [] s = some (.ref a)) (A : Arr s s.heap a c ty) (hj : j < c.slots.size) (h31 : c.slots.size < 2 ^ 31) (he : (Cond.eq (Term.elem t (Term.int (Int32.ofNat j))) (Term.int k)).value args s none s [] = some true) : c.slots[j]? = some (.int k) := by
  obtain ⟨x, y, hx', hy, K1, K2⟩ := cmp_v (Or.inl he)
  cases (Term.int_eval k).symm.trans hy
  obtain ⟨z, rfl⟩ := K2
  have q := gotT (Cond.eq_ints hx' hy) he
  subst q
  have hat : s.arrayAt? a = some c := IntBox.arrayAt_of A.1 A.2.1 A.2.2
  have h := SBG.elem_at (ix := .int (Int32.ofNat j)) ev hat hj h31 rfl
  exact h.symm.trans hx'
set_option maxRecDepth 65536 in
set_option maxHeartbeats 40000000 in
theorem comes_1 {Post : Tables → Env → Array Value → State → Outcome → State → Prop} (hpost : ∀ tb e args s v u, (limb_1_1.after args s (.returned v) u = true ∧ limb_1_2.after args s (.returned v) u = true ∧ True) → ReturnedEndW s (.returned v) u (Jvm.fieldLocs frame_1_writes args s ++ Jvm.arrayLocs frame_1_arrays args s ++ Jvm.staticLocs frame_1_statics s) 24 1152 → Post tb e args s (.returned v) u) :
    ArmFor flags0 classFile x code maxLocals ret World_1 tables_1 room_1 Calls_1 rest_1 Pre_1 Post := by
  intro l hfl _ _ p e ha hc hk s m args below hf hA hF happ hP
  obtain ⟨hcalls, hrest, hpre⟩ := hP
  obtain ⟨-, -, -, hnamed, -, -, -, hat⟩ := (Spec.applies_iff hf).mp happ
  obtain ⟨hg, hn⟩ := and_e (Cond.before_iff.mp (show (Jvm.Cond.and given_1 narrow_1).before args s = true from hpre))
  obtain ⟨gc, gr0⟩ := and_e hg
  obtain ⟨ga0, gr1⟩ := and_e gr0
  obtain ⟨ga1, gr2⟩ := and_e gr1
  obtain ⟨ga2, gr3⟩ := and_e gr2
  obtain ⟨ga3, gr4⟩ := and_e gr3
  obtain ⟨ga4, gr5⟩ := and_e gr4
  obtain ⟨w0, w1, w2, w3, w4, w5, rfl⟩ : ∃ w0 w1 w2 w3 w4 w5 : Value, args = #[w0, w1, w2, w3, w4, w5] := by
    have hs : args.size = 6 := by simpa [Cond.value, given_1] using gc
    obtain ⟨L⟩ := args
    match L, hs with
    | [w0, w1, w2, w3, w4, w5], _ => exact ⟨w0, w1, w2, w3, w4, w5, rfl⟩
  have hw := fun d (hd : d ∈ tables_1) => atoms_spec (ws := Jvm.Cond.code x code maxLocals ret :: tables_1) hat d (List.mem_cons_of_mem _ hd)
  have hfit : Fit s := fun {y c} hc i hi => by
    obtain ⟨ha, rfl⟩ := Array.getElem?_eq_some_iff.mp hc
    have q := List.all_eq_true.mp ((Array.all_eq_true_iff_forall_mem.mp hF) _ (Array.getElem_mem ha)) i (List.mem_range.mpr hi)
    simpa [Array.getElem?_eq_getElem hi] using q
  obtain ⟨hsets, hown0⟩ := atoms_of _ (rest_1_c_eq ▸ (show rest_1_c.before _ s = true from hrest))
  have hr0 := Cond.before_iff.mp hown0
  obtain ⟨i0, ei0⟩ := is_v ga0
  obtain rfl : w0 = (.int i0) := Option.some.inj ei0
  obtain ⟨i1, ei1⟩ := is_v ga1
  obtain rfl : w1 = (.int i1) := Option.some.inj ei1
  obtain ⟨i2, ei2⟩ := is_v ga2
  obtain rfl : w2 = (.int i2) := Option.some.inj ei2
  obtain ⟨i3, ei3⟩ := is_v ga3
  obtain rfl : w3 = (.int i3) := Option.some.inj ei3
  obtain ⟨i4, ei4⟩ := is_v ga4
  obtain rfl : w4 = (.int i4) := Option.some.inj ei4
  obtain ⟨i5, ei5⟩ := is_v gr5
  obtain rfl : w5 = (.int i5) := Option.some.inj ei5
  obtain ⟨c0, hn0'⟩ := and_e hn
  obtain ⟨c1, hn1'⟩ := and_e hn0'
  obtain ⟨c2, hn2'⟩ := and_e hn1'
  obtain ⟨c3, c4⟩ := and_e hn2'
  obtain ⟨ss, ev_ss⟩ := arr_v c0
  obtain ⟨cE, AE, qE, zE⟩ := own_arr ev_ss c0 c1
  have sE : cE.slots.size = 3 := (own_sz qE zE).symm.trans (by decide)
  have V_ss : Arv s s.heap ss cE.cls .char (3 : Int32) [(.int (47 : Int32)), (.int (63 : Int32)), (.int (35 : Int32))] (.int (0 : Int32)) := Arv.start hfit AE qE zE (by decide) (by decide) ⟨own_el (j := 0) ev_ss AE (by omega) qE c2, own_el (j := 1) ev_ss AE (by omega) qE c3, own_el (j := 2) ev_ss AE (by omega) qE c4, trivial⟩
  have S_ss : Sta s s.heap nm2 "SCHEME_STOPS" "[C" (.ref ss) := Sta.start ev_ss (Or.inr ⟨(own_w hw 36 rfl), (own_w hw 144 rfl)⟩)
  obtain ⟨z0, ev_cs⟩ := is_v (Cond.before_iff.mp (hsets _ (List.mem_of_getElem? (i := 1) rfl)))
  have S_cs : Sta s s.heap nm1 "COMPACT_STRINGS" "Z" (.int z0) := Sta.start ev_cs (Or.inl (hsets _ (List.mem_of_getElem? (i := 0) rfl)))
  have hcs : ¬ (z0 = (0 : Int32)) := gotF (Cond.eq_ints ev_cs (Term.int_eval 0)) (not_v (Cond.before_iff.mp (hsets _ (List.mem_of_getElem? (i := 2) rfl))))
  obtain ⟨fm, ev_fm, rfm⟩ := isR_v (Cond.before_iff.mp (hsets _ (List.mem_of_getElem? (i := 8) rfl)))
  have S_fm : Sta s s.heap "jdk/internal/util/Preconditions" "SIOOBE_FORMATTER" "Ljava/util/function/BiFunction;" fm := Sta.start ev_fm (Or.inl (hsets _ (List.mem_of_getElem? (i := 7) rfl)))
  have hH : ∀ q ∈ consts_1, Jvm.Lit.constHeld s q.1 q.2 := hcalls.1
  obtain ⟨n, o, h1, h2, h3, _, L, rfl, ⟨rfl, N⟩, hq⟩ := rm0 l s _ hw tables_1 i0 i1 i2 i3 i4 i5 z0 ss cE.cls fm s.heap s.heap.size (Nat.le_refl _) S_cs hcs S_ss V_ss S_fm (Nat.le_refl _) (fun _ _ h => h) (hsets _ (List.mem_of_getElem? (i := 2) rfl)) (hH (nm2, 92) (List.mem_of_getElem? (i := 0) rfl)) rfm p e ha hc hk s m _ below hf ((Spec.applies_iff_loose hf).mp happ).1 ⟨rfl, State.Warmed39.refl s, rfl, IB.start⟩ trivial
  refine ⟨n, _, h1, h2, h3, hpost _ _ _ _ _ _ ⟨Cond.after_iff.mpr rfl, Cond.after_iff.mpr (eq_i res_at (Term.int_eval (1)) rfl), trivial⟩ ⟨hq.1, hq.2.1, hq.2.2.1, (hq.2.2.2.sift fun y hy => Or.inr (N y hy)).mono (by decide) (by decide)⟩⟩
theorem main_1_1 : Claimed_1_1 := comes_1 fun _ _ _ _ _ _ h hF => ⟨h.1, hF⟩
theorem main_1_2 : Claimed_1_2 := comes_1 fun _ _ _ _ _ _ h hF => ⟨h.2.1, hF⟩
end Jvm.Pilot.@@N@@
namespace Jvm.Pilot.@@N@@
open Jvm Jvm.ClassFile Sem Op Lib Jvm.Free Jvm.Stand Jvm.Pilot.@@N@@.Jvm.D
/-! MADE BY PROGRAM (witnessworld.py) out of the Statement's table words and the real class files: 23 classes; the members and pool entries that the words name. The judged class is class 1, her method 2. -/
namespace start1
open Jvm.ClassFile
def u (s : String) : CpInfo := .utf8 (stringToUtf16 s)
/-- a pool by its gaps: so many unusable entries, then the entry; so many at the end -/
def gap : Nat → List CpInfo → List CpInfo
  | 0, r => r
  | n + 1, r => .unusable :: gap n r
def poolList (es : List (Nat × CpInfo)) (last : Nat) : List CpInfo := es.foldr (fun e r => gap e.1 (e.2 :: r)) (gap last [])
def pool (es : List (Nat × CpInfo)) (last : Nat) : Array CpInfo := ⟨poolList es last⟩
def fileOf (pool : Array CpInfo) (this : Nat) (attrs : Array Attribute := #[]) (ms : Array MethodInfo := #[]) (fl : Nat := 33) (sup : Nat := 0) (ifs : Array Nat := #[]) (fds : Array FieldInfo := #[]) : ClassFile where
  minorVersion := 0
  majorVersion := 65
  constantPool := pool
  accessFlags := fl
  thisClass := this
  superClass := sup
  interfaces := ifs
  fields := fds
  methods := ms
  attributes := attrs
def plain (name : String) (sup : Option ClassId) : Class where
  name := name
  kind := .ordinary
  loader := none
  accessFlags := 33
  super := sup
  interfaces := #[]
  cf := none
  fields := #[]
  methods := #[]
  instanceTypes := #[]
  staticTypes := #[]
  resolved := #[]
  callSites := []
  init := .initialized
  statics := none
  mirror := none

def pool0 : Array CpInfo := pool [(5, u "<init>"), (0, u "()V"), (1, .class_ 10), (1, u "java/lang/Object")] 113

def k0c0 : Code := { maxStack := 0, maxLocals := 1, code := object_method_1_code, exceptionTable := #[], attributes := #[] }
def k0m0 : Method := { name := "<init>", desc := "()V", sig := { parameters := [], returnType := none }, accessFlags := 1, code := some k0c0 }
/-- java/lang/Object -/
def k0 : Class := { plain "java/lang/Object" none with
  accessFlags := 33
  interfaces := #[]
  cf := some (fileOf pool0 8 #[] #[{ accessFlags := 1, nameIndex := 5, descriptorIndex := 6, attributes := #[] }] 33 0 #[] #[])
  fields := #[]
  methods := #[k0m0]
  instanceTypes := #[]
  staticTypes := #[]
  resolved := Array.replicate 124 none
  statics := none }

def pool1 : Array CpInfo := pool [(2, .class_ 4), (1, u "java/lang/Object"), (0, u "<init>"), (0, u "()V"), (0, .methodref 8 9), (0, .class_ 10), (0, .nameAndType 11 12), (0, u "com/example/basepoint/basepoint/uri/UriReferenceSplitHasAuthorityPinLaw"), (0, u "pick"), (0, u "(I)C"), (0, .class_ 14), (0, u "java/lang/String"), (0, .methodref 13 16), (0, .nameAndType 5 17), (0, u "([C)V"), (0, .methodref 19 20), (0, .class_ 21), (0, .nameAndType 22 23), (0, u "com/example/basepoint/basepoint/uri/UriReference"), (0, u "split"), (0, u "(Ljava/lang/String;)Lcom/example/basepoint/basepoint/uri/UriReference$Split;"), (0, .methodref 25 26), (0, .class_ 27), (0, .nameAndType 28 29), (0, u "com/example/basepoint/basepoint/uri/UriReference$Split"), (0, u "afterScheme"), (0, u "()I"), (0, .methodref 13 31), (0, .nameAndType 32 29), (0, u "length"), (0, .methodref 13 34), (0, .nameAndType 35 12), (0, u "charAt"), (0, .methodref 25 37), (0, .nameAndType 38 39), (0, u "hasAuthority"), (0, u "()Z"), (3, u "law"), (0, u "(IIIIII)Z")] 6

def k1m0 : Method := { name := "<init>", desc := "()V", sig := { parameters := [], returnType := none }, accessFlags := 1, code := none }
def k1c1 : Code := { maxStack := 2, maxLocals := 2, code := method_2_code, exceptionTable := #[], attributes := #[] }
def k1m1 : Method := { name := "pick", desc := "(I)C", sig := { parameters := [.int], returnType := some .char }, accessFlags := 10, code := some k1c1 }
def k1c2 : Code := { maxStack := 3, maxLocals := 11, code := code, exceptionTable := #[], attributes := #[] }
def k1m2 : Method := { name := "law", desc := "(IIIIII)Z", sig := { parameters := [.int, .int, .int, .int, .int, .int], returnType := some .boolean }, accessFlags := 9, code := some k1c2 }
/-- com/example/basepoint/basepoint/uri/UriReferenceSplitHasAuthorityPinLaw -/
def k1 : Class := { plain "com/example/basepoint/basepoint/uri/UriReferenceSplitHasAuthorityPinLaw" (some 0) with
  accessFlags := 49
  interfaces := #[]
  cf := some (fileOf pool1 8 #[] #[{ accessFlags := 1, nameIndex := 5, descriptorIndex := 6, attributes := #[] }, { accessFlags := 10, nameIndex := 11, descriptorIndex := 12, attributes := #[] }, { accessFlags := 9, nameIndex := 43, descriptorIndex := 44, attributes := #[] }] 49 2 #[] #[])
  fields := #[]
  methods := #[k1m0, k1m1, k1m2]
  instanceTypes := #[]
  staticTypes := #[]
  resolved := Array.replicate 51 none
  statics := none }

def pool2 : Array CpInfo := pool [(1, .class_ 2), (0, u "java/io/Serializable"), (0, .class_ 4), (0, u "java/lang/Object")] 2

/-- java/io/Serializable -/
def k2 : Class := { plain "java/io/Serializable" (some 0) with
  accessFlags := 1537
  interfaces := #[]
  cf := some (fileOf pool2 1 #[] #[] 1537 3 #[] #[])
  fields := #[]
  methods := #[]
  instanceTypes := #[]
  staticTypes := #[]
  resolved := Array.replicate 7 none
  statics := none }

def pool3 : Array CpInfo := pool [(1, .class_ 2), (0, u "java/lang/Comparable"), (0, .class_ 4), (0, u "java/lang/Object")] 7

/-- java/lang/Comparable -/
def k3 : Class := { plain "java/lang/Comparable" (some 0) with
  accessFlags := 1537
  interfaces := #[]
  cf := some (fileOf pool3 1 #[] #[] 1537 3 #[] #[])
  fields := #[]
  methods := #[]
  instanceTypes := #[]
  staticTypes := #[]
  resolved := Array.replicate 12 none
  statics := none }

def pool4 : Array CpInfo := pool [(2, .class_ 4), (1, u "java/lang/CharSequence"), (42, .class_ 48), (0, u "java/lang/CharSequence$1CodePointIterator"), (10, .class_ 60), (0, u "java/lang/CharSequence$1CharIterator"), (5, .class_ 67), (0, u "java/lang/Object")] 63

/-- java/lang/CharSequence -/
def k4 : Class := { plain "java/lang/CharSequence" (some 0) with
  accessFlags := 1537
  interfaces := #[]
  cf := some (fileOf pool4 2 #[.nestMembers #[47, 59]] #[] 1537 66 #[] #[])
  fields := #[]
  methods := #[]
  instanceTypes := #[]
  staticTypes := #[]
  resolved := Array.replicate 131 none
  statics := none }

def pool5 : Array CpInfo := pool [(1, .class_ 2), (0, u "java/lang/constant/Constable"), (0, .class_ 4), (0, u "java/lang/Object")] 6

/-- java/lang/constant/Constable -/
def k5 : Class := { plain "java/lang/constant/Constable" (some 0) with
  accessFlags := 1537
  interfaces := #[]
  cf := some (fileOf pool5 1 #[] #[] 1537 3 #[] #[])
  fields := #[]
  methods := #[]
  instanceTypes := #[]
  staticTypes := #[]
  resolved := Array.replicate 11 none
  statics := none }

def pool6 : Array CpInfo := pool [(1, .class_ 2), (0, u "java/lang/constant/ConstantDesc"), (0, .class_ 4), (0, u "java/lang/Object")] 32

/-- java/lang/constant/ConstantDesc -/
def k6 : Class := { plain "java/lang/constant/ConstantDesc" (some 0) with
  accessFlags := 1537
  interfaces := #[]
  cf := some (fileOf pool6 1 #[] #[] 1537 3 #[] #[])
  fields := #[]
  methods := #[]
  instanceTypes := #[]
  staticTypes := #[]
  resolved := Array.replicate 37 none
  statics := none }

def pool7 : Array CpInfo := pool [(1, .methodref 2 3), (0, .class_ 4), (0, .nameAndType 5 6), (0, u "java/lang/Object"), (0, u "<init>"), (0, u "()V"), (2, .fieldref 10 11), (0, .class_ 12), (0, .nameAndType 13 14), (0, u "java/lang/String"), (0, u "value"), (0, u "[B"), (0, .fieldref 10 16), (0, .nameAndType 17 18), (0, u "coder"), (0, u "B"), (2, u "hash"), (0, u "I"), (2, u "hashIsZero"), (0, u "Z"), (0, .methodref 10 28), (0, .nameAndType 5 29), (0, u "([CIILjava/lang/Void;)V"), (8, .fieldref 10 39), (0, .nameAndType 40 26), (0, u "COMPACT_STRINGS"), (1, .class_ 44), (1, u "java/lang/StringUTF16"), (0, u "compress"), (1, .methodref 42 48), (0, .nameAndType 49 50), (0, u "coderFromArrayLen"), (0, u "([BI)B"), (46, u "([BII)I"), (9, .class_ 109), (1, u "java/lang/StringLatin1"), (32, u "()Z"), (34, .methodref 42 178), (0, .nameAndType 45 179), (0, u "([CII)[B"), (154, u "()I"), (0, .methodref 10 336), (0, .nameAndType 17 337), (0, u "()B"), (25, u "([BI)C"), (12, u "([BI[BII)I"), (14, u "(II)V"), (35, u "(I)C"), (64, .methodref 10 493), (0, .nameAndType 494 142), (0, u "isLatin1"), (0, .methodref 107 496), (0, .nameAndType 497 363), (0, u "charAt"), (3, u "checkIndex"), (3, .methodref 10 506), (0, .nameAndType 507 334), (0, u "length"), (51, .class_ 561), (1, u "jdk/internal/util/ArraysSupport"), (0, u "mismatch"), (12, .class_ 576), (0, u "java/lang/CharSequence"), (22, u "CASE_INSENSITIVE_ORDER"), (0, u "Ljava/util/Comparator;"), (6, .methodref 559 608), (0, .nameAndType 562 376), (17, u "startsWith"), (0, u "(Ljava/lang/String;I)Z"), (5, .methodref 10 634), (0, .nameAndType 635 636), (0, u "indexOf"), (0, u "(II)I"), (0, .methodref 107 638), (0, .nameAndType 635 639), (0, u "([BIII)I"), (3, u "lastIndexOf"), (0, .methodref 107 645), (0, .nameAndType 643 97), (119, u "(I)I"), (244, u "([C)V"), (42, .fieldref 1054 1055), (0, .class_ 1056), (0, .nameAndType 1057 1058), (0, u "jdk/internal/util/Preconditions"), (0, u "SIOOBE_FORMATTER"), (0, u "Ljava/util/function/BiFunction;"), (0, .methodref 1054 1060), (0, .nameAndType 501 1061), (0, u "(IILjava/util/function/BiFunction;)I"), (39, u "serialPersistentFields"), (0, u "[Ljava/io/ObjectStreamField;"), (0, .class_ 1104), (0, u "java/lang/String$CaseInsensitiveComparator"), (1, .class_ 1107), (0, u "java/io/Serializable"), (0, .class_ 1109), (0, u "java/lang/Comparable"), (0, .class_ 1111), (0, u "java/lang/constant/Constable"), (0, .class_ 1113), (0, u "java/lang/constant/ConstantDesc"), (2, u "serialVersionUID"), (0, u "J"), (3, u "REPL"), (0, u "C"), (2, u "LATIN1"), (1, u "UTF16")] 323

def k7m0 : Method := { name := "<init>", desc := "()V", sig := { parameters := [], returnType := none }, accessFlags := 1, code := none }
def k7c1 : Code := { maxStack := 5, maxLocals := 2, code := jdk_42_method_3_code, exceptionTable := #[], attributes := #[] }
def k7m1 : Method := { name := "<init>", desc := "([C)V", sig := { parameters := [(.array .char)], returnType := none }, accessFlags := 1, code := some k7c1 }
def k7c2 : Code := { maxStack := 2, maxLocals := 1, code := jdk_42_method_54_code, exceptionTable := #[], attributes := #[] }
def k7m2 : Method := { name := "length", desc := "()I", sig := { parameters := [], returnType := some .int }, accessFlags := 1, code := some k7c2 }
def k7c3 : Code := { maxStack := 2, maxLocals := 2, code := jdk_42_method_56_code, exceptionTable := #[], attributes := #[] }
def k7m3 : Method := { name := "charAt", desc := "(I)C", sig := { parameters := [.int], returnType := some .char }, accessFlags := 1, code := some k7c3 }
def k7c4 : Code := { maxStack := 5, maxLocals := 8, code := jdk_42_method_75_code, exceptionTable := #[], attributes := #[] }
def k7m4 : Method := { name := "startsWith", desc := "(Ljava/lang/String;I)Z", sig := { parameters := [(.object "java/lang/String"), .int], returnType := some .boolean }, accessFlags := 1, code := some k7c4 }
def k7c5 : Code := { maxStack := 3, maxLocals := 2, code := jdk_42_method_79_code, exceptionTable := #[], attributes := #[] }
def k7m5 : Method := { name := "indexOf", desc := "(I)I", sig := { parameters := [.int], returnType := some .int }, accessFlags := 1, code := some k7c5 }
def k7c6 : Code := { maxStack := 4, maxLocals := 3, code := jdk_42_method_80_code, exceptionTable := #[], attributes := #[] }
def k7m6 : Method := { name := "indexOf", desc := "(II)I", sig := { parameters := [.int, .int], returnType := some .int }, accessFlags := 1, code := some k7c6 }
def k7c7 : Code := { maxStack := 3, maxLocals := 3, code := jdk_42_method_83_code, exceptionTable := #[], attributes := #[] }
def k7m7 : Method := { name := "lastIndexOf", desc := "(II)I", sig := { parameters := [.int, .int], returnType := some .int }, accessFlags := 1, code := some k7c7 }
def k7c8 : Code := { maxStack := 4, maxLocals := 6, code := jdk_42_method_149_code, exceptionTable := #[], attributes := #[] }
def k7m8 : Method := { name := "<init>", desc := "([CIILjava/lang/Void;)V", sig := { parameters := [(.array .char), .int, .int, (.object "java/lang/Void")], returnType := none }, accessFlags := 2, code := some k7c8 }
def k7c9 : Code := { maxStack := 1, maxLocals := 1, code := jdk_42_method_152_code, exceptionTable := #[], attributes := #[] }
def k7m9 : Method := { name := "coder", desc := "()B", sig := { parameters := [], returnType := some .byte }, accessFlags := 0, code := some k7c9 }
def k7c10 : Code := { maxStack := 1, maxLocals := 1, code := jdk_42_method_154_code, exceptionTable := #[], attributes := #[] }
def k7m10 : Method := { name := "isLatin1", desc := "()Z", sig := { parameters := [], returnType := some .boolean }, accessFlags := 0, code := some k7c10 }
def k7c11 : Code := { maxStack := 3, maxLocals := 2, code := jdk_42_method_155_code, exceptionTable := #[], attributes := #[] }
def k7m11 : Method := { name := "checkIndex", desc := "(II)V", sig := { parameters := [.int, .int], returnType := none }, accessFlags := 8, code := some k7c11 }
/-- java/lang/String -/
def k7 : Class := { plain "java/lang/String" (some 0) with
  accessFlags := 49
  interfaces := #[2, 3, 4, 5, 6]
  cf := some (fileOf pool7 10 #[.nestMembers #[1103]] #[{ accessFlags := 1, nameIndex := 5, descriptorIndex := 6, attributes := #[] }, { accessFlags := 1, nameIndex := 5, descriptorIndex := 1010, attributes := #[] }, { accessFlags := 1, nameIndex := 507, descriptorIndex := 334, attributes := #[] }, { accessFlags := 1, nameIndex := 497, descriptorIndex := 427, attributes := #[] }, { accessFlags := 1, nameIndex := 626, descriptorIndex := 627, attributes := #[] }, { accessFlags := 1, nameIndex := 635, descriptorIndex := 765, attributes := #[] }, { accessFlags := 1, nameIndex := 635, descriptorIndex := 636, attributes := #[] }, { accessFlags := 1, nameIndex := 643, descriptorIndex := 636, attributes := #[] }, { accessFlags := 2, nameIndex := 5, descriptorIndex := 29, attributes := #[] }, { accessFlags := 0, nameIndex := 17, descriptorIndex := 337, attributes := #[] }, { accessFlags := 0, nameIndex := 494, descriptorIndex := 142, attributes := #[] }, { accessFlags := 8, nameIndex := 501, descriptorIndex := 391, attributes := #[] }] 49 2 #[1106, 1108, 575, 1110, 1112] #[{ accessFlags := 18, nameIndex := 13, descriptorIndex := 14, attributes := #[] }, { accessFlags := 18, nameIndex := 17, descriptorIndex := 18, attributes := #[] }, { accessFlags := 2, nameIndex := 21, descriptorIndex := 22, attributes := #[] }, { accessFlags := 2, nameIndex := 25, descriptorIndex := 26, attributes := #[] }, { accessFlags := 26, nameIndex := 1116, descriptorIndex := 1117, attributes := #[] }, { accessFlags := 24, nameIndex := 40, descriptorIndex := 26, attributes := #[] }, { accessFlags := 26, nameIndex := 1101, descriptorIndex := 1102, attributes := #[] }, { accessFlags := 26, nameIndex := 1121, descriptorIndex := 1122, attributes := #[] }, { accessFlags := 25, nameIndex := 599, descriptorIndex := 600, attributes := #[] }, { accessFlags := 24, nameIndex := 1125, descriptorIndex := 18, attributes := #[] }, { accessFlags := 24, nameIndex := 1127, descriptorIndex := 18, attributes := #[] }])
  fields := #[{ name := "value", type := (.array .byte), accessFlags := 18, slot := 0, constantValue := 0 }, { name := "coder", type := .byte, accessFlags := 18, slot := 1, constantValue := 0 }, { name := "hash", type := .int, accessFlags := 2, slot := 2, constantValue := 0 }, { name := "hashIsZero", type := .boolean, accessFlags := 2, slot := 3, constantValue := 0 }, { name := "serialVersionUID", type := .long, accessFlags := 26, slot := 0, constantValue := 0 }, { name := "COMPACT_STRINGS", type := .boolean, accessFlags := 24, slot := 1, constantValue := 0 }, { name := "serialPersistentFields", type := (.array (.object "java/io/ObjectStreamField")), accessFlags := 26, slot := 2, constantValue := 0 }, { name := "REPL", type := .char, accessFlags := 26, slot := 3, constantValue := 0 }, { name := "CASE_INSENSITIVE_ORDER", type := (.object "java/util/Comparator"), accessFlags := 25, slot := 4, constantValue := 0 }, { name := "LATIN1", type := .byte, accessFlags := 24, slot := 5, constantValue := 0 }, { name := "UTF16", type := .byte, accessFlags := 24, slot := 6, constantValue := 0 }]
  methods := #[k7m0, k7m1, k7m2, k7m3, k7m4, k7m5, k7m6, k7m7, k7m8, k7m9, k7m10, k7m11]
  instanceTypes := #[(.array .byte), .byte, .int, .boolean]
  staticTypes := #[.long, .boolean, (.array (.object "java/io/ObjectStreamField")), .char, (.object "java/util/Comparator"), .byte, .byte]
  resolved := Array.replicate 1451 none
  statics := some 0 }

def pool8 : Array CpInfo := pool [(6, .class_ 8), (1, u "java/lang/Object"), (0, u "<init>"), (0, u "()V"), (1, .class_ 14), (1, u "java/lang/StringUTF16"), (31, u "$assertionsDisabled"), (0, u "Z"), (13, u "HI_BYTE_SHIFT"), (0, u "I"), (2, u "LO_BYTE_SHIFT"), (49, .methodref 12 116), (0, .nameAndType 117 118), (0, u "compress"), (0, u "([CI[BII)I"), (3, u "([CII)[B"), (138, u "coderFromArrayLen"), (0, u "([BI)B"), (106, .class_ 371), (1, u "java/lang/StringUTF16$LinesSpliterator"), (58, u "MAX_LENGTH"), (196, .class_ 628), (0, u "java/lang/StringUTF16$CodePointsSpliterator"), (0, .class_ 630), (0, u "java/lang/StringUTF16$CharsSpliterator")] 4

def k8m0 : Method := { name := "<init>", desc := "()V", sig := { parameters := [], returnType := none }, accessFlags := 0, code := none }
def k8c1 : Code := { maxStack := 2, maxLocals := 2, code := jdk_52_method_15_code, exceptionTable := #[], attributes := #[] }
def k8m1 : Method := { name := "coderFromArrayLen", desc := "([BI)B", sig := { parameters := [(.array .byte), .int], returnType := some .byte }, accessFlags := 8, code := some k8c1 }
def k8c2 : Code := { maxStack := 5, maxLocals := 6, code := jdk_52_method_16_code, exceptionTable := #[], attributes := #[] }
def k8m2 : Method := { name := "compress", desc := "([CII)[B", sig := { parameters := [(.array .char), .int, .int], returnType := some (.array .byte) }, accessFlags := 9, code := some k8c2 }
def k8c3 : Code := { maxStack := 3, maxLocals := 7, code := jdk_52_method_21_code, exceptionTable := #[], attributes := #[] }
def k8m3 : Method := { name := "compress", desc := "([CI[BII)I", sig := { parameters := [(.array .char), .int, (.array .byte), .int, .int], returnType := some .int }, accessFlags := 9, code := some k8c3 }
/-- java/lang/StringUTF16 -/
def k8 : Class := { plain "java/lang/StringUTF16" (some 0) with
  accessFlags := 48
  interfaces := #[]
  cf := some (fileOf pool8 12 #[.nestMembers #[627, 629, 369]] #[{ accessFlags := 0, nameIndex := 9, descriptorIndex := 10, attributes := #[] }, { accessFlags := 8, nameIndex := 261, descriptorIndex := 262, attributes := #[] }, { accessFlags := 9, nameIndex := 117, descriptorIndex := 122, attributes := #[] }, { accessFlags := 9, nameIndex := 117, descriptorIndex := 118, attributes := #[] }] 48 6 #[] #[{ accessFlags := 26, nameIndex := 61, descriptorIndex := 62, attributes := #[] }, { accessFlags := 26, nameIndex := 65, descriptorIndex := 62, attributes := #[] }, { accessFlags := 24, nameIndex := 430, descriptorIndex := 62, attributes := #[] }, { accessFlags := 4120, nameIndex := 46, descriptorIndex := 47, attributes := #[] }])
  fields := #[{ name := "HI_BYTE_SHIFT", type := .int, accessFlags := 26, slot := 0, constantValue := 0 }, { name := "LO_BYTE_SHIFT", type := .int, accessFlags := 26, slot := 1, constantValue := 0 }, { name := "MAX_LENGTH", type := .int, accessFlags := 24, slot := 2, constantValue := 0 }, { name := "$assertionsDisabled", type := .boolean, accessFlags := 4120, slot := 3, constantValue := 0 }]
  methods := #[k8m0, k8m1, k8m2, k8m3]
  instanceTypes := #[]
  staticTypes := #[.int, .int, .int, .boolean]
  resolved := Array.replicate 635 none
  statics := none }

def pool9 : Array CpInfo := pool [(1, .methodref 2 3), (0, .class_ 4), (0, .nameAndType 5 6), (0, u "java/lang/Object"), (0, u "<init>"), (0, u "()V"), (0, .class_ 8), (0, u "java/lang/Record")] 13

def k9c0 : Code := { maxStack := 1, maxLocals := 1, code := jdk_30_method_1_code, exceptionTable := #[], attributes := #[] }
def k9m0 : Method := { name := "<init>", desc := "()V", sig := { parameters := [], returnType := none }, accessFlags := 4, code := some k9c0 }
/-- java/lang/Record -/
def k9 : Class := { plain "java/lang/Record" (some 0) with
  accessFlags := 1057
  interfaces := #[]
  cf := some (fileOf pool9 7 #[] #[{ accessFlags := 4, nameIndex := 5, descriptorIndex := 6, attributes := #[] }] 1057 2 #[] #[])
  fields := #[]
  methods := #[k9m0]
  instanceTypes := #[]
  staticTypes := #[]
  resolved := Array.replicate 22 none
  statics := none }

def pool10 : Array CpInfo := pool [(2, .class_ 4), (1, u "java/lang/Record"), (0, u "<init>"), (2, u "scheme"), (7, u "authority"), (1, u "path"), (1, u "query"), (1, u "fragment"), (1, .class_ 26), (1, u "com/example/basepoint/basepoint/uri/UriReference"), (0, u "Ljava/util/Optional;"), (4, u "Ljava/lang/String;"), (6, u "split"), (0, u "(Ljava/lang/String;)Lcom/example/basepoint/basepoint/uri/UriReference$Split;"), (1, .class_ 44), (1, u "com/example/basepoint/basepoint/uri/UriReference$Split"), (0, u "afterScheme"), (0, u "()I"), (1, .class_ 50), (1, u "java/lang/String"), (25, .methodref 48 77), (0, .nameAndType 78 46), (0, u "length"), (6, .methodref 24 86), (0, .nameAndType 45 87), (0, u "(Ljava/lang/String;)I"), (0, .methodref 48 89), (0, .nameAndType 90 91), (0, u "indexOf"), (0, u "(II)I"), (0, .string 93), (0, u "//"), (0, .methodref 48 95), (0, .nameAndType 96 97), (0, u "startsWith"), (0, u "(Ljava/lang/String;I)Z"), (0, .methodref 42 99), (0, .nameAndType 5 100), (0, u "(IIII)V"), (81, u "lastIndexOf"), (0, u "(I)I"), (41, .methodref 48 226), (0, .nameAndType 90 183), (0, .fieldref 24 228), (0, .nameAndType 229 230), (0, u "SCHEME_STOPS"), (0, u "[C"), (0, .methodref 48 232), (0, .nameAndType 182 91), (10, u "DOT_SEGMENT")] 78

def k10c0 : Code := { maxStack := 6, maxLocals := 5, code := prog_68_method_3_code, exceptionTable := #[], attributes := #[] }
def k10m0 : Method := { name := "split", desc := "(Ljava/lang/String;)Lcom/example/basepoint/basepoint/uri/UriReference$Split;", sig := { parameters := [(.object "java/lang/String")], returnType := some (.object "com/example/basepoint/basepoint/uri/UriReference$Split") }, accessFlags := 9, code := some k10c0 }
def k10c1 : Code := { maxStack := 4, maxLocals := 6, code := prog_68_method_14_code, exceptionTable := #[], attributes := #[] }
def k10m1 : Method := { name := "afterScheme", desc := "(Ljava/lang/String;)I", sig := { parameters := [(.object "java/lang/String")], returnType := some .int }, accessFlags := 10, code := some k10c1 }
/-- com/example/basepoint/basepoint/uri/UriReference -/
def k10 : Class := { plain "com/example/basepoint/basepoint/uri/UriReference" (some 9) with
  accessFlags := 49
  interfaces := #[]
  cf := some (fileOf pool10 24 #[.nestMembers #[42]] #[{ accessFlags := 9, nameIndex := 39, descriptorIndex := 40, attributes := #[] }, { accessFlags := 10, nameIndex := 45, descriptorIndex := 87, attributes := #[] }] 49 2 #[] #[{ accessFlags := 18, nameIndex := 8, descriptorIndex := 27, attributes := #[] }, { accessFlags := 18, nameIndex := 16, descriptorIndex := 27, attributes := #[] }, { accessFlags := 18, nameIndex := 18, descriptorIndex := 32, attributes := #[] }, { accessFlags := 18, nameIndex := 20, descriptorIndex := 27, attributes := #[] }, { accessFlags := 18, nameIndex := 22, descriptorIndex := 27, attributes := #[] }, { accessFlags := 26, nameIndex := 243, descriptorIndex := 32, attributes := #[] }, { accessFlags := 26, nameIndex := 229, descriptorIndex := 230, attributes := #[] }])
  fields := #[{ name := "scheme", type := (.object "java/util/Optional"), accessFlags := 18, slot := 0, constantValue := 0 }, { name := "authority", type := (.object "java/util/Optional"), accessFlags := 18, slot := 1, constantValue := 0 }, { name := "path", type := (.object "java/lang/String"), accessFlags := 18, slot := 2, constantValue := 0 }, { name := "query", type := (.object "java/util/Optional"), accessFlags := 18, slot := 3, constantValue := 0 }, { name := "fragment", type := (.object "java/util/Optional"), accessFlags := 18, slot := 4, constantValue := 0 }, { name := "DOT_SEGMENT", type := (.object "java/lang/String"), accessFlags := 26, slot := 0, constantValue := 0 }, { name := "SCHEME_STOPS", type := (.array .char), accessFlags := 26, slot := 1, constantValue := 0 }]
  methods := #[k10m0, k10m1]
  instanceTypes := #[(.object "java/util/Optional"), (.object "java/util/Optional"), (.object "java/lang/String"), (.object "java/util/Optional"), (.object "java/util/Optional")]
  staticTypes := #[(.object "java/lang/String"), (.array .char)]
  resolved := Array.replicate 322 none
  statics := some 1 }

def pool11 : Array CpInfo := pool [(1, .class_ 2), (0, u "java/lang/String"), (1, .class_ 6), (1, u "java/lang/Object"), (0, u "<init>"), (0, u "()V"), (0, .methodref 1 10), (0, .nameAndType 11 12), (0, u "checkIndex"), (0, u "(II)V"), (1, .class_ 16), (1, u "java/lang/StringLatin1"), (21, .methodref 39 40), (0, .class_ 41), (0, .nameAndType 42 43), (0, u "java/lang/Math"), (0, u "min"), (0, u "(II)I"), (9, u "([BI)C"), (34, .methodref 14 89), (0, .nameAndType 90 91), (0, u "canEncode"), (0, u "(I)Z"), (0, .methodref 39 93), (0, .nameAndType 94 43), (0, u "max"), (0, .methodref 14 96), (0, .nameAndType 97 98), (0, u "indexOfChar"), (0, u "([BIII)I"), (2, u "indexOf"), (19, u "$assertionsDisabled"), (0, u "Z"), (98, .class_ 223), (1, u "java/lang/StringLatin1$LinesSpliterator"), (28, u "charAt"), (8, u "([BII)I"), (47, u "lastIndexOf"), (80, .class_ 391), (0, u "java/lang/StringLatin1$CharsSpliterator")] 3

def k11m0 : Method := { name := "<init>", desc := "()V", sig := { parameters := [], returnType := none }, accessFlags := 0, code := none }
def k11c1 : Code := { maxStack := 2, maxLocals := 2, code := jdk_43_method_2_code, exceptionTable := #[], attributes := #[] }
def k11m1 : Method := { name := "charAt", desc := "([BI)C", sig := { parameters := [(.array .byte), .int], returnType := some .char }, accessFlags := 9, code := some k11c1 }
def k11c2 : Code := { maxStack := 2, maxLocals := 1, code := jdk_43_method_4_code, exceptionTable := #[], attributes := #[] }
def k11m2 : Method := { name := "canEncode", desc := "(I)Z", sig := { parameters := [.int], returnType := some .boolean }, accessFlags := 9, code := some k11c2 }
def k11c3 : Code := { maxStack := 4, maxLocals := 4, code := jdk_43_method_22_code, exceptionTable := #[], attributes := #[] }
def k11m3 : Method := { name := "indexOf", desc := "([BIII)I", sig := { parameters := [(.array .byte), .int, .int, .int], returnType := some .int }, accessFlags := 9, code := some k11c3 }
def k11c4 : Code := { maxStack := 2, maxLocals := 6, code := jdk_43_method_23_code, exceptionTable := #[], attributes := #[] }
def k11m4 : Method := { name := "indexOfChar", desc := "([BIII)I", sig := { parameters := [(.array .byte), .int, .int, .int], returnType := some .int }, accessFlags := 10, code := some k11c4 }
def k11c5 : Code := { maxStack := 3, maxLocals := 4, code := jdk_43_method_27_code, exceptionTable := #[], attributes := #[] }
def k11m5 : Method := { name := "lastIndexOf", desc := "([BII)I", sig := { parameters := [(.array .byte), .int, .int], returnType := some .int }, accessFlags := 9, code := some k11c5 }
/-- java/lang/StringLatin1 -/
def k11 : Class := { plain "java/lang/StringLatin1" (some 0) with
  accessFlags := 48
  interfaces := #[]
  cf := some (fileOf pool11 14 #[.nestMembers #[390, 221]] #[{ accessFlags := 0, nameIndex := 7, descriptorIndex := 8, attributes := #[] }, { accessFlags := 9, nameIndex := 252, descriptorIndex := 53, attributes := #[] }, { accessFlags := 9, nameIndex := 90, descriptorIndex := 91, attributes := #[] }, { accessFlags := 9, nameIndex := 101, descriptorIndex := 98, attributes := #[] }, { accessFlags := 10, nameIndex := 97, descriptorIndex := 98, attributes := #[] }, { accessFlags := 9, nameIndex := 309, descriptorIndex := 261, attributes := #[] }] 48 4 #[] #[{ accessFlags := 4120, nameIndex := 121, descriptorIndex := 122, attributes := #[] }])
  fields := #[{ name := "$assertionsDisabled", type := .boolean, accessFlags := 4120, slot := 0, constantValue := 0 }]
  methods := #[k11m0, k11m1, k11m2, k11m3, k11m4, k11m5]
  instanceTypes := #[]
  staticTypes := #[.boolean]
  resolved := Array.replicate 395 none
  statics := none }

def pool12 : Array CpInfo := pool [(1, .class_ 2), (0, u "java/lang/Math"), (1, .class_ 6), (1, u "java/lang/Object"), (0, u "<init>"), (0, u "()V"), (89, .class_ 100), (1, u "java/lang/Math$RandomNumberGeneratorHolder"), (71, u "negativeZeroFloatBits"), (0, u "J"), (2, u "negativeZeroDoubleBits"), (21, u "max"), (2, u "min"), (43, u "$assertionsDisabled"), (0, u "Z"), (88, u "(II)I"), (2, u "twoToTheDoubleScaleDown"), (0, u "D"), (4, u "twoToTheDoubleScaleUp"), (9, u "E"), (3, u "PI"), (2, u "TAU"), (2, u "DEGREES_TO_RADIANS"), (0, u "RADIANS_TO_DEGREES")] 94

def k12m0 : Method := { name := "<init>", desc := "()V", sig := { parameters := [], returnType := none }, accessFlags := 2, code := none }
def k12c1 : Code := { maxStack := 2, maxLocals := 2, code := jdk_29_method_65_code, exceptionTable := #[], attributes := #[] }
def k12m1 : Method := { name := "max", desc := "(II)I", sig := { parameters := [.int, .int], returnType := some .int }, accessFlags := 9, code := some k12c1 }
def k12c2 : Code := { maxStack := 2, maxLocals := 2, code := jdk_29_method_69_code, exceptionTable := #[], attributes := #[] }
def k12m2 : Method := { name := "min", desc := "(II)I", sig := { parameters := [.int, .int], returnType := some .int }, accessFlags := 9, code := some k12c2 }
/-- java/lang/Math -/
def k12 : Class := { plain "java/lang/Math" (some 0) with
  accessFlags := 49
  interfaces := #[]
  cf := some (fileOf pool12 1 #[.nestMembers #[98]] #[{ accessFlags := 2, nameIndex := 7, descriptorIndex := 8, attributes := #[] }, { accessFlags := 9, nameIndex := 198, descriptorIndex := 335, attributes := #[] }, { accessFlags := 9, nameIndex := 201, descriptorIndex := 335, attributes := #[] }] 49 4 #[] #[{ accessFlags := 25, nameIndex := 354, descriptorIndex := 339, attributes := #[] }, { accessFlags := 25, nameIndex := 358, descriptorIndex := 339, attributes := #[] }, { accessFlags := 25, nameIndex := 361, descriptorIndex := 339, attributes := #[] }, { accessFlags := 26, nameIndex := 364, descriptorIndex := 339, attributes := #[] }, { accessFlags := 26, nameIndex := 365, descriptorIndex := 339, attributes := #[] }, { accessFlags := 26, nameIndex := 172, descriptorIndex := 173, attributes := #[] }, { accessFlags := 26, nameIndex := 176, descriptorIndex := 173, attributes := #[] }, { accessFlags := 8, nameIndex := 344, descriptorIndex := 339, attributes := #[] }, { accessFlags := 8, nameIndex := 338, descriptorIndex := 339, attributes := #[] }, { accessFlags := 4120, nameIndex := 245, descriptorIndex := 246, attributes := #[] }])
  fields := #[{ name := "E", type := .double, accessFlags := 25, slot := 0, constantValue := 0 }, { name := "PI", type := .double, accessFlags := 25, slot := 1, constantValue := 0 }, { name := "TAU", type := .double, accessFlags := 25, slot := 2, constantValue := 0 }, { name := "DEGREES_TO_RADIANS", type := .double, accessFlags := 26, slot := 3, constantValue := 0 }, { name := "RADIANS_TO_DEGREES", type := .double, accessFlags := 26, slot := 4, constantValue := 0 }, { name := "negativeZeroFloatBits", type := .long, accessFlags := 26, slot := 5, constantValue := 0 }, { name := "negativeZeroDoubleBits", type := .long, accessFlags := 26, slot := 6, constantValue := 0 }, { name := "twoToTheDoubleScaleUp", type := .double, accessFlags := 8, slot := 7, constantValue := 0 }, { name := "twoToTheDoubleScaleDown", type := .double, accessFlags := 8, slot := 8, constantValue := 0 }, { name := "$assertionsDisabled", type := .boolean, accessFlags := 4120, slot := 9, constantValue := 0 }]
  methods := #[k12m0, k12m1, k12m2]
  instanceTypes := #[]
  staticTypes := #[.double, .double, .double, .double, .double, .long, .long, .double, .double, .boolean]
  resolved := Array.replicate 460 none
  statics := none }

def pool13 : Array CpInfo := pool [(9, u "<init>"), (6, .class_ 18), (1, u "java/lang/Object"), (0, u "()V"), (1, .class_ 23), (1, u "jdk/internal/util/ArraysSupport"), (0, u "LOG2_ARRAY_LONG_INDEX_SCALE"), (0, u "I"), (2, u "U"), (0, u "Ljdk/internal/misc/Unsafe;"), (8, u "BIG_ENDIAN"), (0, u "Z"), (8, u "LOG2_BYTE_BIT_SIZE"), (4, u "LOG2_ARRAY_INT_INDEX_SCALE"), (54, u "JLA"), (0, u "Ljdk/internal/access/JavaLangAccess;"), (11, u "LOG2_ARRAY_BOOLEAN_INDEX_SCALE"), (9, u "LOG2_ARRAY_BYTE_INDEX_SCALE"), (5, u "LOG2_ARRAY_CHAR_INDEX_SCALE"), (5, u "LOG2_ARRAY_SHORT_INDEX_SCALE"), (5, u "mismatch"), (12, u "LOG2_ARRAY_FLOAT_INDEX_SCALE"), (24, u "LOG2_ARRAY_DOUBLE_INDEX_SCALE"), (89, u "T_BOOLEAN"), (2, u "T_CHAR"), (1, u "T_FLOAT"), (1, u "T_DOUBLE"), (1, u "T_BYTE"), (1, u "T_SHORT"), (1, u "T_INT"), (1, u "T_LONG"), (1, u "SOFT_MAX_ARRAY_LENGTH"), (42, u "([BI[BII)I")] 40

def k13m0 : Method := { name := "<init>", desc := "()V", sig := { parameters := [], returnType := none }, accessFlags := 2, code := none }
def k13c1 : Code := { maxStack := 8, maxLocals := 8, code := jdk_48_method_14_code, exceptionTable := #[], attributes := #[] }
def k13m1 : Method := { name := "mismatch", desc := "([BI[BII)I", sig := { parameters := [(.array .byte), .int, (.array .byte), .int, .int], returnType := some .int }, accessFlags := 9, code := some k13c1 }
/-- jdk/internal/util/ArraysSupport -/
def k13 : Class := { plain "jdk/internal/util/ArraysSupport" (some 0) with
  accessFlags := 33
  interfaces := #[]
  cf := some (fileOf pool13 21 #[] #[{ accessFlags := 2, nameIndex := 9, descriptorIndex := 19, attributes := #[] }, { accessFlags := 9, nameIndex := 149, descriptorIndex := 337, attributes := #[] }] 33 16 #[] #[{ accessFlags := 24, nameIndex := 28, descriptorIndex := 29, attributes := #[] }, { accessFlags := 26, nameIndex := 38, descriptorIndex := 39, attributes := #[] }, { accessFlags := 25, nameIndex := 121, descriptorIndex := 25, attributes := #[] }, { accessFlags := 25, nameIndex := 131, descriptorIndex := 25, attributes := #[] }, { accessFlags := 25, nameIndex := 137, descriptorIndex := 25, attributes := #[] }, { accessFlags := 25, nameIndex := 143, descriptorIndex := 25, attributes := #[] }, { accessFlags := 25, nameIndex := 53, descriptorIndex := 25, attributes := #[] }, { accessFlags := 25, nameIndex := 24, descriptorIndex := 25, attributes := #[] }, { accessFlags := 25, nameIndex := 162, descriptorIndex := 25, attributes := #[] }, { accessFlags := 25, nameIndex := 187, descriptorIndex := 25, attributes := #[] }, { accessFlags := 26, nameIndex := 48, descriptorIndex := 25, attributes := #[] }, { accessFlags := 25, nameIndex := 277, descriptorIndex := 25, attributes := #[] }, { accessFlags := 25, nameIndex := 280, descriptorIndex := 25, attributes := #[] }, { accessFlags := 25, nameIndex := 282, descriptorIndex := 25, attributes := #[] }, { accessFlags := 25, nameIndex := 284, descriptorIndex := 25, attributes := #[] }, { accessFlags := 25, nameIndex := 286, descriptorIndex := 25, attributes := #[] }, { accessFlags := 25, nameIndex := 288, descriptorIndex := 25, attributes := #[] }, { accessFlags := 25, nameIndex := 290, descriptorIndex := 25, attributes := #[] }, { accessFlags := 25, nameIndex := 292, descriptorIndex := 25, attributes := #[] }, { accessFlags := 26, nameIndex := 108, descriptorIndex := 109, attributes := #[] }, { accessFlags := 25, nameIndex := 294, descriptorIndex := 25, attributes := #[] }])
  fields := #[{ name := "U", type := (.object "jdk/internal/misc/Unsafe"), accessFlags := 24, slot := 0, constantValue := 0 }, { name := "BIG_ENDIAN", type := .boolean, accessFlags := 26, slot := 1, constantValue := 0 }, { name := "LOG2_ARRAY_BOOLEAN_INDEX_SCALE", type := .int, accessFlags := 25, slot := 2, constantValue := 0 }, { name := "LOG2_ARRAY_BYTE_INDEX_SCALE", type := .int, accessFlags := 25, slot := 3, constantValue := 0 }, { name := "LOG2_ARRAY_CHAR_INDEX_SCALE", type := .int, accessFlags := 25, slot := 4, constantValue := 0 }, { name := "LOG2_ARRAY_SHORT_INDEX_SCALE", type := .int, accessFlags := 25, slot := 5, constantValue := 0 }, { name := "LOG2_ARRAY_INT_INDEX_SCALE", type := .int, accessFlags := 25, slot := 6, constantValue := 0 }, { name := "LOG2_ARRAY_LONG_INDEX_SCALE", type := .int, accessFlags := 25, slot := 7, constantValue := 0 }, { name := "LOG2_ARRAY_FLOAT_INDEX_SCALE", type := .int, accessFlags := 25, slot := 8, constantValue := 0 }, { name := "LOG2_ARRAY_DOUBLE_INDEX_SCALE", type := .int, accessFlags := 25, slot := 9, constantValue := 0 }, { name := "LOG2_BYTE_BIT_SIZE", type := .int, accessFlags := 26, slot := 10, constantValue := 0 }, { name := "T_BOOLEAN", type := .int, accessFlags := 25, slot := 11, constantValue := 0 }, { name := "T_CHAR", type := .int, accessFlags := 25, slot := 12, constantValue := 0 }, { name := "T_FLOAT", type := .int, accessFlags := 25, slot := 13, constantValue := 0 }, { name := "T_DOUBLE", type := .int, accessFlags := 25, slot := 14, constantValue := 0 }, { name := "T_BYTE", type := .int, accessFlags := 25, slot := 15, constantValue := 0 }, { name := "T_SHORT", type := .int, accessFlags := 25, slot := 16, constantValue := 0 }, { name := "T_INT", type := .int, accessFlags := 25, slot := 17, constantValue := 0 }, { name := "T_LONG", type := .int, accessFlags := 25, slot := 18, constantValue := 0 }, { name := "JLA", type := (.object "jdk/internal/access/JavaLangAccess"), accessFlags := 26, slot := 19, constantValue := 0 }, { name := "SOFT_MAX_ARRAY_LENGTH", type := .int, accessFlags := 25, slot := 20, constantValue := 0 }]
  methods := #[k13m0, k13m1]
  instanceTypes := #[]
  staticTypes := #[(.object "jdk/internal/misc/Unsafe"), .boolean, .int, .int, .int, .int, .int, .int, .int, .int, .int, .int, .int, .int, .int, .int, .int, .int, .int, (.object "jdk/internal/access/JavaLangAccess"), .int]
  resolved := Array.replicate 378 none
  statics := none }

def pool14 : Array CpInfo := pool [(1, .methodref 2 3), (0, .class_ 4), (0, .nameAndType 5 6), (0, u "java/lang/Record"), (0, u "<init>"), (0, u "()V"), (0, .fieldref 8 9), (0, .class_ 10), (0, .nameAndType 11 12), (0, u "com/example/basepoint/basepoint/uri/UriReference$Split"), (0, u "afterScheme"), (0, u "I"), (0, .fieldref 8 14), (0, .nameAndType 15 12), (0, u "pathStart"), (0, .fieldref 8 17), (0, .nameAndType 18 12), (0, u "pathEnd"), (0, .fieldref 8 20), (0, .nameAndType 21 12), (0, u "fragmentStart"), (12, u "(IIII)V"), (3, u "hasAuthority"), (0, u "()Z"), (2, u "()I"), (4, .class_ 48), (0, u "com/example/basepoint/basepoint/uri/UriReference")] 22

def k14c0 : Code := { maxStack := 2, maxLocals := 5, code := prog_69_method_1_code, exceptionTable := #[], attributes := #[] }
def k14m0 : Method := { name := "<init>", desc := "(IIII)V", sig := { parameters := [.int, .int, .int, .int], returnType := none }, accessFlags := 1, code := some k14c0 }
def k14c1 : Code := { maxStack := 2, maxLocals := 1, code := prog_69_method_2_code, exceptionTable := #[], attributes := #[] }
def k14m1 : Method := { name := "hasAuthority", desc := "()Z", sig := { parameters := [], returnType := some .boolean }, accessFlags := 1, code := some k14c1 }
def k14c2 : Code := { maxStack := 1, maxLocals := 1, code := prog_69_method_6_code, exceptionTable := #[], attributes := #[] }
def k14m2 : Method := { name := "afterScheme", desc := "()I", sig := { parameters := [], returnType := some .int }, accessFlags := 1, code := some k14c2 }
/-- com/example/basepoint/basepoint/uri/UriReference$Split -/
def k14 : Class := { plain "com/example/basepoint/basepoint/uri/UriReference$Split" (some 9) with
  accessFlags := 49
  interfaces := #[]
  cf := some (fileOf pool14 8 #[.nestHost 47] #[{ accessFlags := 1, nameIndex := 5, descriptorIndex := 34, attributes := #[] }, { accessFlags := 1, nameIndex := 38, descriptorIndex := 39, attributes := #[] }, { accessFlags := 1, nameIndex := 11, descriptorIndex := 42, attributes := #[] }] 49 2 #[] #[{ accessFlags := 18, nameIndex := 11, descriptorIndex := 12, attributes := #[] }, { accessFlags := 18, nameIndex := 15, descriptorIndex := 12, attributes := #[] }, { accessFlags := 18, nameIndex := 18, descriptorIndex := 12, attributes := #[] }, { accessFlags := 18, nameIndex := 21, descriptorIndex := 12, attributes := #[] }])
  fields := #[{ name := "afterScheme", type := .int, accessFlags := 18, slot := 0, constantValue := 0 }, { name := "pathStart", type := .int, accessFlags := 18, slot := 1, constantValue := 0 }, { name := "pathEnd", type := .int, accessFlags := 18, slot := 2, constantValue := 0 }, { name := "fragmentStart", type := .int, accessFlags := 18, slot := 3, constantValue := 0 }]
  methods := #[k14m0, k14m1, k14m2]
  instanceTypes := #[.int, .int, .int, .int]
  staticTypes := #[]
  resolved := Array.replicate 71 none
  statics := none }

def pool15 : Array CpInfo := pool [(2, .class_ 4), (1, u "java/lang/Object"), (0, u "<init>"), (0, u "()V"), (17, .class_ 26), (1, u "jdk/internal/util/Preconditions"), (6, u "checkIndex"), (21, .class_ 56), (0, u "jdk/internal/util/Preconditions$4"), (57, .class_ 115), (0, u "jdk/internal/util/Preconditions$1"), (7, u "SIOOBE_FORMATTER"), (0, u "Ljava/util/function/BiFunction;"), (0, .class_ 126), (0, u "jdk/internal/util/Preconditions$2"), (3, u "AIOOBE_FORMATTER"), (0, .class_ 132), (0, u "jdk/internal/util/Preconditions$3"), (3, u "IOOBE_FORMATTER"), (41, u "(IILjava/util/function/BiFunction;)I")] 15

def k15m0 : Method := { name := "<init>", desc := "()V", sig := { parameters := [], returnType := none }, accessFlags := 1, code := none }
def k15c1 : Code := { maxStack := 3, maxLocals := 3, code := jdk_41_method_11_code, exceptionTable := #[], attributes := #[] }
def k15m1 : Method := { name := "checkIndex", desc := "(IILjava/util/function/BiFunction;)I", sig := { parameters := [.int, .int, (.object "java/util/function/BiFunction")], returnType := some .int }, accessFlags := 9, code := some k15c1 }
/-- jdk/internal/util/Preconditions -/
def k15 : Class := { plain "jdk/internal/util/Preconditions" (some 0) with
  accessFlags := 33
  interfaces := #[]
  cf := some (fileOf pool15 24 #[.nestMembers #[55, 131, 125, 114]] #[{ accessFlags := 1, nameIndex := 5, descriptorIndex := 6, attributes := #[] }, { accessFlags := 9, nameIndex := 33, descriptorIndex := 178, attributes := #[] }] 33 2 #[] #[{ accessFlags := 25, nameIndex := 123, descriptorIndex := 124, attributes := #[] }, { accessFlags := 25, nameIndex := 130, descriptorIndex := 124, attributes := #[] }, { accessFlags := 25, nameIndex := 136, descriptorIndex := 124, attributes := #[] }])
  fields := #[{ name := "SIOOBE_FORMATTER", type := (.object "java/util/function/BiFunction"), accessFlags := 25, slot := 0, constantValue := 0 }, { name := "AIOOBE_FORMATTER", type := (.object "java/util/function/BiFunction"), accessFlags := 25, slot := 1, constantValue := 0 }, { name := "IOOBE_FORMATTER", type := (.object "java/util/function/BiFunction"), accessFlags := 25, slot := 2, constantValue := 0 }]
  methods := #[k15m0, k15m1]
  instanceTypes := #[]
  staticTypes := #[(.object "java/util/function/BiFunction"), (.object "java/util/function/BiFunction"), (.object "java/util/function/BiFunction")]
  resolved := Array.replicate 194 none
  statics := some 2 }

def pool16 : Array CpInfo := pool [(1, u "java/lang/Cloneable"), (0, .class_ 1), (0, u "java/lang/Object"), (0, .class_ 3)] 3

/-- java/lang/Cloneable -/
def k16 : Class := { plain "java/lang/Cloneable" (some 0) with
  accessFlags := 1537
  interfaces := #[]
  cf := some (fileOf pool16 2 #[] #[] 1537 4 #[] #[])
  fields := #[]
  methods := #[]
  instanceTypes := #[]
  staticTypes := #[]
  resolved := Array.replicate 8 none
  statics := none }

/-- the primitive byte -/
def k17 : Class := { plain "byte" none with kind := .primitive 'B', accessFlags := 0x411 }
/-- [B -/
def k18 : Class := { plain "[B" (some 0) with kind := .array 17 .byte, interfaces := #[16, 2], accessFlags := 1041 }

/-- the primitive char -/
def k19 : Class := { plain "char" none with kind := .primitive 'C', accessFlags := 0x411 }
/-- [C -/
def k20 : Class := { plain "[C" (some 0) with kind := .array 19 .char, interfaces := #[16, 2], accessFlags := 1041 }

/-- the primitive int -/
def k21 : Class := { plain "int" none with kind := .primitive 'I', accessFlags := 0x411 }
/-- [I -/
def k22 : Class := { plain "[I" (some 0) with kind := .array 21 .int, interfaces := #[16, 2], accessFlags := 1041 }

def heap : Heap := #[{ cls := 7, slots := #[.long 0, .int 1, .null, .int 0, .null, .int 0, .int 0], vm := .statics 7 },
  { cls := 10, slots := #[.null, .ref 3], vm := .statics 10 },
  { cls := 15, slots := #[.null, .null, .null], vm := .statics 15 },
  { cls := 20, slots := #[.int 47, .int 63, .int 35], vm := .none }]
def classes : Array Class := #[k0, k1, k2, k3, k4, k5, k6, k7, k8, k9, k10, k11, k12, k13, k14, k15, k16, k17, k18, k19, k20, k21, k22]
def interned : List (Array UInt16 × Addr) := []
def slotsUsed : Nat := 15
def theMethod : MethodId := ⟨1, 2⟩
def args0 : Array Value := #[.int 0, .int 0, .int 0, .int 0, .int 0, .int 0]
def aboutOver (below : List Frame) : State where
  vm := { classes := classes, interned := interned.toArray }
  heap := heap
  slotsUsed := slotsUsed
  threads := #[{ frames := .invoking theMethod args0 :: below }]
def below0 : List Frame := [.native { method := ⟨0, 0⟩, args := #[] }]
def about1 : State := aboutOver below0
def p0 : Program := .bare "" "" ""
def e0 : Env := launch0.env 0 0 0
theorem w_frames : about1.frames = Frame.invoking theMethod args0 :: below0 := rfl
set_option maxRecDepth 65536 in
theorem w_args : argsFit about1.vm theMethod args0 = true := by decide +kernel
set_option maxRecDepth 65536 in
theorem w_heap : heapFits about1 = true := by decide +kernel
set_option maxRecDepth 65536 in
theorem w_runnable : about1.curStatus? = some .runnable := by decide +kernel
set_option maxRecDepth 65536 in
theorem w_alone : about1.alone = true := by decide +kernel
set_option maxRecDepth 65536 in
theorem w_named : about1.methodNamed? x = some theMethod := by decide +kernel
set_option maxRecDepth 65536 in
theorem w_hears : about1.hears theMethod below0 = true := by decide +kernel
set_option maxRecDepth 65536 in
theorem w_ripe : about1.ripe theMethod args0 below0 = true := by decide +kernel
theorem w_running : about1.status = .running := rfl
set_option maxRecDepth 65536 in
theorem w_room : about1.hasRoom e0.platform room_1 = true :=
  launch0.hasRoom_least _ room_1 (by decide +kernel) (by decide +kernel) (by decide +kernel) (by decide +kernel) (by decide +kernel) (by decide +kernel)
theorem allAtoms_all (ts : List Jvm.Cond) (a : Array Jvm.Value) (st : Jvm.State) : (allAtoms ts).before a st = ts.all (fun c => c.before a st) := by
  induction ts with
  | nil => rfl
  | cons c t ih =>
    show (Jvm.Cond.and c (allAtoms t)).before a st = _
    rw [Jvm.Cond.before_and, ih, List.all_cons]
def words1 : List Jvm.Cond := Jvm.Cond.code x code maxLocals ret :: tables_1
/-- a 'code' word, met by the world's own term for the bytes: nothing is compared byte by byte -/
theorem code_word {y : MethodName} {bytes : ByteArray} {mx : Nat} {rt : Option FieldType} {a : Array Value} {s : State} {m : MethodId} {meth : Method} {c : Code} (h1 : s.methodNamed? y = some m) (h2 : s.vm.method? m = some meth) (h3 : meth.code = some c) (h4 : c.code = bytes)
    (h5 : (c.maxLocals == mx && c.exceptionTable.isEmpty && decide (c.maxStack ≤ mostOperands) && decide (meth.sig.returnType = rt) && !meth.locks && decide (parseMethodDescriptor y.desc = some meth.sig)) = true) : (Jvm.Cond.code y bytes mx rt).before a s = true := by
  simp only [Bool.and_eq_true, beq_iff_eq, Bool.not_eq_true', decide_eq_true_eq] at h5
  obtain ⟨⟨⟨⟨⟨g1, g2⟩, g3⟩, g4⟩, g5⟩, g6⟩ := h5
  simp [Cond.before, Cond.holds, Cond.value, h1, h2, h3, h4, g1, g2, g3, g4, g5, g6]
def isCode : Jvm.Cond → Bool
  | .code _ _ _ _ => true
  | _ => false
theorem all_split {L : List Jvm.Cond} {P : Jvm.Cond → Bool} (h1 : L.all (fun c => isCode c || P c) = true) (h2 : ∀ c ∈ L.filter isCode, P c = true) : L.all P = true := by
  refine List.all_eq_true.mpr fun c hc => ?_
  have h := List.all_eq_true.mp h1 c hc
  rcases Bool.eq_false_or_eq_true (isCode c) with hi | hi
  · exact h2 c (List.mem_filter.mpr ⟨hc, hi⟩)
  · simpa [hi] using h
set_option maxRecDepth 65536 in
theorem w_c0 : (Jvm.Cond.code x code maxLocals ret).before args0 about1 = true := code_word (m := ⟨1, 2⟩) (meth := k1m2) (c := k1c2) (by decide +kernel) rfl rfl rfl (by decide +kernel)
set_option maxRecDepth 65536 in
theorem w_c1 : (Jvm.Cond.code ({ cls := "com/example/basepoint/basepoint/uri/UriReferenceSplitHasAuthorityPinLaw", name := "pick", desc := "(I)C" } : Jvm.MethodName) method_2_code (2 : Nat) (Option.some Jvm.ClassFile.FieldType.char)).before args0 about1 = true := code_word (m := ⟨1, 1⟩) (meth := k1m1) (c := k1c1) (by decide +kernel) rfl rfl rfl (by decide +kernel)
set_option maxRecDepth 65536 in
theorem w_c2 : (Jvm.Cond.code ({ cls := "java/lang/String", name := "<init>", desc := "([C)V" } : Jvm.MethodName) jdk_42_method_3_code (2 : Nat) (Option.none : Option Jvm.ClassFile.FieldType)).before args0 about1 = true := code_word (m := ⟨7, 1⟩) (meth := k7m1) (c := k7c1) (by decide +kernel) rfl rfl rfl (by decide +kernel)
set_option maxRecDepth 65536 in
theorem w_c3 : (Jvm.Cond.code ({ cls := "java/lang/String", name := "<init>", desc := "([CIILjava/lang/Void;)V" } : Jvm.MethodName) jdk_42_method_149_code (6 : Nat) (Option.none : Option Jvm.ClassFile.FieldType)).before args0 about1 = true := code_word (m := ⟨7, 8⟩) (meth := k7m8) (c := k7c8) (by decide +kernel) rfl rfl rfl (by decide +kernel)
set_option maxRecDepth 65536 in
theorem w_c4 : (Jvm.Cond.code ({ cls := "java/lang/Object", name := "<init>", desc := "()V" } : Jvm.MethodName) object_method_1_code (1 : Nat) (Option.none : Option Jvm.ClassFile.FieldType)).before args0 about1 = true := code_word (m := ⟨0, 0⟩) (meth := k0m0) (c := k0c0) (by decide +kernel) rfl rfl rfl (by decide +kernel)
set_option maxRecDepth 65536 in
theorem w_c5 : (Jvm.Cond.code ({ cls := "java/lang/StringUTF16", name := "compress", desc := "([CII)[B" } : Jvm.MethodName) jdk_52_method_16_code (6 : Nat) (Option.some (Jvm.ClassFile.FieldType.array Jvm.ClassFile.FieldType.byte))).before args0 about1 = true := code_word (m := ⟨8, 2⟩) (meth := k8m2) (c := k8c2) (by decide +kernel) rfl rfl rfl (by decide +kernel)
set_option maxRecDepth 65536 in
theorem w_c6 : (Jvm.Cond.code ({ cls := "java/lang/StringUTF16", name := "compress", desc := "([CI[BII)I" } : Jvm.MethodName) jdk_52_method_21_code (7 : Nat) (Option.some Jvm.ClassFile.FieldType.int)).before args0 about1 = true := code_word (m := ⟨8, 3⟩) (meth := k8m3) (c := k8c3) (by decide +kernel) rfl rfl rfl (by decide +kernel)
set_option maxRecDepth 65536 in
theorem w_c7 : (Jvm.Cond.code ({ cls := "java/lang/StringUTF16", name := "coderFromArrayLen", desc := "([BI)B" } : Jvm.MethodName) jdk_52_method_15_code (2 : Nat) (Option.some Jvm.ClassFile.FieldType.byte)).before args0 about1 = true := code_word (m := ⟨8, 1⟩) (meth := k8m1) (c := k8c1) (by decide +kernel) rfl rfl rfl (by decide +kernel)
set_option maxRecDepth 65536 in
theorem w_c8 : (Jvm.Cond.code ({ cls := "com/example/basepoint/basepoint/uri/UriReference", name := "split", desc := "(Ljava/lang/String;)Lcom/example/basepoint/basepoint/uri/UriReference$Split;" } : Jvm.MethodName) prog_68_method_3_code (5 : Nat) (Option.some (Jvm.ClassFile.FieldType.object "com/example/basepoint/basepoint/uri/UriReference$Split"))).before args0 about1 = true := code_word (m := ⟨10, 0⟩) (meth := k10m0) (c := k10c0) (by decide +kernel) rfl rfl rfl (by decide +kernel)
set_option maxRecDepth 65536 in
theorem w_c9 : (Jvm.Cond.code ({ cls := "com/example/basepoint/basepoint/uri/UriReference", name := "afterScheme", desc := "(Ljava/lang/String;)I" } : Jvm.MethodName) prog_68_method_14_code (6 : Nat) (Option.some Jvm.ClassFile.FieldType.int)).before args0 about1 = true := code_word (m := ⟨10, 1⟩) (meth := k10m1) (c := k10c1) (by decide +kernel) rfl rfl rfl (by decide +kernel)
set_option maxRecDepth 65536 in
theorem w_c10 : (Jvm.Cond.code ({ cls := "java/lang/String", name := "indexOf", desc := "(I)I" } : Jvm.MethodName) jdk_42_method_79_code (2 : Nat) (Option.some Jvm.ClassFile.FieldType.int)).before args0 about1 = true := code_word (m := ⟨7, 5⟩) (meth := k7m5) (c := k7c5) (by decide +kernel) rfl rfl rfl (by decide +kernel)
set_option maxRecDepth 65536 in
theorem w_c11 : (Jvm.Cond.code ({ cls := "java/lang/String", name := "indexOf", desc := "(II)I" } : Jvm.MethodName) jdk_42_method_80_code (3 : Nat) (Option.some Jvm.ClassFile.FieldType.int)).before args0 about1 = true := code_word (m := ⟨7, 6⟩) (meth := k7m6) (c := k7c6) (by decide +kernel) rfl rfl rfl (by decide +kernel)
set_option maxRecDepth 65536 in
theorem w_c12 : (Jvm.Cond.code ({ cls := "java/lang/String", name := "isLatin1", desc := "()Z" } : Jvm.MethodName) jdk_42_method_154_code (1 : Nat) (Option.some Jvm.ClassFile.FieldType.boolean)).before args0 about1 = true := code_word (m := ⟨7, 10⟩) (meth := k7m10) (c := k7c10) (by decide +kernel) rfl rfl rfl (by decide +kernel)
set_option maxRecDepth 65536 in
theorem w_c13 : (Jvm.Cond.code ({ cls := "java/lang/String", name := "length", desc := "()I" } : Jvm.MethodName) jdk_42_method_54_code (1 : Nat) (Option.some Jvm.ClassFile.FieldType.int)).before args0 about1 = true := code_word (m := ⟨7, 2⟩) (meth := k7m2) (c := k7c2) (by decide +kernel) rfl rfl rfl (by decide +kernel)
set_option maxRecDepth 65536 in
theorem w_c14 : (Jvm.Cond.code ({ cls := "java/lang/String", name := "coder", desc := "()B" } : Jvm.MethodName) jdk_42_method_152_code (1 : Nat) (Option.some Jvm.ClassFile.FieldType.byte)).before args0 about1 = true := code_word (m := ⟨7, 9⟩) (meth := k7m9) (c := k7c9) (by decide +kernel) rfl rfl rfl (by decide +kernel)
set_option maxRecDepth 65536 in
theorem w_c15 : (Jvm.Cond.code ({ cls := "java/lang/StringLatin1", name := "indexOf", desc := "([BIII)I" } : Jvm.MethodName) jdk_43_method_22_code (4 : Nat) (Option.some Jvm.ClassFile.FieldType.int)).before args0 about1 = true := code_word (m := ⟨11, 3⟩) (meth := k11m3) (c := k11c3) (by decide +kernel) rfl rfl rfl (by decide +kernel)
set_option maxRecDepth 65536 in
theorem w_c16 : (Jvm.Cond.code ({ cls := "java/lang/StringLatin1", name := "canEncode", desc := "(I)Z" } : Jvm.MethodName) jdk_43_method_4_code (1 : Nat) (Option.some Jvm.ClassFile.FieldType.boolean)).before args0 about1 = true := code_word (m := ⟨11, 2⟩) (meth := k11m2) (c := k11c2) (by decide +kernel) rfl rfl rfl (by decide +kernel)
set_option maxRecDepth 65536 in
theorem w_c17 : (Jvm.Cond.code ({ cls := "java/lang/Math", name := "max", desc := "(II)I" } : Jvm.MethodName) jdk_29_method_65_code (2 : Nat) (Option.some Jvm.ClassFile.FieldType.int)).before args0 about1 = true := code_word (m := ⟨12, 1⟩) (meth := k12m1) (c := k12c1) (by decide +kernel) rfl rfl rfl (by decide +kernel)
set_option maxRecDepth 65536 in
theorem w_c18 : (Jvm.Cond.code ({ cls := "java/lang/Math", name := "min", desc := "(II)I" } : Jvm.MethodName) jdk_29_method_69_code (2 : Nat) (Option.some Jvm.ClassFile.FieldType.int)).before args0 about1 = true := code_word (m := ⟨12, 2⟩) (meth := k12m2) (c := k12c2) (by decide +kernel) rfl rfl rfl (by decide +kernel)
set_option maxRecDepth 65536 in
theorem w_c19 : (Jvm.Cond.code ({ cls := "java/lang/StringLatin1", name := "indexOfChar", desc := "([BIII)I" } : Jvm.MethodName) jdk_43_method_23_code (6 : Nat) (Option.some Jvm.ClassFile.FieldType.int)).before args0 about1 = true := code_word (m := ⟨11, 4⟩) (meth := k11m4) (c := k11c4) (by decide +kernel) rfl rfl rfl (by decide +kernel)
set_option maxRecDepth 65536 in
theorem w_c20 : (Jvm.Cond.code ({ cls := "java/lang/String", name := "startsWith", desc := "(Ljava/lang/String;I)Z" } : Jvm.MethodName) jdk_42_method_75_code (8 : Nat) (Option.some Jvm.ClassFile.FieldType.boolean)).before args0 about1 = true := code_word (m := ⟨7, 4⟩) (meth := k7m4) (c := k7c4) (by decide +kernel) rfl rfl rfl (by decide +kernel)
set_option maxRecDepth 65536 in
theorem w_c21 : (Jvm.Cond.code ({ cls := "jdk/internal/util/ArraysSupport", name := "mismatch", desc := "([BI[BII)I" } : Jvm.MethodName) jdk_48_method_14_code (8 : Nat) (Option.some Jvm.ClassFile.FieldType.int)).before args0 about1 = true := code_word (m := ⟨13, 1⟩) (meth := k13m1) (c := k13c1) (by decide +kernel) rfl rfl rfl (by decide +kernel)
set_option maxRecDepth 65536 in
theorem w_c22 : (Jvm.Cond.code ({ cls := "com/example/basepoint/basepoint/uri/UriReference$Split", name := "<init>", desc := "(IIII)V" } : Jvm.MethodName) prog_69_method_1_code (5 : Nat) (Option.none : Option Jvm.ClassFile.FieldType)).before args0 about1 = true := code_word (m := ⟨14, 0⟩) (meth := k14m0) (c := k14c0) (by decide +kernel) rfl rfl rfl (by decide +kernel)
set_option maxRecDepth 65536 in
theorem w_c23 : (Jvm.Cond.code ({ cls := "java/lang/Record", name := "<init>", desc := "()V" } : Jvm.MethodName) jdk_30_method_1_code (1 : Nat) (Option.none : Option Jvm.ClassFile.FieldType)).before args0 about1 = true := code_word (m := ⟨9, 0⟩) (meth := k9m0) (c := k9c0) (by decide +kernel) rfl rfl rfl (by decide +kernel)
set_option maxRecDepth 65536 in
theorem w_c24 : (Jvm.Cond.code ({ cls := "com/example/basepoint/basepoint/uri/UriReference$Split", name := "afterScheme", desc := "()I" } : Jvm.MethodName) prog_69_method_6_code (1 : Nat) (Option.some Jvm.ClassFile.FieldType.int)).before args0 about1 = true := code_word (m := ⟨14, 2⟩) (meth := k14m2) (c := k14c2) (by decide +kernel) rfl rfl rfl (by decide +kernel)
set_option maxRecDepth 65536 in
theorem w_c25 : (Jvm.Cond.code ({ cls := "java/lang/String", name := "charAt", desc := "(I)C" } : Jvm.MethodName) jdk_42_method_56_code (2 : Nat) (Option.some Jvm.ClassFile.FieldType.char)).before args0 about1 = true := code_word (m := ⟨7, 3⟩) (meth := k7m3) (c := k7c3) (by decide +kernel) rfl rfl rfl (by decide +kernel)
set_option maxRecDepth 65536 in
theorem w_c26 : (Jvm.Cond.code ({ cls := "java/lang/StringLatin1", name := "charAt", desc := "([BI)C" } : Jvm.MethodName) jdk_43_method_2_code (2 : Nat) (Option.some Jvm.ClassFile.FieldType.char)).before args0 about1 = true := code_word (m := ⟨11, 1⟩) (meth := k11m1) (c := k11c1) (by decide +kernel) rfl rfl rfl (by decide +kernel)
set_option maxRecDepth 65536 in
theorem w_c27 : (Jvm.Cond.code ({ cls := "java/lang/String", name := "checkIndex", desc := "(II)V" } : Jvm.MethodName) jdk_42_method_155_code (2 : Nat) (Option.none : Option Jvm.ClassFile.FieldType)).before args0 about1 = true := code_word (m := ⟨7, 11⟩) (meth := k7m11) (c := k7c11) (by decide +kernel) rfl rfl rfl (by decide +kernel)
set_option maxRecDepth 65536 in
theorem w_c28 : (Jvm.Cond.code ({ cls := "jdk/internal/util/Preconditions", name := "checkIndex", desc := "(IILjava/util/function/BiFunction;)I" } : Jvm.MethodName) jdk_41_method_11_code (3 : Nat) (Option.some Jvm.ClassFile.FieldType.int)).before args0 about1 = true := code_word (m := ⟨15, 1⟩) (meth := k15m1) (c := k15c1) (by decide +kernel) rfl rfl rfl (by decide +kernel)
set_option maxRecDepth 65536 in
theorem w_c29 : (Jvm.Cond.code ({ cls := "com/example/basepoint/basepoint/uri/UriReference$Split", name := "hasAuthority", desc := "()Z" } : Jvm.MethodName) prog_69_method_2_code (1 : Nat) (Option.some Jvm.ClassFile.FieldType.boolean)).before args0 about1 = true := code_word (m := ⟨14, 1⟩) (meth := k14m1) (c := k14c1) (by decide +kernel) rfl rfl rfl (by decide +kernel)
set_option maxRecDepth 65536 in
theorem w_c30 : (Jvm.Cond.code ({ cls := "java/lang/String", name := "lastIndexOf", desc := "(II)I" } : Jvm.MethodName) jdk_42_method_83_code (3 : Nat) (Option.some Jvm.ClassFile.FieldType.int)).before args0 about1 = true := code_word (m := ⟨7, 7⟩) (meth := k7m7) (c := k7c7) (by decide +kernel) rfl rfl rfl (by decide +kernel)
set_option maxRecDepth 65536 in
theorem w_c31 : (Jvm.Cond.code ({ cls := "java/lang/StringLatin1", name := "lastIndexOf", desc := "([BII)I" } : Jvm.MethodName) jdk_43_method_27_code (4 : Nat) (Option.some Jvm.ClassFile.FieldType.int)).before args0 about1 = true := code_word (m := ⟨11, 5⟩) (meth := k11m5) (c := k11c5) (by decide +kernel) rfl rfl rfl (by decide +kernel)
def codes1 : List Jvm.Cond := [Jvm.Cond.code x code maxLocals ret, Jvm.Cond.code ({ cls := "com/example/basepoint/basepoint/uri/UriReferenceSplitHasAuthorityPinLaw", name := "pick", desc := "(I)C" } : Jvm.MethodName) method_2_code (2 : Nat) (Option.some Jvm.ClassFile.FieldType.char), Jvm.Cond.code ({ cls := "java/lang/String", name := "<init>", desc := "([C)V" } : Jvm.MethodName) jdk_42_method_3_code (2 : Nat) (Option.none : Option Jvm.ClassFile.FieldType), Jvm.Cond.code ({ cls := "java/lang/String", name := "<init>", desc := "([CIILjava/lang/Void;)V" } : Jvm.MethodName) jdk_42_method_149_code (6 : Nat) (Option.none : Option Jvm.ClassFile.FieldType), Jvm.Cond.code ({ cls := "java/lang/Object", name := "<init>", desc := "()V" } : Jvm.MethodName) object_method_1_code (1 : Nat) (Option.none : Option Jvm.ClassFile.FieldType), Jvm.Cond.code ({ cls := "java/lang/StringUTF16", name := "compress", desc := "([CII)[B" } : Jvm.MethodName) jdk_52_method_16_code (6 : Nat) (Option.some (Jvm.ClassFile.FieldType.array Jvm.ClassFile.FieldType.byte)), Jvm.Cond.code ({ cls := "java/lang/StringUTF16", name := "compress", desc := "([CI[BII)I" } : Jvm.MethodName) jdk_52_method_21_code (7 : Nat) (Option.some Jvm.ClassFile.FieldType.int), Jvm.Cond.code ({ cls := "java/lang/StringUTF16", name := "coderFromArrayLen", desc := "([BI)B" } : Jvm.MethodName) jdk_52_method_15_code (2 : Nat) (Option.some Jvm.ClassFile.FieldType.byte), Jvm.Cond.code ({ cls := "com/example/basepoint/basepoint/uri/UriReference", name := "split", desc := "(Ljava/lang/String;)Lcom/example/basepoint/basepoint/uri/UriReference$Split;" } : Jvm.MethodName) prog_68_method_3_code (5 : Nat) (Option.some (Jvm.ClassFile.FieldType.object "com/example/basepoint/basepoint/uri/UriReference$Split")), Jvm.Cond.code ({ cls := "com/example/basepoint/basepoint/uri/UriReference", name := "afterScheme", desc := "(Ljava/lang/String;)I" } : Jvm.MethodName) prog_68_method_14_code (6 : Nat) (Option.some Jvm.ClassFile.FieldType.int), Jvm.Cond.code ({ cls := "java/lang/String", name := "indexOf", desc := "(I)I" } : Jvm.MethodName) jdk_42_method_79_code (2 : Nat) (Option.some Jvm.ClassFile.FieldType.int), Jvm.Cond.code ({ cls := "java/lang/String", name := "indexOf", desc := "(II)I" } : Jvm.MethodName) jdk_42_method_80_code (3 : Nat) (Option.some Jvm.ClassFile.FieldType.int), Jvm.Cond.code ({ cls := "java/lang/String", name := "isLatin1", desc := "()Z" } : Jvm.MethodName) jdk_42_method_154_code (1 : Nat) (Option.some Jvm.ClassFile.FieldType.boolean), Jvm.Cond.code ({ cls := "java/lang/String", name := "length", desc := "()I" } : Jvm.MethodName) jdk_42_method_54_code (1 : Nat) (Option.some Jvm.ClassFile.FieldType.int), Jvm.Cond.code ({ cls := "java/lang/String", name := "coder", desc := "()B" } : Jvm.MethodName) jdk_42_method_152_code (1 : Nat) (Option.some Jvm.ClassFile.FieldType.byte), Jvm.Cond.code ({ cls := "java/lang/StringLatin1", name := "indexOf", desc := "([BIII)I" } : Jvm.MethodName) jdk_43_method_22_code (4 : Nat) (Option.some Jvm.ClassFile.FieldType.int), Jvm.Cond.code ({ cls := "java/lang/StringLatin1", name := "canEncode", desc := "(I)Z" } : Jvm.MethodName) jdk_43_method_4_code (1 : Nat) (Option.some Jvm.ClassFile.FieldType.boolean), Jvm.Cond.code ({ cls := "java/lang/Math", name := "max", desc := "(II)I" } : Jvm.MethodName) jdk_29_method_65_code (2 : Nat) (Option.some Jvm.ClassFile.FieldType.int), Jvm.Cond.code ({ cls := "java/lang/Math", name := "min", desc := "(II)I" } : Jvm.MethodName) jdk_29_method_69_code (2 : Nat) (Option.some Jvm.ClassFile.FieldType.int), Jvm.Cond.code ({ cls := "java/lang/StringLatin1", name := "indexOfChar", desc := "([BIII)I" } : Jvm.MethodName) jdk_43_method_23_code (6 : Nat) (Option.some Jvm.ClassFile.FieldType.int), Jvm.Cond.code ({ cls := "java/lang/String", name := "startsWith", desc := "(Ljava/lang/String;I)Z" } : Jvm.MethodName) jdk_42_method_75_code (8 : Nat) (Option.some Jvm.ClassFile.FieldType.boolean), Jvm.Cond.code ({ cls := "jdk/internal/util/ArraysSupport", name := "mismatch", desc := "([BI[BII)I" } : Jvm.MethodName) jdk_48_method_14_code (8 : Nat) (Option.some Jvm.ClassFile.FieldType.int), Jvm.Cond.code ({ cls := "com/example/basepoint/basepoint/uri/UriReference$Split", name := "<init>", desc := "(IIII)V" } : Jvm.MethodName) prog_69_method_1_code (5 : Nat) (Option.none : Option Jvm.ClassFile.FieldType), Jvm.Cond.code ({ cls := "java/lang/Record", name := "<init>", desc := "()V" } : Jvm.MethodName) jdk_30_method_1_code (1 : Nat) (Option.none : Option Jvm.ClassFile.FieldType), Jvm.Cond.code ({ cls := "com/example/basepoint/basepoint/uri/UriReference$Split", name := "afterScheme", desc := "()I" } : Jvm.MethodName) prog_69_method_6_code (1 : Nat) (Option.some Jvm.ClassFile.FieldType.int), Jvm.Cond.code ({ cls := "java/lang/String", name := "charAt", desc := "(I)C" } : Jvm.MethodName) jdk_42_method_56_code (2 : Nat) (Option.some Jvm.ClassFile.FieldType.char), Jvm.Cond.code ({ cls := "java/lang/StringLatin1", name := "charAt", desc := "([BI)C" } : Jvm.MethodName) jdk_43_method_2_code (2 : Nat) (Option.some Jvm.ClassFile.FieldType.char), Jvm.Cond.code ({ cls := "java/lang/String", name := "checkIndex", desc := "(II)V" } : Jvm.MethodName) jdk_42_method_155_code (2 : Nat) (Option.none : Option Jvm.ClassFile.FieldType), Jvm.Cond.code ({ cls := "jdk/internal/util/Preconditions", name := "checkIndex", desc := "(IILjava/util/function/BiFunction;)I" } : Jvm.MethodName) jdk_41_method_11_code (3 : Nat) (Option.some Jvm.ClassFile.FieldType.int), Jvm.Cond.code ({ cls := "com/example/basepoint/basepoint/uri/UriReference$Split", name := "hasAuthority", desc := "()Z" } : Jvm.MethodName) prog_69_method_2_code (1 : Nat) (Option.some Jvm.ClassFile.FieldType.boolean), Jvm.Cond.code ({ cls := "java/lang/String", name := "lastIndexOf", desc := "(II)I" } : Jvm.MethodName) jdk_42_method_83_code (3 : Nat) (Option.some Jvm.ClassFile.FieldType.int), Jvm.Cond.code ({ cls := "java/lang/StringLatin1", name := "lastIndexOf", desc := "([BII)I" } : Jvm.MethodName) jdk_43_method_27_code (4 : Nat) (Option.some Jvm.ClassFile.FieldType.int)]
set_option maxRecDepth 65536 in
theorem codes_eq : words1.filter isCode = codes1 := rfl
theorem w_codes : ∀ c ∈ words1.filter isCode, c.before args0 about1 = true := by
  rw [codes_eq]
  intro c hc
  simp only [codes1, List.mem_cons, List.not_mem_nil, or_false] at hc
  rcases hc with rfl | rfl | rfl | rfl | rfl | rfl | rfl | rfl | rfl | rfl | rfl | rfl | rfl | rfl | rfl | rfl | rfl | rfl | rfl | rfl | rfl | rfl | rfl | rfl | rfl | rfl | rfl | rfl | rfl | rfl | rfl | rfl
  · exact w_c0
  · exact w_c1
  · exact w_c2
  · exact w_c3
  · exact w_c4
  · exact w_c5
  · exact w_c6
  · exact w_c7
  · exact w_c8
  · exact w_c9
  · exact w_c10
  · exact w_c11
  · exact w_c12
  · exact w_c13
  · exact w_c14
  · exact w_c15
  · exact w_c16
  · exact w_c17
  · exact w_c18
  · exact w_c19
  · exact w_c20
  · exact w_c21
  · exact w_c22
  · exact w_c23
  · exact w_c24
  · exact w_c25
  · exact w_c26
  · exact w_c27
  · exact w_c28
  · exact w_c29
  · exact w_c30
  · exact w_c31
set_option maxRecDepth 65536 in
theorem w_t1 : (words1.take 24).all (fun c => isCode c || c.before args0 about1) = true := by decide +kernel
set_option maxRecDepth 65536 in
theorem w_t2 : ((words1.drop 24).take 24).all (fun c => isCode c || c.before args0 about1) = true := by decide +kernel
set_option maxRecDepth 65536 in
theorem w_t3 : (((words1.drop 24).drop 24).take 24).all (fun c => isCode c || c.before args0 about1) = true := by decide +kernel
set_option maxRecDepth 65536 in
theorem w_t4 : ((((words1.drop 24).drop 24).drop 24).take 24).all (fun c => isCode c || c.before args0 about1) = true := by decide +kernel
set_option maxRecDepth 65536 in
theorem w_t5 : (((((words1.drop 24).drop 24).drop 24).drop 24).take 24).all (fun c => isCode c || c.before args0 about1) = true := by decide +kernel
set_option maxRecDepth 65536 in
theorem w_t6 : ((((((words1.drop 24).drop 24).drop 24).drop 24).drop 24).take 24).all (fun c => isCode c || c.before args0 about1) = true := by decide +kernel
set_option maxRecDepth 65536 in
theorem w_t7 : ((((((words1.drop 24).drop 24).drop 24).drop 24).drop 24).drop 24).all (fun c => isCode c || c.before args0 about1) = true := by decide +kernel
theorem w_tables : (allAtoms (Jvm.Cond.code x code maxLocals ret :: tables_1)).before args0 about1 = true := by
  rw [allAtoms_all]
  show words1.all (fun c => c.before args0 about1) = true
  refine all_split ?_ w_codes
  rw [← List.take_append_drop 24 words1, List.all_append, w_t1, ← List.take_append_drop 24 (words1.drop 24), List.all_append, w_t2, ← List.take_append_drop 24 ((words1.drop 24).drop 24), List.all_append, w_t3, ← List.take_append_drop 24 (((words1.drop 24).drop 24).drop 24), List.all_append, w_t4, ← List.take_append_drop 24 ((((words1.drop 24).drop 24).drop 24).drop 24), List.all_append, w_t5, ← List.take_append_drop 24 (((((words1.drop 24).drop 24).drop 24).drop 24).drop 24), List.all_append, w_t6, w_t7]
  rfl
set_option maxRecDepth 65536 in
theorem w_rest : rest_1_c.before args0 about1 = true := by decide +kernel
set_option maxRecDepth 65536 in
theorem w_case : (Jvm.Cond.and given_1 narrow_1).before args0 about1 = true := by decide +kernel
set_option maxRecDepth 65536 in
theorem w_consts : constsHeld consts_1 about1 := Jvm.Lit.constsHeldB_iff.mp (by decide +kernel)
theorem w_applies : (headSpec (Jvm.Cond.code x code maxLocals ret :: tables_1) room_1).applies x e0.platform about1 = true :=
  (Spec.applies_iff w_frames).mpr ⟨w_running, w_runnable, w_alone, w_named, w_hears, w_ripe, w_room, w_tables⟩
theorem atStart : AtStart classFile x code maxLocals ret World_1 tables_1 room_1 Calls_1 rest_1 Pre_1 launch0 p0 e0 about1 theMethod args0 below0 :=
  ⟨lists_1, trivial, launch0.admits_env _ _ _, launch0.least_env, fairChoices_fair.cas, fairChoices_fair.clock, w_frames, w_args, w_heap, w_applies, ⟨w_consts, trivial⟩, w_rest, w_case⟩
end start1
theorem witness_1 : WitnessClaimed_1 := ⟨start1.p0, start1.e0, start1.about1, start1.theMethod, start1.args0, start1.below0, start1.atStart⟩
end Jvm.Pilot.@@N@@
