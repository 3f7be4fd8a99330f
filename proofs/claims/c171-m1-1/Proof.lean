import JvmDerived
import JvmDerived.Pilot.@@N@@Statement
import JvmDerived.Pilot.@@N@@Code
set_option linter.unusedVariables false
set_option linter.unusedSimpArgs false
@@BLOCK:NumsL.lean.txt@@
/- laws to paste: Road.backV, Road.lenW, Road.chN, Road.codOf (cut by pick.py; bodies as the Statement names them) -/
namespace Jvm.Pilot.@@N@@
namespace StrChars
open Jvm Sem ClassFile Op Lib Jvm.Stand Jvm.Free.XT Jvm.Free.ALB Jvm.Free.JM Jvm.Free
open Jvm.Lib.Cold (StaticIs)
/-- a char array whose places are chars -/
def Ch (a : Addr) (A : Cell) (U : State) : Prop := Arr .char a A U ∧ Typed .char A
theorem Ch.mv {a : Addr} {A : Cell} {U U' : State} (h : Ch a A U) (hal : U.vm.Alike U'.vm) (hh : U'.heap = U.heap) : Ch a A U' := ⟨h.1.mv hal hh, h.2⟩
theorem Ch.keep {a : Addr} {A : Cell} {U U' : State} (h : Ch a A U) (hal : U.vm.Alike U'.vm) (hk : U'.heap[a]? = some A) : Ch a A U' := ⟨h.1.keep hal hk, h.2⟩
/-- what place i of a char[]'s cell holds -/
def cv (A : Cell) (i : Nat) : Int32 := match A.slots[i]? with | some (.int x) => x | _ => 0
theorem Ch.get {a : Addr} {A : Cell} {U : State} (h : Ch a A U) {i : Nat} (hi : i < A.slots.size) : A.slots[i]? = some (.int (cv A i)) := by
  have e := Array.getElem?_eq_getElem hi
  have f := h.2 i _ e
  unfold cv; rw [e]
  generalize A.slots[i] = v at f
  cases v <;> simp [fits] at f ⊢
/-- the byte that i2b leaves of a char -/
def lo8 (x : Int32) : Int32 := x.toInt8.toInt32
theorem fits_lo8 (y : Int32) : fits .byte (.int (lo8 y)) = true := by
  have h1 := y.toInt8.le_toInt
  have h2 := y.toInt8.toInt_lt
  simp only [lo8, fits, Bool.and_eq_true, decide_eq_true_eq, Int32.le_iff_toInt_le, Int8.toInt_toInt32, show (-128 : Int32).toInt = -128 from by decide, show (127 : Int32).toInt = 127 from by decide]
  omega
/-- A' is A but that each place j of lo .. hi - 1 holds f j -/
def Laid (A A' : Cell) (lo hi : Nat) (f : Nat → Value) : Prop := A'.cls = A.cls ∧ A'.vm = A.vm ∧ A'.slots.size = A.slots.size ∧ ∀ i, A'.slots[i]? = if lo ≤ i ∧ i < hi then some (f i) else A.slots[i]?
theorem Laid.zero (A : Cell) (lo : Nat) (f : Nat → Value) : Laid A A lo (lo + 0) f := ⟨rfl, rfl, rfl, fun i => by rw [if_neg (by omega)]⟩
theorem Laid.step {A Ak : Cell} {lo k : Nat} {f : Nat → Value} {v : Value} (h : Laid A Ak lo k f) (hlo : lo ≤ k) (hk : k < Ak.slots.size) (hv : v = f k) : Laid A (Ak.setSlot k v) lo (k + 1) f := by
  refine ⟨h.1, h.2.1, by simpa [Cell.setSlot] using h.2.2.1, fun i => ?_⟩
  by_cases e : k = i
  · subst e; rw [Cell.slots_setSlot_self v hk, if_pos (by omega), hv]
  · rw [Cell.slots_setSlot_ne v e, h.2.2.2 i]
    by_cases q : lo ≤ i ∧ i < k
    · rw [if_pos q, if_pos (by omega)]
    · rw [if_neg q, if_neg (by omega)]
def U16 : String := "java/lang/StringUTF16"
namespace Cmp5
def yN : MethodName := ⟨"java/lang/StringUTF16", "compress", "([CI[BII)I"⟩
abbrev yB : ByteArray := jdk_52_method_21_code
theorem d0 : decode yB 0 = .ok (.iconst 0, 1) := by decide +kernel
theorem d1 : decode yB 1 = .ok (.istore 5, 2) := by decide +kernel
theorem d3 : decode yB 3 = .ok (.iload 5, 2) := by decide +kernel
theorem d5 : decode yB 5 = .ok (.iload 4, 2) := by decide +kernel
theorem d7 : decode yB 7 = .ok (.if_icmp (.ge) 37, 3) := by decide +kernel
theorem d10 : decode yB 10 = .ok (.aload_n 0, 1) := by decide +kernel
theorem d11 : decode yB 11 = .ok (.iload_n 1, 1) := by decide +kernel
theorem d12 : decode yB 12 = .ok (.caload, 1) := by decide +kernel
theorem d13 : decode yB 13 = .ok (.istore 6, 2) := by decide +kernel
theorem d15 : decode yB 15 = .ok (.iload 6, 2) := by decide +kernel
theorem d17 : decode yB 17 = .ok (.sipush 255, 3) := by decide +kernel
theorem d20 : decode yB 20 = .ok (.if_icmp (.le) 6, 3) := by decide +kernel
theorem d26 : decode yB 26 = .ok (.aload_n 2, 1) := by decide +kernel
theorem d27 : decode yB 27 = .ok (.iload_n 3, 1) := by decide +kernel
theorem d28 : decode yB 28 = .ok (.iload 6, 2) := by decide +kernel
theorem d30 : decode yB 30 = .ok (.i2b, 1) := by decide +kernel
theorem d31 : decode yB 31 = .ok (.bastore, 1) := by decide +kernel
theorem d32 : decode yB 32 = .ok (.iinc 1 1, 3) := by decide +kernel
theorem d35 : decode yB 35 = .ok (.iinc 3 1, 3) := by decide +kernel
theorem d38 : decode yB 38 = .ok (.iinc 5 1, 3) := by decide +kernel
theorem d41 : decode yB 41 = .ok (.goto (-38), 3) := by decide +kernel
theorem d44 : decode yB 44 = .ok (.iload 4, 2) := by decide +kernel
theorem d46 : decode yB 46 = .ok (.ireturn, 1) := by decide +kernel
def site : List Cond := []
def tab : Cond := tabOf yN yB 7 (some .int) site
def P (b : Addr) (A : Cell) (d : Addr) (B : Cell) (o q len : Nat) (args : Array Value) (s : State) : Prop := args = #[.ref b, .int (Int32.ofNat o), .ref d, .int (Int32.ofNat q), .int (Int32.ofNat len)] ∧ Ch b A s ∧ Arr .byte d B s ∧ b ≠ d ∧ o + len ≤ A.slots.size ∧ q + len ≤ B.slots.size ∧ ∀ i, i < len → ¬ 255 < cv A (o + i)
def E (b : Addr) (A : Cell) (d : Addr) (B : Cell) (o q len : Nat) (r : Option Value) (s u : State) : Prop := r = some (.int (Int32.ofNat len)) ∧ ∃ B', Put d B' s u ∧ Laid B B' q (q + len) (fun j => Value.int (lo8 (cv A (o + (j - q)))))
/-- no char of the range above 255: len; the places written hold each char's low byte -/
theorem law (l : Launch) (b : Addr) (A : Cell) (d : Addr) (B : Cell) (o q len : Nat) : Law l yN 5 5 0 0 yB 7 (some .int) site (P b A d B o q len) (E b A d B o q len) (copyLocs d q len) 0 0 := by
  refine Law.of_walk (plainFor_of_name (by decide +kernel)) (by decide +kernel) (by decide +kernel) (by decide) (fun _ _ h => by rw [h.1]; rfl) (fun _ U U' hal hh h => ⟨h.1, h.2.1.mv hal hh, h.2.2.1.mv hal hh, h.2.2.2⟩) (fun r U U' V V' h1 hal h2 h => ⟨h.1, h.2.elim fun B' q => ⟨B', q.1.mv h1 h2, q.2⟩⟩) ?_
  intro p e s m args below meth c s₁ X0 hexec hbytes hml hret hlk hnm hown hh0 W hP
  obtain ⟨rfl, hA, hB, hne, l1, l2, hp⟩ := hP
  have c1 : Steps p.tables e below (s₁.setTop (entryFrame m #[.ref b, .int (Int32.ofNat o), .ref d, .int (Int32.ofNat q), .int (Int32.ofNat len)] 7)) (s₁.setTop (mkF m 0 #[.val (.ref b), .val (.int (Int32.ofNat o)), .val (.ref d), .val (.int (Int32.ofNat q)), .val (.int (Int32.ofNat len)), .unset, .unset] [])) := entry rfl
  have hA0 := hA.1.mv X0.warmed.alike hh0
  have hB0 := hB.mv X0.warmed.alike hh0
  have a31 := hA.1.2.2.2
  have c2 : Steps p.tables e below (s₁.setTop (entryFrame m #[.ref b, .int (Int32.ofNat o), .ref d, .int (Int32.ofNat q), .int (Int32.ofNat len)] 7)) (s₁.setTop (mkF m 3 #[.val (.ref b), .val (.int (Int32.ofNat o)), .val (.ref d), .val (.int (Int32.ofNat q)), .val (.int (Int32.ofNat len)), .val (.int 0), .unset] [])) := c1.trans (by
    refine iconstV X0.here hexec rfl 0 (hb hbytes d0) (by decide) ?_
    refine XS.istore X0.here hexec rfl (hb hbytes d1) rfl rfl ?_
    exact Steps.refl _)
  have loop : ∀ (r i : Nat), i + r = len → ∀ (z : Slot), (z = .unset ∨ ∃ w, z = .val w ∧ w.category = 1) → ∀ (Tl : State) (Bk : Cell), Stand p l e { frames := 0, locals := 0, cells := 0, slots := 0 } s m #[.ref b, .int (Int32.ofNat o), .ref d, .int (Int32.ofNat q), .int (Int32.ofNat len)] below meth c Tl ([] ++ copyLocs d q i) 0 0 → Put d Bk s₁ Tl → Laid B Bk q (q + i) (fun j => Value.int (lo8 (cv A (o + (j - q))))) →
      Steps p.tables e below (s₁.setTop (entryFrame m #[.ref b, .int (Int32.ofNat o), .ref d, .int (Int32.ofNat q), .int (Int32.ofNat len)] 7)) (Tl.setTop (mkF m 3 #[.val (.ref b), .val (.int (Int32.ofNat (o + i))), .val (.ref d), .val (.int (Int32.ofNat (q + i))), .val (.int (Int32.ofNat len)), .val (.int (Int32.ofNat i)), z] [])) → ∃ (T' : State) (B' : Cell) (z' : Slot), Stand p l e { frames := 0, locals := 0, cells := 0, slots := 0 } s m #[.ref b, .int (Int32.ofNat o), .ref d, .int (Int32.ofNat q), .int (Int32.ofNat len)] below meth c T' ([] ++ copyLocs d q len) 0 0 ∧ Put d B' s₁ T' ∧ Laid B B' q (q + len) (fun j => Value.int (lo8 (cv A (o + (j - q))))) ∧
      Steps p.tables e below (s₁.setTop (entryFrame m #[.ref b, .int (Int32.ofNat o), .ref d, .int (Int32.ofNat q), .int (Int32.ofNat len)] 7)) (T'.setTop (mkF m 3 #[.val (.ref b), .val (.int (Int32.ofNat (o + len))), .val (.ref d), .val (.int (Int32.ofNat (q + len))), .val (.int (Int32.ofNat len)), .val (.int (Int32.ofNat len)), z'] [])) := by
    intro r
    induction r with
    | zero =>
      intro i hi z hz Tl Bk Xl pl fl cl
      have hil : i = len := by omega
      rw [hil] at Xl fl cl
      exact ⟨Tl, Bk, z, Xl, pl, fl, cl⟩
    | succ r ih =>
      intro i hi z hz Tl Bk Xl pl fl cl
      have all := X0.warmed.alike.symm.trans Xl.warmed.alike
      have hAl := hA0.keep all (pl.other hne hA0.1)
      have hBk := hB0.like all pl.1 fl.1 fl.2.1 fl.2.2.1
      have hlt : q + i < Bk.slots.size := by rw [fl.2.2.1]; omega
      have c3 : Steps p.tables e below (s₁.setTop (entryFrame m #[.ref b, .int (Int32.ofNat o), .ref d, .int (Int32.ofNat q), .int (Int32.ofNat len)] 7)) (Tl.setTop (mkF m 12 #[.val (.ref b), .val (.int (Int32.ofNat (o + i))), .val (.ref d), .val (.int (Int32.ofNat (q + i))), .val (.int (Int32.ofNat len)), .val (.int (Int32.ofNat i)), z] [.int (Int32.ofNat (o + i)), .ref b])) := cl.trans (by
        refine XS.iload Xl.here hexec rfl (hb hbytes d3) rfl ?_
        refine XS.iload Xl.here hexec rfl (hb hbytes d5) rfl ?_
        refine XS.icmpNo Xl.here hexec rfl (hb hbytes d7) rfl (ii_ge_f (lt32 (by omega) (by omega))) ?_
        refine XS.aloadN Xl.here hexec rfl (hb hbytes d10) rfl rfl ?_
        refine XS.iloadN Xl.here hexec rfl (hb hbytes d11) rfl ?_
        exact Steps.refl _)
      have c4 : Steps p.tables e below (s₁.setTop (entryFrame m #[.ref b, .int (Int32.ofNat o), .ref d, .int (Int32.ofNat q), .int (Int32.ofNat len)] 7)) (Tl.setTop (mkF m 13 #[.val (.ref b), .val (.int (Int32.ofNat (o + i))), .val (.ref d), .val (.int (Int32.ofNat (q + i))), .val (.int (Int32.ofNat len)), .val (.int (Int32.ofNat i)), z] [.int (cv A (o + i))])) := c3.trans (by
        refine Xl.aget hexec hAl rfl (hA.get (i := o + i) (by omega)) rfl rfl (hb hbytes d12) ?_
        exact Steps.refl _)
      have c5 : Steps p.tables e below (s₁.setTop (entryFrame m #[.ref b, .int (Int32.ofNat o), .ref d, .int (Int32.ofNat q), .int (Int32.ofNat len)] 7)) (Tl.setTop (mkF m 15 #[.val (.ref b), .val (.int (Int32.ofNat (o + i))), .val (.ref d), .val (.int (Int32.ofNat (q + i))), .val (.int (Int32.ofNat len)), .val (.int (Int32.ofNat i)), .val (.int (cv A (o + i)))] [])) := c4.trans (by
        refine XS.istoreS Xl.here hexec rfl (hb hbytes d13) rfl rfl hz ?_
        exact Steps.refl _)
      have c6 : Steps p.tables e below (s₁.setTop (entryFrame m #[.ref b, .int (Int32.ofNat o), .ref d, .int (Int32.ofNat q), .int (Int32.ofNat len)] 7)) (Tl.setTop (mkF m 31 #[.val (.ref b), .val (.int (Int32.ofNat (o + i))), .val (.ref d), .val (.int (Int32.ofNat (q + i))), .val (.int (Int32.ofNat len)), .val (.int (Int32.ofNat i)), .val (.int (cv A (o + i)))] [.int (lo8 (cv A (o + i))), .int (Int32.ofNat (q + i)), .ref d])) := c5.trans (by
        refine XS.iload Xl.here hexec rfl (hb hbytes d15) rfl ?_
        refine sipushV Xl.here hexec rfl 255 (hb hbytes d17) (by decide) ?_
        refine XS.icmpYes Xl.here hexec rfl (pc0 := 20) rfl (hb hbytes d20) rfl (ii_le_t (hp i (by omega))) (by decide) rfl ?_
        refine XS.aloadN Xl.here hexec rfl (hb hbytes d26) rfl rfl ?_
        refine XS.iloadN Xl.here hexec rfl (hb hbytes d27) rfl ?_
        refine XS.iload Xl.here hexec rfl (hb hbytes d28) rfl ?_
        refine i2b Xl.here hexec rfl (hb hbytes d30) rfl ?_
        exact Steps.refl _)
      obtain ⟨T7, X7, p7, st7⟩ := Xl.aput hexec hBk rfl hlt rfl (fits_lo8 (cv A (o + i))) (g := (mkF m 31 #[.val (.ref b), .val (.int (Int32.ofNat (o + i))), .val (.ref d), .val (.int (Int32.ofNat (q + i))), .val (.int (Int32.ofNat len)), .val (.int (Int32.ofNat i)), .val (.int (cv A (o + i)))] [.int (lo8 (cv A (o + i))), .int (Int32.ofNat (q + i)), .ref d])) rfl (rest := []) rfl (hb hbytes d31)
      have c8 : Steps p.tables e below (s₁.setTop (entryFrame m #[.ref b, .int (Int32.ofNat o), .ref d, .int (Int32.ofNat q), .int (Int32.ofNat len)] 7)) (T7.setTop (mkF m 32 #[.val (.ref b), .val (.int (Int32.ofNat (o + i))), .val (.ref d), .val (.int (Int32.ofNat (q + i))), .val (.int (Int32.ofNat len)), .val (.int (Int32.ofNat i)), .val (.int (cv A (o + i)))] [])) := c6.trans (st7 _ (Steps.refl _))
      have c9 : Steps p.tables e below (s₁.setTop (entryFrame m #[.ref b, .int (Int32.ofNat o), .ref d, .int (Int32.ofNat q), .int (Int32.ofNat len)] 7)) (T7.setTop (mkF m 3 #[.val (.ref b), .val (.int (Int32.ofNat (o + i) + 1)), .val (.ref d), .val (.int (Int32.ofNat (q + i) + 1)), .val (.int (Int32.ofNat len)), .val (.int (Int32.ofNat i + 1)), .val (.int (cv A (o + i)))] [])) := c8.trans (by
        refine iincV X7.here hexec rfl 1 (hb hbytes d32) (by decide) rfl rfl ?_
        refine iincV X7.here hexec rfl 1 (hb hbytes d35) (by decide) rfl rfl ?_
        refine iincV X7.here hexec rfl 1 (hb hbytes d38) (by decide) rfl rfl ?_
        refine XS.goto X7.here hexec rfl (pc0 := 41) rfl (hb hbytes d41) (by decide) rfl ?_
        exact Steps.refl _)
      have c10 : Steps p.tables e below (s₁.setTop (entryFrame m #[.ref b, .int (Int32.ofNat o), .ref d, .int (Int32.ofNat q), .int (Int32.ofNat len)] 7)) (T7.setTop (mkF m 3 #[.val (.ref b), .val (.int (Int32.ofNat (o + (i + 1)))), .val (.ref d), .val (.int (Int32.ofNat (q + (i + 1)))), .val (.int (Int32.ofNat len)), .val (.int (Int32.ofNat (i + 1))), .val (.int (cv A (o + i)))] [])) := by
        have := c9
        rw [succ32, succ32, succ32] at this
        exact this
      exact ih (i + 1) (by omega) _ (Or.inr ⟨_, rfl, rfl⟩) T7 _ (by rw [copyLocs_step, ← List.append_assoc]; exact X7) (pl.trans p7) (fl.step (by omega) hlt (by simp)) c10
  obtain ⟨T9, B9, z9, X9, p9, f9, g9⟩ := loop len 0 (by omega) .unset (Or.inl rfl) s₁ B (by simpa [copyLocs] using X0) ⟨hB0.1, fun _ _ => rfl, rfl⟩ (Laid.zero _ _ _) c2
  have c11 : Steps p.tables e below (s₁.setTop (entryFrame m #[.ref b, .int (Int32.ofNat o), .ref d, .int (Int32.ofNat q), .int (Int32.ofNat len)] 7)) (T9.setTop (mkF m 46 #[.val (.ref b), .val (.int (Int32.ofNat (o + len))), .val (.ref d), .val (.int (Int32.ofNat (q + len))), .val (.int (Int32.ofNat len)), .val (.int (Int32.ofNat len)), z9] [.int (Int32.ofNat len)])) := g9.trans (by
    refine XS.iload X9.here hexec rfl (hb hbytes d3) rfl ?_
    refine XS.iload X9.here hexec rfl (hb hbytes d5) rfl ?_
    refine XS.icmpYes X9.here hexec rfl (pc0 := 7) rfl (hb hbytes d7) rfl (ii_ge_t (nlt32 (by omega) (Nat.le_refl _))) (by decide) rfl ?_
    refine XS.iload X9.here hexec rfl (hb hbytes d44) rfl ?_
    exact Steps.refl _)
  exact ⟨T9, some (.int (Int32.ofNat len)), _, _, _, X9, by simp, rfl, rfl, (fun h => by cases h), ⟨rfl, B9, p9.from hh0, f9⟩, fun fs hl => c11.trans (X9.ireturnOut hexec hret rfl (Or.inl rfl) (hb hbytes d46) hl)⟩
end Cmp5
namespace Cmp3
def yN : MethodName := ⟨"java/lang/StringUTF16", "compress", "([CII)[B"⟩
abbrev yB : ByteArray := jdk_52_method_16_code
theorem d0 : decode yB 0 = .ok (.iload_n 2, 1) := by decide +kernel
theorem d1 : decode yB 1 = .ok (.newarray .byte, 2) := by decide +kernel
theorem d3 : decode yB 3 = .ok (.astore_n 3, 1) := by decide +kernel
theorem d4 : decode yB 4 = .ok (.aload_n 0, 1) := by decide +kernel
theorem d5 : decode yB 5 = .ok (.iload_n 1, 1) := by decide +kernel
theorem d6 : decode yB 6 = .ok (.aload_n 3, 1) := by decide +kernel
theorem d7 : decode yB 7 = .ok (.iconst 0, 1) := by decide +kernel
theorem d8 : decode yB 8 = .ok (.iload_n 2, 1) := by decide +kernel
theorem d9 : decode yB 9 = .ok (.invokestatic 115, 3) := by decide +kernel
theorem d12 : decode yB 12 = .ok (.istore 4, 2) := by decide +kernel
theorem d14 : decode yB 14 = .ok (.iload 4, 2) := by decide +kernel
theorem d16 : decode yB 16 = .ok (.iload_n 2, 1) := by decide +kernel
theorem d17 : decode yB 17 = .ok (.if_icmp (.eq) 40, 3) := by decide +kernel
theorem d57 : decode yB 57 = .ok (.aload_n 3, 1) := by decide +kernel
theorem d58 : decode yB 58 = .ok (.areturn, 1) := by decide +kernel
def site : List Cond := [.arrayClass .byte, Cmp5.tab] ++ staticW U16 115 Cmp5.yN
def tab : Cond := tabOf yN yB 6 (some (.array .byte)) site
def P (b : Addr) (A : Cell) (o len : Nat) (args : Array Value) (s : State) : Prop := args = #[.ref b, .int (Int32.ofNat o), .int (Int32.ofNat len)] ∧ Ch b A s ∧ o + len ≤ A.slots.size ∧ len ≤ 536870912 ∧ ∀ i, i < len → ¬ 255 < cv A (o + i)
def E (b : Addr) (A : Cell) (o len : Nat) (r : Option Value) (s u : State) : Prop := NewArr .byte "[B" len (fun j => .int (lo8 (cv A (o + j)))) r s u ∧ u.heap.size = s.heap.size + 1
/-- no char of the range above 255: a new byte[] of their low bytes -/
theorem law (l : Launch) (b : Addr) (A : Cell) (o len : Nat) : Law l yN 3 3 1 18 yB 6 (some (.array .byte)) site (P b A o len) (E b A o len) [] 1 len := by
  refine Law.of_walk (plainFor_of_name (by decide +kernel)) (by decide +kernel) (by decide +kernel) (by decide) (fun _ _ h => by rw [h.1]; rfl) (fun _ U U' hal hh h => ⟨h.1, h.2.1.mv hal hh, h.2.2⟩) (fun r U U' V V' h1 hal h2 h => ⟨NewArr.mv r U U' V V' h1 hal h2 h.1, by rw [h1, h2]; exact h.2⟩) ?_
  intro p e s m args below meth c s₁ X0 hexec hbytes hml hret hlk hnm hown hh0 W hP
  obtain ⟨rfl, hA, l1, l2, hp⟩ := hP
  have a31 := hA.1.2.2.2
  have c1 : Steps p.tables e below (s₁.setTop (entryFrame m #[.ref b, .int (Int32.ofNat o), .int (Int32.ofNat len)] 6)) (s₁.setTop (mkF m 0 #[.val (.ref b), .val (.int (Int32.ofNat o)), .val (.int (Int32.ofNat len)), .unset, .unset, .unset] [])) := entry rfl
  have c2 : Steps p.tables e below (s₁.setTop (entryFrame m #[.ref b, .int (Int32.ofNat o), .int (Int32.ofNat len)] 6)) (s₁.setTop (mkF m 1 #[.val (.ref b), .val (.int (Int32.ofNat o)), .val (.int (Int32.ofNat len)), .unset, .unset, .unset] [.int (Int32.ofNat len)])) := c1.trans (by
    refine XS.iloadN X0.here hexec rfl (hb hbytes d0) rfl ?_
    exact Steps.refl _)
  obtain ⟨T3, B3, X3, ba3, bs3, bv3, bh3, bf3, st3⟩ := X0.anew hexec (atype := .byte) (wk W (.arrayClass .byte)) rfl (by show len * 1 ≤ _; omega) (by omega) (g := (mkF m 1 #[.val (.ref b), .val (.int (Int32.ofNat o)), .val (.int (Int32.ofNat len)), .unset, .unset, .unset] [.int (Int32.ofNat len)])) rfl (hb hbytes d1) (rest := []) rfl (Nat.le_refl _) (by show 0 + len ≤ len; omega)
  rw [hh0] at ba3 st3
  have kp3 : XT.Kept s T3 := (XT.Kept.of_eq hh0).push bh3
  have hA3 := hA.keep X3.warmed.alike (kp3 _ _ hA.1.1)
  have hne : b ≠ s.heap.size := hA.1.ne
  have c4 : Steps p.tables e below (s₁.setTop (entryFrame m #[.ref b, .int (Int32.ofNat o), .int (Int32.ofNat len)] 6)) (T3.setTop (mkF m 3 #[.val (.ref b), .val (.int (Int32.ofNat o)), .val (.int (Int32.ofNat len)), .unset, .unset, .unset] [.ref s.heap.size])) := c2.trans (st3 _ (Steps.refl _))
  have c5 : Steps p.tables e below (s₁.setTop (entryFrame m #[.ref b, .int (Int32.ofNat o), .int (Int32.ofNat len)] 6)) (T3.setTop (mkF m 9 #[.val (.ref b), .val (.int (Int32.ofNat o)), .val (.int (Int32.ofNat len)), .val (.ref s.heap.size), .unset, .unset] [.int (Int32.ofNat len), .int 0, .ref s.heap.size, .int (Int32.ofNat o), .ref b])) := c4.trans (by
    refine XS.astoreN X3.here hexec rfl (hb hbytes d3) rfl rfl rfl ?_
    refine XS.aloadN X3.here hexec rfl (hb hbytes d4) rfl rfl ?_
    refine XS.iloadN X3.here hexec rfl (hb hbytes d5) rfl ?_
    refine XS.aloadN X3.here hexec rfl (hb hbytes d6) rfl rfl ?_
    refine iconstV X3.here hexec rfl 0 (hb hbytes d7) (by decide) ?_
    refine XS.iloadN X3.here hexec rfl (hb hbytes d8) rfl ?_
    exact Steps.refl _)
  obtain ⟨v6, T6, X6, E6, g6⟩ := X3.callS hexec (Cmp5.law l b A s.heap.size B3 o 0 len) hown (wks W (staticW U16 115 Cmp5.yN)) (wk W Cmp5.tab) (W := 0) (Nat.le_of_ble_eq_true rfl) (Nat.le_of_ble_eq_true rfl) (Nat.le_refl _) (by show 0 + len + 0 ≤ len; omega) (g := (mkF m 9 #[.val (.ref b), .val (.int (Int32.ofNat o)), .val (.int (Int32.ofNat len)), .val (.ref s.heap.size), .unset, .unset] [.int (Int32.ofNat len), .int (Int32.ofNat 0), .ref s.heap.size, .int (Int32.ofNat o), .ref b])) rfl (by rw [hml]; rfl) c5 (argsL := [.ref b, .int (Int32.ofNat o), .ref s.heap.size, .int (Int32.ofNat 0), .int (Int32.ofNat len)]) (rest := []) rfl rfl (by show 2 * 0 + 0 ≤ _; decide) (hb hbytes d9) (⟨rfl, hA3, ba3, hne, l1, by rw [bs3]; simp, hp⟩)
  obtain ⟨rfl, B6, p6, f6⟩ := E6
  have c7 : Steps p.tables e below (s₁.setTop (entryFrame m #[.ref b, .int (Int32.ofNat o), .int (Int32.ofNat len)] 6)) (T6.setTop (mkF m 12 #[.val (.ref b), .val (.int (Int32.ofNat o)), .val (.int (Int32.ofNat len)), .val (.ref s.heap.size), .unset, .unset] [.int (Int32.ofNat len)])) := g6
  have c8 : Steps p.tables e below (s₁.setTop (entryFrame m #[.ref b, .int (Int32.ofNat o), .int (Int32.ofNat len)] 6)) (T6.setTop (mkF m 58 #[.val (.ref b), .val (.int (Int32.ofNat o)), .val (.int (Int32.ofNat len)), .val (.ref s.heap.size), .val (.int (Int32.ofNat len)), .unset] [.ref s.heap.size])) := c7.trans (by
    refine XS.istore X6.here hexec rfl (hb hbytes d12) rfl rfl ?_
    refine XS.iload X6.here hexec rfl (hb hbytes d14) rfl ?_
    refine XS.iloadN X6.here hexec rfl (hb hbytes d16) rfl ?_
    refine XS.icmpYes X6.here hexec rfl (pc0 := 17) rfl (hb hbytes d17) rfl (ii_eq_t rfl) (by decide) rfl ?_
    refine XS.aloadN X6.here hexec rfl (hb hbytes d57) rfl rfl ?_
    exact Steps.refl _)
  have X8 := X6.wide (L' := []) (cells' := 1) (slots' := len) (fun x hx hlt => by
    simp only [List.nil_append, copyLocs, List.mem_map, List.mem_range] at hx
    obtain ⟨i, -, rfl⟩ := hx
    exact absurd hlt (Nat.lt_irrefl _)) (Nat.le_refl _) (by omega)
  exact ⟨T6, some (.ref s.heap.size), _, _, _, X8, rfl, rfl, rfl, (fun h => by cases h), ⟨⟨rfl, B6, ba3.like (X3.warmed.alike.symm.trans X6.warmed.alike) p6.1 f6.1 f6.2.1 f6.2.2.1, f6.2.1.trans bv3, by rw [X6.warmed.alike.findClass, f6.1]; exact bf3, by rw [f6.2.2.1, bs3]; simp, fun j hj => by rw [f6.2.2.2 j, if_pos (by omega)]; rfl, kp3.put p6 (Nat.le_refl _)⟩, by rw [p6.2.2, bh3, hh0]; simp⟩, fun fs hl => c8.trans (X8.areturnOut hexec rfl hret rfl (hb hbytes d58) hl)⟩
end Cmp3
namespace CodL
def yN : MethodName := ⟨"java/lang/StringUTF16", "coderFromArrayLen", "([BI)B"⟩
abbrev yB : ByteArray := jdk_52_method_15_code
theorem d0 : decode yB 0 = .ok (.iload_n 1, 1) := by decide +kernel
theorem d1 : decode yB 1 = .ok (.aload_n 0, 1) := by decide +kernel
theorem d2 : decode yB 2 = .ok (.arraylength, 1) := by decide +kernel
theorem d3 : decode yB 3 = .ok (.isub, 1) := by decide +kernel
theorem d4 : decode yB 4 = .ok (.bipush 31, 2) := by decide +kernel
theorem d6 : decode yB 6 = .ok (.iushr, 1) := by decide +kernel
theorem d7 : decode yB 7 = .ok (.i2b, 1) := by decide +kernel
theorem d8 : decode yB 8 = .ok (.ireturn, 1) := by decide +kernel
def site : List Cond := []
def tab : Cond := tabOf yN yB 2 (some .byte) site
def P (d : Addr) (B : Cell) (args : Array Value) (s : State) : Prop := args = #[.ref d, .int (Int32.ofNat B.slots.size)] ∧ Arr .byte d B s
def E (r : Option Value) (s u : State) : Prop := XT.PureE (some (.int 0)) r s u
/-- an array as long as the number of chars: LATIN1 -/
theorem law (l : Launch) (d : Addr) (B : Cell) : Law l yN 2 2 0 0 yB 2 (some .byte) site (P d B) E [] 0 0 := by
  refine Law.of_walk (plainFor_of_name (by decide +kernel)) (by decide +kernel) (by decide +kernel) (by decide) (fun _ _ h => by rw [h.1]; rfl) (fun _ U U' hal hh h => ⟨h.1, h.2.mv hal hh⟩) (fun r U U' V V' h1 hal h2 h => XT.PureE.mv r U U' V V' h1 hal h2 h) ?_
  intro p e s m args below meth c s₁ X0 hexec hbytes hml hret hlk hnm hown hh0 W hP
  obtain ⟨rfl, hB⟩ := hP
  have hB0 := hB.mv X0.warmed.alike hh0
  have c1 : Steps p.tables e below (s₁.setTop (entryFrame m #[.ref d, .int (Int32.ofNat B.slots.size)] 2)) (s₁.setTop (mkF m 0 #[.val (.ref d), .val (.int (Int32.ofNat B.slots.size))] [])) := entry rfl
  have c2 : Steps p.tables e below (s₁.setTop (entryFrame m #[.ref d, .int (Int32.ofNat B.slots.size)] 2)) (s₁.setTop (mkF m 2 #[.val (.ref d), .val (.int (Int32.ofNat B.slots.size))] [.ref d, .int (Int32.ofNat B.slots.size)])) := c1.trans (by
    refine XS.iloadN X0.here hexec rfl (hb hbytes d0) rfl ?_
    refine XS.aloadN X0.here hexec rfl (hb hbytes d1) rfl rfl ?_
    exact Steps.refl _)
  have c3 : Steps p.tables e below (s₁.setTop (entryFrame m #[.ref d, .int (Int32.ofNat B.slots.size)] 2)) (s₁.setTop (mkF m 8 #[.val (.ref d), .val (.int (Int32.ofNat B.slots.size))] [.int (lo8 (ushr (Int32.ofNat B.slots.size - Int32.ofNat B.slots.size) 31))])) := c2.trans (by
    refine X0.alen hexec hB0 rfl rfl (hb hbytes d2) ?_
    refine XS.isub X0.here hexec rfl (hb hbytes d3) rfl ?_
    refine bipushV X0.here hexec rfl 31 (hb hbytes d4) (by decide) ?_
    refine iushr X0.here hexec rfl (hb hbytes d6) rfl ?_
    refine i2b X0.here hexec rfl (hb hbytes d7) rfl ?_
    exact Steps.refl _)
  have e0 : lo8 (ushr (Int32.ofNat B.slots.size - Int32.ofNat B.slots.size) 31) = 0 := by rw [Int32.sub_self]; decide
  rw [e0] at c3
  exact ⟨s₁, some (.int 0), _, _, _, X0, rfl, rfl, rfl, (fun h => by cases h), ⟨rfl, hh0⟩, fun fs hl => c3.trans (X0.ireturnOut hexec hret rfl (Or.inr (Or.inr (Or.inl rfl))) (hb hbytes d8) hl)⟩
end CodL
/-- the String at a is Latin-1 over a new byte[] (the heap's one new cell): the low bytes of the len chars of A from o on; every cell but a is kept -/
def Got (a : Addr) (D : Cell) (fV fC : Field) (A : Cell) (o len : Nat) (r : Option Value) (s u : State) : Prop := r = none ∧ ∃ D' V : Cell, Blank "java/lang/String" a D' u ∧ Same D D' [fV.slot, fC.slot] ∧ D'.slots[fV.slot]? = some (.ref s.heap.size) ∧ D'.slots[fC.slot]? = some (.int 0) ∧ Arr .byte s.heap.size V u ∧ V.vm = .none ∧ u.vm.findClass "[B" = some V.cls ∧ V.slots.size = len ∧ (∀ j, j < len → V.slots[j]? = some (.int (lo8 (cv A (o + j))))) ∧ (∀ (y : Addr) (c : Cell), y ≠ a → s.heap[y]? = some c → u.heap[y]? = some c) ∧ u.heap.size = s.heap.size + 1
theorem Got.mv {a : Addr} {D A : Cell} {fV fC : Field} {o len : Nat} : ∀ r (U U' V V' : State), U'.heap = U.heap → V.vm.Alike V'.vm → V'.heap = V.heap → Got a D fV fC A o len r U V → Got a D fV fC A o len r U' V' :=
  fun r U U' V V' h1 hal h2 ⟨e0, D', X, a1, a2, a3, a4, a5, a6, a7, a8, a9, a10, a11⟩ => ⟨e0, D', X, a1.mv hal h2, a2, by rw [h1]; exact a3, a4, by rw [h1]; exact a5.mv hal h2, a6, by rw [hal.findClass]; exact a7, a8, a9, by rw [h1, h2]; exact a10, by rw [h1, h2]; exact a11⟩
namespace New4
def yN : MethodName := ⟨"java/lang/String", "<init>", "([CIILjava/lang/Void;)V"⟩
abbrev yB : ByteArray := jdk_42_method_149_code
theorem d0 : decode yB 0 = .ok (.aload_n 0, 1) := by decide +kernel
theorem d1 : decode yB 1 = .ok (.invokespecial 1, 3) := by decide +kernel
theorem d4 : decode yB 4 = .ok (.iload_n 3, 1) := by decide +kernel
theorem d5 : decode yB 5 = .ok (.ifCond (.ne) 22, 3) := by decide +kernel
theorem d27 : decode yB 27 = .ok (.getstatic 38, 3) := by decide +kernel
theorem d30 : decode yB 30 = .ok (.ifCond (.eq) 28, 3) := by decide +kernel
theorem d33 : decode yB 33 = .ok (.aload_n 1, 1) := by decide +kernel
theorem d34 : decode yB 34 = .ok (.iload_n 2, 1) := by decide +kernel
theorem d35 : decode yB 35 = .ok (.iload_n 3, 1) := by decide +kernel
theorem d36 : decode yB 36 = .ok (.invokestatic 177, 3) := by decide +kernel
theorem d39 : decode yB 39 = .ok (.astore 5, 2) := by decide +kernel
theorem d41 : decode yB 41 = .ok (.aload_n 0, 1) := by decide +kernel
theorem d42 : decode yB 42 = .ok (.aload 5, 2) := by decide +kernel
theorem d44 : decode yB 44 = .ok (.iload_n 3, 1) := by decide +kernel
theorem d45 : decode yB 45 = .ok (.invokestatic 47, 3) := by decide +kernel
theorem d48 : decode yB 48 = .ok (.putfield 15, 3) := by decide +kernel
theorem d51 : decode yB 51 = .ok (.aload_n 0, 1) := by decide +kernel
theorem d52 : decode yB 52 = .ok (.aload 5, 2) := by decide +kernel
theorem d54 : decode yB 54 = .ok (.putfield 9, 3) := by decide +kernel
theorem d57 : decode yB 57 = .ok (.return_, 1) := by decide +kernel
def site : List Cond := [.fieldLink "java/lang/String" 38 "java/lang/String" "COMPACT_STRINGS" "Z", Cmp3.tab, CodL.tab, .laysFinal "java/lang/String" "java/lang/String" "value" "[B", .fieldLink "java/lang/String" 9 "java/lang/String" "value" "[B", .laysFinal "java/lang/String" "java/lang/String" "coder" "B", .fieldLink "java/lang/String" 15 "java/lang/String" "coder" "B"] ++ objW "java/lang/String" 1 ++ staticW "java/lang/String" 177 Cmp3.yN ++ staticW "java/lang/String" 47 CodL.yN
def tab : Cond := tabOf yN yB 6 none site
def P (a : Addr) (D : Cell) (fV fC : Field) (b : Addr) (A : Cell) (z : Int32) (o len : Nat) (args : Array Value) (s : State) : Prop := args = #[.ref a, .ref b, .int (Int32.ofNat o), .int (Int32.ofNat len), .null] ∧ Blank "java/lang/String" a D s ∧ Found "java/lang/String" "value" "[B" fV s ∧ Found "java/lang/String" "coder" "B" fC s ∧ Ch b A s ∧ StaticIs s "java/lang/String" "COMPACT_STRINGS" "Z" (.int z) ∧ ¬ z = 0 ∧ 0 < len ∧ o + len ≤ A.slots.size ∧ len ≤ 536870912 ∧ ∀ i, i < len → ¬ 255 < cv A (o + i)
def E (a : Addr) (D : Cell) (fV fC : Field) (A : Cell) (o len : Nat) (r : Option Value) (s u : State) : Prop := Got a D fV fC A o len r s u
/-- len > 0, no char of the range above 255: a Latin-1 String of their low bytes -/
theorem law (l : Launch) (a : Addr) (D : Cell) (fV fC : Field) (b : Addr) (A : Cell) (z : Int32) (o len : Nat) : Law l yN 5 4 2 35 yB 6 none site (P a D fV fC b A z o len) (E a D fV fC A o len) [⟨a, fC.slot⟩, ⟨a, fV.slot⟩] 1 len := by
  refine Law.of_walk (plainFor_of_name (by decide +kernel)) (by decide +kernel) (by decide +kernel) (by decide) (fun _ _ h => by rw [h.1]; rfl) (fun _ U U' hal hh h => ⟨h.1, h.2.1.mv hal hh, h.2.2.1.al hal, h.2.2.2.1.al hal, h.2.2.2.2.1.mv hal hh, h.2.2.2.2.2.1.there hal hh, h.2.2.2.2.2.2⟩) (fun r U U' V V' h1 hal h2 h => Got.mv r U U' V V' h1 hal h2 h) ?_
  intro p e s m args below meth c s₁ X0 hexec hbytes hml hret hlk hnm hown hh0 W hP
  obtain ⟨rfl, hB, f1, f2, hA, s1, hz, l0, l1, l2, hp⟩ := hP
  have a31 := hA.1.2.2.2
  have c1 : Steps p.tables e below (s₁.setTop (entryFrame m #[.ref a, .ref b, .int (Int32.ofNat o), .int (Int32.ofNat len), .null] 6)) (s₁.setTop (mkF m 0 #[.val (.ref a), .val (.ref b), .val (.int (Int32.ofNat o)), .val (.int (Int32.ofNat len)), .val .null, .unset] [])) := entry rfl
  have c2 : Steps p.tables e below (s₁.setTop (entryFrame m #[.ref a, .ref b, .int (Int32.ofNat o), .int (Int32.ofNat len), .null] 6)) (s₁.setTop (mkF m 1 #[.val (.ref a), .val (.ref b), .val (.int (Int32.ofNat o)), .val (.int (Int32.ofNat len)), .val .null, .unset] [.ref a])) := c1.trans (by
    refine XS.aloadN X0.here hexec rfl (hb hbytes d0) rfl rfl ?_
    exact Steps.refl _)
  obtain ⟨T3, X3, q3, st3⟩ := X0.oinit hexec hown (wks W (objW "java/lang/String" 1)) (g := (mkF m 1 #[.val (.ref a), .val (.ref b), .val (.int (Int32.ofNat o)), .val (.int (Int32.ofNat len)), .val .null, .unset] [.ref a])) rfl (by rw [hml]; rfl) (rest := []) rfl (hb hbytes d1) (W := 0) (by show 2 * 0 + 0 ≤ _; decide) (Nat.le_of_ble_eq_true rfl) (Nat.le_of_ble_eq_true rfl)
  have hh3 := q3.trans hh0
  have c4 : Steps p.tables e below (s₁.setTop (entryFrame m #[.ref a, .ref b, .int (Int32.ofNat o), .int (Int32.ofNat len), .null] 6)) (T3.setTop (mkF m 27 #[.val (.ref a), .val (.ref b), .val (.int (Int32.ofNat o)), .val (.int (Int32.ofNat len)), .val .null, .unset] [])) := (c2.trans (st3 _ (Steps.refl _))).trans (by
    refine XS.iloadN X3.here hexec rfl (hb hbytes d4) rfl ?_
    refine XS.ifYes X3.here hexec rfl (pc0 := 5) rfl (hb hbytes d5) rfl (i0_ne_t (nz32 (by omega) l0)) (by decide) rfl ?_
    exact Steps.refl _)
  obtain ⟨T5, X5, q5, st5⟩ := X3.sget hexec hown (wk W (.fieldLink "java/lang/String" 38 "java/lang/String" "COMPACT_STRINGS" "Z")) s1 (fun _ _ h => by rw [hh3]; exact h) (g := (mkF m 27 #[.val (.ref a), .val (.ref b), .val (.int (Int32.ofNat o)), .val (.int (Int32.ofNat len)), .val .null, .unset] [])) rfl (hb hbytes d27)
  have hh5 := q5.trans hh3
  have c6 : Steps p.tables e below (s₁.setTop (entryFrame m #[.ref a, .ref b, .int (Int32.ofNat o), .int (Int32.ofNat len), .null] 6)) (T5.setTop (mkF m 30 #[.val (.ref a), .val (.ref b), .val (.int (Int32.ofNat o)), .val (.int (Int32.ofNat len)), .val .null, .unset] [.int z])) := c4.trans (st5 _ (Steps.refl _))
  have c7 : Steps p.tables e below (s₁.setTop (entryFrame m #[.ref a, .ref b, .int (Int32.ofNat o), .int (Int32.ofNat len), .null] 6)) (T5.setTop (mkF m 36 #[.val (.ref a), .val (.ref b), .val (.int (Int32.ofNat o)), .val (.int (Int32.ofNat len)), .val .null, .unset] [.int (Int32.ofNat len), .int (Int32.ofNat o), .ref b])) := c6.trans (by
    refine XS.ifNo X5.here hexec rfl (hb hbytes d30) rfl (i0_eq_f hz) ?_
    refine XS.aloadN X5.here hexec rfl (hb hbytes d33) rfl rfl ?_
    refine XS.iloadN X5.here hexec rfl (hb hbytes d34) rfl ?_
    refine XS.iloadN X5.here hexec rfl (hb hbytes d35) rfl ?_
    exact Steps.refl _)
  obtain ⟨v8, T8, X8, E8, g8⟩ := X5.callS hexec (Cmp3.law l b A o len) hown (wks W (staticW "java/lang/String" 177 Cmp3.yN)) (wk W Cmp3.tab) (W := 0) (Nat.le_of_ble_eq_true rfl) (Nat.le_of_ble_eq_true rfl) (Nat.le_refl _) (by show 0 + len ≤ len; omega) (g := (mkF m 36 #[.val (.ref a), .val (.ref b), .val (.int (Int32.ofNat o)), .val (.int (Int32.ofNat len)), .val .null, .unset] [.int (Int32.ofNat len), .int (Int32.ofNat o), .ref b])) rfl (by rw [hml]; rfl) c7 (argsL := [.ref b, .int (Int32.ofNat o), .int (Int32.ofNat len)]) (rest := []) rfl rfl (by show 2 * 0 + 0 ≤ _; decide) (hb hbytes d36) (⟨rfl, hA.mv X5.warmed.alike hh5, l1, l2, hp⟩)
  obtain ⟨e8, z8⟩ := E8
  obtain ⟨rfl, N, n1, n2, n3, n4, n5, n6⟩ := NewArr.mv _ T5 s _ _ hh5.symm (Vm.Alike.refl _) rfl e8
  rw [hh5] at z8
  have hB1 := hB.keep X8.warmed.alike (n6 _ _ hB.1)
  have hne : s.heap.size ≠ a := (Nat.ne_of_lt (Array.getElem?_eq_some_iff.mp hB.1).1).symm
  have c9 : Steps p.tables e below (s₁.setTop (entryFrame m #[.ref a, .ref b, .int (Int32.ofNat o), .int (Int32.ofNat len), .null] 6)) (T8.setTop (mkF m 39 #[.val (.ref a), .val (.ref b), .val (.int (Int32.ofNat o)), .val (.int (Int32.ofNat len)), .val .null, .unset] [.ref s.heap.size])) := g8
  have c10 : Steps p.tables e below (s₁.setTop (entryFrame m #[.ref a, .ref b, .int (Int32.ofNat o), .int (Int32.ofNat len), .null] 6)) (T8.setTop (mkF m 45 #[.val (.ref a), .val (.ref b), .val (.int (Int32.ofNat o)), .val (.int (Int32.ofNat len)), .val .null, .val (.ref s.heap.size)] [.int (Int32.ofNat N.slots.size), .ref s.heap.size, .ref a])) := by
    have hc : Steps p.tables e below (s₁.setTop (entryFrame m #[.ref a, .ref b, .int (Int32.ofNat o), .int (Int32.ofNat len), .null] 6)) (T8.setTop (mkF m 45 #[.val (.ref a), .val (.ref b), .val (.int (Int32.ofNat o)), .val (.int (Int32.ofNat len)), .val .null, .val (.ref s.heap.size)] [.int (Int32.ofNat len), .ref s.heap.size, .ref a])) := c9.trans (by
      refine XS.astore X8.here hexec rfl (hb hbytes d39) rfl rfl rfl ?_
      refine XS.aloadN X8.here hexec rfl (hb hbytes d41) rfl rfl ?_
      refine XS.aload X8.here hexec rfl (hb hbytes d42) rfl rfl ?_
      refine XS.iloadN X8.here hexec rfl (hb hbytes d44) rfl ?_
      exact Steps.refl _)
    rw [n4]; exact hc
  obtain ⟨v11, T11, X11, E11, g11⟩ := X8.callS hexec (CodL.law l s.heap.size N) hown (wks W (staticW "java/lang/String" 47 CodL.yN)) (wk W CodL.tab) (W := 1) (Nat.le_of_ble_eq_true rfl) (Nat.le_of_ble_eq_true rfl) (Nat.le_refl _) (by show 0 + len + 0 ≤ len; omega) (g := (mkF m 45 #[.val (.ref a), .val (.ref b), .val (.int (Int32.ofNat o)), .val (.int (Int32.ofNat len)), .val .null, .val (.ref s.heap.size)] [.int (Int32.ofNat N.slots.size), .ref s.heap.size, .ref a])) rfl (by rw [hml]; rfl) c10 (argsL := [.ref s.heap.size, .int (Int32.ofNat N.slots.size)]) (rest := [.ref a]) rfl rfl (by show 2 * 0 + (1 + 0) ≤ _; decide) (hb hbytes d45) (⟨rfl, n1⟩)
  obtain ⟨rfl, q11⟩ := E11
  have hB11 := hB1.mv (X8.warmed.alike.symm.trans X11.warmed.alike) q11
  have c12 : Steps p.tables e below (s₁.setTop (entryFrame m #[.ref a, .ref b, .int (Int32.ofNat o), .int (Int32.ofNat len), .null] 6)) (T11.setTop (mkF m 48 #[.val (.ref a), .val (.ref b), .val (.int (Int32.ofNat o)), .val (.int (Int32.ofNat len)), .val .null, .val (.ref s.heap.size)] [.int 0, .ref a])) := g11
  obtain ⟨T13, X13, p13, bl13, sl13, st13⟩ := X11.finit hexec hown (wk W (.fieldLink "java/lang/String" 15 "java/lang/String" "coder" "B")) (Or.inr ⟨_, (wk W (.laysFinal "java/lang/String" "java/lang/String" "coder" "B"))⟩) (Or.inl ⟨rfl, hnm⟩) f2 (Or.inl rfl) hB11 (t := .byte) (by decide +kernel) rfl (g := (mkF m 48 #[.val (.ref a), .val (.ref b), .val (.int (Int32.ofNat o)), .val (.int (Int32.ofNat len)), .val .null, .val (.ref s.heap.size)] [.int 0, .ref a])) rfl (rest := []) rfl (hb hbytes d48)
  have c14 : Steps p.tables e below (s₁.setTop (entryFrame m #[.ref a, .ref b, .int (Int32.ofNat o), .int (Int32.ofNat len), .null] 6)) (T13.setTop (mkF m 54 #[.val (.ref a), .val (.ref b), .val (.int (Int32.ofNat o)), .val (.int (Int32.ofNat len)), .val .null, .val (.ref s.heap.size)] [.ref s.heap.size, .ref a])) := (c12.trans (st13 _ (Steps.refl _))).trans (by
    refine XS.aloadN X13.here hexec rfl (hb hbytes d51) rfl rfl ?_
    refine XS.aload X13.here hexec rfl (hb hbytes d52) rfl rfl ?_
    exact Steps.refl _)
  obtain ⟨T15, X15, p15, bl15, sl15, st15⟩ := X13.finit hexec hown (wk W (.fieldLink "java/lang/String" 9 "java/lang/String" "value" "[B")) (Or.inr ⟨_, (wk W (.laysFinal "java/lang/String" "java/lang/String" "value" "[B"))⟩) (Or.inl ⟨rfl, hnm⟩) f1 (Or.inl rfl) bl13 (t := (.array .byte)) (by decide +kernel) rfl (g := (mkF m 54 #[.val (.ref a), .val (.ref b), .val (.int (Int32.ofNat o)), .val (.int (Int32.ofNat len)), .val .null, .val (.ref s.heap.size)] [.ref s.heap.size, .ref a])) rfl (rest := []) rfl (hb hbytes d54)
  have c16 : Steps p.tables e below (s₁.setTop (entryFrame m #[.ref a, .ref b, .int (Int32.ofNat o), .int (Int32.ofNat len), .null] 6)) (T15.setTop (mkF m 57 #[.val (.ref a), .val (.ref b), .val (.int (Int32.ofNat o)), .val (.int (Int32.ofNat len)), .val .null, .val (.ref s.heap.size)] [])) := c14.trans (st15 _ (Steps.refl _))
  have ap := apart (Or.inr ⟨_, (wk W (.laysFinal "java/lang/String" "java/lang/String" "value" "[B"))⟩) (Or.inr ⟨_, (wk W (.laysFinal "java/lang/String" "java/lang/String" "coder" "B"))⟩) f1 f2 (t₁ := .array .byte) (t₂ := .byte) (by decide +kernel) (by decide +kernel) (by decide)
  have al := X8.warmed.alike.symm.trans X15.warmed.alike
  have n7 : T11.heap[s.heap.size]? = some N := by rw [q11]; exact n1.1
  exact ⟨T15, none, _, _, _, X15, by simp, rfl, by omega, (fun _ => rfl), ⟨rfl, _, N, bl15, ((Same.refl D _).set _ (by simp)).set _ (by simp), sl15, (Cell.slots_setSlot_ne _ ap).trans sl13, n1.keep al (p15.other hne (p13.other hne n7)), n2, by rw [al.findClass]; exact n3, n4, n5, fun y c h1 h2 => p15.other h1 (p13.other h1 (by rw [q11]; exact n6 y c h2)), by rw [p15.2.2, p13.2.2, q11]; exact z8⟩, fun fs hl => c16.trans (X15.returnOut hexec hret (hb hbytes d57) hl)⟩
end New4
namespace New1
def yN : MethodName := ⟨"java/lang/String", "<init>", "([C)V"⟩
abbrev yB : ByteArray := jdk_42_method_3_code
theorem d0 : decode yB 0 = .ok (.aload_n 0, 1) := by decide +kernel
theorem d1 : decode yB 1 = .ok (.aload_n 1, 1) := by decide +kernel
theorem d2 : decode yB 2 = .ok (.iconst 0, 1) := by decide +kernel
theorem d3 : decode yB 3 = .ok (.aload_n 1, 1) := by decide +kernel
theorem d4 : decode yB 4 = .ok (.arraylength, 1) := by decide +kernel
theorem d5 : decode yB 5 = .ok (.aconst_null, 1) := by decide +kernel
theorem d6 : decode yB 6 = .ok (.invokespecial 27, 3) := by decide +kernel
theorem d9 : decode yB 9 = .ok (.return_, 1) := by decide +kernel
def site : List Cond := [New4.tab] ++ initW "java/lang/String" 27 New4.yN
def tab : Cond := tabOf yN yB 2 none site
def P (a : Addr) (D : Cell) (fV fC : Field) (b : Addr) (A : Cell) (z : Int32) (args : Array Value) (s : State) : Prop := args = #[.ref a, .ref b] ∧ Blank "java/lang/String" a D s ∧ Found "java/lang/String" "value" "[B" fV s ∧ Found "java/lang/String" "coder" "B" fC s ∧ Ch b A s ∧ StaticIs s "java/lang/String" "COMPACT_STRINGS" "Z" (.int z) ∧ ¬ z = 0 ∧ 0 < A.slots.size ∧ A.slots.size ≤ 536870912 ∧ ∀ i, i < A.slots.size → ¬ 255 < cv A i
def E (a : Addr) (D : Cell) (fV fC : Field) (A : Cell) (r : Option Value) (s u : State) : Prop := Got a D fV fC A 0 A.slots.size r s u
/-- new String(chars), not empty, no char above 255: a Latin-1 String of their low bytes -/
theorem law (l : Launch) (a : Addr) (D : Cell) (fV fC : Field) (b : Addr) (A : Cell) (z : Int32) : Law l yN 2 1 3 52 yB 2 none site (P a D fV fC b A z) (E a D fV fC A) [⟨a, fC.slot⟩, ⟨a, fV.slot⟩] 1 A.slots.size := by
  refine Law.of_walk (plainFor_of_name (by decide +kernel)) (by decide +kernel) (by decide +kernel) (by decide) (fun _ _ h => by rw [h.1]; rfl) (fun _ U U' hal hh h => ⟨h.1, h.2.1.mv hal hh, h.2.2.1.al hal, h.2.2.2.1.al hal, h.2.2.2.2.1.mv hal hh, h.2.2.2.2.2.1.there hal hh, h.2.2.2.2.2.2⟩) (fun r U U' V V' h1 hal h2 h => Got.mv r U U' V V' h1 hal h2 h) ?_
  intro p e s m args below meth c s₁ X0 hexec hbytes hml hret hlk hnm hown hh0 W hP
  obtain ⟨rfl, hB, f1, f2, hA, s1, hz, l0, l2, hp⟩ := hP
  have c1 : Steps p.tables e below (s₁.setTop (entryFrame m #[.ref a, .ref b] 2)) (s₁.setTop (mkF m 0 #[.val (.ref a), .val (.ref b)] [])) := entry rfl
  have c2 : Steps p.tables e below (s₁.setTop (entryFrame m #[.ref a, .ref b] 2)) (s₁.setTop (mkF m 6 #[.val (.ref a), .val (.ref b)] [.null, .int (Int32.ofNat A.slots.size), .int 0, .ref b, .ref a])) := c1.trans (by
    refine XS.aloadN X0.here hexec rfl (hb hbytes d0) rfl rfl ?_
    refine XS.aloadN X0.here hexec rfl (hb hbytes d1) rfl rfl ?_
    refine iconstV X0.here hexec rfl 0 (hb hbytes d2) (by decide) ?_
    refine XS.aloadN X0.here hexec rfl (hb hbytes d3) rfl rfl ?_
    refine X0.alen hexec (hA.1.mv X0.warmed.alike hh0) rfl rfl (hb hbytes d4) ?_
    refine XS.aconstNull X0.here hexec rfl (hb hbytes d5) ?_
    exact Steps.refl _)
  obtain ⟨v3, T3, X3, E3, g3⟩ := X0.callN hexec (New4.law l a D fV fC b A z 0 A.slots.size) rfl hown (wks W (initW "java/lang/String" 27 New4.yN)) (W New4.tab (by simp only [site, List.mem_cons, List.mem_append, true_or, or_true])) (W := 0) (Nat.le_of_ble_eq_true rfl) (Nat.le_of_ble_eq_true rfl) (Nat.le_refl _) (by show 0 + A.slots.size ≤ A.slots.size; omega) (g := (mkF m 6 #[.val (.ref a), .val (.ref b)] [.null, .int (Int32.ofNat A.slots.size), .int (Int32.ofNat 0), .ref b, .ref a])) rfl (by rw [hml]; rfl) c2 (argsL := [.ref b, .int (Int32.ofNat 0), .int (Int32.ofNat A.slots.size), .null]) (rest := []) rfl rfl (by show 2 * 0 + 0 ≤ _; decide) (hb hbytes d6) (⟨rfl, hB.mv X0.warmed.alike hh0, f1.al X0.warmed.alike, f2.al X0.warmed.alike, hA.mv X0.warmed.alike hh0, s1.there X0.warmed.alike hh0, hz, l0, by omega, l2, fun i hi => by rw [Nat.zero_add]; exact hp i hi⟩)
  have e0 := Got.mv _ s₁ s _ _ hh0.symm (Vm.Alike.refl _) rfl E3
  obtain rfl := e0.1
  have c4 : Steps p.tables e below (s₁.setTop (entryFrame m #[.ref a, .ref b] 2)) (T3.setTop (mkF m 9 #[.val (.ref a), .val (.ref b)] [])) := g3
  exact ⟨T3, none, _, _, _, X3, by simp, rfl, by omega, (fun _ => rfl), e0, fun fs hl => c4.trans (X3.returnOut hexec hret (hb hbytes d9) hl)⟩
theorem pays {l : Launch} {R : Room} {p : Program} {e : Env} {below : List Frame} {s : State} {sargs : Array Value} {len W : Nat} (a : Addr) (D : Cell) (fV fC : Field) (b : Addr) (A : Cell) (z : Int32) (htab : tab.before sargs s = true) (hfr : 4 ≤ R.frames) (hlo : W + 65 ≤ R.locals) :
    Back l R p e below s sargs yN len W (fun A₁ a₁ => A₁.cells + 1 ≤ R.cells ∧ A₁.slots + A.slots.size ≤ R.slots ∧ P a D fV fC b A z a₁ A₁.U) (fun A₁ _ v₁ B₁ => E a D fV fC A v₁ A₁.U B₁.U ∧ B₁.locs = A₁.locs ++ [⟨a, fC.slot⟩, ⟨a, fV.slot⟩] ∧ B₁.cells = A₁.cells + 1 ∧ B₁.slots = A₁.slots + A.slots.size) :=
  (law l a D fV fC b A z).pays htab hfr (by omega)
end New1
/-- the byte, read back as charAt reads it, is the char -/
theorem lo8_mask {x : Int32} (h0 : ¬ x < 0) (h1 : ¬ 255 < x) : lo8 x &&& 255 = x := by
  have t : ∀ k : Fin 256, lo8 (Int32.ofNat k.val) &&& 255 = Int32.ofNat k.val := by decide +kernel
  rw [Int32.lt_iff_toInt_lt] at h0 h1
  have e0 : (0 : Int32).toInt = 0 := rfl
  have e1 : (255 : Int32).toInt = 255 := rfl
  obtain ⟨k, hk⟩ : ∃ k : Nat, x.toInt = k := ⟨x.toInt.toNat, by omega⟩
  have hx : x = Int32.ofNat k := Int32.toInt_inj.mp (by rw [hk, Int32.toInt_ofNat_small (by omega)])
  rw [hx]
  exact t ⟨k, by omega⟩
end StrChars
namespace StrChars.Road
open Jvm Sem ClassFile Op Lib Jvm.Stand Jvm.Free Jvm.Free.XT
open Jvm.Lib.Cold (StaticIs)
abbrev ST : String := "java/lang/String"
/-- every table word that New1's law asks, flat -/
abbrev words : List Jvm.Cond := [.code New1.yN New1.yB 2 none, .initialized ST, .methodLink ST 27 New4.yN, .instanceMethod New4.yN,
  .code New4.yN New4.yB 6 none, .fieldLink ST 38 ST "COMPACT_STRINGS" "Z", .laysFinal ST ST "value" "[B", .fieldLink ST 9 ST "value" "[B", .laysFinal ST ST "coder" "B", .fieldLink ST 15 ST "coder" "B",
  .methodLink ST 1 Lib.objectInit, .instanceMethod Lib.objectInit, .code Lib.objectInit ⟨#[0xb1]⟩ 1 none, .methodLink ST 177 Cmp3.yN, .static Cmp3.yN, .methodLink ST 47 CodL.yN, .static CodL.yN,
  .code Cmp3.yN Cmp3.yB 6 (some (.array .byte)), .initialized U16, .arrayClass .byte, .methodLink U16 115 Cmp5.yN, .static Cmp5.yN, .code Cmp5.yN Cmp5.yB 7 (some .int), .code CodL.yN CodL.yB 2 (some .byte)]
theorem tab_of {a : Array Value} {s : State} (h : ∀ w ∈ words, w.before a s = true) : New1.tab.before a s = true := by
  have h5 : Cmp5.tab.before a s = true := unparts (wk h (.code Cmp5.yN Cmp5.yB 7 (some .int))) (wks h (.initialized Cmp5.yN.cls :: Cmp5.site))
  have hc : CodL.tab.before a s = true := unparts (wk h (.code CodL.yN CodL.yB 2 (some .byte))) (wks h (.initialized CodL.yN.cls :: CodL.site))
  have q5 : ∀ w ∈ Cmp5.tab :: words, w.before a s = true := fun w hw => (List.mem_cons.mp hw).elim (fun e => e ▸ h5) (h w)
  have h3 : Cmp3.tab.before a s = true := unparts (wk q5 (.code Cmp3.yN Cmp3.yB 6 (some (.array .byte)))) (wks q5 (.initialized Cmp3.yN.cls :: Cmp3.site))
  have q3 : ∀ w ∈ Cmp3.tab :: CodL.tab :: words, w.before a s = true := fun w hw => (List.mem_cons.mp hw).elim (fun e => e ▸ h3) fun hw => (List.mem_cons.mp hw).elim (fun e => e ▸ hc) (h w)
  have h4 : New4.tab.before a s = true := unparts (wk q3 (.code New4.yN New4.yB 6 none)) (wks q3 (.initialized New4.yN.cls :: New4.site))
  have q4 : ∀ w ∈ New4.tab :: words, w.before a s = true := fun w hw => (List.mem_cons.mp hw).elim (fun e => e ▸ h4) (h w)
  exact unparts (wk q4 (.code New1.yN New1.yB 2 none)) (wks q4 (.initialized New1.yN.cls :: New1.site))
/-- the words ride from the start Z to the walk's own state -/
theorem moved {Z s : State} {a0 args : Array Value} (hZ : Z.Warmed39 s.vm) (hw : ∀ d ∈ words, d.before a0 Z = true) : ∀ d ∈ words, d.before args s = true := fun d hd => by
  have q := hw d hd
  have t : ∀ d ∈ words, d = .arrayClass .byte ∨ (d.onTables && d.keepsFace) = true := by decide +kernel
  rcases t d hd with rfl | t
  · exact RoadKit.mvA hZ q
  · exact RoadKit.mv hZ q t
/-- WHAT COMES BACK, over the tables of the start Z: h the heap at the call, h' behind it -/
def Q (Z : State) (x : Addr) (A : Cell) (h : Heap) (v : Option Value) (h' : Heap) (L : List Loc) : Prop := v = none ∧ (∀ y ∈ L, y.base = x) ∧ RoadKit.Keep h h' [x] ∧ h'.size = h.size + 1 ∧ RoadKit.Exa Z h' x ST ∧ RoadKit.Fld Z h' x ST "value" "[B" (.ref h.size) ∧ RoadKit.Fld Z h' x ST "coder" "B" (.int 0) ∧
  (∃ V : Cell, RoadKit.Arr Z h' h.size V .byte ∧ V.vm = .none ∧ Z.vm.findClass "[B" = some V.cls ∧ V.slots.size = A.slots.size ∧ ∀ j, j < A.slots.size → V.slots[j]? = some (.int (lo8 (cv A j)))) ∧
  ∀ (O n d : String) (w : Value), RoadKit.Fld Z h x O n d w → RoadKit.slotOf Z O n d ≠ RoadKit.slotOf Z ST "value" "[B" → RoadKit.slotOf Z O n d ≠ RoadKit.slotOf Z ST "coder" "B" → RoadKit.Fld Z h' x O n d w
/-- **new String(chars) AT A CALL, IN THE ROAD'S FORM**: for specialBack behind newO: x the fresh String, b the char[] with the cell A -/
theorem back {p : Program} {l : Launch} {e : Env} {R : Room} {s : State} {args : Array Value} {below : List Frame} {len W : Nat} {Z : State} {a0 : Array Value} {h : Heap} (hZ : Z.Warmed39 s.vm) (hw : ∀ d ∈ words, d.before a0 Z = true) {kI : Nat} (wi : (Jvm.Cond.instantiable ST kI).before a0 Z = true)
    {x b : Addr} {A : Cell} {z : Int32} {v0 c0 : Value} (E : RoadKit.Exa Z h x ST) (V : RoadKit.Fld Z h x ST "value" "[B" v0) (C : RoadKit.Fld Z h x ST "coder" "B" c0) (K : RoadKit.Arr Z h b A .char) (hty : Typed .char A) (S : RoadKit.Sta Z h ST "COMPACT_STRINGS" "Z" (.int z)) (hz : ¬ z = 0)
    (l0 : 0 < A.slots.size) (l2 : A.slots.size ≤ 536870912) (hp : ∀ i, i < A.slots.size → ¬ 255 < cv A i) (hfr : 4 ≤ R.frames) (hlo : W + 65 ≤ R.locals) :
    Back l R p e below s args New1.yN len W (fun P a => a = #[.ref x, .ref b] ∧ P.U.heap = h ∧ P.cells + 1 ≤ R.cells ∧ P.slots + A.slots.size ≤ R.slots)
      (fun P _ v B => ∃ L, Q Z x A h v B.U.heap L ∧ B.locs = P.locs ++ L ∧ B.cells = P.cells + 1 ∧ B.slots = P.slots + A.slots.size) := by
  intro m meth c P g ig mk a X hg hsize hdg hW hn hp'
  obtain ⟨rfl, rfl, r1, r2⟩ := hp'
  have al : Z.vm.Alike P.U.vm := hZ.alike.trans X.warmed.alike
  obtain ⟨D, cfV, kV, iV, fV, hD, gV, stV, knV, obV, asV, slV⟩ := id V
  obtain ⟨D', cfC, kC, iC, fC, hD', gC, stC, -, -, asC, slC⟩ := id C
  cases hD.symm.trans hD'
  obtain ⟨D2, kD, e1, e2, e3, e4, e5⟩ := id E
  cases hD.symm.trans e1
  obtain ⟨c2, k2, i1, i2, i3, -⟩ := Cond.instantiable_spec wi
  cases e2.symm.trans i1
  cases e3.symm.trans i2
  obtain ⟨kU, u1, u2⟩ := al.2.2 _ _ e3
  have hB : Blank ST x D P.U := ⟨hD, ⟨knV, fun q hq => by rw [hq] at obV; cases obV⟩, by rw [al.findClass]; exact e2, kU, u1, by rw [u2]; exact i3, by rw [u2]; exact e5 i3⟩
  have F1 : Found ST "value" "[B" fV P.U := ⟨SBG.found_only al ⟨cfV, kV, iV, gV⟩, stV⟩
  have F2 : Found ST "coder" "B" fC P.U := ⟨SBG.found_only al ⟨cfC, kC, iC, gC⟩, stC⟩
  have hA : Ch b A P.U := ⟨⟨K.1, State.isArrayOf_alike al K.2.1, K.2.2, by omega⟩, hty⟩
  have hS : StaticIs P.U ST "COMPACT_STRINGS" "Z" (.int z) := by
    obtain ⟨cfS, iS, kS, fS, st, cS, t1, t2, t3, t4, t5, t6, t7⟩ := S
    exact StaticIs.there (s := { Z with heap := P.U.heap }) ⟨cfS, iS, kS, fS, st, cS, t1, t2, t3, t4, t5, (fun q => by rw [q] at t6; cases t6), t7⟩ al rfl
  obtain ⟨v, B, X', ⟨⟨hv, E', V', q1, q2, q3, q4, q5, q6, q7, q8, q9, q10, q11⟩, hl, hc, hs⟩, st⟩ := New1.pays x D fV fC b A z (tab_of (moved hZ hw)) hfr hlo m meth c P g ig mk _ X hg hsize hdg hW hn ⟨r1, r2, rfl, hB, F1, F2, hA, hS, hz, l0, l2, hp⟩
  have al' : Z.vm.Alike B.U.vm := hZ.alike.trans X'.warmed.alike
  have hsz : E'.slots.size = D.slots.size := by
    obtain ⟨-, -, -, kB, w1, w2, w3⟩ := q1
    obtain ⟨kB', y1, y2⟩ := al'.2.2 _ _ e3
    rw [q2.2.1] at w1
    cases w1.symm.trans y1
    rw [w3, e5 i3, y2]
  refine ⟨v, B, X', ⟨_, ⟨hv, ?_, ⟨by omega, fun y cy hy hn' => q10 y cy (by simpa using hn') hy, fun y cy hy => ?_⟩, q11, ⟨E', _, q1.1, by rw [q2.2.1]; exact e2, by rw [q2.2.1]; exact e3, by rw [q2.1]; exact obV, fun _ => by rw [hsz]; exact e5 i3⟩,
    ⟨E', cfV, kV, iV, fV, q1.1, gV, stV, by rw [q2.1]; exact knV, by rw [q2.1]; exact obV, by rw [q2.2.1]; exact asV, q3⟩, ⟨E', cfC, kC, iC, fC, q1.1, gC, stC, by rw [q2.1]; exact knV, by rw [q2.1]; exact obV, by rw [q2.2.1]; exact asC, q4⟩,
    ⟨V', ⟨q5.1, State.isArrayOf_alike al'.symm q5.2.1, q5.2.2.1⟩, q6, by rw [← al'.findClass]; exact q7, q8, fun j hj => by have := q9 j hj; rwa [Nat.zero_add] at this⟩, fun O n d w F n1 n2 => ?_⟩, hl, hc, hs⟩, st⟩
  · intro y hy
    simp only [List.mem_cons, List.not_mem_nil, or_false] at hy
    rcases hy with rfl | rfl <;> rfl
  · by_cases q : y = x
    · subst q
      cases hD.symm.trans hy
      exact ⟨E', q1.1, q2.2.1, q2.1, hsz⟩
    · exact ⟨cy, q10 y cy q hy, rfl, rfl, rfl⟩
  · obtain ⟨D3, cf, k, i, f, g1, g2, g3, g4, g5, g6, g7⟩ := F
    cases hD.symm.trans g1
    simp only [RoadKit.slotOf, g2, gV, gC, Option.map_some, Option.getD_some] at n1 n2
    exact ⟨E', cf, k, i, f, q1.1, g2, g3, by rw [q2.1]; exact g4, by rw [q2.1]; exact g5, by rw [q2.2.1]; exact g6, by rw [q2.2.2 f.slot (by simp [n1, n2])]; exact g7⟩
end StrChars.Road
namespace StrChars.Road
open Jvm Sem ClassFile Op Lib Jvm.Stand Jvm.Free Jvm.Free.XT
/-- WHAT COMES BACK, the byte[] as a list of values -/
def QA (Z : State) (x : Addr) (zn : Int32) (cs : List Int32) (h : Heap) (v : Option Value) (h' : Heap) (L : List Loc) : Prop := v = none ∧ (∀ y ∈ L, y.base = x) ∧ RoadKit.Keep h h' [x] ∧ h'.size = h.size + 1 ∧ RoadKit.Exa Z h' x ST ∧ RoadKit.Fld Z h' x ST "value" "[B" (.ref h.size) ∧ RoadKit.Fld Z h' x ST "coder" "B" (.int 0) ∧
  (∃ kb, Z.vm.findClass "[B" = some kb ∧ RoadKit.Arv Z h' h.size kb .byte zn (cs.map fun c => .int (lo8 c)) (.int 0)) ∧
  ∀ (O n d : String) (w : Value), RoadKit.Fld Z h x O n d w → RoadKit.slotOf Z O n d ≠ RoadKit.slotOf Z ST "value" "[B" → RoadKit.slotOf Z O n d ≠ RoadKit.slotOf Z ST "coder" "B" → RoadKit.Fld Z h' x O n d w
/-- **new String(chars) AT A CALL, THE ARRAYS AS LISTS**: the char[] at b holds cs, not empty, no char above 255 -/
theorem backArv {p : Program} {l : Launch} {e : Env} {R : Room} {s : State} {args : Array Value} {below : List Frame} {len W : Nat} {Z : State} {a0 : Array Value} {h : Heap} (hZ : Z.Warmed39 s.vm) (hw : ∀ d ∈ words, d.before a0 Z = true) {kI : Nat} (wi : (Jvm.Cond.instantiable ST kI).before a0 Z = true)
    {x b : Addr} {k : ClassId} {zn z : Int32} {cs : List Int32} {dv v0 c0 : Value} (E : RoadKit.Exa Z h x ST) (V : RoadKit.Fld Z h x ST "value" "[B" v0) (C : RoadKit.Fld Z h x ST "coder" "B" c0) (K : RoadKit.Arv Z h b k .char zn (cs.map Value.int) dv) (S : RoadKit.Sta Z h ST "COMPACT_STRINGS" "Z" (.int z)) (hz : ¬ z = 0)
    (hlen : zn.toNatClampNeg = cs.length) (h0 : 0 < cs.length) (hbig : cs.length ≤ 536870912) (hall : ∀ c ∈ cs, ¬ 255 < c) (hfr : 4 ≤ R.frames) (hlo : W + 65 ≤ R.locals) :
    Back l R p e below s args New1.yN len W (fun P a => a = #[.ref x, .ref b] ∧ P.U.heap = h ∧ P.cells + 1 ≤ R.cells ∧ P.slots + cs.length ≤ R.slots)
      (fun P _ v B => ∃ L, QA Z x zn cs h v B.U.heap L ∧ B.locs = P.locs ++ L ∧ B.cells = P.cells + 1 ∧ B.slots = P.slots + cs.length) := by
  obtain ⟨A, K1, K2, K3, K4, K5, K6⟩ := K
  have e : A.slots.size = cs.length := K3.trans hlen
  have hat : ∀ (i : Nat) (hi : i < cs.length), A.slots[i]? = some (.int cs[i]) := fun i hi => by rw [K5 i (by omega)]; simp [List.getD_eq_getElem?_getD, hi]
  have hcv : ∀ (i : Nat) (hi : i < cs.length), cv A i = cs[i] := fun i hi => by unfold cv; rw [hat i hi]
  have hty : Typed .char A := fun i v hv => by
    have hi : i < A.slots.size := (Array.getElem?_eq_some_iff.mp hv).1
    have q := K5 i hi
    rw [hv] at q
    rw [Option.some.inj q]
    exact K6 i hi
  refine Back.mono (back hZ hw wi E V C K1 hty S hz (by omega) (by omega) (fun i hi => by rw [hcv i (by omega)]; exact hall _ (List.getElem_mem _)) hfr hlo) (fun P a hp => ⟨hp.1, hp.2.1, hp.2.2.1, by rw [e]; exact hp.2.2.2⟩) (fun P a v B hp hq => ?_)
  obtain ⟨L, ⟨q1, q2, q3, q4, q5, q6, q7, ⟨V', v1, v2, v3, v4, v5⟩, q9⟩, hl, hc, hs⟩ := hq
  refine ⟨L, ⟨q1, q2, q3, q4, q5, q6, q7, ⟨V'.cls, v3, V', v1, rfl, by rw [v4, e, hlen], K4, fun i hi => ?_, fun i hi => ?_⟩, q9⟩, hl, hc, by rw [hs, e]⟩
  · have hi' : i < cs.length := by omega
    rw [v5 i (by omega), hcv i hi']; simp [List.getD_eq_getElem?_getD, hi']
  · have hi' : i < cs.length := by omega
    simp only [List.getD_eq_getElem?_getD, List.getElem?_map, List.getElem?_eq_getElem hi', Option.map_some, Option.getD_some]
    exact fits_lo8 _
end StrChars.Road
namespace StrChars.Road
open Jvm Sem ClassFile Op Lib Jvm.Stand Jvm.Free Jvm.Free.XT
/-- WHAT COMES BACK, in the writer's own shape -/
def QV (Z : State) (x : Addr) (N : Int32) (bs : List Int32) (h : Heap) (n0 : Nat) (v : Option Value) (h' : Heap) (L : List Loc) : Prop := v = none ∧ RoadKit.Fr n0 L ∧ RoadKit.Keep h h' [x] ∧ RoadKit.Exa Z h' x ST ∧ RoadKit.Fld Z h' x ST "coder" "B" (.int 0) ∧
  ∃ (t : Addr) (kb : ClassId), n0 ≤ t ∧ h.size ≤ t ∧ ¬ t = x ∧ RoadKit.Fld Z h' x ST "value" "[B" (.ref t) ∧ RoadKit.Arv Z h' t kb .byte N (bs.map Value.int) (.int 0)
/-- **new String(chars) AT A CALL, FOR THE WRITER**: a char[] of n known ints, each 0 to 255 -/
theorem backV {p : Program} {l : Launch} {e : Env} {R : Room} {s : State} {args : Array Value} {below : List Frame} {len W : Nat} {Z : State} {a0 : Array Value} {h : Heap} (hZ : Z.Warmed39 s.vm) (hw : ∀ d ∈ words, d.before a0 Z = true) {kI : Nat} (wi : (Jvm.Cond.instantiable ST kI).before a0 Z = true)
    {x b : Addr} {kC : ClassId} {cs bs : List Int32} {d v0 c0 : Value} {z N : Int32} {n n0 : Nat} (hx0 : n0 ≤ x) (hh0 : n0 ≤ h.size) (E : RoadKit.Exa Z h x ST) (V : RoadKit.Fld Z h x ST "value" "[B" v0) (C : RoadKit.Fld Z h x ST "coder" "B" c0) (K : RoadKit.Arv Z h b kC .char N (cs.map Value.int) d) (S : RoadKit.Sta Z h ST "COMPACT_STRINGS" "Z" (.int z)) (hz : ¬ z = 0)
    (hn : cs.length = n) (hN : N = Int32.ofNat n) (l0 : 0 < n) (l2 : n ≤ 4000) (hp : ∀ c ∈ cs, ¬ c < 0 ∧ ¬ (255 : Int32) < c) (hb : bs = cs.map (fun c => c.toInt8.toInt32)) (hfr : 4 ≤ R.frames) (hlo : W + 65 ≤ R.locals) :
    Back l R p e below s args (⟨"java/lang/String", "<init>", "([C)V"⟩ : MethodName) len W (fun P a => a = #[.ref x, .ref b] ∧ P.U.heap = h ∧ P.cells + 1 ≤ R.cells ∧ P.slots + n ≤ R.slots)
      (fun P _ v B => ∃ L, QV Z x N bs h n0 v B.U.heap L ∧ B.locs = P.locs ++ L ∧ B.cells = P.cells + 1 ∧ B.slots = P.slots + n) := by
  subst hn hN hb
  refine Back.mono (backArv hZ hw wi E V C K S hz (n32 (by omega)) l0 (by omega) (fun c hc => (hp c hc).2) hfr hlo) (fun P a hp => hp) (fun P a v B hp hq => ?_)
  obtain ⟨L, ⟨q1, q2, q3, q4, q5, q6, q7, ⟨kb, v1, v2⟩, q9⟩, hl, hc, hs⟩ := hq
  exact ⟨L, ⟨q1, fun y hy => by rw [q2 y hy]; exact hx0, q3, q5, q7, h.size, kb, hh0, Nat.le_refl _, Nat.ne_of_gt E.lt, q6, by rw [List.map_map]; exact v2⟩, hl, hc, hs⟩
end StrChars.Road
namespace StrChars
open Jvm Sem ClassFile Op Lib Jvm.Stand Jvm.Free.XT Jvm.Free.ALB Jvm.Free.JM Jvm.Free
open Jvm.Lib.Cold (StaticIs)
def hi8 (x : Int32) : Int32 := lo8 (x >>> ((8 : Int32) &&& 31))
/-- what StringUTF16.getChar makes of two bytes -/
def pairCh (u v : Int32) : Int32 := (((u &&& 255) <<< ((0 : Int32) &&& 31)) ||| ((v &&& 255) <<< ((8 : Int32) &&& 31))).toUInt32.toUInt16.toUInt32.toInt32
theorem shr0 (c : Int32) : c >>> ((0 : Int32) &&& 31) = c := by
  have e : ((0 : Int32) &&& 31) = 0 := by decide
  rw [e]
  apply Int32.toBitVec_inj.mp
  rw [Int32.toBitVec_shiftRight]
  have e1 : ((0 : Int32).toBitVec.smod 32) = 0#32 := by decide
  rw [e1, BitVec.sshiftRight_eq']
  exact BitVec.sshiftRight_zero
theorem lo8_and (x : Int32) : (lo8 x &&& 255).toBitVec.toNat = x.toBitVec.toNat % 256 := by
  have h : (lo8 x).toBitVec = (x.toBitVec.signExtend 8).signExtend 32 := by rw [lo8, Int8.toBitVec_toInt32, Int32.toBitVec_toInt8]
  rw [Int32.toBitVec_and, BitVec.toNat_and, h]
  have e : ((x.toBitVec.signExtend 8).signExtend 32).toNat % 256 = x.toBitVec.toNat % 256 := by
    rw [BitVec.toNat_signExtend]
    have hlt := x.toBitVec.isLt
    simp only [BitVec.toNat_setWidth, BitVec.toNat_signExtend]
    split <;> split <;> omega
  rw [← e]
  exact Nat.and_two_pow_sub_one_eq_mod _ 8
theorem pair_says {c : Int32} (h0 : ¬ c < 0) (h1 : ¬ 65535 < c) : pairCh (lo8 c) (hi8 c) = c := by
  rw [Int32.lt_iff_toInt_lt] at h0 h1
  have e0 : (0 : Int32).toInt = 0 := rfl
  have e1 : (65535 : Int32).toInt = 65535 := rfl
  have hc : c.toInt = c.toBitVec.toNat := by
    have := c.toBitVec.isLt
    have e : c.toInt = c.toBitVec.toInt := rfl
    rw [e] at h0 h1
    rw [e]
    rw [BitVec.toInt_eq_toNat_cond] at h0 h1 ⊢
    split at h0 <;> split <;> omega
  have hn : c.toBitVec.toNat < 65536 := by omega
  have a1 := lo8_and c
  have a2 : (hi8 c &&& 255).toBitVec.toNat = c.toBitVec.toNat / 256 := by
    rw [hi8, lo8_and]
    have e : ((8 : Int32) &&& 31) = 8 := by decide
    rw [e, Int32.toBitVec_shiftRight]
    have e2 : ((8 : Int32).toBitVec.smod 32) = 8#32 := by decide
    rw [e2, BitVec.sshiftRight_eq', BitVec.toNat_sshiftRight_of_msb_false (by rw [BitVec.msb_eq_false_iff_two_mul_lt]; omega)]
    show c.toBitVec.toNat >>> 8 % 256 = _
    rw [Nat.shiftRight_eq_div_pow]
    omega
  unfold pairCh
  apply Int32.toBitVec_inj.mp
  apply BitVec.eq_of_toNat_eq
  have f0 : ((0 : Int32) &&& 31) = 0 := by decide
  have f8 : ((8 : Int32) &&& 31) = 8 := by decide
  rw [f0, f8]
  have g : (((lo8 c &&& 255) <<< (0 : Int32)) ||| ((hi8 c &&& 255) <<< (8 : Int32))).toBitVec.toNat = c.toBitVec.toNat := by
    rw [Int32.toBitVec_or, Int32.toBitVec_shiftLeft, Int32.toBitVec_shiftLeft]
    have s0 : ((0 : Int32).toBitVec.smod 32) = 0#32 := by decide
    have s8 : ((8 : Int32).toBitVec.smod 32) = 8#32 := by decide
    rw [s0, s8, BitVec.toNat_or]
    simp only [BitVec.shiftLeft_eq', BitVec.toNat_shiftLeft, a1, a2]
    show (c.toBitVec.toNat % 256) <<< 0 % 2 ^ 32 ||| (c.toBitVec.toNat / 256) <<< 8 % 2 ^ 32 = _
    rw [Nat.shiftLeft_zero, Nat.mod_eq_of_lt (show c.toBitVec.toNat % 256 < 2 ^ 32 by omega), Nat.mod_eq_of_lt (show (c.toBitVec.toNat / 256) <<< 8 < 2 ^ 32 by rw [Nat.shiftLeft_eq]; omega), Nat.or_comm, ← Nat.shiftLeft_add_eq_or_of_lt (by omega), Nat.shiftLeft_eq]
    omega
  show BitVec.toNat (((((lo8 c &&& 255) <<< (0 : Int32)) ||| ((hi8 c &&& 255) <<< (8 : Int32))).toBitVec.setWidth 16).setWidth 32) = _
  rw [BitVec.toNat_setWidth, BitVec.toNat_setWidth, g]
  omega
end StrChars
namespace StrChars
open Jvm Sem ClassFile Op Lib Jvm.Stand Jvm.Free.XT Jvm.Free.ALB Jvm.Free.JM Jvm.Free
open Jvm.Lib.Cold (StaticIs)
theorem shr1 {n : Nat} (h : 2 * n < 2 ^ 31) : Int32.ofNat (2 * n) >>> ((1 : Int32) &&& 31) = Int32.ofNat n := by
  have e : ((1 : Int32) &&& 31) = 1 := by decide
  rw [e]
  apply Int32.toBitVec_inj.mp
  rw [Int32.toBitVec_shiftRight]
  have e1 : ((1 : Int32).toBitVec.smod 32) = 1#32 := by decide
  have hm : (BitVec.ofNat 32 (2 * n)).toNat = 2 * n := by rw [BitVec.toNat_ofNat, Nat.mod_eq_of_lt (by omega)]
  rw [e1, BitVec.sshiftRight_eq']
  apply BitVec.eq_of_toNat_eq
  show ((BitVec.ofNat 32 (2 * n)).sshiftRight 1).toNat = (BitVec.ofNat 32 n).toNat
  rw [BitVec.toNat_sshiftRight_of_msb_false (by rw [BitVec.msb_eq_false_iff_two_mul_lt, hm]; omega), hm, BitVec.toNat_ofNat, Nat.shiftRight_eq_div_pow]
  omega
/-- charAt's cast of a byte read back -/
def chr8 (u : Int32) : Int32 := (u &&& 255).toUInt32.toUInt16.toUInt32.toInt32
theorem chr8_lo8 {c : Int32} (h0 : ¬ c < 0) (h1 : ¬ 255 < c) : chr8 (lo8 c) = c := by
  have t : ∀ k : Fin 256, (Int32.ofNat k.val).toUInt32.toUInt16.toUInt32.toInt32 = Int32.ofNat k.val := by decide +kernel
  unfold chr8
  rw [lo8_mask h0 h1]
  rw [Int32.lt_iff_toInt_lt] at h0 h1
  have e0 : (0 : Int32).toInt = 0 := rfl
  have e1 : (255 : Int32).toInt = 255 := rfl
  obtain ⟨k, hk⟩ : ∃ k : Nat, c.toInt = k := ⟨c.toInt.toNat, by omega⟩
  have hx : c = Int32.ofNat k := Int32.toInt_inj.mp (by rw [hk, Int32.toInt_ofNat_small (by omega)])
  rw [hx]
  exact t ⟨k, by omega⟩
theorem narrow_ch {c : Int32} (h0 : ¬ c < 0) (h1 : ¬ 65535 < c) : narrow .char (.int c) = .int c := by
  have q : narrow .char (.int (pairCh (lo8 c) (hi8 c))) = .int (pairCh (lo8 c) (hi8 c)) := narrow_c _
  rwa [pair_says h0 h1] at q
/-- the array's cell V codes the n chars f 0 .. f (n - 1) by the coder cd, as the JDK does: coder 1 just where some char is above 255 -/
def Cod (cd : Int32) (n : Nat) (f : Nat → Int32) (V : Cell) : Prop := (cd = 0 ∧ V.slots.size = n ∧ ∀ j, j < n → V.slots[j]? = some (.int (lo8 (f j))) ∧ ¬ 255 < f j) ∨ (cd = 1 ∧ V.slots.size = 2 * n ∧ (∀ j, j < n → V.slots[2 * j]? = some (.int (lo8 (f j))) ∧ V.slots[2 * j + 1]? = some (.int (hi8 (f j)))) ∧ ∃ j, j < n ∧ 255 < f j)
theorem Cod.cd {cd : Int32} {n : Nat} {f : Nat → Int32} {V : Cell} (h : Cod cd n f V) : cd = 0 ∨ cd = 1 := h.imp (fun q => q.1) fun q => q.1
theorem Cod.len {cd : Int32} {n : Nat} {f : Nat → Int32} {V : Cell} (h : Cod cd n f V) (hs : V.slots.size < 2 ^ 31) : Int32.ofNat V.slots.size >>> (cd &&& 31) = Int32.ofNat n := by
  rcases h with ⟨rfl, h, -⟩ | ⟨rfl, h, -⟩
  · rw [shr0, h]
  · rw [h, shr1 (by omega)]
/-- **x is a String of the n chars f 0 .. f (n - 1)**, Latin-1 or UTF-16; its array at t has the cell V -/
def Txt (x t : Addr) (V : Cell) (cd : Int32) (n : Nat) (f : Nat → Int32) (U : State) : Prop := Exact "java/lang/String" x U ∧ Has x "java/lang/String" "value" "[B" (.ref t) U ∧ Has x "java/lang/String" "coder" "B" (.int cd) U ∧ XT.Arr .byte t V U ∧ Cod cd n f V ∧ ∀ j, j < n → ¬ f j < 0 ∧ ¬ 65535 < f j
theorem Txt.mv {x t : Addr} {V : Cell} {cd : Int32} {n : Nat} {f : Nat → Int32} {U U' : State} (h : Txt x t V cd n f U) (hal : U.vm.Alike U'.vm) (hh : U'.heap = U.heap) : Txt x t V cd n f U' := ⟨h.1.mv hal hh, h.2.1.mv hal hh, h.2.2.1.mv hal hh, h.2.2.2.1.mv hal hh, h.2.2.2.2⟩
namespace Cdr
def yN : MethodName := ⟨"java/lang/String", "coder", "()B"⟩
abbrev yB : ByteArray := jdk_42_method_152_code
theorem d0 : decode yB 0 = .ok (.getstatic 38, 3) := by decide +kernel
theorem d3 : decode yB 3 = .ok (.ifCond (.eq) 10, 3) := by decide +kernel
theorem d6 : decode yB 6 = .ok (.aload_n 0, 1) := by decide +kernel
theorem d7 : decode yB 7 = .ok (.getfield 15, 3) := by decide +kernel
theorem d10 : decode yB 10 = .ok (.goto 4, 3) := by decide +kernel
theorem d14 : decode yB 14 = .ok (.ireturn, 1) := by decide +kernel
def site : List Cond := [.fieldLink "java/lang/String" 38 "java/lang/String" "COMPACT_STRINGS" "Z", .fieldLink "java/lang/String" 15 "java/lang/String" "coder" "B"]
def tab : Cond := tabOf yN yB 1 (some .byte) site
def P (x : Addr) (cd z : Int32) (args : Array Value) (s : State) : Prop := args = #[.ref x] ∧ Has x "java/lang/String" "coder" "B" (.int cd) s ∧ (cd = 0 ∨ cd = 1) ∧ StaticIs s "java/lang/String" "COMPACT_STRINGS" "Z" (.int z) ∧ ¬ z = 0
def E (cd : Int32) (r : Option Value) (s u : State) : Prop := XT.PureE (some (.int cd)) r s u
theorem law (l : Launch) (x : Addr) (cd z : Int32) : Law l yN 1 0 0 0 yB 1 (some .byte) site (P x cd z) (E cd) [] 0 0 := by
  refine Law.of_walk (plainFor_of_name (by decide +kernel)) (by decide +kernel) (by decide +kernel) (by decide) (fun _ _ h => by rw [h.1]; rfl) (fun _ U U' hal hh h => ⟨h.1, h.2.1.mv hal hh, h.2.2.1, h.2.2.2.1.there hal hh, h.2.2.2.2⟩) (fun r U U' V V' h1 hal h2 h => XT.PureE.mv r U U' V V' h1 hal h2 h) ?_
  intro p e s m args below meth c s₁ X0 hexec hbytes hml hret hlk hnm hown hh0 W hP
  obtain ⟨rfl, hx, hc, s1, hz⟩ := hP
  have c1 : Steps p.tables e below (s₁.setTop (entryFrame m #[.ref x] 1)) (s₁.setTop (mkF m 0 #[.val (.ref x)] [])) := entry rfl
  obtain ⟨T2, X2, q2, st2⟩ := X0.sget hexec hown (wk W (.fieldLink "java/lang/String" 38 "java/lang/String" "COMPACT_STRINGS" "Z")) s1 (fun _ _ h => by rw [hh0]; exact h) (g := (mkF m 0 #[.val (.ref x)] [])) rfl (hb hbytes d0)
  have hh2 := q2.trans hh0
  have c3 : Steps p.tables e below (s₁.setTop (entryFrame m #[.ref x] 1)) (T2.setTop (mkF m 7 #[.val (.ref x)] [.ref x])) := (c1.trans (st2 _ (Steps.refl _))).trans (by
    refine XS.ifNo X2.here hexec rfl (hb hbytes d3) rfl (i0_eq_f hz) ?_
    refine XS.aloadN X2.here hexec rfl (hb hbytes d6) rfl rfl ?_
    exact Steps.refl _)
  obtain ⟨T4, X4, q4, st4⟩ := X2.hget hexec hown (wk W (.fieldLink "java/lang/String" 15 "java/lang/String" "coder" "B")) (hx.mv X2.warmed.alike hh2) (g := (mkF m 7 #[.val (.ref x)] [.ref x])) rfl (rest := []) rfl (hb hbytes d7)
  have c5 : Steps p.tables e below (s₁.setTop (entryFrame m #[.ref x] 1)) (T4.setTop (mkF m 14 #[.val (.ref x)] [.int cd])) := (c3.trans (st4 _ (Steps.refl _))).trans (by
    refine XS.goto X4.here hexec rfl (pc0 := 10) rfl (hb hbytes d10) (by decide) rfl ?_
    exact Steps.refl _)
  exact ⟨T4, some (.int cd), _, _, _, X4, rfl, rfl, rfl, (fun h => by cases h), ⟨rfl, q4.trans hh2⟩, fun fs hl => c5.trans (X4.ireturnOut hexec hret (by rcases hc with rfl | rfl <;> rfl) (Or.inr (Or.inr (Or.inl rfl))) (hb hbytes d14) hl)⟩
end Cdr
namespace Len
def yN : MethodName := ⟨"java/lang/String", "length", "()I"⟩
abbrev yB : ByteArray := jdk_42_method_54_code
theorem d0 : decode yB 0 = .ok (.aload_n 0, 1) := by decide +kernel
theorem d1 : decode yB 1 = .ok (.getfield 9, 3) := by decide +kernel
theorem d4 : decode yB 4 = .ok (.arraylength, 1) := by decide +kernel
theorem d5 : decode yB 5 = .ok (.aload_n 0, 1) := by decide +kernel
theorem d6 : decode yB 6 = .ok (.invokevirtual 335, 3) := by decide +kernel
theorem d9 : decode yB 9 = .ok (.ishr, 1) := by decide +kernel
theorem d10 : decode yB 10 = .ok (.ireturn, 1) := by decide +kernel
def site : List Cond := [.fieldLink "java/lang/String" 9 "java/lang/String" "value" "[B", Cdr.tab] ++ virtW "java/lang/String" 335 "java/lang/String" Cdr.yN Cdr.yN
def tab : Cond := tabOf yN yB 1 (some .int) site
def P (x t : Addr) (V : Cell) (cd : Int32) (n : Nat) (f : Nat → Int32) (z : Int32) (args : Array Value) (s : State) : Prop := args = #[.ref x] ∧ Txt x t V cd n f s ∧ StaticIs s "java/lang/String" "COMPACT_STRINGS" "Z" (.int z) ∧ ¬ z = 0
def E (n : Nat) (r : Option Value) (s u : State) : Prop := XT.PureE (some (.int (Int32.ofNat n))) r s u
/-- length() of a String of n chars, in either coding -/
theorem law (l : Launch) (x t : Addr) (V : Cell) (cd : Int32) (n : Nat) (f : Nat → Int32) (z : Int32) : Law l yN 1 0 1 13 yB 1 (some .int) site (P x t V cd n f z) (E n) [] 0 0 := by
  refine Law.of_walk (plainFor_of_name (by decide +kernel)) (by decide +kernel) (by decide +kernel) (by decide) (fun _ _ h => by rw [h.1]; rfl) (fun _ U U' hal hh h => ⟨h.1, h.2.1.mv hal hh, h.2.2.1.there hal hh, h.2.2.2⟩) (fun r U U' V V' h1 hal h2 h => XT.PureE.mv r U U' V V' h1 hal h2 h) ?_
  intro p e s m args below meth c s₁ X0 hexec hbytes hml hret hlk hnm hown hh0 W hP
  obtain ⟨rfl, hx, s1, hz⟩ := hP
  have v31 := hx.2.2.2.1.2.2.2
  have c1 : Steps p.tables e below (s₁.setTop (entryFrame m #[.ref x] 1)) (s₁.setTop (mkF m 1 #[.val (.ref x)] [.ref x])) := Steps.trans (entry rfl) (by
    show Steps p.tables e below (s₁.setTop (mkF m 0 #[.val (.ref x)] [])) _
    refine XS.aloadN X0.here hexec rfl (hb hbytes d0) rfl rfl ?_
    exact Steps.refl _)
  obtain ⟨T2, X2, q2, st2⟩ := X0.hget hexec hown (wk W (.fieldLink "java/lang/String" 9 "java/lang/String" "value" "[B")) (hx.mv X0.warmed.alike hh0).2.1 (g := (mkF m 1 #[.val (.ref x)] [.ref x])) rfl (rest := []) rfl (hb hbytes d1)
  have hh2 := q2.trans hh0
  have hx2 := hx.mv X2.warmed.alike hh2
  have c3 : Steps p.tables e below (s₁.setTop (entryFrame m #[.ref x] 1)) (T2.setTop (mkF m 6 #[.val (.ref x)] [.ref x, .int (Int32.ofNat V.slots.size)])) := (c1.trans (st2 _ (Steps.refl _))).trans (by
    refine X2.alen hexec hx2.2.2.2.1 rfl rfl (hb hbytes d4) ?_
    refine XS.aloadN X2.here hexec rfl (hb hbytes d5) rfl rfl ?_
    exact Steps.refl _)
  obtain ⟨v4, T4, X4, E4, g4⟩ := X2.callV hexec (Cdr.law l x cd z) hown (wks W (virtW "java/lang/String" 335 "java/lang/String" Cdr.yN Cdr.yN)) rfl (by decide) (wk W Cdr.tab) (W := 1) (Nat.le_of_ble_eq_true rfl) (Nat.le_of_ble_eq_true rfl) (Nat.le_refl _) (Nat.le_refl _) (hx2.1.fc X2.warmed.alike) hx2.1.is (g := (mkF m 6 #[.val (.ref x)] [.ref x, .int (Int32.ofNat V.slots.size)])) rfl (by rw [hml]; rfl) c3 (argsL := []) (rest := [.int (Int32.ofNat V.slots.size)]) rfl rfl (by show 2 * 0 + (1 + 0) ≤ _; decide) (hb hbytes d6) (⟨rfl, hx2.2.2.1, hx.2.2.2.2.1.cd, s1.there X2.warmed.alike hh2, hz⟩)
  obtain ⟨rfl, q4⟩ := E4
  have c5 : Steps p.tables e below (s₁.setTop (entryFrame m #[.ref x] 1)) (T4.setTop (mkF m 10 #[.val (.ref x)] [.int (Int32.ofNat V.slots.size >>> (cd &&& 31))])) := Steps.trans g4 (by
    refine ishr X4.here hexec rfl (hb hbytes d9) rfl ?_
    exact Steps.refl _)
  rw [hx.2.2.2.2.1.len v31] at c5
  exact ⟨T4, some (.int (Int32.ofNat n)), _, _, _, X4, rfl, rfl, rfl, (fun h => by cases h), ⟨rfl, q4.trans hh2⟩, fun fs hl => c5.trans (X4.ireturnOut hexec hret rfl (Or.inl rfl) (hb hbytes d10) hl)⟩
theorem pays {l : Launch} {R : Room} {p : Program} {e : Env} {below : List Frame} {s : State} {sargs : Array Value} {len W : Nat} (x t : Addr) (V : Cell) (cd : Int32) (n : Nat) (f : Nat → Int32) (z : Int32) (htab : tab.before sargs s = true) (hfr : 2 ≤ R.frames) (hlo : W + 25 ≤ R.locals) :
    Back l R p e below s sargs yN len W (fun A₁ a₁ => A₁.cells + 0 ≤ R.cells ∧ A₁.slots + 0 ≤ R.slots ∧ P x t V cd n f z a₁ A₁.U) (fun A₁ _ v₁ B₁ => E n v₁ A₁.U B₁.U ∧ B₁.locs = A₁.locs ++ [] ∧ B₁.cells = A₁.cells + 0 ∧ B₁.slots = A₁.slots + 0) :=
  (law l x t V cd n f z).pays htab hfr (by omega)
end Len
namespace IsL
def yN : MethodName := ⟨"java/lang/String", "isLatin1", "()Z"⟩
abbrev yB : ByteArray := jdk_42_method_154_code
theorem d0 : decode yB 0 = .ok (.getstatic 38, 3) := by decide +kernel
theorem d3 : decode yB 3 = .ok (.ifCond (.eq) 14, 3) := by decide +kernel
theorem d6 : decode yB 6 = .ok (.aload_n 0, 1) := by decide +kernel
theorem d7 : decode yB 7 = .ok (.getfield 15, 3) := by decide +kernel
theorem d10 : decode yB 10 = .ok (.ifCond (.ne) 7, 3) := by decide +kernel
theorem d13 : decode yB 13 = .ok (.iconst 1, 1) := by decide +kernel
theorem d14 : decode yB 14 = .ok (.goto 4, 3) := by decide +kernel
theorem d17 : decode yB 17 = .ok (.iconst 0, 1) := by decide +kernel
theorem d18 : decode yB 18 = .ok (.ireturn, 1) := by decide +kernel
def site : List Cond := [.fieldLink "java/lang/String" 38 "java/lang/String" "COMPACT_STRINGS" "Z", .fieldLink "java/lang/String" 15 "java/lang/String" "coder" "B"]
def tab : Cond := tabOf yN yB 1 (some .boolean) site
def P (x : Addr) (cd z : Int32) (args : Array Value) (s : State) : Prop := args = #[.ref x] ∧ Has x "java/lang/String" "coder" "B" (.int cd) s ∧ (cd = 0 ∨ cd = 1) ∧ StaticIs s "java/lang/String" "COMPACT_STRINGS" "Z" (.int z) ∧ ¬ z = 0
def E (cd : Int32) (r : Option Value) (s u : State) : Prop := XT.PureE (some (.int (1 - cd))) r s u
theorem law (l : Launch) (x : Addr) (cd z : Int32) : Law l yN 1 0 0 0 yB 1 (some .boolean) site (P x cd z) (E cd) [] 0 0 := by
  refine Law.of_walk (plainFor_of_name (by decide +kernel)) (by decide +kernel) (by decide +kernel) (by decide) (fun _ _ h => by rw [h.1]; rfl) (fun _ U U' hal hh h => ⟨h.1, h.2.1.mv hal hh, h.2.2.1, h.2.2.2.1.there hal hh, h.2.2.2.2⟩) (fun r U U' V V' h1 hal h2 h => XT.PureE.mv r U U' V V' h1 hal h2 h) ?_
  intro p e s m args below meth c s₁ X0 hexec hbytes hml hret hlk hnm hown hh0 W hP
  obtain ⟨rfl, hx, hc, s1, hz⟩ := hP
  have c1 : Steps p.tables e below (s₁.setTop (entryFrame m #[.ref x] 1)) (s₁.setTop (mkF m 0 #[.val (.ref x)] [])) := entry rfl
  obtain ⟨T2, X2, q2, st2⟩ := X0.sget hexec hown (wk W (.fieldLink "java/lang/String" 38 "java/lang/String" "COMPACT_STRINGS" "Z")) s1 (fun _ _ h => by rw [hh0]; exact h) (g := (mkF m 0 #[.val (.ref x)] [])) rfl (hb hbytes d0)
  have hh2 := q2.trans hh0
  have c3 : Steps p.tables e below (s₁.setTop (entryFrame m #[.ref x] 1)) (T2.setTop (mkF m 7 #[.val (.ref x)] [.ref x])) := (c1.trans (st2 _ (Steps.refl _))).trans (by
    refine XS.ifNo X2.here hexec rfl (hb hbytes d3) rfl (i0_eq_f hz) ?_
    refine XS.aloadN X2.here hexec rfl (hb hbytes d6) rfl rfl ?_
    exact Steps.refl _)
  obtain ⟨T4, X4, q4, st4⟩ := X2.hget hexec hown (wk W (.fieldLink "java/lang/String" 15 "java/lang/String" "coder" "B")) (hx.mv X2.warmed.alike hh2) (g := (mkF m 7 #[.val (.ref x)] [.ref x])) rfl (rest := []) rfl (hb hbytes d7)
  have c5 : Steps p.tables e below (s₁.setTop (entryFrame m #[.ref x] 1)) (T4.setTop (mkF m 10 #[.val (.ref x)] [.int cd])) := c3.trans (st4 _ (Steps.refl _))
  have c6 : Steps p.tables e below (s₁.setTop (entryFrame m #[.ref x] 1)) (T4.setTop (mkF m 18 #[.val (.ref x)] [.int (1 - cd)])) := by
    rcases hc with rfl | rfl
    · exact c5.trans (by
        refine XS.ifNo X4.here hexec rfl (hb hbytes d10) rfl (i0_ne_f rfl) ?_
        refine iconstV X4.here hexec rfl 1 (hb hbytes d13) (by decide) ?_
        refine XS.goto X4.here hexec rfl (pc0 := 14) rfl (hb hbytes d14) (by decide) rfl ?_
        exact Steps.refl _)
    · exact c5.trans (by
        refine XS.ifYes X4.here hexec rfl (pc0 := 10) rfl (hb hbytes d10) rfl (i0_ne_t (by decide)) (by decide) rfl ?_
        refine iconstV X4.here hexec rfl 0 (hb hbytes d17) (by decide) ?_
        exact Steps.refl _)
  exact ⟨T4, some (.int (1 - cd)), _, _, _, X4, rfl, rfl, rfl, (fun h => by cases h), ⟨rfl, q4.trans hh2⟩, fun fs hl => c6.trans (X4.ireturnOut hexec hret (by rcases hc with rfl | rfl <;> rfl) (Or.inr (Or.inl rfl)) (hb hbytes d18) hl)⟩
end IsL
namespace LChA
def yN : MethodName := ⟨"java/lang/StringLatin1", "charAt", "([BI)C"⟩
abbrev yB : ByteArray := jdk_43_method_2_code
theorem d0 : decode yB 0 = .ok (.iload_n 1, 1) := by decide +kernel
theorem d1 : decode yB 1 = .ok (.aload_n 0, 1) := by decide +kernel
theorem d2 : decode yB 2 = .ok (.arraylength, 1) := by decide +kernel
theorem d3 : decode yB 3 = .ok (.invokestatic 9, 3) := by decide +kernel
theorem d6 : decode yB 6 = .ok (.aload_n 0, 1) := by decide +kernel
theorem d7 : decode yB 7 = .ok (.iload_n 1, 1) := by decide +kernel
theorem d8 : decode yB 8 = .ok (.baload, 1) := by decide +kernel
theorem d9 : decode yB 9 = .ok (.sipush 255, 3) := by decide +kernel
theorem d12 : decode yB 12 = .ok (.iand, 1) := by decide +kernel
theorem d13 : decode yB 13 = .ok (.i2c, 1) := by decide +kernel
theorem d14 : decode yB 14 = .ok (.ireturn, 1) := by decide +kernel
def site : List Cond := [JO.Str_checkIndex.tab] ++ staticW "java/lang/StringLatin1" 9 JO.Str_checkIndex.yN
def tab : Cond := tabOf yN yB 2 (some .char) site
def P (t : Addr) (V : Cell) (i : Nat) (u : Int32) (fm : Value) (args : Array Value) (s : State) : Prop := args = #[.ref t, .int (Int32.ofNat i)] ∧ XT.Arr .byte t V s ∧ V.slots[i]? = some (.int u) ∧ (StaticIs s "jdk/internal/util/Preconditions" "SIOOBE_FORMATTER" "Ljava/util/function/BiFunction;" fm ∧ fm.isRef = true)
def E (u : Int32) (r : Option Value) (s w : State) : Prop := XT.PureE (some (.int (chr8 u))) r s w
theorem law (l : Launch) (t : Addr) (V : Cell) (i : Nat) (u : Int32) (fm : Value) : Law l yN 2 2 2 27 yB 2 (some .char) site (P t V i u fm) (E u) [] 0 0 := by
  refine Law.of_walk (plainFor_of_name (by decide +kernel)) (by decide +kernel) (by decide +kernel) (by decide) (fun _ _ h => by rw [h.1]; rfl) (fun _ U U' hal hh h => ⟨h.1, h.2.1.mv hal hh, h.2.2.1, h.2.2.2.1.there hal hh, h.2.2.2.2⟩) (fun r U U' V V' h1 hal h2 h => XT.PureE.mv r U U' V V' h1 hal h2 h) ?_
  intro p e s m args below meth c s₁ X0 hexec hbytes hml hret hlk hnm hown hh0 W hP
  obtain ⟨rfl, hV, hu, s1, rf⟩ := hP
  have v31 := hV.2.2.2
  have hi : i < V.slots.size := (Array.getElem?_eq_some_iff.mp hu).1
  have c1 : Steps p.tables e below (s₁.setTop (entryFrame m #[.ref t, .int (Int32.ofNat i)] 2)) (s₁.setTop (mkF m 0 #[.val (.ref t), .val (.int (Int32.ofNat i))] [])) := entry rfl
  have c2 : Steps p.tables e below (s₁.setTop (entryFrame m #[.ref t, .int (Int32.ofNat i)] 2)) (s₁.setTop (mkF m 3 #[.val (.ref t), .val (.int (Int32.ofNat i))] [.int (Int32.ofNat V.slots.size), .int (Int32.ofNat i)])) := c1.trans (by
    refine XS.iloadN X0.here hexec rfl (hb hbytes d0) rfl ?_
    refine XS.aloadN X0.here hexec rfl (hb hbytes d1) rfl rfl ?_
    refine X0.alen hexec (hV.mv X0.warmed.alike hh0) rfl rfl (hb hbytes d2) ?_
    exact Steps.refl _)
  obtain ⟨v3, T3, X3, E3, g3⟩ := X0.callS hexec (JO.Str_checkIndex.law l (Int32.ofNat i) (Int32.ofNat V.slots.size) fm) hown (wks W (staticW "java/lang/StringLatin1" 9 JO.Str_checkIndex.yN)) (wk W JO.Str_checkIndex.tab) (W := 0) (Nat.le_of_ble_eq_true rfl) (Nat.le_of_ble_eq_true rfl) (Nat.le_refl _) (Nat.le_refl _) (g := (mkF m 3 #[.val (.ref t), .val (.int (Int32.ofNat i))] [.int (Int32.ofNat V.slots.size), .int (Int32.ofNat i)])) rfl (by rw [hml]; rfl) c2 (argsL := [.int (Int32.ofNat i), .int (Int32.ofNat V.slots.size)]) (rest := []) rfl rfl (by show 2 * 0 + 0 ≤ _; decide) (hb hbytes d3) (⟨rfl, rf, s1.there X0.warmed.alike hh0, Int32.ofNat_not_neg (by omega), lt32 v31 hi⟩)
  obtain ⟨rfl, q3⟩ := E3
  have hh3 := q3.trans hh0
  have c4 : Steps p.tables e below (s₁.setTop (entryFrame m #[.ref t, .int (Int32.ofNat i)] 2)) (T3.setTop (mkF m 14 #[.val (.ref t), .val (.int (Int32.ofNat i))] [.int (chr8 u)])) := Steps.trans g3 (by
    refine XS.aloadN X3.here hexec rfl (hb hbytes d6) rfl rfl ?_
    refine XS.iloadN X3.here hexec rfl (hb hbytes d7) rfl ?_
    refine X3.aget hexec (hV.mv X3.warmed.alike hh3) rfl hu rfl rfl (hb hbytes d8) ?_
    refine sipushV X3.here hexec rfl 255 (hb hbytes d9) (by decide) ?_
    refine XS.iand X3.here hexec rfl (hb hbytes d12) rfl ?_
    refine i2c X3.here hexec rfl (hb hbytes d13) rfl ?_
    exact Steps.refl _)
  exact ⟨T3, some (.int (chr8 u)), _, _, _, X3, rfl, rfl, rfl, (fun h => by cases h), ⟨rfl, hh3⟩, fun fs hl => c4.trans (X3.ireturnOut hexec hret (narrow_c _) (Or.inr (Or.inr (Or.inr (Or.inl rfl)))) (hb hbytes d14) hl)⟩
end LChA
end StrChars
namespace StrChars.Road
open Jvm Sem ClassFile Op Lib Jvm.Stand Jvm.Free Jvm.Free.XT
open Jvm.Lib.Cold (StaticIs)
theorem consq {a : Array Value} {s : State} {c : Jvm.Cond} {L : List Jvm.Cond} (h0 : c.before a s = true) (h : ∀ w ∈ L, w.before a s = true) : ∀ w ∈ c :: L, w.before a s = true := fun w hw => (List.mem_cons.mp hw).elim (fun e => e ▸ h0) (h w)
/-- the words of String.length(), either coding -/
abbrev wordsLen : List Jvm.Cond := [.code Len.yN Len.yB 1 (some .int), .initialized ST, .fieldLink ST 9 ST "value" "[B", .fieldLink ST 38 ST "COMPACT_STRINGS" "Z", .fieldLink ST 15 ST "coder" "B", .code Cdr.yN Cdr.yB 1 (some .byte), .methodLink ST 335 Cdr.yN, .declares Cdr.yN, .selects ST Cdr.yN Cdr.yN, .instanceMethod Cdr.yN]
theorem tabLen_of {a : Array Value} {s : State} (h : ∀ w ∈ wordsLen, w.before a s = true) : Len.tab.before a s = true := by
  have hc : Cdr.tab.before a s = true := unparts (wk h (.code Cdr.yN Cdr.yB 1 (some .byte))) (wks h (.initialized Cdr.yN.cls :: Cdr.site))
  have q := consq hc h
  exact unparts (wk q (.code Len.yN Len.yB 1 (some .int))) (wks q (.initialized Len.yN.cls :: Len.site))
theorem movedLen {Z s : State} {a0 args : Array Value} (hZ : Z.Warmed39 s.vm) (hw : ∀ d ∈ wordsLen, d.before a0 Z = true) : ∀ d ∈ wordsLen, d.before args s = true := fun d hd => by
  have q := hw d hd
  have t : ∀ d ∈ wordsLen, d = .arrayClass .byte ∨ (d.onTables && d.keepsFace) = true := by decide +kernel
  rcases t d hd with rfl | t
  · exact RoadKit.mvA hZ q
  · exact RoadKit.mv hZ q t
/-- the bytes of the chars cs, low before high -/
def wideBytes : List Int32 → List Value
  | [] => []
  | c :: cs => .int (lo8 c) :: .int (hi8 c) :: wideBytes cs
theorem wide_lo (d : Value) : ∀ (cs : List Int32) (j : Nat), j < cs.length → (wideBytes cs).getD (2 * j) d = .int (lo8 (cs.getD j 0))
  | [], j, h => absurd h (Nat.not_lt_zero j)
  | c :: cs, 0, _ => rfl
  | c :: cs, j + 1, h => by
    have q := wide_lo d cs j (by simpa using h)
    rw [show 2 * (j + 1) = 2 * j + 1 + 1 from by omega]
    simpa [wideBytes] using q
theorem wide_hi (d : Value) : ∀ (cs : List Int32) (j : Nat), j < cs.length → (wideBytes cs).getD (2 * j + 1) d = .int (hi8 (cs.getD j 0))
  | [], j, h => absurd h (Nat.not_lt_zero j)
  | c :: cs, 0, _ => rfl
  | c :: cs, j + 1, h => by
    have q := wide_hi d cs j (by simpa using h)
    rw [show 2 * (j + 1) + 1 = 2 * j + 1 + 1 + 1 from by omega]
    simpa [wideBytes] using q
theorem low_at (d : Value) (cs : List Int32) (j : Nat) (h : j < cs.length) : (cs.map fun c => Value.int (lo8 c)).getD j d = .int (lo8 (cs.getD j 0)) := by
  simp [List.getD_eq_getElem?_getD, h]
/-- an array of N2 bytes vs codes the chars cs by the coder cd -/
def CodA (cs : List Int32) (cd N2 : Int32) (vs : List Value) : Prop := (cd = 0 ∧ N2 = Int32.ofNat cs.length ∧ vs = (cs.map fun c => Value.int (lo8 c)) ∧ ∀ c ∈ cs, ¬ 255 < c) ∨ (cd = 1 ∧ N2 = Int32.ofNat (2 * cs.length) ∧ vs = wideBytes cs ∧ ∃ c ∈ cs, 255 < c)
theorem CodA.cod {cs : List Int32} {cd N2 : Int32} {vs : List Value} {V : Cell} (h : CodA cs cd N2 vs) (hn : 2 * cs.length < 2 ^ 31) (hs : V.slots.size = N2.toNatClampNeg) (hv : RoadKit.Has V vs (.int 0)) : Cod cd cs.length (fun j => cs.getD j 0) V := by
  rcases h with ⟨rfl, rfl, rfl, h⟩ | ⟨rfl, rfl, rfl, c, hc, hw⟩
  · rw [n32 (by omega)] at hs
    exact Or.inl ⟨rfl, hs, fun j hj => ⟨by rw [hv j (by omega), low_at _ _ _ hj], by
      have e : cs.getD j 0 = cs[j] := by simp [List.getD_eq_getElem?_getD, hj]
      show ¬ 255 < cs.getD j 0
      rw [e]; exact h _ (List.getElem_mem _)⟩⟩
  · rw [n32 (by omega)] at hs
    obtain ⟨j, hj, rfl⟩ := List.getElem_of_mem hc
    exact Or.inr ⟨rfl, hs, fun j hj => ⟨by rw [hv _ (by omega), wide_lo _ _ _ hj], by rw [hv _ (by omega), wide_hi _ _ _ hj]⟩, j, hj, by
      have e : cs.getD j 0 = cs[j] := by simp [List.getD_eq_getElem?_getD, hj]
      show 255 < cs.getD j 0
      rw [e]; exact hw⟩
/-- an object of exactly java/lang/String, its two fields found: as the laws ask it -/
theorem strObj {Z U : State} {a0 : Array Value} {kI : Nat} (wi : (Jvm.Cond.instantiable ST kI).before a0 Z = true) (al : Z.vm.Alike U.vm) {x : Addr} {v0 c0 : Value} (E : RoadKit.Exa Z U.heap x ST) (V : RoadKit.Fld Z U.heap x ST "value" "[B" v0) (C : RoadKit.Fld Z U.heap x ST "coder" "B" c0) :
    ∃ (D : Cell) (fV fC : Field), Blank ST x D U ∧ Found ST "value" "[B" fV U ∧ Found ST "coder" "B" fC U ∧ D.slots[fV.slot]? = some v0 ∧ D.slots[fC.slot]? = some c0 ∧ RoadKit.slotOf Z ST "value" "[B" = fV.slot ∧ RoadKit.slotOf Z ST "coder" "B" = fC.slot := by
  obtain ⟨D, cfV, kV, iV, fV, hD, gV, stV, knV, obV, asV, slV⟩ := V
  obtain ⟨D', cfC, kC, iC, fC, hD', gC, stC, -, -, asC, slC⟩ := C
  cases hD.symm.trans hD'
  obtain ⟨D2, kD, e1, e2, e3, e4, e5⟩ := E
  cases hD.symm.trans e1
  obtain ⟨c2, k2, i1, i2, i3, -⟩ := Cond.instantiable_spec wi
  cases e2.symm.trans i1
  cases e3.symm.trans i2
  obtain ⟨kU, u1, u2⟩ := al.2.2 _ _ e3
  exact ⟨D, fV, fC, ⟨hD, ⟨knV, fun q hq => by rw [hq] at obV; cases obV⟩, by rw [al.findClass]; exact e2, kU, u1, by rw [u2]; exact i3, by rw [u2]; exact e5 i3⟩, ⟨SBG.found_only al ⟨cfV, kV, iV, gV⟩, stV⟩, ⟨SBG.found_only al ⟨cfC, kC, iC, gC⟩, stC⟩, slV, slC, by simp [RoadKit.slotOf, gV], by simp [RoadKit.slotOf, gC]⟩
theorem sta_is {Z U : State} (al : Z.vm.Alike U.vm) {C n d : String} {v : Value} (S : RoadKit.Sta Z U.heap C n d v) : StaticIs U C n d v := by
  obtain ⟨cfS, iS, kS, fS, st, cS, t1, t2, t3, t4, t5, t6, t7⟩ := S
  exact StaticIs.there (s := { Z with heap := U.heap }) ⟨cfS, iS, kS, fS, st, cS, t1, t2, t3, t4, t5, (fun q => by rw [q] at t6; cases t6), t7⟩ al rfl
/-- **length() OF SUCH A STRING** -/
theorem lenW {p : Program} {l : Launch} {e : Env} {R : Room} {s : State} {args : Array Value} {below : List Frame} {len W : Nat} {Z : State} {a0 : Array Value} {h : Heap} (hZ : Z.Warmed39 s.vm) (hw : ∀ d ∈ wordsLen, d.before a0 Z = true) {kI : Nat} (wi : (Jvm.Cond.instantiable ST kI).before a0 Z = true)
    {x t : Addr} {kb : ClassId} {cs : List Int32} {cd N2 z : Int32} {vs : List Value} (E : RoadKit.Exa Z h x ST) (V : RoadKit.Fld Z h x ST "value" "[B" (.ref t)) (C : RoadKit.Fld Z h x ST "coder" "B" (.int cd)) (K : RoadKit.Arv Z h t kb .byte N2 vs (.int 0)) (hc : CodA cs cd N2 vs) (hb : ∀ c ∈ cs, ¬ c < 0 ∧ ¬ (65535 : Int32) < c)
    (S : RoadKit.Sta Z h ST "COMPACT_STRINGS" "Z" (.int z)) (hz : ¬ z = 0) (l2 : cs.length ≤ 4000) (hfr : 2 ≤ R.frames) (hlo : W + 25 ≤ R.locals) :
    Back l R p e below s args (⟨"java/lang/String", "length", "()I"⟩ : MethodName) len W (fun P a => a = #[.ref x] ∧ P.U.heap = h ∧ P.cells + 0 ≤ R.cells ∧ P.slots + 0 ≤ R.slots)
      (fun P _ v B => ∃ L, (v = some (.int (Int32.ofNat cs.length)) ∧ L = [] ∧ B.U.heap = h) ∧ B.locs = P.locs ++ L ∧ B.cells = P.cells + 0 ∧ B.slots = P.slots + 0) := by
  obtain ⟨A, K1, K2, K3, K4, K5, K6⟩ := K
  have hcod := hc.cod (by omega) K3 K5
  intro m meth c P g ig mk a X hg hsize hdg hW hn hp'
  obtain ⟨rfl, rfl, r1, r2⟩ := hp'
  have al : Z.vm.Alike P.U.vm := hZ.alike.trans X.warmed.alike
  obtain ⟨D, fV, fC, hB, F1, F2, g1, g2, -, -⟩ := strObj wi al E V C
  have hx : Txt x t A cd cs.length (fun j => cs.getD j 0) P.U := ⟨⟨_, hB.2.2.1, D, hB.1, rfl, by cases q : D.vm <;> first | rfl | exact absurd q (hB.2.1.2 _)⟩, Has.of hB F1 g1, Has.of hB F2 g2, ⟨K1.1, State.isArrayOf_alike al K1.2.1, K1.2.2, by rcases hcod with ⟨-, q, -⟩ | ⟨-, q, -⟩ <;> omega⟩, hcod, fun j hj => by
    have e : cs.getD j 0 = cs[j] := by simp [List.getD_eq_getElem?_getD, hj]
    show ¬ cs.getD j 0 < 0 ∧ ¬ 65535 < cs.getD j 0
    rw [e]; exact hb _ (List.getElem_mem _)⟩
  obtain ⟨v, B, X', ⟨⟨hv, hh⟩, hl, hk, hs⟩, st⟩ := Len.pays x t A cd cs.length (fun j => cs.getD j 0) z (tabLen_of (movedLen hZ hw)) hfr hlo m meth c P g ig mk _ X hg hsize hdg hW hn ⟨r1, r2, rfl, hx, sta_is al S, hz⟩
  exact ⟨v, B, X', ⟨[], ⟨hv, rfl, hh⟩, hl, hk, hs⟩, st⟩
end StrChars.Road
namespace StrChars.Road
open Jvm Sem ClassFile Op Lib Jvm.Stand Jvm.Free Jvm.Free.XT
open Jvm.Lib.Cold (StaticIs)
/-- the road's facts of a String, as the laws ask it -/
theorem txt_of {Z U : State} {a0 : Array Value} {kI : Nat} (wi : (Jvm.Cond.instantiable ST kI).before a0 Z = true) (al : Z.vm.Alike U.vm) {x t : Addr} {kb : ClassId} {cs : List Int32} {cd N2 : Int32} {vs : List Value} (E : RoadKit.Exa Z U.heap x ST) (V : RoadKit.Fld Z U.heap x ST "value" "[B" (.ref t)) (C : RoadKit.Fld Z U.heap x ST "coder" "B" (.int cd)) (K : RoadKit.Arv Z U.heap t kb .byte N2 vs (.int 0)) (hc : CodA cs cd N2 vs) (hb : ∀ c ∈ cs, ¬ c < 0 ∧ ¬ (65535 : Int32) < c) (l2 : cs.length ≤ 4000) :
    ∃ A, Txt x t A cd cs.length (fun j => cs.getD j 0) U := by
  obtain ⟨A, K1, K2, K3, K4, K5, K6⟩ := K
  have hcod := hc.cod (by omega) K3 K5
  obtain ⟨D, fV, fC, hB, F1, F2, g1, g2, -, -⟩ := strObj wi al E V C
  exact ⟨A, ⟨_, hB.2.2.1, D, hB.1, rfl, by cases q : D.vm <;> first | rfl | exact absurd q (hB.2.1.2 _)⟩, Has.of hB F1 g1, Has.of hB F2 g2, ⟨K1.1, State.isArrayOf_alike al K1.2.1, K1.2.2, by rcases hcod with ⟨-, q, -⟩ | ⟨-, q, -⟩ <;> omega⟩, hcod, fun j hj => by
    have e : cs.getD j 0 = cs[j] := by simp [List.getD_eq_getElem?_getD, hj]
    show ¬ cs.getD j 0 < 0 ∧ ¬ 65535 < cs.getD j 0
    rw [e]; exact hb _ (List.getElem_mem _)⟩
end StrChars.Road
namespace StrChars
open Jvm Sem ClassFile Op Lib Jvm.Stand Jvm.Free.XT Jvm.Free.ALB Jvm.Free.JM Jvm.Free
open Jvm.Lib.Cold (StaticIs)
namespace ChN
def yN : MethodName := ⟨"java/lang/String", "charAt", "(I)C"⟩
abbrev yB : ByteArray := jdk_42_method_56_code
theorem d0 : decode yB 0 = .ok (.aload_n 0, 1) := by decide +kernel
theorem d1 : decode yB 1 = .ok (.invokevirtual 492, 3) := by decide +kernel
theorem d4 : decode yB 4 = .ok (.ifCond (.eq) 12, 3) := by decide +kernel
theorem d7 : decode yB 7 = .ok (.aload_n 0, 1) := by decide +kernel
theorem d8 : decode yB 8 = .ok (.getfield 9, 3) := by decide +kernel
theorem d11 : decode yB 11 = .ok (.iload_n 1, 1) := by decide +kernel
theorem d12 : decode yB 12 = .ok (.invokestatic 495, 3) := by decide +kernel
theorem d15 : decode yB 15 = .ok (.ireturn, 1) := by decide +kernel
def site : List Cond := [.fieldLink "java/lang/String" 9 "java/lang/String" "value" "[B", IsL.tab, LChA.tab] ++ virtW "java/lang/String" 492 "java/lang/String" IsL.yN IsL.yN ++ staticW "java/lang/String" 495 LChA.yN
def tab : Cond := tabOf yN yB 2 (some .char) site
def P (x t : Addr) (V : Cell) (n : Nat) (f : Nat → Int32) (z : Int32) (fm : Value) (i : Nat) (args : Array Value) (s : State) : Prop := args = #[.ref x, .int (Int32.ofNat i)] ∧ Txt x t V 0 n f s ∧ i < n ∧ StaticIs s "java/lang/String" "COMPACT_STRINGS" "Z" (.int z) ∧ ¬ z = 0 ∧ StaticIs s "jdk/internal/util/Preconditions" "SIOOBE_FORMATTER" "Ljava/util/function/BiFunction;" fm ∧ fm.isRef = true
def E (f : Nat → Int32) (i : Nat) (r : Option Value) (s u : State) : Prop := XT.PureE (some (.int (f i))) r s u
/-- charAt(i) of a Latin-1 String of n chars, i < n: f i -/
theorem law (l : Launch) (x t : Addr) (V : Cell) (n : Nat) (f : Nat → Int32) (z : Int32) (fm : Value) (i : Nat) : Law l yN 2 1 3 40 yB 2 (some .char) site (P x t V n f z fm i) (E f i) [] 0 0 := by
  refine Law.of_walk (plainFor_of_name (by decide +kernel)) (by decide +kernel) (by decide +kernel) (by decide) (fun _ _ h => by rw [h.1]; rfl) (fun _ U U' hal hh h => ⟨h.1, h.2.1.mv hal hh, h.2.2.1, h.2.2.2.1.there hal hh, h.2.2.2.2.1, h.2.2.2.2.2.1.there hal hh, h.2.2.2.2.2.2⟩) (fun r U U' V V' h1 hal h2 h => XT.PureE.mv r U U' V V' h1 hal h2 h) ?_
  intro p e s m args below meth c s₁ X0 hexec hbytes hml hret hlk hnm hown hh0 W hP
  obtain ⟨rfl, hx, hi, s1, hz, s3, rf⟩ := hP
  have v31 := hx.2.2.2.1.2.2.2
  have hr := hx.2.2.2.2.2 i hi
  have hx0 := hx.mv X0.warmed.alike hh0
  have c1 : Steps p.tables e below (s₁.setTop (entryFrame m #[.ref x, .int (Int32.ofNat i)] 2)) (s₁.setTop (mkF m 1 #[.val (.ref x), .val (.int (Int32.ofNat i))] [.ref x])) := Steps.trans (entry rfl) (by
    show Steps p.tables e below (s₁.setTop (mkF m 0 #[.val (.ref x), .val (.int (Int32.ofNat i))] [])) _
    refine XS.aloadN X0.here hexec rfl (hb hbytes d0) rfl rfl ?_
    exact Steps.refl _)
  obtain ⟨v2, T2, X2, E2, g2⟩ := X0.callV hexec (IsL.law l x 0 z) hown (wks W (virtW "java/lang/String" 492 "java/lang/String" IsL.yN IsL.yN)) rfl (by decide) (wk W IsL.tab) (W := 0) (Nat.le_of_ble_eq_true rfl) (Nat.le_of_ble_eq_true rfl) (Nat.le_refl _) (Nat.le_refl _) (hx0.1.fc X0.warmed.alike) hx0.1.is (g := (mkF m 1 #[.val (.ref x), .val (.int (Int32.ofNat i))] [.ref x])) rfl (by rw [hml]; rfl) c1 (argsL := []) (rest := []) rfl rfl (by show 2 * 0 + 0 ≤ _; decide) (hb hbytes d1) (⟨rfl, hx0.2.2.1, hx.2.2.2.2.1.cd, s1.there X0.warmed.alike hh0, hz⟩)
  obtain ⟨rfl, q2⟩ := E2
  have hh2 := q2.trans hh0
  have hx2 := hx.mv X2.warmed.alike hh2
  obtain ⟨-, k1, k2⟩ | ⟨k0, -⟩ := hx.2.2.2.2.1
  · have c3 : Steps p.tables e below (s₁.setTop (entryFrame m #[.ref x, .int (Int32.ofNat i)] 2)) (T2.setTop (mkF m 8 #[.val (.ref x), .val (.int (Int32.ofNat i))] [.ref x])) := Steps.trans g2 (by
      refine XS.ifNo X2.here hexec rfl (hb hbytes d4) rfl (i0_eq_f (by decide)) ?_
      refine XS.aloadN X2.here hexec rfl (hb hbytes d7) rfl rfl ?_
      exact Steps.refl _)
    obtain ⟨T4, X4, q4, st4⟩ := X2.hget hexec hown (wk W (.fieldLink "java/lang/String" 9 "java/lang/String" "value" "[B")) hx2.2.1 (g := (mkF m 8 #[.val (.ref x), .val (.int (Int32.ofNat i))] [.ref x])) rfl (rest := []) rfl (hb hbytes d8)
    have hh4 := q4.trans hh2
    have c5 : Steps p.tables e below (s₁.setTop (entryFrame m #[.ref x, .int (Int32.ofNat i)] 2)) (T4.setTop (mkF m 12 #[.val (.ref x), .val (.int (Int32.ofNat i))] [.int (Int32.ofNat i), .ref t])) := (c3.trans (st4 _ (Steps.refl _))).trans (by
      refine XS.iloadN X4.here hexec rfl (hb hbytes d11) rfl ?_
      exact Steps.refl _)
    obtain ⟨v6, T6, X6, E6, g6⟩ := X4.callS hexec (LChA.law l t V i (lo8 (f i)) fm) hown (wks W (staticW "java/lang/String" 495 LChA.yN)) (wk W LChA.tab) (W := 0) (Nat.le_of_ble_eq_true rfl) (Nat.le_of_ble_eq_true rfl) (Nat.le_refl _) (Nat.le_refl _) (g := (mkF m 12 #[.val (.ref x), .val (.int (Int32.ofNat i))] [.int (Int32.ofNat i), .ref t])) rfl (by rw [hml]; rfl) c5 (argsL := [.ref t, .int (Int32.ofNat i)]) (rest := []) rfl rfl (by show 2 * 0 + 0 ≤ _; decide) (hb hbytes d12) (⟨rfl, hx.2.2.2.1.mv X4.warmed.alike hh4, (k2 i hi).1, s3.there X4.warmed.alike hh4, rf⟩)
    obtain ⟨rfl, q6⟩ := E6
    rw [chr8_lo8 hr.1 (k2 i hi).2] at g6
    exact ⟨T6, some (.int (f i)), _, _, _, X6, rfl, rfl, rfl, (fun h => by cases h), ⟨rfl, q6.trans hh4⟩, fun fs hl => Steps.trans g6 (X6.ireturnOut hexec hret (narrow_ch hr.1 hr.2) (Or.inr (Or.inr (Or.inr (Or.inl rfl)))) (hb hbytes d15) hl)⟩
  · exact absurd k0 (by decide)
theorem pays {l : Launch} {R : Room} {p : Program} {e : Env} {below : List Frame} {s : State} {sargs : Array Value} {len W : Nat} (x t : Addr) (V : Cell) (n : Nat) (f : Nat → Int32) (z : Int32) (fm : Value) (i : Nat) (htab : tab.before sargs s = true) (hfr : 4 ≤ R.frames) (hlo : W + 53 ≤ R.locals) :
    Back l R p e below s sargs yN len W (fun A₁ a₁ => A₁.cells + 0 ≤ R.cells ∧ A₁.slots + 0 ≤ R.slots ∧ P x t V n f z fm i a₁ A₁.U) (fun A₁ _ v₁ B₁ => E f i v₁ A₁.U B₁.U ∧ B₁.locs = A₁.locs ++ [] ∧ B₁.cells = A₁.cells + 0 ∧ B₁.slots = A₁.slots + 0) :=
  (law l x t V n f z fm i).pays htab hfr (by omega)
end ChN
end StrChars
namespace StrChars.Road
open Jvm Sem ClassFile Op Lib Jvm.Stand Jvm.Free Jvm.Free.XT
open Jvm.Lib.Cold (StaticIs)
/-- the words of String.charAt(int), the Latin-1 road alone -/
abbrev wordsChN : List Jvm.Cond := [.code ChN.yN ChN.yB 2 (some .char), .initialized ST, .fieldLink ST 9 ST "value" "[B", .fieldLink ST 38 ST "COMPACT_STRINGS" "Z", .fieldLink ST 15 ST "coder" "B", .code IsL.yN IsL.yB 1 (some .boolean), .methodLink ST 492 IsL.yN, .declares IsL.yN, .selects ST IsL.yN IsL.yN, .instanceMethod IsL.yN,
  .methodLink ST 495 LChA.yN, .static LChA.yN, .code LChA.yN LChA.yB 2 (some .char), .initialized "java/lang/StringLatin1", .methodLink "java/lang/StringLatin1" 9 JO.Str_checkIndex.yN, .static JO.Str_checkIndex.yN, .code JO.Str_checkIndex.yN JO.Str_checkIndex.yB 2 none,
  .fieldLink ST 1053 "jdk/internal/util/Preconditions" "SIOOBE_FORMATTER" "Ljava/util/function/BiFunction;", .methodLink ST 1059 JC.PreCheck.yN, .static JC.PreCheck.yN, .code JC.PreCheck.yN JC.PreCheck.yB 3 (some .int), .initialized "jdk/internal/util/Preconditions"]
theorem tabChN_of {a : Array Value} {s : State} (h : ∀ w ∈ wordsChN, w.before a s = true) : ChN.tab.before a s = true := by
  have hp : JC.PreCheck.tab.before a s = true := unparts (wk h (.code JC.PreCheck.yN JC.PreCheck.yB 3 (some .int))) (wks h (.initialized JC.PreCheck.yN.cls :: JC.PreCheck.site))
  have qk := consq hp h
  have hk : JO.Str_checkIndex.tab.before a s = true := unparts (wk qk (.code JO.Str_checkIndex.yN JO.Str_checkIndex.yB 2 none)) (wks qk (.initialized JO.Str_checkIndex.yN.cls :: JO.Str_checkIndex.site))
  have ql := consq hk h
  have hl : LChA.tab.before a s = true := unparts (wk ql (.code LChA.yN LChA.yB 2 (some .char))) (wks ql (.initialized LChA.yN.cls :: LChA.site))
  have hi : IsL.tab.before a s = true := unparts (wk h (.code IsL.yN IsL.yB 1 (some .boolean))) (wks h (.initialized IsL.yN.cls :: IsL.site))
  have q := consq hi (consq hl h)
  exact unparts (wk q (.code ChN.yN ChN.yB 2 (some .char))) (wks q (.initialized ChN.yN.cls :: ChN.site))
theorem movedChN {Z s : State} {a0 args : Array Value} (hZ : Z.Warmed39 s.vm) (hw : ∀ d ∈ wordsChN, d.before a0 Z = true) : ∀ d ∈ wordsChN, d.before args s = true := fun d hd => by
  have t : ∀ d ∈ wordsChN, (d.onTables && d.keepsFace) = true := by decide +kernel
  exact RoadKit.mv hZ (hw d hd) (t d hd)
/-- **charAt(i) OF A LATIN-1 STRING**, i < n: the char -/
theorem chN {p : Program} {l : Launch} {e : Env} {R : Room} {s : State} {args : Array Value} {below : List Frame} {len W : Nat} {Z : State} {a0 : Array Value} {h : Heap} (hZ : Z.Warmed39 s.vm) (hw : ∀ d ∈ wordsChN, d.before a0 Z = true) {kI : Nat} (wi : (Jvm.Cond.instantiable ST kI).before a0 Z = true)
    {x t : Addr} {kb : ClassId} {cs : List Int32} {N2 z : Int32} {vs : List Value} {fm : Value} {i : Nat} {j : Int32} (E : RoadKit.Exa Z h x ST) (V : RoadKit.Fld Z h x ST "value" "[B" (.ref t)) (C : RoadKit.Fld Z h x ST "coder" "B" (.int 0)) (K : RoadKit.Arv Z h t kb .byte N2 vs (.int 0)) (hc : CodA cs 0 N2 vs) (hb : ∀ c ∈ cs, ¬ c < 0 ∧ ¬ (65535 : Int32) < c)
    (S : RoadKit.Sta Z h ST "COMPACT_STRINGS" "Z" (.int z)) (hz : ¬ z = 0) (F : RoadKit.Sta Z h "jdk/internal/util/Preconditions" "SIOOBE_FORMATTER" "Ljava/util/function/BiFunction;" fm) (rf : fm.isRef = true) (l2 : cs.length ≤ 4000) (hi : i < cs.length) (hj : j = Int32.ofNat i) (hfr : 4 ≤ R.frames) (hlo : W + 53 ≤ R.locals) :
    Back l R p e below s args (⟨"java/lang/String", "charAt", "(I)C"⟩ : MethodName) len W (fun P a => a = #[.ref x, .int j] ∧ P.U.heap = h ∧ P.cells + 0 ≤ R.cells ∧ P.slots + 0 ≤ R.slots)
      (fun P _ v B => ∃ L, (v = some (.int (cs.getD i 0)) ∧ L = [] ∧ B.U.heap = h) ∧ B.locs = P.locs ++ L ∧ B.cells = P.cells + 0 ∧ B.slots = P.slots + 0) := by
  subst hj
  intro m meth c P g ig mk a X hg hsize hdg hW hn hp'
  obtain ⟨rfl, rfl, r1, r2⟩ := hp'
  have al : Z.vm.Alike P.U.vm := hZ.alike.trans X.warmed.alike
  obtain ⟨A, hx⟩ := txt_of wi al E V C K hc hb l2
  obtain ⟨v, B, X', ⟨⟨hv, hh⟩, hl, hk, hs⟩, st⟩ := ChN.pays x t A cs.length (fun j => cs.getD j 0) z fm i (tabChN_of (movedChN hZ hw)) hfr hlo m meth c P g ig mk _ X hg hsize hdg hW hn ⟨r1, r2, rfl, hx, hi, sta_is al S, hz, sta_is al F, rf⟩
  exact ⟨v, B, X', ⟨[], ⟨hv, rfl, hh⟩, hl, hk, hs⟩, st⟩
/-- what backV says of its String, as the contracts of this text ask it: cs's low bytes, coder 0 -/
theorem codOf {cs : List Int32} {n : Nat} (hn : cs.length = n) (hb : ∀ c ∈ cs, ¬ 255 < c) : CodA cs 0 (Int32.ofNat n) ((cs.map lo8).map Value.int) := Or.inl ⟨rfl, by rw [hn], by simp [List.map_map, Function.comp_def], hb⟩
end StrChars.Road
end Jvm.Pilot.@@N@@
namespace Jvm.RoadKit
open Sem ClassFile Op Lib Jvm.Stand Jvm.Free Jvm.LawKit
section New
variable {p : Program} {l : Launch} {e : Env} {R : Room} {s : State} {m : MethodId} {args : Array Value} {below : List Frame} {meth : Method} {c : Code} {T : State} {locs : List Loc} {cells slots : Nat}
theorem retI (X : Stand p l e R s m args below meth c T locs cells slots) (hx : p.tables.exec = Jvm.exec) {pc : Nat} {Ls : Array Slot} {z : Int32} {rest : List Value} (hret : meth.sig.returnType = some .int) (hd : decode c.code pc = .ok (.ireturn, 1)) {fs : List Frame}
    (hl : ∀ (f : JFrame) (acts : List Action), f.method = m → f.locked = none → f.entered = [] → (doReturn e (T.setTop f) acts (some (.int z))).1 = T.setFrames fs) : Steps p.tables e below (T.setTop (mkF m pc Ls (.int z :: rest))) (T.setFrames fs) := by
  have hm' : T.vm.method? m = some meth := X.method'
  have hn : narrow .int (.int z) = .int z := rfl
  show Steps p.tables e below (T.setTop { method := m, pc := pc, locals := Ls, stack := _ :: rest, locked := none }) _
  jvm_step X.here [X.here.top, hx, hd, hm', hret, hn]
  first | (intro acts; rw [hl _ acts rfl rfl rfl]) | rw [hl _ _ rfl rfl rfl]
  exact Steps.refl _
end New
end Jvm.RoadKit
namespace Jvm.Pilot.@@N@@
open Jvm Jvm.ClassFile Sem Op Lib Jvm.Free Jvm.Stand Jvm.LawKit Jvm.RoadKit Bundle Jvm.Pilot.@@N@@.Jvm.D
/-- from here the run comes to an end of which G holds -/
def Go (tb : Tables) (e : Env) (below : List Frame) (G : State → Outcome → Prop) (U : State) : Prop := ∃ t o, Steps tb e below U t ∧ G t o
theorem Go.st {tb : Tables} {e : Env} {below : List Frame} {G : State → Outcome → Prop} {U U' : State} (h : ∀ t, Steps tb e below U' t → Steps tb e below U t) (k : Go tb e below G U') : Go tb e below G U :=
  let ⟨t, o, a, b⟩ := k
  ⟨t, o, h t a, b⟩
theorem Go.start {tb : Tables} {e : Env} {below : List Frame} {G0 : State → Outcome → Prop} {U : State} (h : ∀ G, G = G0 → Go tb e below G U) : Go tb e below G0 U := h _ rfl
theorem Go.join {tb : Tables} {e : Env} {below : List Frame} {G : State → Outcome → Prop} {U : State} {α : Type} {F : α → State} (k : ∀ z, Go tb e below G (F z)) (h : (∀ z, Go tb e below G (F z)) → Go tb e below G U) : Go tb e below G U := h k
theorem Go.joinR {tb : Tables} {e : Env} {below : List Frame} {G : State → Outcome → Prop} {U : State} {α : Type} {F : α → State} {R : α → Prop} (k : ∀ z, R z → Go tb e below G (F z)) (h : (∀ z, R z → Go tb e below G (F z)) → Go tb e below G U) : Go tb e below G U := h k
theorem own_stakeep {Z : State} {h h' : Heap} {C n d : String} {v : Value} (F : Sta Z h C n d v) (K : Keep h h' []) : Sta Z h' C n d v := F.ext ⟨K.1, fun a c q => K.2.1 a c q List.not_mem_nil⟩
theorem own_stakeepW {Z : State} {h h' : Heap} {ws : List Addr} {C n d : String} {v : Value} (F : Sta Z h C n d v) (K : Keep h h' ws) (q : ∀ x ∈ ws, ∀ c : Cell, h[x]? = some c → c.vm.isStatics = false) : Sta Z h' C n d v := by
  obtain ⟨cf, i, k, f, st, cell, t1, t2, t3, t4, t5, t6, t7⟩ := F
  exact ⟨cf, i, k, f, st, cell, t1, t2, t3, t4, K.2.1 st cell t5 (fun hm => by rw [q st hm cell t5] at t6; cases t6), t6, t7⟩
theorem own_lrem {tb : Tables} {e : Env} {below : List Frame} {T target : State} {g : JFrame} {n : Nat} {x y : Int64} {rest : List Value} (k : Steps tb e below (T.setTop { g with pc := n, stack := .long (x % y) :: rest }) target) :
    Steps tb e below (T.setTop { g with pc := n, stack := .long (x - (x / y) * y) :: rest }) target := by
  rw [lrem_mod]
  exact k
theorem i64_addc (x y : Int64) : (x + y).toInt = x.toInt + y.toInt ∧ -2 ^ 63 ≤ x.toInt + y.toInt ∧ x.toInt + y.toInt < 2 ^ 63 ∨ (x + y).toInt = x.toInt + y.toInt - 2 ^ 64 ∧ 2 ^ 63 ≤ x.toInt + y.toInt ∨ (x + y).toInt = x.toInt + y.toInt + 2 ^ 64 ∧ x.toInt + y.toInt < -2 ^ 63 := by
  have h := Int64.toInt_add x y
  have a1 := Int64.le_toInt x
  have a2 := Int64.toInt_lt x
  have b1 := Int64.le_toInt y
  have b2 := Int64.toInt_lt y
  rw [Int.bmod_def] at h
  split at h <;> omega
theorem i64_subc (x y : Int64) : (x - y).toInt = x.toInt - y.toInt ∧ -2 ^ 63 ≤ x.toInt - y.toInt ∧ x.toInt - y.toInt < 2 ^ 63 ∨ (x - y).toInt = x.toInt - y.toInt - 2 ^ 64 ∧ 2 ^ 63 ≤ x.toInt - y.toInt ∨ (x - y).toInt = x.toInt - y.toInt + 2 ^ 64 ∧ x.toInt - y.toInt < -2 ^ 63 := by
  have h := Int64.toInt_sub x y
  have a1 := Int64.le_toInt x
  have a2 := Int64.toInt_lt x
  have b1 := Int64.le_toInt y
  have b2 := Int64.toInt_lt y
  rw [Int.bmod_def] at h
  split at h <;> omega
theorem i32_i2c (x : Int32) : (x.toUInt32.toUInt16.toUInt32.toInt32).toInt = x.toInt % 65536 := by
  have h1 : (x.toUInt32.toUInt16.toUInt32.toInt32).toInt = ((x.toUInt32.toUInt16.toUInt32).toNat : Int).bmod (2 ^ 32) := by
    rw [← Int32.toInt_toBitVec, BitVec.toInt_eq_toNat_bmod]; rfl
  have h2 : (x.toUInt32.toUInt16.toUInt32).toNat = x.toBitVec.toNat % 65536 := by
    simp [UInt32.toNat_toUInt16, UInt16.toNat_toUInt32]; rfl
  have h3 : x.toInt = (x.toBitVec.toNat : Int).bmod (2 ^ 32) := by
    rw [← Int32.toInt_toBitVec, BitVec.toInt_eq_toNat_bmod]
  have h4 := x.toBitVec.isLt
  rw [h1, h2, h3, Int.bmod_def, Int.bmod_def]
  split <;> split <;> omega
theorem i32_addc (x y : Int32) : (x + y).toInt = x.toInt + y.toInt ∧ -2 ^ 31 ≤ x.toInt + y.toInt ∧ x.toInt + y.toInt < 2 ^ 31 ∨ (x + y).toInt = x.toInt + y.toInt - 2 ^ 32 ∧ 2 ^ 31 ≤ x.toInt + y.toInt ∨ (x + y).toInt = x.toInt + y.toInt + 2 ^ 32 ∧ x.toInt + y.toInt < -2 ^ 31 := by
  have h := Int32.toInt_add x y
  have a1 := Int32.le_toInt x
  have a2 := Int32.toInt_lt x
  have b1 := Int32.le_toInt y
  have b2 := Int32.toInt_lt y
  rw [Int.bmod_def] at h
  split at h <;> omega
theorem i32_subc (x y : Int32) : (x - y).toInt = x.toInt - y.toInt ∧ -2 ^ 31 ≤ x.toInt - y.toInt ∧ x.toInt - y.toInt < 2 ^ 31 ∨ (x - y).toInt = x.toInt - y.toInt - 2 ^ 32 ∧ 2 ^ 31 ≤ x.toInt - y.toInt ∨ (x - y).toInt = x.toInt - y.toInt + 2 ^ 32 ∧ x.toInt - y.toInt < -2 ^ 31 := by
  have h := Int32.toInt_sub x y
  have a1 := Int32.le_toInt x
  have a2 := Int32.toInt_lt x
  have b1 := Int32.le_toInt y
  have b2 := Int32.toInt_lt y
  rw [Int.bmod_def] at h
  split at h <;> omega
theorem own_eq32 {a b : Int32} (h : a.toInt = b.toInt) : a = b := Int32.toInt_inj.mp h
theorem own_eq64 {a b : Int64} (h : a.toInt = b.toInt) : a = b := Int64.toInt_inj.mp h
theorem own_lt64 {a b : Int64} (h : a.toInt < b.toInt) : a < b := Int64.lt_iff_toInt_lt.mpr h
theorem own_lt32 {a b : Int32} (h : a.toInt < b.toInt) : a < b := Int32.lt_iff_toInt_lt.mpr h
theorem own_nlt64 {a b : Int64} (h : b.toInt ≤ a.toInt) : ¬ a < b := fun z => by have := Int64.lt_iff_toInt_lt.mp z; omega
theorem own_nlt32 {a b : Int32} (h : b.toInt ≤ a.toInt) : ¬ a < b := fun z => by have := Int32.lt_iff_toInt_lt.mp z; omega
theorem own_ne32 {a b : Int32} (h : a.toInt ≠ b.toInt) : ¬ a = b := fun z => h (by rw [z])
theorem own_ne64 {a b : Int64} (h : a.toInt ≠ b.toInt) : ¬ a = b := fun z => h (by rw [z])
def dch (n : Int32) : Int32 := if n < 10 then n + 48 else n + 87
def nibS (q : Int64) (s : Int32) : Int32 := ((q.toUInt64 >>> (s &&& 0x3f).toInt64.toUInt64).toInt64.toInt32) &&& (15 : Int32)
def stepF (a : Int64) (n : Int32) : Int64 := (a <<< ((4 : Int32) &&& 0x3f).toInt64) ||| n.toInt64
def hxF (c : Int32) : Int32 := if c < 48 then (if c < 97 then 0 else if 102 < c then 0 else 1) else if 57 < c then (if c < 97 then 0 else if 102 < c then 0 else 1) else 1
theorem own_16 {n : Int32} (h : 0 ≤ n.toInt ∧ n.toInt < 16) : n = 0 ∨ n = 1 ∨ n = 2 ∨ n = 3 ∨ n = 4 ∨ n = 5 ∨ n = 6 ∨ n = 7 ∨ n = 8 ∨ n = 9 ∨ n = 10 ∨ n = 11 ∨ n = 12 ∨ n = 13 ∨ n = 14 ∨ n = 15 := by
  have E : ∀ (k : Int32), n.toInt = k.toInt → n = k := fun k e => Int32.toInt_inj.mp e
  have : n.toInt = 0 ∨ n.toInt = 1 ∨ n.toInt = 2 ∨ n.toInt = 3 ∨ n.toInt = 4 ∨ n.toInt = 5 ∨ n.toInt = 6 ∨ n.toInt = 7 ∨ n.toInt = 8 ∨ n.toInt = 9 ∨ n.toInt = 10 ∨ n.toInt = 11 ∨ n.toInt = 12 ∨ n.toInt = 13 ∨ n.toInt = 14 ∨ n.toInt = 15 := by omega
  rcases this with e | e | e | e | e | e | e | e | e | e | e | e | e | e | e | e
  · exact Or.inl (E 0 (e.trans (by decide)))
  · exact Or.inr (Or.inl (E 1 (e.trans (by decide))))
  · exact Or.inr (Or.inr (Or.inl (E 2 (e.trans (by decide)))))
  · exact Or.inr (Or.inr (Or.inr (Or.inl (E 3 (e.trans (by decide))))))
  · exact Or.inr (Or.inr (Or.inr (Or.inr (Or.inl (E 4 (e.trans (by decide)))))))
  · exact Or.inr (Or.inr (Or.inr (Or.inr (Or.inr (Or.inl (E 5 (e.trans (by decide))))))))
  · exact Or.inr (Or.inr (Or.inr (Or.inr (Or.inr (Or.inr (Or.inl (E 6 (e.trans (by decide)))))))))
  · exact Or.inr (Or.inr (Or.inr (Or.inr (Or.inr (Or.inr (Or.inr (Or.inl (E 7 (e.trans (by decide))))))))))
  · exact Or.inr (Or.inr (Or.inr (Or.inr (Or.inr (Or.inr (Or.inr (Or.inr (Or.inl (E 8 (e.trans (by decide)))))))))))
  · exact Or.inr (Or.inr (Or.inr (Or.inr (Or.inr (Or.inr (Or.inr (Or.inr (Or.inr (Or.inl (E 9 (e.trans (by decide))))))))))))
  · exact Or.inr (Or.inr (Or.inr (Or.inr (Or.inr (Or.inr (Or.inr (Or.inr (Or.inr (Or.inr (Or.inl (E 10 (e.trans (by decide)))))))))))))
  · exact Or.inr (Or.inr (Or.inr (Or.inr (Or.inr (Or.inr (Or.inr (Or.inr (Or.inr (Or.inr (Or.inr (Or.inl (E 11 (e.trans (by decide))))))))))))))
  · exact Or.inr (Or.inr (Or.inr (Or.inr (Or.inr (Or.inr (Or.inr (Or.inr (Or.inr (Or.inr (Or.inr (Or.inr (Or.inl (E 12 (e.trans (by decide)))))))))))))))
  · exact Or.inr (Or.inr (Or.inr (Or.inr (Or.inr (Or.inr (Or.inr (Or.inr (Or.inr (Or.inr (Or.inr (Or.inr (Or.inr (Or.inl (E 13 (e.trans (by decide))))))))))))))))
  · exact Or.inr (Or.inr (Or.inr (Or.inr (Or.inr (Or.inr (Or.inr (Or.inr (Or.inr (Or.inr (Or.inr (Or.inr (Or.inr (Or.inr (Or.inl (E 14 (e.trans (by decide)))))))))))))))))
  · exact Or.inr (Or.inr (Or.inr (Or.inr (Or.inr (Or.inr (Or.inr (Or.inr (Or.inr (Or.inr (Or.inr (Or.inr (Or.inr (Or.inr (Or.inr (E 15 (e.trans (by decide)))))))))))))))))
theorem own_all16 {P : Int32 → Prop} (h0 : P 0) (h1 : P 1) (h2 : P 2) (h3 : P 3) (h4 : P 4) (h5 : P 5) (h6 : P 6) (h7 : P 7) (h8 : P 8) (h9 : P 9) (h10 : P 10) (h11 : P 11) (h12 : P 12) (h13 : P 13) (h14 : P 14) (h15 : P 15) {n : Int32} (h : 0 ≤ n.toInt ∧ n.toInt < 16) : P n := by
  rcases own_16 h with rfl | rfl | rfl | rfl | rfl | rfl | rfl | rfl | rfl | rfl | rfl | rfl | rfl | rfl | rfl | rfl <;> assumption
theorem own_nib (q : Int64) (s : Int32) : 0 ≤ (nibS q s).toInt ∧ (nibS q s).toInt < 16 := by
  have := Jvm.Kit.i32_mask ((q.toUInt64 >>> (s &&& 0x3f).toInt64.toUInt64).toInt64.toInt32) (15 : Int32) (k := 4) (by decide) (by decide)
  unfold nibS
  omega
theorem own_hx {n : Int32} (h : 0 ≤ n.toInt ∧ n.toInt < 16) : hxF (dch n) = 1 := own_all16 (P := fun n => hxF (dch n) = 1) (by decide) (by decide) (by decide) (by decide) (by decide) (by decide) (by decide) (by decide) (by decide) (by decide) (by decide) (by decide) (by decide) (by decide) (by decide) (by decide) h
theorem own_dchr {n : Int32} (h : 0 ≤ n.toInt ∧ n.toInt < 16) : ¬ dch n < 0 ∧ ¬ (255 : Int32) < dch n := own_all16 (P := fun n => ¬ dch n < 0 ∧ ¬ (255 : Int32) < dch n) (by decide) (by decide) (by decide) (by decide) (by decide) (by decide) (by decide) (by decide) (by decide) (by decide) (by decide) (by decide) (by decide) (by decide) (by decide) (by decide) h
theorem own_dchc {n : Int32} (h : 0 ≤ n.toInt ∧ n.toInt < 16) : (dch n).toUInt32.toUInt16.toUInt32.toInt32 = dch n := own_all16 (P := fun n => (dch n).toUInt32.toUInt16.toUInt32.toInt32 = dch n) (by decide) (by decide) (by decide) (by decide) (by decide) (by decide) (by decide) (by decide) (by decide) (by decide) (by decide) (by decide) (by decide) (by decide) (by decide) (by decide) h
theorem own_u (x : Int64) (k : Nat) {s : Int32} (hs : (s &&& 0x3f).toInt64.toUInt64.toNat = k) (hk : k < 64) : (nibS x s).toInt = ((x.toUInt64.toNat / 2 ^ k % 16 : Nat) : Int) := by
  unfold nibS
  rw [Jvm.Kit.i32_mask _ (15 : Int32) (k := 4) (by decide) (by decide), Int64.toInt_toInt32]
  have h1 : ((x.toUInt64 >>> (s &&& 0x3f).toInt64.toUInt64).toInt64).toInt = ((x.toUInt64 >>> (s &&& 0x3f).toInt64.toUInt64).toNat : Int).bmod (2 ^ 64) := by
    rw [← Int64.toInt_toBitVec, BitVec.toInt_eq_toNat_bmod]; rfl
  have h2 : (x.toUInt64 >>> (s &&& 0x3f).toInt64.toUInt64).toNat = x.toUInt64.toNat / 2 ^ k := by
    rw [UInt64.toNat_shiftRight, hs, Nat.mod_eq_of_lt hk, Nat.shiftRight_eq_div_pow]
  rw [h1, h2]
  generalize x.toUInt64.toNat / 2 ^ k = u
  rw [Int.bmod_def, Int.bmod_def]
  split <;> split <;> omega
theorem own_step {a : Int64} {n : Int32} {u k : Nat} (hu : u < 2 ^ 64) (ha : a.toUInt64.toNat = u / 2 ^ (k + 4)) (hn : n.toInt = ((u / 2 ^ k % 16 : Nat) : Int)) : (stepF a n).toUInt64.toNat = u / 2 ^ k := by
  have hA : u / 2 ^ (k + 4) = u / 2 ^ k / 16 := by rw [Nat.pow_add, ← Nat.div_div_eq_div_mul]
  have hU : u / 2 ^ k < 2 ^ 64 := Nat.lt_of_le_of_lt (Nat.div_le_self _ _) hu
  rw [hA] at ha
  generalize u / 2 ^ k = w at *
  have h1 : (stepF a n).toUInt64 = (a.toUInt64 <<< 4) ||| n.toInt64.toUInt64 := by
    unfold stepF
    rw [show ((4 : Int32) &&& 0x3f).toInt64 = (4 : Int64) from by decide]
    rfl
  have h2 : (a.toUInt64 <<< 4).toNat = a.toUInt64.toNat * 16 := by
    rw [UInt64.toNat_shiftLeft, show (4 : UInt64).toNat % 64 = 4 from by decide, Nat.shiftLeft_eq]
    exact Nat.mod_eq_of_lt (by omega)
  have h3 : n.toInt64.toUInt64.toNat = w % 16 := by
    have e1 : n.toInt64.toInt = n.toInt := Int32.toInt_toInt64 n
    have e2 : n.toInt64.toInt = (n.toInt64.toUInt64.toNat : Int).bmod (2 ^ 64) := by
      rw [← Int64.toInt_toBitVec, BitVec.toInt_eq_toNat_bmod]; rfl
    have e3 := n.toInt64.toUInt64.toNat_lt
    generalize n.toInt64.toUInt64.toNat = z at *
    rw [Int.bmod_def] at e2
    split at e2 <;> omega
  rw [h1, UInt64.toNat_or, h2, h3, ha]
  have h4 : w / 16 * 16 ||| w % 16 = w / 16 * 16 + w % 16 := by
    have := Nat.shiftLeft_add_eq_or_of_lt (show w % 16 < 2 ^ 4 by omega) (w / 16)
    rw [Nat.shiftLeft_eq] at this
    exact this.symm
  rw [h4]
  omega
theorem own_round (q : Int64) {a0 a1 a2 a3 a4 a5 a6 a7 a8 a9 a10 a11 a12 a13 a14 a15 : Int64} (h0 : stepF 0 (nibS q 60) = a0) (h1 : stepF a0 (nibS q 56) = a1) (h2 : stepF a1 (nibS q 52) = a2) (h3 : stepF a2 (nibS q 48) = a3) (h4 : stepF a3 (nibS q 44) = a4) (h5 : stepF a4 (nibS q 40) = a5) (h6 : stepF a5 (nibS q 36) = a6) (h7 : stepF a6 (nibS q 32) = a7)
    (h8 : stepF a7 (nibS q 28) = a8) (h9 : stepF a8 (nibS q 24) = a9) (h10 : stepF a9 (nibS q 20) = a10) (h11 : stepF a10 (nibS q 16) = a11) (h12 : stepF a11 (nibS q 12) = a12) (h13 : stepF a12 (nibS q 8) = a13) (h14 : stepF a13 (nibS q 4) = a14) (h15 : stepF a14 (nibS q 0) = a15) : a15 = q := by
  have hu := q.toUInt64.toNat_lt
  have q0 := own_step (a := 0) (u := q.toUInt64.toNat) (k := 60) hu (by rw [Nat.div_eq_of_lt hu]; rfl) (own_u q 60 (s := 60) (by decide) (by decide))
  rw [h0] at q0
  have q1 := own_step (k := 56) hu q0 (own_u q 56 (s := 56) (by decide) (by decide)); rw [h1] at q1
  have q2 := own_step (k := 52) hu q1 (own_u q 52 (s := 52) (by decide) (by decide)); rw [h2] at q2
  have q3 := own_step (k := 48) hu q2 (own_u q 48 (s := 48) (by decide) (by decide)); rw [h3] at q3
  have q4 := own_step (k := 44) hu q3 (own_u q 44 (s := 44) (by decide) (by decide)); rw [h4] at q4
  have q5 := own_step (k := 40) hu q4 (own_u q 40 (s := 40) (by decide) (by decide)); rw [h5] at q5
  have q6 := own_step (k := 36) hu q5 (own_u q 36 (s := 36) (by decide) (by decide)); rw [h6] at q6
  have q7 := own_step (k := 32) hu q6 (own_u q 32 (s := 32) (by decide) (by decide)); rw [h7] at q7
  have q8 := own_step (k := 28) hu q7 (own_u q 28 (s := 28) (by decide) (by decide)); rw [h8] at q8
  have q9 := own_step (k := 24) hu q8 (own_u q 24 (s := 24) (by decide) (by decide)); rw [h9] at q9
  have q10 := own_step (k := 20) hu q9 (own_u q 20 (s := 20) (by decide) (by decide)); rw [h10] at q10
  have q11 := own_step (k := 16) hu q10 (own_u q 16 (s := 16) (by decide) (by decide)); rw [h11] at q11
  have q12 := own_step (k := 12) hu q11 (own_u q 12 (s := 12) (by decide) (by decide)); rw [h12] at q12
  have q13 := own_step (k := 8) hu q12 (own_u q 8 (s := 8) (by decide) (by decide)); rw [h13] at q13
  have q14 := own_step (k := 4) hu q13 (own_u q 4 (s := 4) (by decide) (by decide)); rw [h14] at q14
  have q15 := own_step (k := 0) hu q14 (own_u q 0 (s := 0) (by decide) (by decide)); rw [h15] at q15
  have : a15.toUInt64 = q.toUInt64 := UInt64.toNat_inj.mp (by rw [q15]; simp)
  have t := congrArg UInt64.toInt64 this
  simpa using t

theorem own_up (cs : List Int32) (h : ∀ c ∈ cs, ¬ c < 0 ∧ ¬ (255 : Int32) < c) : ∀ c ∈ cs, ¬ c < 0 ∧ ¬ (65535 : Int32) < c := fun c hc => ⟨(h c hc).1, fun q => (h c hc).2 (by rw [Int32.lt_iff_toInt_lt] at q ⊢; have e1 : (65535 : Int32).toInt = 65535 := rfl; have e2 : (255 : Int32).toInt = 255 := rfl; omega)⟩
theorem own_narc (y : Int32) : nar .char (y.toUInt32.toUInt16.toUInt32.toInt32) = y.toUInt32.toUInt16.toUInt32.toInt32 := by
  show (y.toUInt32.toUInt16.toUInt32.toInt32).toUInt32.toUInt16.toUInt32.toInt32 = _
  simp only [UInt32.toUInt32_toInt32, UInt16.toUInt16_toUInt32]

theorem own_words : ∀ d ∈ StrChars.Road.words, d ∈ tables_1 := by decide +kernel
theorem own_wordsLen : ∀ d ∈ StrChars.Road.wordsLen, d ∈ tables_1 := by decide +kernel
theorem own_wordsChN : ∀ d ∈ StrChars.Road.wordsChN, d ∈ tables_1 := by decide +kernel
theorem own_nibb (q : Int64) (s : Int32) : ¬ nibS q s < 0 ∧ nibS q s < 16 := by
  have h := own_nib q s
  have e0 : (0 : Int32).toInt = 0 := by decide
  have e16 : (16 : Int32).toInt = 16 := by decide
  exact ⟨own_nlt32 (by omega), own_lt32 (by omega)⟩
theorem own_dchn {n : Int32} (h : 0 ≤ n.toInt ∧ n.toInt < 16) : nar .char (dch n) = dch n := own_dchc h
theorem own_dget {n : Int32} (h : 0 ≤ n.toInt ∧ n.toInt < 16) : ([(.int (48 : Int32)), (.int (49 : Int32)), (.int (50 : Int32)), (.int (51 : Int32)), (.int (52 : Int32)), (.int (53 : Int32)), (.int (54 : Int32)), (.int (55 : Int32)), (.int (56 : Int32)), (.int (57 : Int32)), (.int (97 : Int32)), (.int (98 : Int32)), (.int (99 : Int32)), (.int (100 : Int32)), (.int (101 : Int32)), (.int (102 : Int32))] : List Value).getD n.toNatClampNeg (.int (0 : Int32)) = .int (dch n) := own_all16 (P := fun n => ([(.int (48 : Int32)), (.int (49 : Int32)), (.int (50 : Int32)), (.int (51 : Int32)), (.int (52 : Int32)), (.int (53 : Int32)), (.int (54 : Int32)), (.int (55 : Int32)), (.int (56 : Int32)), (.int (57 : Int32)), (.int (97 : Int32)), (.int (98 : Int32)), (.int (99 : Int32)), (.int (100 : Int32)), (.int (101 : Int32)), (.int (102 : Int32))] : List Value).getD n.toNatClampNeg (.int (0 : Int32)) = .int (dch n)) rfl rfl rfl rfl rfl rfl rfl rfl rfl rfl rfl rfl rfl rfl rfl rfl h
theorem pn_0 : plainName "java/lang/Record" = true := by first | (simp [plainName, overriddenIn]; done) | decide +kernel
theorem d_rinit_0 : decode jdk_30_method_1_code 0 = .ok (.aload_n 0, 1) := by decide +kernel
theorem d_rinit_1 : decode jdk_30_method_1_code 1 = .ok (.invokespecial 1, 3) := by decide +kernel
theorem d_rinit_4 : decode jdk_30_method_1_code 4 = .ok (.return_, 1) := by decide +kernel
theorem ef_rinit (m : MethodId) (ao : Addr) : entryFrame m #[(.ref ao)] 1 = mkF m 0 #[.val (.ref ao)] [] := by first | (simp [entryFrame, mkF, argsToLocals, Value.category]; done) | rfl
def Q_rinit (Z : State) (ao : Addr) (h0 : Heap) (n0 : Nat) (v : Option Value) (h : Heap) (L : List Loc) : Prop := v = none ∧ Fr n0 L ∧ h = h0
set_option maxRecDepth 65536 in
set_option maxHeartbeats 40000000 in
theorem rm_rinit (l : Launch) (Z : State) (a0 : Array Value) (hw : ∀ d ∈ tables_1, d.before a0 Z = true) (ws : List Jvm.Cond) (ao : Addr) (h0 : Heap) (n0 : Nat) (Z0 : n0 ≤ h0.size)  :
    MetFree l (⟨"java/lang/Record", "<init>", "()V"⟩ : MethodName) (head1 (Jvm.Cond.code (⟨"java/lang/Record", "<init>", "()V"⟩ : MethodName) jdk_30_method_1_code 1 none :: ws) ({ frames := 1, cells := 0, slots := 0, locals := 12 } : Room)) (fun a U => a = #[(.ref ao)] ∧ Z.Warmed39 U.vm ∧ U.heap = h0) (fun _ _ _ _ _ => True) (fun _ U o U' => ∃ v L, o = .returned v ∧ Q_rinit Z ao h0 n0 v U'.heap L ∧ FrameEnd U o U' L ({ frames := 1, cells := 0, slots := 0, locals := 12 } : Room).cells ({ frames := 1, cells := 0, slots := 0, locals := 12 } : Room).slots) := by
  refine MetFree.of_bodySF (plainFor_of_name pn_0) hisR ?_
  intro p e s m args below meth c s₁ Bd hml0 hP hK
  obtain ⟨rfl, hZ, hh⟩ := hP
  have hx := Bd.exec
  have hby := Bd.bytes
  have hml : c.maxLocals = 1 := hml0
  have hown : s.vm.findClass "java/lang/Record" = some m.cls := findClass_of_methodNamed Bd.named
  have hnm := (name_of_methodNamed Bd.named Bd.method).1
  have X0 : Stand p l e ({ frames := 1, cells := 0, slots := 0, locals := 12 } : Room) s m #[(.ref ao)] below meth c s₁ [] 0 0 := Stand.of_body Bd
  have e0 : s₁.heap = h0 := by rw [← hh, Bd.state]; rfl
  have N0 := Fr.nil n0
  have K0 : Keep h0 h0 [] := Keep.refl h0 []
  show Go p.tables e below _ (s₁.setTop (entryFrame m #[(.ref ao)] 1))
  refine Go.start ?_
  intro G hG
  refine Go.st (fun t k => castTop (ef_rinit m ao) k) ?_
  show Go p.tables e below _ (s₁.setTop (mkF m 0 #[.val (.ref ao)] []))
  refine Go.st (fun _ k => XS.aloadN X0.here hx rfl (hb hby d_rinit_0) rfl rfl k) ?_
  show Go p.tables e below _ (s₁.setTop (mkF m 1 #[.val (.ref ao)] [(.ref ao)]))
  obtain ⟨T1, X1, e1, st1⟩ := initO X0 hx hZ hown (hw _ (List.mem_of_getElem? (i := 12) rfl)) (hw _ (List.mem_of_getElem? (i := 13) rfl)) (hw _ (List.mem_of_getElem? (i := 14) rfl)) e0 (g := (mkF m 1 #[.val (.ref ao)] [(.ref ao)])) rfl (by rw [hml]; rfl) rfl (hb hby d_rinit_1) (by decide) (W := 0) (by show 2 * 0 + _ ≤ _; exact Nat.le_of_eq rfl) (by decide)
  refine Go.st st1 ?_
  show Go p.tables e below _ (T1.setTop (mkF m 4 #[.val (.ref ao)] []))
  subst hG
  obtain ⟨fs, hr, hrun, hended, hW, hsame⟩ := X1.leave (v := none) (fun _ => rfl)
  refine ⟨_, _, ?_, hrun, hended, _, _, rfl, ?_, ⟨_, rfl⟩, hW, hsame.mono (by decide) (by decide)⟩
  · exact X1.returnOut hx Bd.returns (hb hby d_rinit_4) hr
  · show Q_rinit Z ao h0 n0 _ T1.heap _
    rw [e1]
    exact ⟨rfl, N0, rfl⟩
theorem pd_0 : parseMethodDescriptor "()V" = some ⟨[], none⟩ := by decide +kernel
theorem pn_1 : plainName "com/example/tallyroot/tallyroot/overlay/NodeId" = true := by first | (simp [plainName, overriddenIn]; done) | decide +kernel
theorem d_ninit_0 : decode prog_42_method_1_code 0 = .ok (.aload_n 0, 1) := by decide +kernel
theorem d_ninit_1 : decode prog_42_method_1_code 1 = .ok (.invokespecial 1, 3) := by decide +kernel
theorem d_ninit_4 : decode prog_42_method_1_code 4 = .ok (.aload_n 0, 1) := by decide +kernel
theorem d_ninit_5 : decode prog_42_method_1_code 5 = .ok (.lload_n 1, 1) := by decide +kernel
theorem d_ninit_6 : decode prog_42_method_1_code 6 = .ok (.putfield 7, 3) := by decide +kernel
theorem d_ninit_9 : decode prog_42_method_1_code 9 = .ok (.return_, 1) := by decide +kernel
theorem ef_ninit (m : MethodId) (ao : Addr) (qb : Int64) : entryFrame m #[(.ref ao), (.long qb)] 3 = mkF m 0 #[.val (.ref ao), .val (.long qb), .second] [] := by first | (simp [entryFrame, mkF, argsToLocals, Value.category]; done) | rfl
def Q_ninit (Z : State) (ao : Addr) (qb : Int64) (h0 : Heap) (n0 : Nat) (v : Option Value) (h : Heap) (L : List Loc) : Prop := v = none ∧ Fr n0 L ∧ Keep h0 h [ao] ∧ Exa Z h ao "com/example/tallyroot/tallyroot/overlay/NodeId" ∧ Fld Z h ao "com/example/tallyroot/tallyroot/overlay/NodeId" "bits" "J" (.long qb)
set_option maxRecDepth 65536 in
set_option maxHeartbeats 40000000 in
theorem rm_ninit (l : Launch) (Z : State) (a0 : Array Value) (hw : ∀ d ∈ tables_1, d.before a0 Z = true) (ws : List Jvm.Cond) (ao : Addr) (qb : Int64) (h0 : Heap) (n0 : Nat) (Z0 : n0 ≤ h0.size) (Pf0 : Exa Z h0 ao "com/example/tallyroot/tallyroot/overlay/NodeId") (Pf1 : Fld Z h0 ao "com/example/tallyroot/tallyroot/overlay/NodeId" "bits" "J" (.long (0 : Int64))) (Pf2 : n0 ≤ ao) :
    MetFree l (⟨"com/example/tallyroot/tallyroot/overlay/NodeId", "<init>", "(J)V"⟩ : MethodName) (head1 (Jvm.Cond.code (⟨"com/example/tallyroot/tallyroot/overlay/NodeId", "<init>", "(J)V"⟩ : MethodName) prog_42_method_1_code 3 none :: ws) ({ frames := 2, cells := 0, slots := 0, locals := 24 } : Room)) (fun a U => a = #[(.ref ao), (.long qb)] ∧ Z.Warmed39 U.vm ∧ U.heap = h0) (fun _ _ _ _ _ => True) (fun _ U o U' => ∃ v L, o = .returned v ∧ Q_ninit Z ao qb h0 n0 v U'.heap L ∧ FrameEnd U o U' L ({ frames := 2, cells := 0, slots := 0, locals := 24 } : Room).cells ({ frames := 2, cells := 0, slots := 0, locals := 24 } : Room).slots) := by
  refine MetFree.of_bodySF (plainFor_of_name pn_1) hisR ?_
  intro p e s m args below meth c s₁ Bd hml0 hP hK
  obtain ⟨rfl, hZ, hh⟩ := hP
  have hx := Bd.exec
  have hby := Bd.bytes
  have hml : c.maxLocals = 3 := hml0
  have hown : s.vm.findClass "com/example/tallyroot/tallyroot/overlay/NodeId" = some m.cls := findClass_of_methodNamed Bd.named
  have hnm := (name_of_methodNamed Bd.named Bd.method).1
  have X0 : Stand p l e ({ frames := 2, cells := 0, slots := 0, locals := 24 } : Room) s m #[(.ref ao), (.long qb)] below meth c s₁ [] 0 0 := Stand.of_body Bd
  have e0 : s₁.heap = h0 := by rw [← hh, Bd.state]; rfl
  have N0 := Fr.nil n0
  have K0 : Keep h0 h0 [ao] := Keep.refl h0 [ao]
  show Go p.tables e below _ (s₁.setTop (entryFrame m #[(.ref ao), (.long qb)] 3))
  refine Go.start ?_
  intro G hG
  refine Go.st (fun t k => castTop (ef_ninit m ao qb) k) ?_
  show Go p.tables e below _ (s₁.setTop (mkF m 0 #[.val (.ref ao), .val (.long qb), .second] []))
  refine Go.st (fun _ k => XS.aloadN X0.here hx rfl (hb hby d_ninit_0) rfl rfl k) ?_
  show Go p.tables e below _ (s₁.setTop (mkF m 1 #[.val (.ref ao), .val (.long qb), .second] [(.ref ao)]))
  obtain ⟨_, _, ⟨T1, L1, k1, n1⟩, -, X1, ⟨Lc1, hQ1, l1, y1, z1⟩, st1⟩ := X0.specialBack hx (y := (⟨"java/lang/Record", "<init>", "()V"⟩ : MethodName)) rfl hown (mvT hZ (hw _ (List.mem_of_getElem? (i := 7) rfl))) (mvT hZ (hw _ (List.mem_of_getElem? (i := 8) rfl))) (mvT hZ (hw _ (List.mem_of_getElem? (i := 11) rfl))) (by decide) (backOf (W := 0) (rm_rinit l Z a0 hw [] ao h0 n0 Z0 ) hZ (hw _ (List.mem_of_getElem? (i := 11) rfl)) (hw _ (List.mem_of_getElem? (i := 10) rfl)) (by decide) (by decide)) (g := (mkF m 1 #[.val (.ref ao), .val (.long qb), .second] [(.ref ao)])) rfl (by rw [hml]; rfl) (Steps.refl _) (a := ao) (argsL := []) (rest := []) (lenOf pd_0 rfl) rfl (by show 2 * 0 + _ ≤ _; exact Nat.le_of_eq rfl) (hb hby d_ninit_1) (fun _ _ => ⟨rfl, e0, (by decide : 0 + 0 ≤ _), (by decide : 0 + 0 ≤ _)⟩)
  dsimp only [Pt.U, Pt.locs, Pt.cells, Pt.slots] at X1 l1 y1 z1 st1 hQ1
  rw [l1, y1, z1] at X1
  obtain ⟨rfl, N1q, e1⟩ := hQ1
  have N1 := Fr.app N0 N1q
  refine Go.st (fun _ k => st1.trans k) ?_
  show Go p.tables e below _ (T1.setTop (mkF m 4 #[.val (.ref ao), .val (.long qb), .second] []))
  refine Go.st (fun _ k => XS.aloadN X1.here hx rfl (hb hby d_ninit_4) rfl rfl k) ?_
  show Go p.tables e below _ (T1.setTop (mkF m 5 #[.val (.ref ao), .val (.long qb), .second] [(.ref ao)]))
  refine Go.st (fun _ k => XS.lloadN X1.here hx rfl (hb hby d_ninit_5) rfl k) ?_
  show Go p.tables e below _ (T1.setTop (mkF m 6 #[.val (.ref ao), .val (.long qb), .second] [(.long qb), (.ref ao)]))
  obtain ⟨T2, h2, X2, e2, W2, st2⟩ := putF X1 hx hZ hown (host := "") (Or.inl (hw _ (List.mem_of_getElem? (i := 15) rfl))) Via.refl e1 Pf1 Pf0 (Or.inr ⟨(hw _ (List.mem_of_getElem? (i := 16) rfl)), rfl, hnm⟩) (hw _ (List.mem_of_getElem? (i := 2) rfl)) (ty := .long) (by decide) rfl rfl (g := (mkF m 6 #[.val (.ref ao), .val (.long qb), .second] [(.long qb), (.ref ao)])) rfl rfl (hb hby d_ninit_6)
  refine Go.st st2 ?_
  have F3 : Exa Z h2 ao "com/example/tallyroot/tallyroot/overlay/NodeId" := Pf0.wr W2
  have F4 : Fld Z h2 ao "com/example/tallyroot/tallyroot/overlay/NodeId" "bits" "J" (.long qb) := Pf1.same W2
  have K5 : Keep h0 h2 [ao] := K0.wr W2 (Or.inl (List.mem_of_getElem? (i := 0) rfl))
  have Z6 : n0 ≤ h2.size := Nat.le_trans Z0 (Nat.le_of_eq W2.size.symm)
  have N7 := Fr.snoc X2 N1 Pf2
  show Go p.tables e below _ (T2.setTop (mkF m 9 #[.val (.ref ao), .val (.long qb), .second] []))
  subst hG
  obtain ⟨fs, hr, hrun, hended, hW, hsame⟩ := X2.leave (v := none) (fun _ => rfl)
  refine ⟨_, _, ?_, hrun, hended, _, _, rfl, ?_, ⟨_, rfl⟩, hW, hsame.mono (by decide) (by decide)⟩
  · exact X2.returnOut hx Bd.returns (hb hby d_ninit_9) hr
  · show Q_ninit Z ao qb h0 n0 _ T2.heap _
    rw [e2]
    exact ⟨rfl, N7, K5, F3, F4⟩
theorem d_bits_0 : decode prog_42_method_11_code 0 = .ok (.aload_n 0, 1) := by decide +kernel
theorem d_bits_1 : decode prog_42_method_11_code 1 = .ok (.getfield 7, 3) := by decide +kernel
theorem d_bits_4 : decode prog_42_method_11_code 4 = .ok (.lreturn, 1) := by decide +kernel
theorem ef_bits (m : MethodId) (ao : Addr) : entryFrame m #[(.ref ao)] 1 = mkF m 0 #[.val (.ref ao)] [] := by first | (simp [entryFrame, mkF, argsToLocals, Value.category]; done) | rfl
def Q_bits (Z : State) (ao : Addr) (wb : Int64) (h0 : Heap) (n0 : Nat) (v : Option Value) (h : Heap) (L : List Loc) : Prop := v = some (.long wb) ∧ Fr n0 L ∧ h = h0
set_option maxRecDepth 65536 in
set_option maxHeartbeats 40000000 in
theorem rm_bits (l : Launch) (Z : State) (a0 : Array Value) (hw : ∀ d ∈ tables_1, d.before a0 Z = true) (ws : List Jvm.Cond) (ao : Addr) (wb : Int64) (h0 : Heap) (n0 : Nat) (Z0 : n0 ≤ h0.size) (Pf0 : Fld Z h0 ao "com/example/tallyroot/tallyroot/overlay/NodeId" "bits" "J" (.long wb)) :
    MetFree l (⟨"com/example/tallyroot/tallyroot/overlay/NodeId", "bits", "()J"⟩ : MethodName) (head1 (Jvm.Cond.code (⟨"com/example/tallyroot/tallyroot/overlay/NodeId", "bits", "()J"⟩ : MethodName) prog_42_method_11_code 1 (some .long) :: ws) ({ frames := 0, cells := 0, slots := 0, locals := 0 } : Room)) (fun a U => a = #[(.ref ao)] ∧ Z.Warmed39 U.vm ∧ U.heap = h0) (fun _ _ _ _ _ => True) (fun _ U o U' => ∃ v L, o = .returned v ∧ Q_bits Z ao wb h0 n0 v U'.heap L ∧ FrameEnd U o U' L ({ frames := 0, cells := 0, slots := 0, locals := 0 } : Room).cells ({ frames := 0, cells := 0, slots := 0, locals := 0 } : Room).slots) := by
  refine MetFree.of_bodySF (plainFor_of_name pn_1) hisR ?_
  intro p e s m args below meth c s₁ Bd hml0 hP hK
  obtain ⟨rfl, hZ, hh⟩ := hP
  have hx := Bd.exec
  have hby := Bd.bytes
  have hml : c.maxLocals = 1 := hml0
  have hown : s.vm.findClass "com/example/tallyroot/tallyroot/overlay/NodeId" = some m.cls := findClass_of_methodNamed Bd.named
  have hnm := (name_of_methodNamed Bd.named Bd.method).1
  have X0 : Stand p l e ({ frames := 0, cells := 0, slots := 0, locals := 0 } : Room) s m #[(.ref ao)] below meth c s₁ [] 0 0 := Stand.of_body Bd
  have e0 : s₁.heap = h0 := by rw [← hh, Bd.state]; rfl
  have N0 := Fr.nil n0
  have K0 : Keep h0 h0 [] := Keep.refl h0 []
  show Go p.tables e below _ (s₁.setTop (entryFrame m #[(.ref ao)] 1))
  refine Go.start ?_
  intro G hG
  refine Go.st (fun t k => castTop (ef_bits m ao) k) ?_
  show Go p.tables e below _ (s₁.setTop (mkF m 0 #[.val (.ref ao)] []))
  refine Go.st (fun _ k => XS.aloadN X0.here hx rfl (hb hby d_bits_0) rfl rfl k) ?_
  show Go p.tables e below _ (s₁.setTop (mkF m 1 #[.val (.ref ao)] [(.ref ao)]))
  obtain ⟨T1, X1, e1, st1⟩ := getF X0 hx hZ hown (host := "") (Or.inl (hw _ (List.mem_of_getElem? (i := 15) rfl))) Via.refl e0 Pf0 (g := (mkF m 1 #[.val (.ref ao)] [(.ref ao)])) rfl rfl (hb hby d_bits_1)
  refine Go.st st1 ?_
  show Go p.tables e below _ (T1.setTop (mkF m 4 #[.val (.ref ao)] [(.long wb)]))
  subst hG
  obtain ⟨fs, hr, hrun, hended, hW, hsame⟩ := X1.leave (v := some (.long wb)) (fun h => by rw [Bd.returns] at h; cases h)
  refine ⟨_, _, ?_, hrun, hended, _, _, rfl, ?_, ⟨_, rfl⟩, hW, hsame.mono (by decide) (by decide)⟩
  · exact retOut X1 hx Bd.returns rfl (Or.inr (Or.inl ⟨rfl, rfl, _, rfl⟩)) (hb hby d_bits_4) hr
  · show Q_bits Z ao wb h0 n0 _ T1.heap _
    rw [e1]
    exact ⟨rfl, N0, rfl⟩
theorem d_wr_0 : decode prog_42_method_8_code 0 = .ok (.iconst 0, 1) := by decide +kernel
theorem d_wr_1 : decode prog_42_method_8_code 1 = .ok (.istore_n 2, 1) := by decide +kernel
theorem d_wr_2 : decode prog_42_method_8_code 2 = .ok (.iload_n 2, 1) := by decide +kernel
theorem d_wr_3 : decode prog_42_method_8_code 3 = .ok (.bipush 16, 2) := by decide +kernel
theorem d_wr_5 : decode prog_42_method_8_code 5 = .ok (.if_icmp .ge 33, 3) := by decide +kernel
theorem d_wr_8 : decode prog_42_method_8_code 8 = .ok (.aload_n 0, 1) := by decide +kernel
theorem d_wr_9 : decode prog_42_method_8_code 9 = .ok (.getfield 7, 3) := by decide +kernel
theorem d_wr_12 : decode prog_42_method_8_code 12 = .ok (.iconst 4, 1) := by decide +kernel
theorem d_wr_13 : decode prog_42_method_8_code 13 = .ok (.bipush 15, 2) := by decide +kernel
theorem d_wr_15 : decode prog_42_method_8_code 15 = .ok (.iload_n 2, 1) := by decide +kernel
theorem d_wr_16 : decode prog_42_method_8_code 16 = .ok (.isub, 1) := by decide +kernel
theorem d_wr_17 : decode prog_42_method_8_code 17 = .ok (.imul, 1) := by decide +kernel
theorem d_wr_18 : decode prog_42_method_8_code 18 = .ok (.lushr, 1) := by decide +kernel
theorem d_wr_19 : decode prog_42_method_8_code 19 = .ok (.l2i, 1) := by decide +kernel
theorem d_wr_20 : decode prog_42_method_8_code 20 = .ok (.bipush 15, 2) := by decide +kernel
theorem d_wr_22 : decode prog_42_method_8_code 22 = .ok (.iand, 1) := by decide +kernel
theorem d_wr_23 : decode prog_42_method_8_code 23 = .ok (.istore_n 3, 1) := by decide +kernel
theorem d_wr_24 : decode prog_42_method_8_code 24 = .ok (.aload_n 1, 1) := by decide +kernel
theorem d_wr_25 : decode prog_42_method_8_code 25 = .ok (.iload_n 2, 1) := by decide +kernel
theorem d_wr_26 : decode prog_42_method_8_code 26 = .ok (.getstatic 66, 3) := by decide +kernel
theorem d_wr_29 : decode prog_42_method_8_code 29 = .ok (.iload_n 3, 1) := by decide +kernel
theorem d_wr_30 : decode prog_42_method_8_code 30 = .ok (.caload, 1) := by decide +kernel
theorem d_wr_31 : decode prog_42_method_8_code 31 = .ok (.castore, 1) := by decide +kernel
theorem d_wr_32 : decode prog_42_method_8_code 32 = .ok (.iinc 2 1, 3) := by decide +kernel
theorem d_wr_35 : decode prog_42_method_8_code 35 = .ok (.goto (-33), 3) := by decide +kernel
theorem d_wr_38 : decode prog_42_method_8_code 38 = .ok (.return_, 1) := by decide +kernel
theorem ef_wr (m : MethodId) (ao : Addr) (bo : Addr) : entryFrame m #[(.ref ao), (.ref bo)] 4 = mkF m 0 #[.val (.ref ao), .val (.ref bo), .unset, .unset] [] := by first | (simp [entryFrame, mkF, argsToLocals, Value.category]; done) | rfl
def Q_wr (Z : State) (ao : Addr) (bo : Addr) (qb : Int64) (kk : ClassId) (dgs : Addr) (kd : ClassId) (u0 : Int32) (u1 : Int32) (u2 : Int32) (u3 : Int32) (u4 : Int32) (u5 : Int32) (u6 : Int32) (u7 : Int32) (u8 : Int32) (u9 : Int32) (u10 : Int32) (u11 : Int32) (u12 : Int32) (u13 : Int32) (u14 : Int32) (u15 : Int32) (u16 : Int32) (u17 : Int32) (h0 : Heap) (n0 : Nat) (v : Option Value) (h : Heap) (L : List Loc) : Prop := v = none ∧ Fr n0 L ∧ Keep h0 h [bo] ∧ Arv Z h bo kk .char (18 : Int32) [(.int (dch (nibS qb (60 : Int32)))), (.int (dch (nibS qb (56 : Int32)))), (.int (dch (nibS qb (52 : Int32)))), (.int (dch (nibS qb (48 : Int32)))), (.int (dch (nibS qb (44 : Int32)))), (.int (dch (nibS qb (40 : Int32)))), (.int (dch (nibS qb (36 : Int32)))), (.int (dch (nibS qb (32 : Int32)))), (.int (dch (nibS qb (28 : Int32)))), (.int (dch (nibS qb (24 : Int32)))), (.int (dch (nibS qb (20 : Int32)))), (.int (dch (nibS qb (16 : Int32)))), (.int (dch (nibS qb (12 : Int32)))), (.int (dch (nibS qb (8 : Int32)))), (.int (dch (nibS qb (4 : Int32)))), (.int (dch (nibS qb (0 : Int32)))), (.int u16), (.int u17)] (.int (0 : Int32))
set_option maxRecDepth 65536 in
set_option maxHeartbeats 40000000 in
theorem rm_wr (l : Launch) (Z : State) (a0 : Array Value) (hw : ∀ d ∈ tables_1, d.before a0 Z = true) (ws : List Jvm.Cond) (ao : Addr) (bo : Addr) (qb : Int64) (kk : ClassId) (dgs : Addr) (kd : ClassId) (u0 : Int32) (u1 : Int32) (u2 : Int32) (u3 : Int32) (u4 : Int32) (u5 : Int32) (u6 : Int32) (u7 : Int32) (u8 : Int32) (u9 : Int32) (u10 : Int32) (u11 : Int32) (u12 : Int32) (u13 : Int32) (u14 : Int32) (u15 : Int32) (u16 : Int32) (u17 : Int32) (h0 : Heap) (n0 : Nat) (Z0 : n0 ≤ h0.size) (Pf0 : Fld Z h0 ao "com/example/tallyroot/tallyroot/overlay/NodeId" "bits" "J" (.long qb)) (Pf1 : Arv Z h0 bo kk .char (18 : Int32) [(.int u0), (.int u1), (.int u2), (.int u3), (.int u4), (.int u5), (.int u6), (.int u7), (.int u8), (.int u9), (.int u10), (.int u11), (.int u12), (.int u13), (.int u14), (.int u15), (.int u16), (.int u17)] (.int (0 : Int32))) (Pf2 : n0 ≤ bo) (Pf3 : Sta Z h0 "com/example/tallyroot/tallyroot/overlay/NodeId" "DIGITS" "[C" (.ref dgs)) (Pf4 : Arv Z h0 dgs kd .char (16 : Int32) [(.int (48 : Int32)), (.int (49 : Int32)), (.int (50 : Int32)), (.int (51 : Int32)), (.int (52 : Int32)), (.int (53 : Int32)), (.int (54 : Int32)), (.int (55 : Int32)), (.int (56 : Int32)), (.int (57 : Int32)), (.int (97 : Int32)), (.int (98 : Int32)), (.int (99 : Int32)), (.int (100 : Int32)), (.int (101 : Int32)), (.int (102 : Int32))] (.int (0 : Int32))) (hne1 : ao ≠ bo) (hne2 : dgs ≠ bo) :
    MetFree l (⟨"com/example/tallyroot/tallyroot/overlay/NodeId", "writeTo", "([C)V"⟩ : MethodName) (head1 (Jvm.Cond.code (⟨"com/example/tallyroot/tallyroot/overlay/NodeId", "writeTo", "([C)V"⟩ : MethodName) prog_42_method_8_code 4 none :: ws) ({ frames := 0, cells := 0, slots := 0, locals := 0 } : Room)) (fun a U => a = #[(.ref ao), (.ref bo)] ∧ Z.Warmed39 U.vm ∧ U.heap = h0) (fun _ _ _ _ _ => True) (fun _ U o U' => ∃ v L, o = .returned v ∧ Q_wr Z ao bo qb kk dgs kd u0 u1 u2 u3 u4 u5 u6 u7 u8 u9 u10 u11 u12 u13 u14 u15 u16 u17 h0 n0 v U'.heap L ∧ FrameEnd U o U' L ({ frames := 0, cells := 0, slots := 0, locals := 0 } : Room).cells ({ frames := 0, cells := 0, slots := 0, locals := 0 } : Room).slots) := by
  refine MetFree.of_bodySF (plainFor_of_name pn_1) hisR ?_
  intro p e s m args below meth c s₁ Bd hml0 hP hK
  obtain ⟨rfl, hZ, hh⟩ := hP
  have hx := Bd.exec
  have hby := Bd.bytes
  have hml : c.maxLocals = 4 := hml0
  have hown : s.vm.findClass "com/example/tallyroot/tallyroot/overlay/NodeId" = some m.cls := findClass_of_methodNamed Bd.named
  have hnm := (name_of_methodNamed Bd.named Bd.method).1
  have X0 : Stand p l e ({ frames := 0, cells := 0, slots := 0, locals := 0 } : Room) s m #[(.ref ao), (.ref bo)] below meth c s₁ [] 0 0 := Stand.of_body Bd
  have e0 : s₁.heap = h0 := by rw [← hh, Bd.state]; rfl
  have N0 := Fr.nil n0
  have K0 : Keep h0 h0 [bo] := Keep.refl h0 [bo]
  show Go p.tables e below _ (s₁.setTop (entryFrame m #[(.ref ao), (.ref bo)] 4))
  refine Go.start ?_
  intro G hG
  refine Go.st (fun t k => castTop (ef_wr m ao bo) k) ?_
  show Go p.tables e below _ (s₁.setTop (mkF m 0 #[.val (.ref ao), .val (.ref bo), .unset, .unset] []))
  refine Go.st (fun _ k => XS.iconst X0.here hx rfl (hb hby d_wr_0) k) ?_
  show Go p.tables e below _ (s₁.setTop (mkF m 1 #[.val (.ref ao), .val (.ref bo), .unset, .unset] [(.int (0 : Int32))]))
  refine Go.st (fun _ k => XS.istoreN X0.here hx rfl (hb hby d_wr_1) rfl (l' := #[.val (.ref ao), .val (.ref bo), .val (.int (0 : Int32)), .unset]) rfl k) ?_
  show Go p.tables e below _ (s₁.setTop (mkF m 2 #[.val (.ref ao), .val (.ref bo), .val (.int (0 : Int32)), .unset] []))
  refine Go.st (fun _ k => XS.iloadN X0.here hx rfl (hb hby d_wr_2) rfl k) ?_
  show Go p.tables e below _ (s₁.setTop (mkF m 3 #[.val (.ref ao), .val (.ref bo), .val (.int (0 : Int32)), .unset] [(.int (0 : Int32))]))
  refine Go.st (fun _ k => XS.bipush X0.here hx rfl (hb hby d_wr_3) k) ?_
  show Go p.tables e below _ (s₁.setTop (mkF m 5 #[.val (.ref ao), .val (.ref bo), .val (.int (0 : Int32)), .unset] [(.int (16 : Int32)), (.int (0 : Int32))]))
  have hl1 : (0 : Int32) < (16 : Int32) := by decide
  refine Go.st (fun _ k => XS.icmpNo X0.here hx rfl (hb hby d_wr_5) rfl (Jvm.Free.XT.ii_ge_f hl1) k) ?_
  show Go p.tables e below _ (s₁.setTop (mkF m 8 #[.val (.ref ao), .val (.ref bo), .val (.int (0 : Int32)), .unset] []))
  refine Go.st (fun _ k => XS.aloadN X0.here hx rfl (hb hby d_wr_8) rfl rfl k) ?_
  show Go p.tables e below _ (s₁.setTop (mkF m 9 #[.val (.ref ao), .val (.ref bo), .val (.int (0 : Int32)), .unset] [(.ref ao)]))
  obtain ⟨T2, X2, e2, st2⟩ := getF X0 hx hZ hown (host := "") (Or.inl (hw _ (List.mem_of_getElem? (i := 15) rfl))) Via.refl e0 Pf0 (g := (mkF m 9 #[.val (.ref ao), .val (.ref bo), .val (.int (0 : Int32)), .unset] [(.ref ao)])) rfl rfl (hb hby d_wr_9)
  refine Go.st st2 ?_
  show Go p.tables e below _ (T2.setTop (mkF m 12 #[.val (.ref ao), .val (.ref bo), .val (.int (0 : Int32)), .unset] [(.long qb)]))
  refine Go.st (fun _ k => XS.iconst X2.here hx rfl (hb hby d_wr_12) k) ?_
  show Go p.tables e below _ (T2.setTop (mkF m 13 #[.val (.ref ao), .val (.ref bo), .val (.int (0 : Int32)), .unset] [(.int (4 : Int32)), (.long qb)]))
  refine Go.st (fun _ k => XS.bipush X2.here hx rfl (hb hby d_wr_13) k) ?_
  show Go p.tables e below _ (T2.setTop (mkF m 15 #[.val (.ref ao), .val (.ref bo), .val (.int (0 : Int32)), .unset] [(.int (15 : Int32)), (.int (4 : Int32)), (.long qb)]))
  refine Go.st (fun _ k => XS.iloadN X2.here hx rfl (hb hby d_wr_15) rfl k) ?_
  show Go p.tables e below _ (T2.setTop (mkF m 16 #[.val (.ref ao), .val (.ref bo), .val (.int (0 : Int32)), .unset] [(.int (0 : Int32)), (.int (15 : Int32)), (.int (4 : Int32)), (.long qb)]))
  refine Go.st (fun _ k => XS.isub X2.here hx rfl (hb hby d_wr_16) rfl k) ?_
  show Go p.tables e below _ (T2.setTop (mkF m 17 #[.val (.ref ao), .val (.ref bo), .val (.int (0 : Int32)), .unset] [(.int ((15 : Int32) - (0 : Int32))), (.int (4 : Int32)), (.long qb)]))
  rw [show ((15 : Int32) - (0 : Int32)) = (15 : Int32) from by decide]
  show Go p.tables e below _ (T2.setTop (mkF m 17 #[.val (.ref ao), .val (.ref bo), .val (.int (0 : Int32)), .unset] [(.int (15 : Int32)), (.int (4 : Int32)), (.long qb)]))
  refine Go.st (fun _ k => XS.imul X2.here hx rfl (hb hby d_wr_17) rfl k) ?_
  show Go p.tables e below _ (T2.setTop (mkF m 18 #[.val (.ref ao), .val (.ref bo), .val (.int (0 : Int32)), .unset] [(.int ((4 : Int32) * (15 : Int32))), (.long qb)]))
  rw [show ((4 : Int32) * (15 : Int32)) = (60 : Int32) from by decide]
  show Go p.tables e below _ (T2.setTop (mkF m 18 #[.val (.ref ao), .val (.ref bo), .val (.int (0 : Int32)), .unset] [(.int (60 : Int32)), (.long qb)]))
  refine Go.st (fun _ k => XS.lushr X2.here hx rfl (hb hby d_wr_18) rfl k) ?_
  show Go p.tables e below _ (T2.setTop (mkF m 19 #[.val (.ref ao), .val (.ref bo), .val (.int (0 : Int32)), .unset] [(.long ((qb.toUInt64 >>> ((60 : Int32) &&& 0x3f).toInt64.toUInt64).toInt64))]))
  refine Go.st (fun _ k => XS.l2i X2.here hx rfl (hb hby d_wr_19) rfl k) ?_
  show Go p.tables e below _ (T2.setTop (mkF m 20 #[.val (.ref ao), .val (.ref bo), .val (.int (0 : Int32)), .unset] [(.int (((qb.toUInt64 >>> ((60 : Int32) &&& 0x3f).toInt64.toUInt64).toInt64).toInt32))]))
  refine Go.st (fun _ k => XS.bipush X2.here hx rfl (hb hby d_wr_20) k) ?_
  show Go p.tables e below _ (T2.setTop (mkF m 22 #[.val (.ref ao), .val (.ref bo), .val (.int (0 : Int32)), .unset] [(.int (15 : Int32)), (.int (((qb.toUInt64 >>> ((60 : Int32) &&& 0x3f).toInt64.toUInt64).toInt64).toInt32))]))
  refine Go.st (fun _ k => XS.iand X2.here hx rfl (hb hby d_wr_22) rfl k) ?_
  show Go p.tables e below _ (T2.setTop (mkF m 23 #[.val (.ref ao), .val (.ref bo), .val (.int (0 : Int32)), .unset] [(.int ((((qb.toUInt64 >>> ((60 : Int32) &&& 0x3f).toInt64.toUInt64).toInt64).toInt32) &&& (15 : Int32)))]))
  refine Go.st (fun _ k => XS.istoreN X2.here hx rfl (hb hby d_wr_23) rfl (l' := #[.val (.ref ao), .val (.ref bo), .val (.int (0 : Int32)), .val (.int ((((qb.toUInt64 >>> ((60 : Int32) &&& 0x3f).toInt64.toUInt64).toInt64).toInt32) &&& (15 : Int32)))]) rfl k) ?_
  show Go p.tables e below _ (T2.setTop (mkF m 24 #[.val (.ref ao), .val (.ref bo), .val (.int (0 : Int32)), .val (.int (nibS qb (60 : Int32)))] []))
  refine Go.st (fun _ k => XS.aloadN X2.here hx rfl (hb hby d_wr_24) rfl rfl k) ?_
  show Go p.tables e below _ (T2.setTop (mkF m 25 #[.val (.ref ao), .val (.ref bo), .val (.int (0 : Int32)), .val (.int (nibS qb (60 : Int32)))] [(.ref bo)]))
  refine Go.st (fun _ k => XS.iloadN X2.here hx rfl (hb hby d_wr_25) rfl k) ?_
  show Go p.tables e below _ (T2.setTop (mkF m 26 #[.val (.ref ao), .val (.ref bo), .val (.int (0 : Int32)), .val (.int (nibS qb (60 : Int32)))] [(.int (0 : Int32)), (.ref bo)]))
  obtain ⟨T3, X3, e3, st3⟩ := getS2 X2 hx hZ hown (host := "") (Or.inl (hw _ (List.mem_of_getElem? (i := 22) rfl))) Via.refl e2 Pf3 (g := (mkF m 26 #[.val (.ref ao), .val (.ref bo), .val (.int (0 : Int32)), .val (.int (nibS qb (60 : Int32)))] [(.int (0 : Int32)), (.ref bo)])) rfl (hb hby d_wr_26)
  refine Go.st st3 ?_
  show Go p.tables e below _ (T3.setTop (mkF m 29 #[.val (.ref ao), .val (.ref bo), .val (.int (0 : Int32)), .val (.int (nibS qb (60 : Int32)))] [(.ref dgs), (.int (0 : Int32)), (.ref bo)]))
  refine Go.st (fun _ k => XS.iloadN X3.here hx rfl (hb hby d_wr_29) rfl k) ?_
  show Go p.tables e below _ (T3.setTop (mkF m 30 #[.val (.ref ao), .val (.ref bo), .val (.int (0 : Int32)), .val (.int (nibS qb (60 : Int32)))] [(.int (nibS qb (60 : Int32))), (.ref dgs), (.int (0 : Int32)), (.ref bo)]))
  obtain ⟨cl4, Ar4, q4, S4, M4, H4, G4⟩ := id Pf4
  have hin4 : ¬ ((nibS qb (60 : Int32)) < 0 ∨ cl4.slots.size ≤ ((nibS qb (60 : Int32))).toNatClampNeg) := inb_of S4 (own_nibb _ _)
  have hat4 : cl4.slots[((nibS qb (60 : Int32))).toNatClampNeg]? = some (.int (dch (nibS qb (60 : Int32)))) := Has.at H4 hin4 (own_dget (own_nib _ _))
  refine Go.st (fun _ k => X3.caload hx (j := (nibS qb (60 : Int32))) (v := (.int (dch (nibS qb (60 : Int32))))) (by rw [e3]; exact Ar4.1) (State.isArrayOf_alike hZ.alike Ar4.2.1) Ar4.2.2 hin4 hat4 (g := (mkF m 30 #[.val (.ref ao), .val (.ref bo), .val (.int (0 : Int32)), .val (.int (nibS qb (60 : Int32)))] [(.int (nibS qb (60 : Int32))), (.ref dgs), (.int (0 : Int32)), (.ref bo)])) rfl rfl (hb hby d_wr_30) _ k) ?_
  show Go p.tables e below _ (T3.setTop (mkF m 31 #[.val (.ref ao), .val (.ref bo), .val (.int (0 : Int32)), .val (.int (nibS qb (60 : Int32)))] [(.int (dch (nibS qb (60 : Int32)))), (.int (0 : Int32)), (.ref bo)]))
  obtain ⟨cl5, Ar5, q5, S5, M5, H5, G5⟩ := id Pf1
  have hin5 : ¬ ((0 : Int32) < 0 ∨ cl5.slots.size ≤ ((0 : Int32)).toNatClampNeg) := inb_of S5 ⟨by decide, by decide⟩
  obtain ⟨T5, h5, X5, e5, W5, st5⟩ := stC X3 hx hZ e3 Ar5 (j := (0 : Int32)) hin5 (g := (mkF m 31 #[.val (.ref ao), .val (.ref bo), .val (.int (0 : Int32)), .val (.int (nibS qb (60 : Int32)))] [(.int (dch (nibS qb (60 : Int32)))), (.int (0 : Int32)), (.ref bo)])) rfl rfl (hb hby d_wr_31)
  rw [(own_dchn (own_nib _ _))] at W5
  refine Go.st st5 ?_
  have F6 : Fld Z h5 ao "com/example/tallyroot/tallyroot/overlay/NodeId" "bits" "J" (.long qb) := Pf0.other W5 (Or.inl hne1)
  have F7 : Arv Z h5 bo kk .char (18 : Int32) [(.int (dch (nibS qb (60 : Int32)))), (.int u1), (.int u2), (.int u3), (.int u4), (.int u5), (.int u6), (.int u7), (.int u8), (.int u9), (.int u10), (.int u11), (.int u12), (.int u13), (.int u14), (.int u15), (.int u16), (.int u17)] (.int (0 : Int32)) := Arv.set Ar5 q5 S5 M5 H5 G5 (by have h_ := fits_nar_char (dch (nibS qb (60 : Int32))); rw [show nar .char (dch (nibS qb (60 : Int32))) = (dch (nibS qb (60 : Int32))) from (own_dchn (own_nib _ _))] at h_; exact h_) W5 0 rfl (Nat.le_of_ble_eq_true rfl)
  have F8 : Sta Z h5 "com/example/tallyroot/tallyroot/overlay/NodeId" "DIGITS" "[C" (.ref dgs) := Pf3.wr W5
  have F9 : Arv Z h5 dgs kd .char (16 : Int32) [(.int (48 : Int32)), (.int (49 : Int32)), (.int (50 : Int32)), (.int (51 : Int32)), (.int (52 : Int32)), (.int (53 : Int32)), (.int (54 : Int32)), (.int (55 : Int32)), (.int (56 : Int32)), (.int (57 : Int32)), (.int (97 : Int32)), (.int (98 : Int32)), (.int (99 : Int32)), (.int (100 : Int32)), (.int (101 : Int32)), (.int (102 : Int32))] (.int (0 : Int32)) := Pf4.other W5 hne2
  have K10 : Keep h0 h5 [bo] := K0.wr W5 (Or.inl (List.mem_of_getElem? (i := 0) rfl))
  have Z11 : n0 ≤ h5.size := Nat.le_trans Z0 (Nat.le_of_eq W5.size.symm)
  have N12 := Fr.snoc X5 N0 Pf2
  show Go p.tables e below _ (T5.setTop (mkF m 32 #[.val (.ref ao), .val (.ref bo), .val (.int (0 : Int32)), .val (.int (nibS qb (60 : Int32)))] []))
  refine Go.st (fun _ k => XS.iinc X5.here hx rfl (hb hby d_wr_32) rfl (l' := #[.val (.ref ao), .val (.ref bo), .val (.int ((0 : Int32) + (1 : Int32))), .val (.int (nibS qb (60 : Int32)))]) rfl k) ?_
  show Go p.tables e below _ (T5.setTop (mkF m 35 #[.val (.ref ao), .val (.ref bo), .val (.int ((0 : Int32) + (1 : Int32))), .val (.int (nibS qb (60 : Int32)))] []))
  rw [show ((0 : Int32) + (1 : Int32)) = (1 : Int32) from by decide]
  show Go p.tables e below _ (T5.setTop (mkF m 35 #[.val (.ref ao), .val (.ref bo), .val (.int (1 : Int32)), .val (.int (nibS qb (60 : Int32)))] []))
  refine Go.st (fun _ k => XS.goto X5.here hx rfl (pc0 := 35) (pc' := 2) rfl (hb hby d_wr_35) (by decide) (by decide) k) ?_
  show Go p.tables e below _ (T5.setTop (mkF m 2 #[.val (.ref ao), .val (.ref bo), .val (.int (1 : Int32)), .val (.int (nibS qb (60 : Int32)))] []))
  refine Go.st (fun _ k => XS.iloadN X5.here hx rfl (hb hby d_wr_2) rfl k) ?_
  show Go p.tables e below _ (T5.setTop (mkF m 3 #[.val (.ref ao), .val (.ref bo), .val (.int (1 : Int32)), .val (.int (nibS qb (60 : Int32)))] [(.int (1 : Int32))]))
  refine Go.st (fun _ k => XS.bipush X5.here hx rfl (hb hby d_wr_3) k) ?_
  show Go p.tables e below _ (T5.setTop (mkF m 5 #[.val (.ref ao), .val (.ref bo), .val (.int (1 : Int32)), .val (.int (nibS qb (60 : Int32)))] [(.int (16 : Int32)), (.int (1 : Int32))]))
  have hl13 : (1 : Int32) < (16 : Int32) := by decide
  refine Go.st (fun _ k => XS.icmpNo X5.here hx rfl (hb hby d_wr_5) rfl (Jvm.Free.XT.ii_ge_f hl13) k) ?_
  show Go p.tables e below _ (T5.setTop (mkF m 8 #[.val (.ref ao), .val (.ref bo), .val (.int (1 : Int32)), .val (.int (nibS qb (60 : Int32)))] []))
  refine Go.st (fun _ k => XS.aloadN X5.here hx rfl (hb hby d_wr_8) rfl rfl k) ?_
  show Go p.tables e below _ (T5.setTop (mkF m 9 #[.val (.ref ao), .val (.ref bo), .val (.int (1 : Int32)), .val (.int (nibS qb (60 : Int32)))] [(.ref ao)]))
  obtain ⟨T14, X14, e14, st14⟩ := getF X5 hx hZ hown (host := "") (Or.inl (hw _ (List.mem_of_getElem? (i := 15) rfl))) Via.refl e5 F6 (g := (mkF m 9 #[.val (.ref ao), .val (.ref bo), .val (.int (1 : Int32)), .val (.int (nibS qb (60 : Int32)))] [(.ref ao)])) rfl rfl (hb hby d_wr_9)
  refine Go.st st14 ?_
  show Go p.tables e below _ (T14.setTop (mkF m 12 #[.val (.ref ao), .val (.ref bo), .val (.int (1 : Int32)), .val (.int (nibS qb (60 : Int32)))] [(.long qb)]))
  refine Go.st (fun _ k => XS.iconst X14.here hx rfl (hb hby d_wr_12) k) ?_
  show Go p.tables e below _ (T14.setTop (mkF m 13 #[.val (.ref ao), .val (.ref bo), .val (.int (1 : Int32)), .val (.int (nibS qb (60 : Int32)))] [(.int (4 : Int32)), (.long qb)]))
  refine Go.st (fun _ k => XS.bipush X14.here hx rfl (hb hby d_wr_13) k) ?_
  show Go p.tables e below _ (T14.setTop (mkF m 15 #[.val (.ref ao), .val (.ref bo), .val (.int (1 : Int32)), .val (.int (nibS qb (60 : Int32)))] [(.int (15 : Int32)), (.int (4 : Int32)), (.long qb)]))
  refine Go.st (fun _ k => XS.iloadN X14.here hx rfl (hb hby d_wr_15) rfl k) ?_
  show Go p.tables e below _ (T14.setTop (mkF m 16 #[.val (.ref ao), .val (.ref bo), .val (.int (1 : Int32)), .val (.int (nibS qb (60 : Int32)))] [(.int (1 : Int32)), (.int (15 : Int32)), (.int (4 : Int32)), (.long qb)]))
  refine Go.st (fun _ k => XS.isub X14.here hx rfl (hb hby d_wr_16) rfl k) ?_
  show Go p.tables e below _ (T14.setTop (mkF m 17 #[.val (.ref ao), .val (.ref bo), .val (.int (1 : Int32)), .val (.int (nibS qb (60 : Int32)))] [(.int ((15 : Int32) - (1 : Int32))), (.int (4 : Int32)), (.long qb)]))
  rw [show ((15 : Int32) - (1 : Int32)) = (14 : Int32) from by decide]
  show Go p.tables e below _ (T14.setTop (mkF m 17 #[.val (.ref ao), .val (.ref bo), .val (.int (1 : Int32)), .val (.int (nibS qb (60 : Int32)))] [(.int (14 : Int32)), (.int (4 : Int32)), (.long qb)]))
  refine Go.st (fun _ k => XS.imul X14.here hx rfl (hb hby d_wr_17) rfl k) ?_
  show Go p.tables e below _ (T14.setTop (mkF m 18 #[.val (.ref ao), .val (.ref bo), .val (.int (1 : Int32)), .val (.int (nibS qb (60 : Int32)))] [(.int ((4 : Int32) * (14 : Int32))), (.long qb)]))
  rw [show ((4 : Int32) * (14 : Int32)) = (56 : Int32) from by decide]
  show Go p.tables e below _ (T14.setTop (mkF m 18 #[.val (.ref ao), .val (.ref bo), .val (.int (1 : Int32)), .val (.int (nibS qb (60 : Int32)))] [(.int (56 : Int32)), (.long qb)]))
  refine Go.st (fun _ k => XS.lushr X14.here hx rfl (hb hby d_wr_18) rfl k) ?_
  show Go p.tables e below _ (T14.setTop (mkF m 19 #[.val (.ref ao), .val (.ref bo), .val (.int (1 : Int32)), .val (.int (nibS qb (60 : Int32)))] [(.long ((qb.toUInt64 >>> ((56 : Int32) &&& 0x3f).toInt64.toUInt64).toInt64))]))
  refine Go.st (fun _ k => XS.l2i X14.here hx rfl (hb hby d_wr_19) rfl k) ?_
  show Go p.tables e below _ (T14.setTop (mkF m 20 #[.val (.ref ao), .val (.ref bo), .val (.int (1 : Int32)), .val (.int (nibS qb (60 : Int32)))] [(.int (((qb.toUInt64 >>> ((56 : Int32) &&& 0x3f).toInt64.toUInt64).toInt64).toInt32))]))
  refine Go.st (fun _ k => XS.bipush X14.here hx rfl (hb hby d_wr_20) k) ?_
  show Go p.tables e below _ (T14.setTop (mkF m 22 #[.val (.ref ao), .val (.ref bo), .val (.int (1 : Int32)), .val (.int (nibS qb (60 : Int32)))] [(.int (15 : Int32)), (.int (((qb.toUInt64 >>> ((56 : Int32) &&& 0x3f).toInt64.toUInt64).toInt64).toInt32))]))
  refine Go.st (fun _ k => XS.iand X14.here hx rfl (hb hby d_wr_22) rfl k) ?_
  show Go p.tables e below _ (T14.setTop (mkF m 23 #[.val (.ref ao), .val (.ref bo), .val (.int (1 : Int32)), .val (.int (nibS qb (60 : Int32)))] [(.int ((((qb.toUInt64 >>> ((56 : Int32) &&& 0x3f).toInt64.toUInt64).toInt64).toInt32) &&& (15 : Int32)))]))
  refine Go.st (fun _ k => XS.istoreN X14.here hx rfl (hb hby d_wr_23) rfl (l' := #[.val (.ref ao), .val (.ref bo), .val (.int (1 : Int32)), .val (.int ((((qb.toUInt64 >>> ((56 : Int32) &&& 0x3f).toInt64.toUInt64).toInt64).toInt32) &&& (15 : Int32)))]) rfl k) ?_
  show Go p.tables e below _ (T14.setTop (mkF m 24 #[.val (.ref ao), .val (.ref bo), .val (.int (1 : Int32)), .val (.int (nibS qb (56 : Int32)))] []))
  refine Go.st (fun _ k => XS.aloadN X14.here hx rfl (hb hby d_wr_24) rfl rfl k) ?_
  show Go p.tables e below _ (T14.setTop (mkF m 25 #[.val (.ref ao), .val (.ref bo), .val (.int (1 : Int32)), .val (.int (nibS qb (56 : Int32)))] [(.ref bo)]))
  refine Go.st (fun _ k => XS.iloadN X14.here hx rfl (hb hby d_wr_25) rfl k) ?_
  show Go p.tables e below _ (T14.setTop (mkF m 26 #[.val (.ref ao), .val (.ref bo), .val (.int (1 : Int32)), .val (.int (nibS qb (56 : Int32)))] [(.int (1 : Int32)), (.ref bo)]))
  obtain ⟨T15, X15, e15, st15⟩ := getS2 X14 hx hZ hown (host := "") (Or.inl (hw _ (List.mem_of_getElem? (i := 22) rfl))) Via.refl e14 F8 (g := (mkF m 26 #[.val (.ref ao), .val (.ref bo), .val (.int (1 : Int32)), .val (.int (nibS qb (56 : Int32)))] [(.int (1 : Int32)), (.ref bo)])) rfl (hb hby d_wr_26)
  refine Go.st st15 ?_
  show Go p.tables e below _ (T15.setTop (mkF m 29 #[.val (.ref ao), .val (.ref bo), .val (.int (1 : Int32)), .val (.int (nibS qb (56 : Int32)))] [(.ref dgs), (.int (1 : Int32)), (.ref bo)]))
  refine Go.st (fun _ k => XS.iloadN X15.here hx rfl (hb hby d_wr_29) rfl k) ?_
  show Go p.tables e below _ (T15.setTop (mkF m 30 #[.val (.ref ao), .val (.ref bo), .val (.int (1 : Int32)), .val (.int (nibS qb (56 : Int32)))] [(.int (nibS qb (56 : Int32))), (.ref dgs), (.int (1 : Int32)), (.ref bo)]))
  obtain ⟨cl16, Ar16, q16, S16, M16, H16, G16⟩ := id F9
  have hin16 : ¬ ((nibS qb (56 : Int32)) < 0 ∨ cl16.slots.size ≤ ((nibS qb (56 : Int32))).toNatClampNeg) := inb_of S16 (own_nibb _ _)
  have hat16 : cl16.slots[((nibS qb (56 : Int32))).toNatClampNeg]? = some (.int (dch (nibS qb (56 : Int32)))) := Has.at H16 hin16 (own_dget (own_nib _ _))
  refine Go.st (fun _ k => X15.caload hx (j := (nibS qb (56 : Int32))) (v := (.int (dch (nibS qb (56 : Int32))))) (by rw [e15]; exact Ar16.1) (State.isArrayOf_alike hZ.alike Ar16.2.1) Ar16.2.2 hin16 hat16 (g := (mkF m 30 #[.val (.ref ao), .val (.ref bo), .val (.int (1 : Int32)), .val (.int (nibS qb (56 : Int32)))] [(.int (nibS qb (56 : Int32))), (.ref dgs), (.int (1 : Int32)), (.ref bo)])) rfl rfl (hb hby d_wr_30) _ k) ?_
  show Go p.tables e below _ (T15.setTop (mkF m 31 #[.val (.ref ao), .val (.ref bo), .val (.int (1 : Int32)), .val (.int (nibS qb (56 : Int32)))] [(.int (dch (nibS qb (56 : Int32)))), (.int (1 : Int32)), (.ref bo)]))
  obtain ⟨cl17, Ar17, q17, S17, M17, H17, G17⟩ := id F7
  have hin17 : ¬ ((1 : Int32) < 0 ∨ cl17.slots.size ≤ ((1 : Int32)).toNatClampNeg) := inb_of S17 ⟨by decide, by decide⟩
  obtain ⟨T17, h17, X17, e17, W17, st17⟩ := stC X15 hx hZ e15 Ar17 (j := (1 : Int32)) hin17 (g := (mkF m 31 #[.val (.ref ao), .val (.ref bo), .val (.int (1 : Int32)), .val (.int (nibS qb (56 : Int32)))] [(.int (dch (nibS qb (56 : Int32)))), (.int (1 : Int32)), (.ref bo)])) rfl rfl (hb hby d_wr_31)
  rw [(own_dchn (own_nib _ _))] at W17
  refine Go.st st17 ?_
  have F18 : Fld Z h17 ao "com/example/tallyroot/tallyroot/overlay/NodeId" "bits" "J" (.long qb) := F6.other W17 (Or.inl hne1)
  have F19 : Arv Z h17 bo kk .char (18 : Int32) [(.int (dch (nibS qb (60 : Int32)))), (.int (dch (nibS qb (56 : Int32)))), (.int u2), (.int u3), (.int u4), (.int u5), (.int u6), (.int u7), (.int u8), (.int u9), (.int u10), (.int u11), (.int u12), (.int u13), (.int u14), (.int u15), (.int u16), (.int u17)] (.int (0 : Int32)) := Arv.set Ar17 q17 S17 M17 H17 G17 (by have h_ := fits_nar_char (dch (nibS qb (56 : Int32))); rw [show nar .char (dch (nibS qb (56 : Int32))) = (dch (nibS qb (56 : Int32))) from (own_dchn (own_nib _ _))] at h_; exact h_) W17 1 rfl (Nat.le_of_ble_eq_true rfl)
  have F20 : Sta Z h17 "com/example/tallyroot/tallyroot/overlay/NodeId" "DIGITS" "[C" (.ref dgs) := F8.wr W17
  have F21 : Arv Z h17 dgs kd .char (16 : Int32) [(.int (48 : Int32)), (.int (49 : Int32)), (.int (50 : Int32)), (.int (51 : Int32)), (.int (52 : Int32)), (.int (53 : Int32)), (.int (54 : Int32)), (.int (55 : Int32)), (.int (56 : Int32)), (.int (57 : Int32)), (.int (97 : Int32)), (.int (98 : Int32)), (.int (99 : Int32)), (.int (100 : Int32)), (.int (101 : Int32)), (.int (102 : Int32))] (.int (0 : Int32)) := F9.other W17 hne2
  have K22 : Keep h0 h17 [bo] := K10.wr W17 (Or.inl (List.mem_of_getElem? (i := 0) rfl))
  have Z23 : n0 ≤ h17.size := Nat.le_trans Z11 (Nat.le_of_eq W17.size.symm)
  have N24 := Fr.snoc X17 N12 Pf2
  show Go p.tables e below _ (T17.setTop (mkF m 32 #[.val (.ref ao), .val (.ref bo), .val (.int (1 : Int32)), .val (.int (nibS qb (56 : Int32)))] []))
  refine Go.st (fun _ k => XS.iinc X17.here hx rfl (hb hby d_wr_32) rfl (l' := #[.val (.ref ao), .val (.ref bo), .val (.int ((1 : Int32) + (1 : Int32))), .val (.int (nibS qb (56 : Int32)))]) rfl k) ?_
  show Go p.tables e below _ (T17.setTop (mkF m 35 #[.val (.ref ao), .val (.ref bo), .val (.int ((1 : Int32) + (1 : Int32))), .val (.int (nibS qb (56 : Int32)))] []))
  rw [show ((1 : Int32) + (1 : Int32)) = (2 : Int32) from by decide]
  show Go p.tables e below _ (T17.setTop (mkF m 35 #[.val (.ref ao), .val (.ref bo), .val (.int (2 : Int32)), .val (.int (nibS qb (56 : Int32)))] []))
  refine Go.st (fun _ k => XS.goto X17.here hx rfl (pc0 := 35) (pc' := 2) rfl (hb hby d_wr_35) (by decide) (by decide) k) ?_
  show Go p.tables e below _ (T17.setTop (mkF m 2 #[.val (.ref ao), .val (.ref bo), .val (.int (2 : Int32)), .val (.int (nibS qb (56 : Int32)))] []))
  refine Go.st (fun _ k => XS.iloadN X17.here hx rfl (hb hby d_wr_2) rfl k) ?_
  show Go p.tables e below _ (T17.setTop (mkF m 3 #[.val (.ref ao), .val (.ref bo), .val (.int (2 : Int32)), .val (.int (nibS qb (56 : Int32)))] [(.int (2 : Int32))]))
  refine Go.st (fun _ k => XS.bipush X17.here hx rfl (hb hby d_wr_3) k) ?_
  show Go p.tables e below _ (T17.setTop (mkF m 5 #[.val (.ref ao), .val (.ref bo), .val (.int (2 : Int32)), .val (.int (nibS qb (56 : Int32)))] [(.int (16 : Int32)), (.int (2 : Int32))]))
  have hl25 : (2 : Int32) < (16 : Int32) := by decide
  refine Go.st (fun _ k => XS.icmpNo X17.here hx rfl (hb hby d_wr_5) rfl (Jvm.Free.XT.ii_ge_f hl25) k) ?_
  show Go p.tables e below _ (T17.setTop (mkF m 8 #[.val (.ref ao), .val (.ref bo), .val (.int (2 : Int32)), .val (.int (nibS qb (56 : Int32)))] []))
  refine Go.st (fun _ k => XS.aloadN X17.here hx rfl (hb hby d_wr_8) rfl rfl k) ?_
  show Go p.tables e below _ (T17.setTop (mkF m 9 #[.val (.ref ao), .val (.ref bo), .val (.int (2 : Int32)), .val (.int (nibS qb (56 : Int32)))] [(.ref ao)]))
  obtain ⟨T26, X26, e26, st26⟩ := getF X17 hx hZ hown (host := "") (Or.inl (hw _ (List.mem_of_getElem? (i := 15) rfl))) Via.refl e17 F18 (g := (mkF m 9 #[.val (.ref ao), .val (.ref bo), .val (.int (2 : Int32)), .val (.int (nibS qb (56 : Int32)))] [(.ref ao)])) rfl rfl (hb hby d_wr_9)
  refine Go.st st26 ?_
  show Go p.tables e below _ (T26.setTop (mkF m 12 #[.val (.ref ao), .val (.ref bo), .val (.int (2 : Int32)), .val (.int (nibS qb (56 : Int32)))] [(.long qb)]))
  refine Go.st (fun _ k => XS.iconst X26.here hx rfl (hb hby d_wr_12) k) ?_
  show Go p.tables e below _ (T26.setTop (mkF m 13 #[.val (.ref ao), .val (.ref bo), .val (.int (2 : Int32)), .val (.int (nibS qb (56 : Int32)))] [(.int (4 : Int32)), (.long qb)]))
  refine Go.st (fun _ k => XS.bipush X26.here hx rfl (hb hby d_wr_13) k) ?_
  show Go p.tables e below _ (T26.setTop (mkF m 15 #[.val (.ref ao), .val (.ref bo), .val (.int (2 : Int32)), .val (.int (nibS qb (56 : Int32)))] [(.int (15 : Int32)), (.int (4 : Int32)), (.long qb)]))
  refine Go.st (fun _ k => XS.iloadN X26.here hx rfl (hb hby d_wr_15) rfl k) ?_
  show Go p.tables e below _ (T26.setTop (mkF m 16 #[.val (.ref ao), .val (.ref bo), .val (.int (2 : Int32)), .val (.int (nibS qb (56 : Int32)))] [(.int (2 : Int32)), (.int (15 : Int32)), (.int (4 : Int32)), (.long qb)]))
  refine Go.st (fun _ k => XS.isub X26.here hx rfl (hb hby d_wr_16) rfl k) ?_
  show Go p.tables e below _ (T26.setTop (mkF m 17 #[.val (.ref ao), .val (.ref bo), .val (.int (2 : Int32)), .val (.int (nibS qb (56 : Int32)))] [(.int ((15 : Int32) - (2 : Int32))), (.int (4 : Int32)), (.long qb)]))
  rw [show ((15 : Int32) - (2 : Int32)) = (13 : Int32) from by decide]
  show Go p.tables e below _ (T26.setTop (mkF m 17 #[.val (.ref ao), .val (.ref bo), .val (.int (2 : Int32)), .val (.int (nibS qb (56 : Int32)))] [(.int (13 : Int32)), (.int (4 : Int32)), (.long qb)]))
  refine Go.st (fun _ k => XS.imul X26.here hx rfl (hb hby d_wr_17) rfl k) ?_
  show Go p.tables e below _ (T26.setTop (mkF m 18 #[.val (.ref ao), .val (.ref bo), .val (.int (2 : Int32)), .val (.int (nibS qb (56 : Int32)))] [(.int ((4 : Int32) * (13 : Int32))), (.long qb)]))
  rw [show ((4 : Int32) * (13 : Int32)) = (52 : Int32) from by decide]
  show Go p.tables e below _ (T26.setTop (mkF m 18 #[.val (.ref ao), .val (.ref bo), .val (.int (2 : Int32)), .val (.int (nibS qb (56 : Int32)))] [(.int (52 : Int32)), (.long qb)]))
  refine Go.st (fun _ k => XS.lushr X26.here hx rfl (hb hby d_wr_18) rfl k) ?_
  show Go p.tables e below _ (T26.setTop (mkF m 19 #[.val (.ref ao), .val (.ref bo), .val (.int (2 : Int32)), .val (.int (nibS qb (56 : Int32)))] [(.long ((qb.toUInt64 >>> ((52 : Int32) &&& 0x3f).toInt64.toUInt64).toInt64))]))
  refine Go.st (fun _ k => XS.l2i X26.here hx rfl (hb hby d_wr_19) rfl k) ?_
  show Go p.tables e below _ (T26.setTop (mkF m 20 #[.val (.ref ao), .val (.ref bo), .val (.int (2 : Int32)), .val (.int (nibS qb (56 : Int32)))] [(.int (((qb.toUInt64 >>> ((52 : Int32) &&& 0x3f).toInt64.toUInt64).toInt64).toInt32))]))
  refine Go.st (fun _ k => XS.bipush X26.here hx rfl (hb hby d_wr_20) k) ?_
  show Go p.tables e below _ (T26.setTop (mkF m 22 #[.val (.ref ao), .val (.ref bo), .val (.int (2 : Int32)), .val (.int (nibS qb (56 : Int32)))] [(.int (15 : Int32)), (.int (((qb.toUInt64 >>> ((52 : Int32) &&& 0x3f).toInt64.toUInt64).toInt64).toInt32))]))
  refine Go.st (fun _ k => XS.iand X26.here hx rfl (hb hby d_wr_22) rfl k) ?_
  show Go p.tables e below _ (T26.setTop (mkF m 23 #[.val (.ref ao), .val (.ref bo), .val (.int (2 : Int32)), .val (.int (nibS qb (56 : Int32)))] [(.int ((((qb.toUInt64 >>> ((52 : Int32) &&& 0x3f).toInt64.toUInt64).toInt64).toInt32) &&& (15 : Int32)))]))
  refine Go.st (fun _ k => XS.istoreN X26.here hx rfl (hb hby d_wr_23) rfl (l' := #[.val (.ref ao), .val (.ref bo), .val (.int (2 : Int32)), .val (.int ((((qb.toUInt64 >>> ((52 : Int32) &&& 0x3f).toInt64.toUInt64).toInt64).toInt32) &&& (15 : Int32)))]) rfl k) ?_
  show Go p.tables e below _ (T26.setTop (mkF m 24 #[.val (.ref ao), .val (.ref bo), .val (.int (2 : Int32)), .val (.int (nibS qb (52 : Int32)))] []))
  refine Go.st (fun _ k => XS.aloadN X26.here hx rfl (hb hby d_wr_24) rfl rfl k) ?_
  show Go p.tables e below _ (T26.setTop (mkF m 25 #[.val (.ref ao), .val (.ref bo), .val (.int (2 : Int32)), .val (.int (nibS qb (52 : Int32)))] [(.ref bo)]))
  refine Go.st (fun _ k => XS.iloadN X26.here hx rfl (hb hby d_wr_25) rfl k) ?_
  show Go p.tables e below _ (T26.setTop (mkF m 26 #[.val (.ref ao), .val (.ref bo), .val (.int (2 : Int32)), .val (.int (nibS qb (52 : Int32)))] [(.int (2 : Int32)), (.ref bo)]))
  obtain ⟨T27, X27, e27, st27⟩ := getS2 X26 hx hZ hown (host := "") (Or.inl (hw _ (List.mem_of_getElem? (i := 22) rfl))) Via.refl e26 F20 (g := (mkF m 26 #[.val (.ref ao), .val (.ref bo), .val (.int (2 : Int32)), .val (.int (nibS qb (52 : Int32)))] [(.int (2 : Int32)), (.ref bo)])) rfl (hb hby d_wr_26)
  refine Go.st st27 ?_
  show Go p.tables e below _ (T27.setTop (mkF m 29 #[.val (.ref ao), .val (.ref bo), .val (.int (2 : Int32)), .val (.int (nibS qb (52 : Int32)))] [(.ref dgs), (.int (2 : Int32)), (.ref bo)]))
  refine Go.st (fun _ k => XS.iloadN X27.here hx rfl (hb hby d_wr_29) rfl k) ?_
  show Go p.tables e below _ (T27.setTop (mkF m 30 #[.val (.ref ao), .val (.ref bo), .val (.int (2 : Int32)), .val (.int (nibS qb (52 : Int32)))] [(.int (nibS qb (52 : Int32))), (.ref dgs), (.int (2 : Int32)), (.ref bo)]))
  obtain ⟨cl28, Ar28, q28, S28, M28, H28, G28⟩ := id F21
  have hin28 : ¬ ((nibS qb (52 : Int32)) < 0 ∨ cl28.slots.size ≤ ((nibS qb (52 : Int32))).toNatClampNeg) := inb_of S28 (own_nibb _ _)
  have hat28 : cl28.slots[((nibS qb (52 : Int32))).toNatClampNeg]? = some (.int (dch (nibS qb (52 : Int32)))) := Has.at H28 hin28 (own_dget (own_nib _ _))
  refine Go.st (fun _ k => X27.caload hx (j := (nibS qb (52 : Int32))) (v := (.int (dch (nibS qb (52 : Int32))))) (by rw [e27]; exact Ar28.1) (State.isArrayOf_alike hZ.alike Ar28.2.1) Ar28.2.2 hin28 hat28 (g := (mkF m 30 #[.val (.ref ao), .val (.ref bo), .val (.int (2 : Int32)), .val (.int (nibS qb (52 : Int32)))] [(.int (nibS qb (52 : Int32))), (.ref dgs), (.int (2 : Int32)), (.ref bo)])) rfl rfl (hb hby d_wr_30) _ k) ?_
  show Go p.tables e below _ (T27.setTop (mkF m 31 #[.val (.ref ao), .val (.ref bo), .val (.int (2 : Int32)), .val (.int (nibS qb (52 : Int32)))] [(.int (dch (nibS qb (52 : Int32)))), (.int (2 : Int32)), (.ref bo)]))
  obtain ⟨cl29, Ar29, q29, S29, M29, H29, G29⟩ := id F19
  have hin29 : ¬ ((2 : Int32) < 0 ∨ cl29.slots.size ≤ ((2 : Int32)).toNatClampNeg) := inb_of S29 ⟨by decide, by decide⟩
  obtain ⟨T29, h29, X29, e29, W29, st29⟩ := stC X27 hx hZ e27 Ar29 (j := (2 : Int32)) hin29 (g := (mkF m 31 #[.val (.ref ao), .val (.ref bo), .val (.int (2 : Int32)), .val (.int (nibS qb (52 : Int32)))] [(.int (dch (nibS qb (52 : Int32)))), (.int (2 : Int32)), (.ref bo)])) rfl rfl (hb hby d_wr_31)
  rw [(own_dchn (own_nib _ _))] at W29
  refine Go.st st29 ?_
  have F30 : Fld Z h29 ao "com/example/tallyroot/tallyroot/overlay/NodeId" "bits" "J" (.long qb) := F18.other W29 (Or.inl hne1)
  have F31 : Arv Z h29 bo kk .char (18 : Int32) [(.int (dch (nibS qb (60 : Int32)))), (.int (dch (nibS qb (56 : Int32)))), (.int (dch (nibS qb (52 : Int32)))), (.int u3), (.int u4), (.int u5), (.int u6), (.int u7), (.int u8), (.int u9), (.int u10), (.int u11), (.int u12), (.int u13), (.int u14), (.int u15), (.int u16), (.int u17)] (.int (0 : Int32)) := Arv.set Ar29 q29 S29 M29 H29 G29 (by have h_ := fits_nar_char (dch (nibS qb (52 : Int32))); rw [show nar .char (dch (nibS qb (52 : Int32))) = (dch (nibS qb (52 : Int32))) from (own_dchn (own_nib _ _))] at h_; exact h_) W29 2 rfl (Nat.le_of_ble_eq_true rfl)
  have F32 : Sta Z h29 "com/example/tallyroot/tallyroot/overlay/NodeId" "DIGITS" "[C" (.ref dgs) := F20.wr W29
  have F33 : Arv Z h29 dgs kd .char (16 : Int32) [(.int (48 : Int32)), (.int (49 : Int32)), (.int (50 : Int32)), (.int (51 : Int32)), (.int (52 : Int32)), (.int (53 : Int32)), (.int (54 : Int32)), (.int (55 : Int32)), (.int (56 : Int32)), (.int (57 : Int32)), (.int (97 : Int32)), (.int (98 : Int32)), (.int (99 : Int32)), (.int (100 : Int32)), (.int (101 : Int32)), (.int (102 : Int32))] (.int (0 : Int32)) := F21.other W29 hne2
  have K34 : Keep h0 h29 [bo] := K22.wr W29 (Or.inl (List.mem_of_getElem? (i := 0) rfl))
  have Z35 : n0 ≤ h29.size := Nat.le_trans Z23 (Nat.le_of_eq W29.size.symm)
  have N36 := Fr.snoc X29 N24 Pf2
  show Go p.tables e below _ (T29.setTop (mkF m 32 #[.val (.ref ao), .val (.ref bo), .val (.int (2 : Int32)), .val (.int (nibS qb (52 : Int32)))] []))
  refine Go.st (fun _ k => XS.iinc X29.here hx rfl (hb hby d_wr_32) rfl (l' := #[.val (.ref ao), .val (.ref bo), .val (.int ((2 : Int32) + (1 : Int32))), .val (.int (nibS qb (52 : Int32)))]) rfl k) ?_
  show Go p.tables e below _ (T29.setTop (mkF m 35 #[.val (.ref ao), .val (.ref bo), .val (.int ((2 : Int32) + (1 : Int32))), .val (.int (nibS qb (52 : Int32)))] []))
  rw [show ((2 : Int32) + (1 : Int32)) = (3 : Int32) from by decide]
  show Go p.tables e below _ (T29.setTop (mkF m 35 #[.val (.ref ao), .val (.ref bo), .val (.int (3 : Int32)), .val (.int (nibS qb (52 : Int32)))] []))
  refine Go.st (fun _ k => XS.goto X29.here hx rfl (pc0 := 35) (pc' := 2) rfl (hb hby d_wr_35) (by decide) (by decide) k) ?_
  show Go p.tables e below _ (T29.setTop (mkF m 2 #[.val (.ref ao), .val (.ref bo), .val (.int (3 : Int32)), .val (.int (nibS qb (52 : Int32)))] []))
  refine Go.st (fun _ k => XS.iloadN X29.here hx rfl (hb hby d_wr_2) rfl k) ?_
  show Go p.tables e below _ (T29.setTop (mkF m 3 #[.val (.ref ao), .val (.ref bo), .val (.int (3 : Int32)), .val (.int (nibS qb (52 : Int32)))] [(.int (3 : Int32))]))
  refine Go.st (fun _ k => XS.bipush X29.here hx rfl (hb hby d_wr_3) k) ?_
  show Go p.tables e below _ (T29.setTop (mkF m 5 #[.val (.ref ao), .val (.ref bo), .val (.int (3 : Int32)), .val (.int (nibS qb (52 : Int32)))] [(.int (16 : Int32)), (.int (3 : Int32))]))
  have hl37 : (3 : Int32) < (16 : Int32) := by decide
  refine Go.st (fun _ k => XS.icmpNo X29.here hx rfl (hb hby d_wr_5) rfl (Jvm.Free.XT.ii_ge_f hl37) k) ?_
  show Go p.tables e below _ (T29.setTop (mkF m 8 #[.val (.ref ao), .val (.ref bo), .val (.int (3 : Int32)), .val (.int (nibS qb (52 : Int32)))] []))
  refine Go.st (fun _ k => XS.aloadN X29.here hx rfl (hb hby d_wr_8) rfl rfl k) ?_
  show Go p.tables e below _ (T29.setTop (mkF m 9 #[.val (.ref ao), .val (.ref bo), .val (.int (3 : Int32)), .val (.int (nibS qb (52 : Int32)))] [(.ref ao)]))
  obtain ⟨T38, X38, e38, st38⟩ := getF X29 hx hZ hown (host := "") (Or.inl (hw _ (List.mem_of_getElem? (i := 15) rfl))) Via.refl e29 F30 (g := (mkF m 9 #[.val (.ref ao), .val (.ref bo), .val (.int (3 : Int32)), .val (.int (nibS qb (52 : Int32)))] [(.ref ao)])) rfl rfl (hb hby d_wr_9)
  refine Go.st st38 ?_
  show Go p.tables e below _ (T38.setTop (mkF m 12 #[.val (.ref ao), .val (.ref bo), .val (.int (3 : Int32)), .val (.int (nibS qb (52 : Int32)))] [(.long qb)]))
  refine Go.st (fun _ k => XS.iconst X38.here hx rfl (hb hby d_wr_12) k) ?_
  show Go p.tables e below _ (T38.setTop (mkF m 13 #[.val (.ref ao), .val (.ref bo), .val (.int (3 : Int32)), .val (.int (nibS qb (52 : Int32)))] [(.int (4 : Int32)), (.long qb)]))
  refine Go.st (fun _ k => XS.bipush X38.here hx rfl (hb hby d_wr_13) k) ?_
  show Go p.tables e below _ (T38.setTop (mkF m 15 #[.val (.ref ao), .val (.ref bo), .val (.int (3 : Int32)), .val (.int (nibS qb (52 : Int32)))] [(.int (15 : Int32)), (.int (4 : Int32)), (.long qb)]))
  refine Go.st (fun _ k => XS.iloadN X38.here hx rfl (hb hby d_wr_15) rfl k) ?_
  show Go p.tables e below _ (T38.setTop (mkF m 16 #[.val (.ref ao), .val (.ref bo), .val (.int (3 : Int32)), .val (.int (nibS qb (52 : Int32)))] [(.int (3 : Int32)), (.int (15 : Int32)), (.int (4 : Int32)), (.long qb)]))
  refine Go.st (fun _ k => XS.isub X38.here hx rfl (hb hby d_wr_16) rfl k) ?_
  show Go p.tables e below _ (T38.setTop (mkF m 17 #[.val (.ref ao), .val (.ref bo), .val (.int (3 : Int32)), .val (.int (nibS qb (52 : Int32)))] [(.int ((15 : Int32) - (3 : Int32))), (.int (4 : Int32)), (.long qb)]))
  rw [show ((15 : Int32) - (3 : Int32)) = (12 : Int32) from by decide]
  show Go p.tables e below _ (T38.setTop (mkF m 17 #[.val (.ref ao), .val (.ref bo), .val (.int (3 : Int32)), .val (.int (nibS qb (52 : Int32)))] [(.int (12 : Int32)), (.int (4 : Int32)), (.long qb)]))
  refine Go.st (fun _ k => XS.imul X38.here hx rfl (hb hby d_wr_17) rfl k) ?_
  show Go p.tables e below _ (T38.setTop (mkF m 18 #[.val (.ref ao), .val (.ref bo), .val (.int (3 : Int32)), .val (.int (nibS qb (52 : Int32)))] [(.int ((4 : Int32) * (12 : Int32))), (.long qb)]))
  rw [show ((4 : Int32) * (12 : Int32)) = (48 : Int32) from by decide]
  show Go p.tables e below _ (T38.setTop (mkF m 18 #[.val (.ref ao), .val (.ref bo), .val (.int (3 : Int32)), .val (.int (nibS qb (52 : Int32)))] [(.int (48 : Int32)), (.long qb)]))
  refine Go.st (fun _ k => XS.lushr X38.here hx rfl (hb hby d_wr_18) rfl k) ?_
  show Go p.tables e below _ (T38.setTop (mkF m 19 #[.val (.ref ao), .val (.ref bo), .val (.int (3 : Int32)), .val (.int (nibS qb (52 : Int32)))] [(.long ((qb.toUInt64 >>> ((48 : Int32) &&& 0x3f).toInt64.toUInt64).toInt64))]))
  refine Go.st (fun _ k => XS.l2i X38.here hx rfl (hb hby d_wr_19) rfl k) ?_
  show Go p.tables e below _ (T38.setTop (mkF m 20 #[.val (.ref ao), .val (.ref bo), .val (.int (3 : Int32)), .val (.int (nibS qb (52 : Int32)))] [(.int (((qb.toUInt64 >>> ((48 : Int32) &&& 0x3f).toInt64.toUInt64).toInt64).toInt32))]))
  refine Go.st (fun _ k => XS.bipush X38.here hx rfl (hb hby d_wr_20) k) ?_
  show Go p.tables e below _ (T38.setTop (mkF m 22 #[.val (.ref ao), .val (.ref bo), .val (.int (3 : Int32)), .val (.int (nibS qb (52 : Int32)))] [(.int (15 : Int32)), (.int (((qb.toUInt64 >>> ((48 : Int32) &&& 0x3f).toInt64.toUInt64).toInt64).toInt32))]))
  refine Go.st (fun _ k => XS.iand X38.here hx rfl (hb hby d_wr_22) rfl k) ?_
  show Go p.tables e below _ (T38.setTop (mkF m 23 #[.val (.ref ao), .val (.ref bo), .val (.int (3 : Int32)), .val (.int (nibS qb (52 : Int32)))] [(.int ((((qb.toUInt64 >>> ((48 : Int32) &&& 0x3f).toInt64.toUInt64).toInt64).toInt32) &&& (15 : Int32)))]))
  refine Go.st (fun _ k => XS.istoreN X38.here hx rfl (hb hby d_wr_23) rfl (l' := #[.val (.ref ao), .val (.ref bo), .val (.int (3 : Int32)), .val (.int ((((qb.toUInt64 >>> ((48 : Int32) &&& 0x3f).toInt64.toUInt64).toInt64).toInt32) &&& (15 : Int32)))]) rfl k) ?_
  show Go p.tables e below _ (T38.setTop (mkF m 24 #[.val (.ref ao), .val (.ref bo), .val (.int (3 : Int32)), .val (.int (nibS qb (48 : Int32)))] []))
  refine Go.st (fun _ k => XS.aloadN X38.here hx rfl (hb hby d_wr_24) rfl rfl k) ?_
  show Go p.tables e below _ (T38.setTop (mkF m 25 #[.val (.ref ao), .val (.ref bo), .val (.int (3 : Int32)), .val (.int (nibS qb (48 : Int32)))] [(.ref bo)]))
  refine Go.st (fun _ k => XS.iloadN X38.here hx rfl (hb hby d_wr_25) rfl k) ?_
  show Go p.tables e below _ (T38.setTop (mkF m 26 #[.val (.ref ao), .val (.ref bo), .val (.int (3 : Int32)), .val (.int (nibS qb (48 : Int32)))] [(.int (3 : Int32)), (.ref bo)]))
  obtain ⟨T39, X39, e39, st39⟩ := getS2 X38 hx hZ hown (host := "") (Or.inl (hw _ (List.mem_of_getElem? (i := 22) rfl))) Via.refl e38 F32 (g := (mkF m 26 #[.val (.ref ao), .val (.ref bo), .val (.int (3 : Int32)), .val (.int (nibS qb (48 : Int32)))] [(.int (3 : Int32)), (.ref bo)])) rfl (hb hby d_wr_26)
  refine Go.st st39 ?_
  show Go p.tables e below _ (T39.setTop (mkF m 29 #[.val (.ref ao), .val (.ref bo), .val (.int (3 : Int32)), .val (.int (nibS qb (48 : Int32)))] [(.ref dgs), (.int (3 : Int32)), (.ref bo)]))
  refine Go.st (fun _ k => XS.iloadN X39.here hx rfl (hb hby d_wr_29) rfl k) ?_
  show Go p.tables e below _ (T39.setTop (mkF m 30 #[.val (.ref ao), .val (.ref bo), .val (.int (3 : Int32)), .val (.int (nibS qb (48 : Int32)))] [(.int (nibS qb (48 : Int32))), (.ref dgs), (.int (3 : Int32)), (.ref bo)]))
  obtain ⟨cl40, Ar40, q40, S40, M40, H40, G40⟩ := id F33
  have hin40 : ¬ ((nibS qb (48 : Int32)) < 0 ∨ cl40.slots.size ≤ ((nibS qb (48 : Int32))).toNatClampNeg) := inb_of S40 (own_nibb _ _)
  have hat40 : cl40.slots[((nibS qb (48 : Int32))).toNatClampNeg]? = some (.int (dch (nibS qb (48 : Int32)))) := Has.at H40 hin40 (own_dget (own_nib _ _))
  refine Go.st (fun _ k => X39.caload hx (j := (nibS qb (48 : Int32))) (v := (.int (dch (nibS qb (48 : Int32))))) (by rw [e39]; exact Ar40.1) (State.isArrayOf_alike hZ.alike Ar40.2.1) Ar40.2.2 hin40 hat40 (g := (mkF m 30 #[.val (.ref ao), .val (.ref bo), .val (.int (3 : Int32)), .val (.int (nibS qb (48 : Int32)))] [(.int (nibS qb (48 : Int32))), (.ref dgs), (.int (3 : Int32)), (.ref bo)])) rfl rfl (hb hby d_wr_30) _ k) ?_
  show Go p.tables e below _ (T39.setTop (mkF m 31 #[.val (.ref ao), .val (.ref bo), .val (.int (3 : Int32)), .val (.int (nibS qb (48 : Int32)))] [(.int (dch (nibS qb (48 : Int32)))), (.int (3 : Int32)), (.ref bo)]))
  obtain ⟨cl41, Ar41, q41, S41, M41, H41, G41⟩ := id F31
  have hin41 : ¬ ((3 : Int32) < 0 ∨ cl41.slots.size ≤ ((3 : Int32)).toNatClampNeg) := inb_of S41 ⟨by decide, by decide⟩
  obtain ⟨T41, h41, X41, e41, W41, st41⟩ := stC X39 hx hZ e39 Ar41 (j := (3 : Int32)) hin41 (g := (mkF m 31 #[.val (.ref ao), .val (.ref bo), .val (.int (3 : Int32)), .val (.int (nibS qb (48 : Int32)))] [(.int (dch (nibS qb (48 : Int32)))), (.int (3 : Int32)), (.ref bo)])) rfl rfl (hb hby d_wr_31)
  rw [(own_dchn (own_nib _ _))] at W41
  refine Go.st st41 ?_
  have F42 : Fld Z h41 ao "com/example/tallyroot/tallyroot/overlay/NodeId" "bits" "J" (.long qb) := F30.other W41 (Or.inl hne1)
  have F43 : Arv Z h41 bo kk .char (18 : Int32) [(.int (dch (nibS qb (60 : Int32)))), (.int (dch (nibS qb (56 : Int32)))), (.int (dch (nibS qb (52 : Int32)))), (.int (dch (nibS qb (48 : Int32)))), (.int u4), (.int u5), (.int u6), (.int u7), (.int u8), (.int u9), (.int u10), (.int u11), (.int u12), (.int u13), (.int u14), (.int u15), (.int u16), (.int u17)] (.int (0 : Int32)) := Arv.set Ar41 q41 S41 M41 H41 G41 (by have h_ := fits_nar_char (dch (nibS qb (48 : Int32))); rw [show nar .char (dch (nibS qb (48 : Int32))) = (dch (nibS qb (48 : Int32))) from (own_dchn (own_nib _ _))] at h_; exact h_) W41 3 rfl (Nat.le_of_ble_eq_true rfl)
  have F44 : Sta Z h41 "com/example/tallyroot/tallyroot/overlay/NodeId" "DIGITS" "[C" (.ref dgs) := F32.wr W41
  have F45 : Arv Z h41 dgs kd .char (16 : Int32) [(.int (48 : Int32)), (.int (49 : Int32)), (.int (50 : Int32)), (.int (51 : Int32)), (.int (52 : Int32)), (.int (53 : Int32)), (.int (54 : Int32)), (.int (55 : Int32)), (.int (56 : Int32)), (.int (57 : Int32)), (.int (97 : Int32)), (.int (98 : Int32)), (.int (99 : Int32)), (.int (100 : Int32)), (.int (101 : Int32)), (.int (102 : Int32))] (.int (0 : Int32)) := F33.other W41 hne2
  have K46 : Keep h0 h41 [bo] := K34.wr W41 (Or.inl (List.mem_of_getElem? (i := 0) rfl))
  have Z47 : n0 ≤ h41.size := Nat.le_trans Z35 (Nat.le_of_eq W41.size.symm)
  have N48 := Fr.snoc X41 N36 Pf2
  show Go p.tables e below _ (T41.setTop (mkF m 32 #[.val (.ref ao), .val (.ref bo), .val (.int (3 : Int32)), .val (.int (nibS qb (48 : Int32)))] []))
  refine Go.st (fun _ k => XS.iinc X41.here hx rfl (hb hby d_wr_32) rfl (l' := #[.val (.ref ao), .val (.ref bo), .val (.int ((3 : Int32) + (1 : Int32))), .val (.int (nibS qb (48 : Int32)))]) rfl k) ?_
  show Go p.tables e below _ (T41.setTop (mkF m 35 #[.val (.ref ao), .val (.ref bo), .val (.int ((3 : Int32) + (1 : Int32))), .val (.int (nibS qb (48 : Int32)))] []))
  rw [show ((3 : Int32) + (1 : Int32)) = (4 : Int32) from by decide]
  show Go p.tables e below _ (T41.setTop (mkF m 35 #[.val (.ref ao), .val (.ref bo), .val (.int (4 : Int32)), .val (.int (nibS qb (48 : Int32)))] []))
  refine Go.st (fun _ k => XS.goto X41.here hx rfl (pc0 := 35) (pc' := 2) rfl (hb hby d_wr_35) (by decide) (by decide) k) ?_
  show Go p.tables e below _ (T41.setTop (mkF m 2 #[.val (.ref ao), .val (.ref bo), .val (.int (4 : Int32)), .val (.int (nibS qb (48 : Int32)))] []))
  refine Go.st (fun _ k => XS.iloadN X41.here hx rfl (hb hby d_wr_2) rfl k) ?_
  show Go p.tables e below _ (T41.setTop (mkF m 3 #[.val (.ref ao), .val (.ref bo), .val (.int (4 : Int32)), .val (.int (nibS qb (48 : Int32)))] [(.int (4 : Int32))]))
  refine Go.st (fun _ k => XS.bipush X41.here hx rfl (hb hby d_wr_3) k) ?_
  show Go p.tables e below _ (T41.setTop (mkF m 5 #[.val (.ref ao), .val (.ref bo), .val (.int (4 : Int32)), .val (.int (nibS qb (48 : Int32)))] [(.int (16 : Int32)), (.int (4 : Int32))]))
  have hl49 : (4 : Int32) < (16 : Int32) := by decide
  refine Go.st (fun _ k => XS.icmpNo X41.here hx rfl (hb hby d_wr_5) rfl (Jvm.Free.XT.ii_ge_f hl49) k) ?_
  show Go p.tables e below _ (T41.setTop (mkF m 8 #[.val (.ref ao), .val (.ref bo), .val (.int (4 : Int32)), .val (.int (nibS qb (48 : Int32)))] []))
  refine Go.st (fun _ k => XS.aloadN X41.here hx rfl (hb hby d_wr_8) rfl rfl k) ?_
  show Go p.tables e below _ (T41.setTop (mkF m 9 #[.val (.ref ao), .val (.ref bo), .val (.int (4 : Int32)), .val (.int (nibS qb (48 : Int32)))] [(.ref ao)]))
  obtain ⟨T50, X50, e50, st50⟩ := getF X41 hx hZ hown (host := "") (Or.inl (hw _ (List.mem_of_getElem? (i := 15) rfl))) Via.refl e41 F42 (g := (mkF m 9 #[.val (.ref ao), .val (.ref bo), .val (.int (4 : Int32)), .val (.int (nibS qb (48 : Int32)))] [(.ref ao)])) rfl rfl (hb hby d_wr_9)
  refine Go.st st50 ?_
  show Go p.tables e below _ (T50.setTop (mkF m 12 #[.val (.ref ao), .val (.ref bo), .val (.int (4 : Int32)), .val (.int (nibS qb (48 : Int32)))] [(.long qb)]))
  refine Go.st (fun _ k => XS.iconst X50.here hx rfl (hb hby d_wr_12) k) ?_
  show Go p.tables e below _ (T50.setTop (mkF m 13 #[.val (.ref ao), .val (.ref bo), .val (.int (4 : Int32)), .val (.int (nibS qb (48 : Int32)))] [(.int (4 : Int32)), (.long qb)]))
  refine Go.st (fun _ k => XS.bipush X50.here hx rfl (hb hby d_wr_13) k) ?_
  show Go p.tables e below _ (T50.setTop (mkF m 15 #[.val (.ref ao), .val (.ref bo), .val (.int (4 : Int32)), .val (.int (nibS qb (48 : Int32)))] [(.int (15 : Int32)), (.int (4 : Int32)), (.long qb)]))
  refine Go.st (fun _ k => XS.iloadN X50.here hx rfl (hb hby d_wr_15) rfl k) ?_
  show Go p.tables e below _ (T50.setTop (mkF m 16 #[.val (.ref ao), .val (.ref bo), .val (.int (4 : Int32)), .val (.int (nibS qb (48 : Int32)))] [(.int (4 : Int32)), (.int (15 : Int32)), (.int (4 : Int32)), (.long qb)]))
  refine Go.st (fun _ k => XS.isub X50.here hx rfl (hb hby d_wr_16) rfl k) ?_
  show Go p.tables e below _ (T50.setTop (mkF m 17 #[.val (.ref ao), .val (.ref bo), .val (.int (4 : Int32)), .val (.int (nibS qb (48 : Int32)))] [(.int ((15 : Int32) - (4 : Int32))), (.int (4 : Int32)), (.long qb)]))
  rw [show ((15 : Int32) - (4 : Int32)) = (11 : Int32) from by decide]
  show Go p.tables e below _ (T50.setTop (mkF m 17 #[.val (.ref ao), .val (.ref bo), .val (.int (4 : Int32)), .val (.int (nibS qb (48 : Int32)))] [(.int (11 : Int32)), (.int (4 : Int32)), (.long qb)]))
  refine Go.st (fun _ k => XS.imul X50.here hx rfl (hb hby d_wr_17) rfl k) ?_
  show Go p.tables e below _ (T50.setTop (mkF m 18 #[.val (.ref ao), .val (.ref bo), .val (.int (4 : Int32)), .val (.int (nibS qb (48 : Int32)))] [(.int ((4 : Int32) * (11 : Int32))), (.long qb)]))
  rw [show ((4 : Int32) * (11 : Int32)) = (44 : Int32) from by decide]
  show Go p.tables e below _ (T50.setTop (mkF m 18 #[.val (.ref ao), .val (.ref bo), .val (.int (4 : Int32)), .val (.int (nibS qb (48 : Int32)))] [(.int (44 : Int32)), (.long qb)]))
  refine Go.st (fun _ k => XS.lushr X50.here hx rfl (hb hby d_wr_18) rfl k) ?_
  show Go p.tables e below _ (T50.setTop (mkF m 19 #[.val (.ref ao), .val (.ref bo), .val (.int (4 : Int32)), .val (.int (nibS qb (48 : Int32)))] [(.long ((qb.toUInt64 >>> ((44 : Int32) &&& 0x3f).toInt64.toUInt64).toInt64))]))
  refine Go.st (fun _ k => XS.l2i X50.here hx rfl (hb hby d_wr_19) rfl k) ?_
  show Go p.tables e below _ (T50.setTop (mkF m 20 #[.val (.ref ao), .val (.ref bo), .val (.int (4 : Int32)), .val (.int (nibS qb (48 : Int32)))] [(.int (((qb.toUInt64 >>> ((44 : Int32) &&& 0x3f).toInt64.toUInt64).toInt64).toInt32))]))
  refine Go.st (fun _ k => XS.bipush X50.here hx rfl (hb hby d_wr_20) k) ?_
  show Go p.tables e below _ (T50.setTop (mkF m 22 #[.val (.ref ao), .val (.ref bo), .val (.int (4 : Int32)), .val (.int (nibS qb (48 : Int32)))] [(.int (15 : Int32)), (.int (((qb.toUInt64 >>> ((44 : Int32) &&& 0x3f).toInt64.toUInt64).toInt64).toInt32))]))
  refine Go.st (fun _ k => XS.iand X50.here hx rfl (hb hby d_wr_22) rfl k) ?_
  show Go p.tables e below _ (T50.setTop (mkF m 23 #[.val (.ref ao), .val (.ref bo), .val (.int (4 : Int32)), .val (.int (nibS qb (48 : Int32)))] [(.int ((((qb.toUInt64 >>> ((44 : Int32) &&& 0x3f).toInt64.toUInt64).toInt64).toInt32) &&& (15 : Int32)))]))
  refine Go.st (fun _ k => XS.istoreN X50.here hx rfl (hb hby d_wr_23) rfl (l' := #[.val (.ref ao), .val (.ref bo), .val (.int (4 : Int32)), .val (.int ((((qb.toUInt64 >>> ((44 : Int32) &&& 0x3f).toInt64.toUInt64).toInt64).toInt32) &&& (15 : Int32)))]) rfl k) ?_
  show Go p.tables e below _ (T50.setTop (mkF m 24 #[.val (.ref ao), .val (.ref bo), .val (.int (4 : Int32)), .val (.int (nibS qb (44 : Int32)))] []))
  refine Go.st (fun _ k => XS.aloadN X50.here hx rfl (hb hby d_wr_24) rfl rfl k) ?_
  show Go p.tables e below _ (T50.setTop (mkF m 25 #[.val (.ref ao), .val (.ref bo), .val (.int (4 : Int32)), .val (.int (nibS qb (44 : Int32)))] [(.ref bo)]))
  refine Go.st (fun _ k => XS.iloadN X50.here hx rfl (hb hby d_wr_25) rfl k) ?_
  show Go p.tables e below _ (T50.setTop (mkF m 26 #[.val (.ref ao), .val (.ref bo), .val (.int (4 : Int32)), .val (.int (nibS qb (44 : Int32)))] [(.int (4 : Int32)), (.ref bo)]))
  obtain ⟨T51, X51, e51, st51⟩ := getS2 X50 hx hZ hown (host := "") (Or.inl (hw _ (List.mem_of_getElem? (i := 22) rfl))) Via.refl e50 F44 (g := (mkF m 26 #[.val (.ref ao), .val (.ref bo), .val (.int (4 : Int32)), .val (.int (nibS qb (44 : Int32)))] [(.int (4 : Int32)), (.ref bo)])) rfl (hb hby d_wr_26)
  refine Go.st st51 ?_
  show Go p.tables e below _ (T51.setTop (mkF m 29 #[.val (.ref ao), .val (.ref bo), .val (.int (4 : Int32)), .val (.int (nibS qb (44 : Int32)))] [(.ref dgs), (.int (4 : Int32)), (.ref bo)]))
  refine Go.st (fun _ k => XS.iloadN X51.here hx rfl (hb hby d_wr_29) rfl k) ?_
  show Go p.tables e below _ (T51.setTop (mkF m 30 #[.val (.ref ao), .val (.ref bo), .val (.int (4 : Int32)), .val (.int (nibS qb (44 : Int32)))] [(.int (nibS qb (44 : Int32))), (.ref dgs), (.int (4 : Int32)), (.ref bo)]))
  obtain ⟨cl52, Ar52, q52, S52, M52, H52, G52⟩ := id F45
  have hin52 : ¬ ((nibS qb (44 : Int32)) < 0 ∨ cl52.slots.size ≤ ((nibS qb (44 : Int32))).toNatClampNeg) := inb_of S52 (own_nibb _ _)
  have hat52 : cl52.slots[((nibS qb (44 : Int32))).toNatClampNeg]? = some (.int (dch (nibS qb (44 : Int32)))) := Has.at H52 hin52 (own_dget (own_nib _ _))
  refine Go.st (fun _ k => X51.caload hx (j := (nibS qb (44 : Int32))) (v := (.int (dch (nibS qb (44 : Int32))))) (by rw [e51]; exact Ar52.1) (State.isArrayOf_alike hZ.alike Ar52.2.1) Ar52.2.2 hin52 hat52 (g := (mkF m 30 #[.val (.ref ao), .val (.ref bo), .val (.int (4 : Int32)), .val (.int (nibS qb (44 : Int32)))] [(.int (nibS qb (44 : Int32))), (.ref dgs), (.int (4 : Int32)), (.ref bo)])) rfl rfl (hb hby d_wr_30) _ k) ?_
  show Go p.tables e below _ (T51.setTop (mkF m 31 #[.val (.ref ao), .val (.ref bo), .val (.int (4 : Int32)), .val (.int (nibS qb (44 : Int32)))] [(.int (dch (nibS qb (44 : Int32)))), (.int (4 : Int32)), (.ref bo)]))
  obtain ⟨cl53, Ar53, q53, S53, M53, H53, G53⟩ := id F43
  have hin53 : ¬ ((4 : Int32) < 0 ∨ cl53.slots.size ≤ ((4 : Int32)).toNatClampNeg) := inb_of S53 ⟨by decide, by decide⟩
  obtain ⟨T53, h53, X53, e53, W53, st53⟩ := stC X51 hx hZ e51 Ar53 (j := (4 : Int32)) hin53 (g := (mkF m 31 #[.val (.ref ao), .val (.ref bo), .val (.int (4 : Int32)), .val (.int (nibS qb (44 : Int32)))] [(.int (dch (nibS qb (44 : Int32)))), (.int (4 : Int32)), (.ref bo)])) rfl rfl (hb hby d_wr_31)
  rw [(own_dchn (own_nib _ _))] at W53
  refine Go.st st53 ?_
  have F54 : Fld Z h53 ao "com/example/tallyroot/tallyroot/overlay/NodeId" "bits" "J" (.long qb) := F42.other W53 (Or.inl hne1)
  have F55 : Arv Z h53 bo kk .char (18 : Int32) [(.int (dch (nibS qb (60 : Int32)))), (.int (dch (nibS qb (56 : Int32)))), (.int (dch (nibS qb (52 : Int32)))), (.int (dch (nibS qb (48 : Int32)))), (.int (dch (nibS qb (44 : Int32)))), (.int u5), (.int u6), (.int u7), (.int u8), (.int u9), (.int u10), (.int u11), (.int u12), (.int u13), (.int u14), (.int u15), (.int u16), (.int u17)] (.int (0 : Int32)) := Arv.set Ar53 q53 S53 M53 H53 G53 (by have h_ := fits_nar_char (dch (nibS qb (44 : Int32))); rw [show nar .char (dch (nibS qb (44 : Int32))) = (dch (nibS qb (44 : Int32))) from (own_dchn (own_nib _ _))] at h_; exact h_) W53 4 rfl (Nat.le_of_ble_eq_true rfl)
  have F56 : Sta Z h53 "com/example/tallyroot/tallyroot/overlay/NodeId" "DIGITS" "[C" (.ref dgs) := F44.wr W53
  have F57 : Arv Z h53 dgs kd .char (16 : Int32) [(.int (48 : Int32)), (.int (49 : Int32)), (.int (50 : Int32)), (.int (51 : Int32)), (.int (52 : Int32)), (.int (53 : Int32)), (.int (54 : Int32)), (.int (55 : Int32)), (.int (56 : Int32)), (.int (57 : Int32)), (.int (97 : Int32)), (.int (98 : Int32)), (.int (99 : Int32)), (.int (100 : Int32)), (.int (101 : Int32)), (.int (102 : Int32))] (.int (0 : Int32)) := F45.other W53 hne2
  have K58 : Keep h0 h53 [bo] := K46.wr W53 (Or.inl (List.mem_of_getElem? (i := 0) rfl))
  have Z59 : n0 ≤ h53.size := Nat.le_trans Z47 (Nat.le_of_eq W53.size.symm)
  have N60 := Fr.snoc X53 N48 Pf2
  show Go p.tables e below _ (T53.setTop (mkF m 32 #[.val (.ref ao), .val (.ref bo), .val (.int (4 : Int32)), .val (.int (nibS qb (44 : Int32)))] []))
  refine Go.st (fun _ k => XS.iinc X53.here hx rfl (hb hby d_wr_32) rfl (l' := #[.val (.ref ao), .val (.ref bo), .val (.int ((4 : Int32) + (1 : Int32))), .val (.int (nibS qb (44 : Int32)))]) rfl k) ?_
  show Go p.tables e below _ (T53.setTop (mkF m 35 #[.val (.ref ao), .val (.ref bo), .val (.int ((4 : Int32) + (1 : Int32))), .val (.int (nibS qb (44 : Int32)))] []))
  rw [show ((4 : Int32) + (1 : Int32)) = (5 : Int32) from by decide]
  show Go p.tables e below _ (T53.setTop (mkF m 35 #[.val (.ref ao), .val (.ref bo), .val (.int (5 : Int32)), .val (.int (nibS qb (44 : Int32)))] []))
  refine Go.st (fun _ k => XS.goto X53.here hx rfl (pc0 := 35) (pc' := 2) rfl (hb hby d_wr_35) (by decide) (by decide) k) ?_
  show Go p.tables e below _ (T53.setTop (mkF m 2 #[.val (.ref ao), .val (.ref bo), .val (.int (5 : Int32)), .val (.int (nibS qb (44 : Int32)))] []))
  refine Go.st (fun _ k => XS.iloadN X53.here hx rfl (hb hby d_wr_2) rfl k) ?_
  show Go p.tables e below _ (T53.setTop (mkF m 3 #[.val (.ref ao), .val (.ref bo), .val (.int (5 : Int32)), .val (.int (nibS qb (44 : Int32)))] [(.int (5 : Int32))]))
  refine Go.st (fun _ k => XS.bipush X53.here hx rfl (hb hby d_wr_3) k) ?_
  show Go p.tables e below _ (T53.setTop (mkF m 5 #[.val (.ref ao), .val (.ref bo), .val (.int (5 : Int32)), .val (.int (nibS qb (44 : Int32)))] [(.int (16 : Int32)), (.int (5 : Int32))]))
  have hl61 : (5 : Int32) < (16 : Int32) := by decide
  refine Go.st (fun _ k => XS.icmpNo X53.here hx rfl (hb hby d_wr_5) rfl (Jvm.Free.XT.ii_ge_f hl61) k) ?_
  show Go p.tables e below _ (T53.setTop (mkF m 8 #[.val (.ref ao), .val (.ref bo), .val (.int (5 : Int32)), .val (.int (nibS qb (44 : Int32)))] []))
  refine Go.st (fun _ k => XS.aloadN X53.here hx rfl (hb hby d_wr_8) rfl rfl k) ?_
  show Go p.tables e below _ (T53.setTop (mkF m 9 #[.val (.ref ao), .val (.ref bo), .val (.int (5 : Int32)), .val (.int (nibS qb (44 : Int32)))] [(.ref ao)]))
  obtain ⟨T62, X62, e62, st62⟩ := getF X53 hx hZ hown (host := "") (Or.inl (hw _ (List.mem_of_getElem? (i := 15) rfl))) Via.refl e53 F54 (g := (mkF m 9 #[.val (.ref ao), .val (.ref bo), .val (.int (5 : Int32)), .val (.int (nibS qb (44 : Int32)))] [(.ref ao)])) rfl rfl (hb hby d_wr_9)
  refine Go.st st62 ?_
  show Go p.tables e below _ (T62.setTop (mkF m 12 #[.val (.ref ao), .val (.ref bo), .val (.int (5 : Int32)), .val (.int (nibS qb (44 : Int32)))] [(.long qb)]))
  refine Go.st (fun _ k => XS.iconst X62.here hx rfl (hb hby d_wr_12) k) ?_
  show Go p.tables e below _ (T62.setTop (mkF m 13 #[.val (.ref ao), .val (.ref bo), .val (.int (5 : Int32)), .val (.int (nibS qb (44 : Int32)))] [(.int (4 : Int32)), (.long qb)]))
  refine Go.st (fun _ k => XS.bipush X62.here hx rfl (hb hby d_wr_13) k) ?_
  show Go p.tables e below _ (T62.setTop (mkF m 15 #[.val (.ref ao), .val (.ref bo), .val (.int (5 : Int32)), .val (.int (nibS qb (44 : Int32)))] [(.int (15 : Int32)), (.int (4 : Int32)), (.long qb)]))
  refine Go.st (fun _ k => XS.iloadN X62.here hx rfl (hb hby d_wr_15) rfl k) ?_
  show Go p.tables e below _ (T62.setTop (mkF m 16 #[.val (.ref ao), .val (.ref bo), .val (.int (5 : Int32)), .val (.int (nibS qb (44 : Int32)))] [(.int (5 : Int32)), (.int (15 : Int32)), (.int (4 : Int32)), (.long qb)]))
  refine Go.st (fun _ k => XS.isub X62.here hx rfl (hb hby d_wr_16) rfl k) ?_
  show Go p.tables e below _ (T62.setTop (mkF m 17 #[.val (.ref ao), .val (.ref bo), .val (.int (5 : Int32)), .val (.int (nibS qb (44 : Int32)))] [(.int ((15 : Int32) - (5 : Int32))), (.int (4 : Int32)), (.long qb)]))
  rw [show ((15 : Int32) - (5 : Int32)) = (10 : Int32) from by decide]
  show Go p.tables e below _ (T62.setTop (mkF m 17 #[.val (.ref ao), .val (.ref bo), .val (.int (5 : Int32)), .val (.int (nibS qb (44 : Int32)))] [(.int (10 : Int32)), (.int (4 : Int32)), (.long qb)]))
  refine Go.st (fun _ k => XS.imul X62.here hx rfl (hb hby d_wr_17) rfl k) ?_
  show Go p.tables e below _ (T62.setTop (mkF m 18 #[.val (.ref ao), .val (.ref bo), .val (.int (5 : Int32)), .val (.int (nibS qb (44 : Int32)))] [(.int ((4 : Int32) * (10 : Int32))), (.long qb)]))
  rw [show ((4 : Int32) * (10 : Int32)) = (40 : Int32) from by decide]
  show Go p.tables e below _ (T62.setTop (mkF m 18 #[.val (.ref ao), .val (.ref bo), .val (.int (5 : Int32)), .val (.int (nibS qb (44 : Int32)))] [(.int (40 : Int32)), (.long qb)]))
  refine Go.st (fun _ k => XS.lushr X62.here hx rfl (hb hby d_wr_18) rfl k) ?_
  show Go p.tables e below _ (T62.setTop (mkF m 19 #[.val (.ref ao), .val (.ref bo), .val (.int (5 : Int32)), .val (.int (nibS qb (44 : Int32)))] [(.long ((qb.toUInt64 >>> ((40 : Int32) &&& 0x3f).toInt64.toUInt64).toInt64))]))
  refine Go.st (fun _ k => XS.l2i X62.here hx rfl (hb hby d_wr_19) rfl k) ?_
  show Go p.tables e below _ (T62.setTop (mkF m 20 #[.val (.ref ao), .val (.ref bo), .val (.int (5 : Int32)), .val (.int (nibS qb (44 : Int32)))] [(.int (((qb.toUInt64 >>> ((40 : Int32) &&& 0x3f).toInt64.toUInt64).toInt64).toInt32))]))
  refine Go.st (fun _ k => XS.bipush X62.here hx rfl (hb hby d_wr_20) k) ?_
  show Go p.tables e below _ (T62.setTop (mkF m 22 #[.val (.ref ao), .val (.ref bo), .val (.int (5 : Int32)), .val (.int (nibS qb (44 : Int32)))] [(.int (15 : Int32)), (.int (((qb.toUInt64 >>> ((40 : Int32) &&& 0x3f).toInt64.toUInt64).toInt64).toInt32))]))
  refine Go.st (fun _ k => XS.iand X62.here hx rfl (hb hby d_wr_22) rfl k) ?_
  show Go p.tables e below _ (T62.setTop (mkF m 23 #[.val (.ref ao), .val (.ref bo), .val (.int (5 : Int32)), .val (.int (nibS qb (44 : Int32)))] [(.int ((((qb.toUInt64 >>> ((40 : Int32) &&& 0x3f).toInt64.toUInt64).toInt64).toInt32) &&& (15 : Int32)))]))
  refine Go.st (fun _ k => XS.istoreN X62.here hx rfl (hb hby d_wr_23) rfl (l' := #[.val (.ref ao), .val (.ref bo), .val (.int (5 : Int32)), .val (.int ((((qb.toUInt64 >>> ((40 : Int32) &&& 0x3f).toInt64.toUInt64).toInt64).toInt32) &&& (15 : Int32)))]) rfl k) ?_
  show Go p.tables e below _ (T62.setTop (mkF m 24 #[.val (.ref ao), .val (.ref bo), .val (.int (5 : Int32)), .val (.int (nibS qb (40 : Int32)))] []))
  refine Go.st (fun _ k => XS.aloadN X62.here hx rfl (hb hby d_wr_24) rfl rfl k) ?_
  show Go p.tables e below _ (T62.setTop (mkF m 25 #[.val (.ref ao), .val (.ref bo), .val (.int (5 : Int32)), .val (.int (nibS qb (40 : Int32)))] [(.ref bo)]))
  refine Go.st (fun _ k => XS.iloadN X62.here hx rfl (hb hby d_wr_25) rfl k) ?_
  show Go p.tables e below _ (T62.setTop (mkF m 26 #[.val (.ref ao), .val (.ref bo), .val (.int (5 : Int32)), .val (.int (nibS qb (40 : Int32)))] [(.int (5 : Int32)), (.ref bo)]))
  obtain ⟨T63, X63, e63, st63⟩ := getS2 X62 hx hZ hown (host := "") (Or.inl (hw _ (List.mem_of_getElem? (i := 22) rfl))) Via.refl e62 F56 (g := (mkF m 26 #[.val (.ref ao), .val (.ref bo), .val (.int (5 : Int32)), .val (.int (nibS qb (40 : Int32)))] [(.int (5 : Int32)), (.ref bo)])) rfl (hb hby d_wr_26)
  refine Go.st st63 ?_
  show Go p.tables e below _ (T63.setTop (mkF m 29 #[.val (.ref ao), .val (.ref bo), .val (.int (5 : Int32)), .val (.int (nibS qb (40 : Int32)))] [(.ref dgs), (.int (5 : Int32)), (.ref bo)]))
  refine Go.st (fun _ k => XS.iloadN X63.here hx rfl (hb hby d_wr_29) rfl k) ?_
  show Go p.tables e below _ (T63.setTop (mkF m 30 #[.val (.ref ao), .val (.ref bo), .val (.int (5 : Int32)), .val (.int (nibS qb (40 : Int32)))] [(.int (nibS qb (40 : Int32))), (.ref dgs), (.int (5 : Int32)), (.ref bo)]))
  obtain ⟨cl64, Ar64, q64, S64, M64, H64, G64⟩ := id F57
  have hin64 : ¬ ((nibS qb (40 : Int32)) < 0 ∨ cl64.slots.size ≤ ((nibS qb (40 : Int32))).toNatClampNeg) := inb_of S64 (own_nibb _ _)
  have hat64 : cl64.slots[((nibS qb (40 : Int32))).toNatClampNeg]? = some (.int (dch (nibS qb (40 : Int32)))) := Has.at H64 hin64 (own_dget (own_nib _ _))
  refine Go.st (fun _ k => X63.caload hx (j := (nibS qb (40 : Int32))) (v := (.int (dch (nibS qb (40 : Int32))))) (by rw [e63]; exact Ar64.1) (State.isArrayOf_alike hZ.alike Ar64.2.1) Ar64.2.2 hin64 hat64 (g := (mkF m 30 #[.val (.ref ao), .val (.ref bo), .val (.int (5 : Int32)), .val (.int (nibS qb (40 : Int32)))] [(.int (nibS qb (40 : Int32))), (.ref dgs), (.int (5 : Int32)), (.ref bo)])) rfl rfl (hb hby d_wr_30) _ k) ?_
  show Go p.tables e below _ (T63.setTop (mkF m 31 #[.val (.ref ao), .val (.ref bo), .val (.int (5 : Int32)), .val (.int (nibS qb (40 : Int32)))] [(.int (dch (nibS qb (40 : Int32)))), (.int (5 : Int32)), (.ref bo)]))
  obtain ⟨cl65, Ar65, q65, S65, M65, H65, G65⟩ := id F55
  have hin65 : ¬ ((5 : Int32) < 0 ∨ cl65.slots.size ≤ ((5 : Int32)).toNatClampNeg) := inb_of S65 ⟨by decide, by decide⟩
  obtain ⟨T65, h65, X65, e65, W65, st65⟩ := stC X63 hx hZ e63 Ar65 (j := (5 : Int32)) hin65 (g := (mkF m 31 #[.val (.ref ao), .val (.ref bo), .val (.int (5 : Int32)), .val (.int (nibS qb (40 : Int32)))] [(.int (dch (nibS qb (40 : Int32)))), (.int (5 : Int32)), (.ref bo)])) rfl rfl (hb hby d_wr_31)
  rw [(own_dchn (own_nib _ _))] at W65
  refine Go.st st65 ?_
  have F66 : Fld Z h65 ao "com/example/tallyroot/tallyroot/overlay/NodeId" "bits" "J" (.long qb) := F54.other W65 (Or.inl hne1)
  have F67 : Arv Z h65 bo kk .char (18 : Int32) [(.int (dch (nibS qb (60 : Int32)))), (.int (dch (nibS qb (56 : Int32)))), (.int (dch (nibS qb (52 : Int32)))), (.int (dch (nibS qb (48 : Int32)))), (.int (dch (nibS qb (44 : Int32)))), (.int (dch (nibS qb (40 : Int32)))), (.int u6), (.int u7), (.int u8), (.int u9), (.int u10), (.int u11), (.int u12), (.int u13), (.int u14), (.int u15), (.int u16), (.int u17)] (.int (0 : Int32)) := Arv.set Ar65 q65 S65 M65 H65 G65 (by have h_ := fits_nar_char (dch (nibS qb (40 : Int32))); rw [show nar .char (dch (nibS qb (40 : Int32))) = (dch (nibS qb (40 : Int32))) from (own_dchn (own_nib _ _))] at h_; exact h_) W65 5 rfl (Nat.le_of_ble_eq_true rfl)
  have F68 : Sta Z h65 "com/example/tallyroot/tallyroot/overlay/NodeId" "DIGITS" "[C" (.ref dgs) := F56.wr W65
  have F69 : Arv Z h65 dgs kd .char (16 : Int32) [(.int (48 : Int32)), (.int (49 : Int32)), (.int (50 : Int32)), (.int (51 : Int32)), (.int (52 : Int32)), (.int (53 : Int32)), (.int (54 : Int32)), (.int (55 : Int32)), (.int (56 : Int32)), (.int (57 : Int32)), (.int (97 : Int32)), (.int (98 : Int32)), (.int (99 : Int32)), (.int (100 : Int32)), (.int (101 : Int32)), (.int (102 : Int32))] (.int (0 : Int32)) := F57.other W65 hne2
  have K70 : Keep h0 h65 [bo] := K58.wr W65 (Or.inl (List.mem_of_getElem? (i := 0) rfl))
  have Z71 : n0 ≤ h65.size := Nat.le_trans Z59 (Nat.le_of_eq W65.size.symm)
  have N72 := Fr.snoc X65 N60 Pf2
  show Go p.tables e below _ (T65.setTop (mkF m 32 #[.val (.ref ao), .val (.ref bo), .val (.int (5 : Int32)), .val (.int (nibS qb (40 : Int32)))] []))
  refine Go.st (fun _ k => XS.iinc X65.here hx rfl (hb hby d_wr_32) rfl (l' := #[.val (.ref ao), .val (.ref bo), .val (.int ((5 : Int32) + (1 : Int32))), .val (.int (nibS qb (40 : Int32)))]) rfl k) ?_
  show Go p.tables e below _ (T65.setTop (mkF m 35 #[.val (.ref ao), .val (.ref bo), .val (.int ((5 : Int32) + (1 : Int32))), .val (.int (nibS qb (40 : Int32)))] []))
  rw [show ((5 : Int32) + (1 : Int32)) = (6 : Int32) from by decide]
  show Go p.tables e below _ (T65.setTop (mkF m 35 #[.val (.ref ao), .val (.ref bo), .val (.int (6 : Int32)), .val (.int (nibS qb (40 : Int32)))] []))
  refine Go.st (fun _ k => XS.goto X65.here hx rfl (pc0 := 35) (pc' := 2) rfl (hb hby d_wr_35) (by decide) (by decide) k) ?_
  show Go p.tables e below _ (T65.setTop (mkF m 2 #[.val (.ref ao), .val (.ref bo), .val (.int (6 : Int32)), .val (.int (nibS qb (40 : Int32)))] []))
  refine Go.st (fun _ k => XS.iloadN X65.here hx rfl (hb hby d_wr_2) rfl k) ?_
  show Go p.tables e below _ (T65.setTop (mkF m 3 #[.val (.ref ao), .val (.ref bo), .val (.int (6 : Int32)), .val (.int (nibS qb (40 : Int32)))] [(.int (6 : Int32))]))
  refine Go.st (fun _ k => XS.bipush X65.here hx rfl (hb hby d_wr_3) k) ?_
  show Go p.tables e below _ (T65.setTop (mkF m 5 #[.val (.ref ao), .val (.ref bo), .val (.int (6 : Int32)), .val (.int (nibS qb (40 : Int32)))] [(.int (16 : Int32)), (.int (6 : Int32))]))
  have hl73 : (6 : Int32) < (16 : Int32) := by decide
  refine Go.st (fun _ k => XS.icmpNo X65.here hx rfl (hb hby d_wr_5) rfl (Jvm.Free.XT.ii_ge_f hl73) k) ?_
  show Go p.tables e below _ (T65.setTop (mkF m 8 #[.val (.ref ao), .val (.ref bo), .val (.int (6 : Int32)), .val (.int (nibS qb (40 : Int32)))] []))
  refine Go.st (fun _ k => XS.aloadN X65.here hx rfl (hb hby d_wr_8) rfl rfl k) ?_
  show Go p.tables e below _ (T65.setTop (mkF m 9 #[.val (.ref ao), .val (.ref bo), .val (.int (6 : Int32)), .val (.int (nibS qb (40 : Int32)))] [(.ref ao)]))
  obtain ⟨T74, X74, e74, st74⟩ := getF X65 hx hZ hown (host := "") (Or.inl (hw _ (List.mem_of_getElem? (i := 15) rfl))) Via.refl e65 F66 (g := (mkF m 9 #[.val (.ref ao), .val (.ref bo), .val (.int (6 : Int32)), .val (.int (nibS qb (40 : Int32)))] [(.ref ao)])) rfl rfl (hb hby d_wr_9)
  refine Go.st st74 ?_
  show Go p.tables e below _ (T74.setTop (mkF m 12 #[.val (.ref ao), .val (.ref bo), .val (.int (6 : Int32)), .val (.int (nibS qb (40 : Int32)))] [(.long qb)]))
  refine Go.st (fun _ k => XS.iconst X74.here hx rfl (hb hby d_wr_12) k) ?_
  show Go p.tables e below _ (T74.setTop (mkF m 13 #[.val (.ref ao), .val (.ref bo), .val (.int (6 : Int32)), .val (.int (nibS qb (40 : Int32)))] [(.int (4 : Int32)), (.long qb)]))
  refine Go.st (fun _ k => XS.bipush X74.here hx rfl (hb hby d_wr_13) k) ?_
  show Go p.tables e below _ (T74.setTop (mkF m 15 #[.val (.ref ao), .val (.ref bo), .val (.int (6 : Int32)), .val (.int (nibS qb (40 : Int32)))] [(.int (15 : Int32)), (.int (4 : Int32)), (.long qb)]))
  refine Go.st (fun _ k => XS.iloadN X74.here hx rfl (hb hby d_wr_15) rfl k) ?_
  show Go p.tables e below _ (T74.setTop (mkF m 16 #[.val (.ref ao), .val (.ref bo), .val (.int (6 : Int32)), .val (.int (nibS qb (40 : Int32)))] [(.int (6 : Int32)), (.int (15 : Int32)), (.int (4 : Int32)), (.long qb)]))
  refine Go.st (fun _ k => XS.isub X74.here hx rfl (hb hby d_wr_16) rfl k) ?_
  show Go p.tables e below _ (T74.setTop (mkF m 17 #[.val (.ref ao), .val (.ref bo), .val (.int (6 : Int32)), .val (.int (nibS qb (40 : Int32)))] [(.int ((15 : Int32) - (6 : Int32))), (.int (4 : Int32)), (.long qb)]))
  rw [show ((15 : Int32) - (6 : Int32)) = (9 : Int32) from by decide]
  show Go p.tables e below _ (T74.setTop (mkF m 17 #[.val (.ref ao), .val (.ref bo), .val (.int (6 : Int32)), .val (.int (nibS qb (40 : Int32)))] [(.int (9 : Int32)), (.int (4 : Int32)), (.long qb)]))
  refine Go.st (fun _ k => XS.imul X74.here hx rfl (hb hby d_wr_17) rfl k) ?_
  show Go p.tables e below _ (T74.setTop (mkF m 18 #[.val (.ref ao), .val (.ref bo), .val (.int (6 : Int32)), .val (.int (nibS qb (40 : Int32)))] [(.int ((4 : Int32) * (9 : Int32))), (.long qb)]))
  rw [show ((4 : Int32) * (9 : Int32)) = (36 : Int32) from by decide]
  show Go p.tables e below _ (T74.setTop (mkF m 18 #[.val (.ref ao), .val (.ref bo), .val (.int (6 : Int32)), .val (.int (nibS qb (40 : Int32)))] [(.int (36 : Int32)), (.long qb)]))
  refine Go.st (fun _ k => XS.lushr X74.here hx rfl (hb hby d_wr_18) rfl k) ?_
  show Go p.tables e below _ (T74.setTop (mkF m 19 #[.val (.ref ao), .val (.ref bo), .val (.int (6 : Int32)), .val (.int (nibS qb (40 : Int32)))] [(.long ((qb.toUInt64 >>> ((36 : Int32) &&& 0x3f).toInt64.toUInt64).toInt64))]))
  refine Go.st (fun _ k => XS.l2i X74.here hx rfl (hb hby d_wr_19) rfl k) ?_
  show Go p.tables e below _ (T74.setTop (mkF m 20 #[.val (.ref ao), .val (.ref bo), .val (.int (6 : Int32)), .val (.int (nibS qb (40 : Int32)))] [(.int (((qb.toUInt64 >>> ((36 : Int32) &&& 0x3f).toInt64.toUInt64).toInt64).toInt32))]))
  refine Go.st (fun _ k => XS.bipush X74.here hx rfl (hb hby d_wr_20) k) ?_
  show Go p.tables e below _ (T74.setTop (mkF m 22 #[.val (.ref ao), .val (.ref bo), .val (.int (6 : Int32)), .val (.int (nibS qb (40 : Int32)))] [(.int (15 : Int32)), (.int (((qb.toUInt64 >>> ((36 : Int32) &&& 0x3f).toInt64.toUInt64).toInt64).toInt32))]))
  refine Go.st (fun _ k => XS.iand X74.here hx rfl (hb hby d_wr_22) rfl k) ?_
  show Go p.tables e below _ (T74.setTop (mkF m 23 #[.val (.ref ao), .val (.ref bo), .val (.int (6 : Int32)), .val (.int (nibS qb (40 : Int32)))] [(.int ((((qb.toUInt64 >>> ((36 : Int32) &&& 0x3f).toInt64.toUInt64).toInt64).toInt32) &&& (15 : Int32)))]))
  refine Go.st (fun _ k => XS.istoreN X74.here hx rfl (hb hby d_wr_23) rfl (l' := #[.val (.ref ao), .val (.ref bo), .val (.int (6 : Int32)), .val (.int ((((qb.toUInt64 >>> ((36 : Int32) &&& 0x3f).toInt64.toUInt64).toInt64).toInt32) &&& (15 : Int32)))]) rfl k) ?_
  show Go p.tables e below _ (T74.setTop (mkF m 24 #[.val (.ref ao), .val (.ref bo), .val (.int (6 : Int32)), .val (.int (nibS qb (36 : Int32)))] []))
  refine Go.st (fun _ k => XS.aloadN X74.here hx rfl (hb hby d_wr_24) rfl rfl k) ?_
  show Go p.tables e below _ (T74.setTop (mkF m 25 #[.val (.ref ao), .val (.ref bo), .val (.int (6 : Int32)), .val (.int (nibS qb (36 : Int32)))] [(.ref bo)]))
  refine Go.st (fun _ k => XS.iloadN X74.here hx rfl (hb hby d_wr_25) rfl k) ?_
  show Go p.tables e below _ (T74.setTop (mkF m 26 #[.val (.ref ao), .val (.ref bo), .val (.int (6 : Int32)), .val (.int (nibS qb (36 : Int32)))] [(.int (6 : Int32)), (.ref bo)]))
  obtain ⟨T75, X75, e75, st75⟩ := getS2 X74 hx hZ hown (host := "") (Or.inl (hw _ (List.mem_of_getElem? (i := 22) rfl))) Via.refl e74 F68 (g := (mkF m 26 #[.val (.ref ao), .val (.ref bo), .val (.int (6 : Int32)), .val (.int (nibS qb (36 : Int32)))] [(.int (6 : Int32)), (.ref bo)])) rfl (hb hby d_wr_26)
  refine Go.st st75 ?_
  show Go p.tables e below _ (T75.setTop (mkF m 29 #[.val (.ref ao), .val (.ref bo), .val (.int (6 : Int32)), .val (.int (nibS qb (36 : Int32)))] [(.ref dgs), (.int (6 : Int32)), (.ref bo)]))
  refine Go.st (fun _ k => XS.iloadN X75.here hx rfl (hb hby d_wr_29) rfl k) ?_
  show Go p.tables e below _ (T75.setTop (mkF m 30 #[.val (.ref ao), .val (.ref bo), .val (.int (6 : Int32)), .val (.int (nibS qb (36 : Int32)))] [(.int (nibS qb (36 : Int32))), (.ref dgs), (.int (6 : Int32)), (.ref bo)]))
  obtain ⟨cl76, Ar76, q76, S76, M76, H76, G76⟩ := id F69
  have hin76 : ¬ ((nibS qb (36 : Int32)) < 0 ∨ cl76.slots.size ≤ ((nibS qb (36 : Int32))).toNatClampNeg) := inb_of S76 (own_nibb _ _)
  have hat76 : cl76.slots[((nibS qb (36 : Int32))).toNatClampNeg]? = some (.int (dch (nibS qb (36 : Int32)))) := Has.at H76 hin76 (own_dget (own_nib _ _))
  refine Go.st (fun _ k => X75.caload hx (j := (nibS qb (36 : Int32))) (v := (.int (dch (nibS qb (36 : Int32))))) (by rw [e75]; exact Ar76.1) (State.isArrayOf_alike hZ.alike Ar76.2.1) Ar76.2.2 hin76 hat76 (g := (mkF m 30 #[.val (.ref ao), .val (.ref bo), .val (.int (6 : Int32)), .val (.int (nibS qb (36 : Int32)))] [(.int (nibS qb (36 : Int32))), (.ref dgs), (.int (6 : Int32)), (.ref bo)])) rfl rfl (hb hby d_wr_30) _ k) ?_
  show Go p.tables e below _ (T75.setTop (mkF m 31 #[.val (.ref ao), .val (.ref bo), .val (.int (6 : Int32)), .val (.int (nibS qb (36 : Int32)))] [(.int (dch (nibS qb (36 : Int32)))), (.int (6 : Int32)), (.ref bo)]))
  obtain ⟨cl77, Ar77, q77, S77, M77, H77, G77⟩ := id F67
  have hin77 : ¬ ((6 : Int32) < 0 ∨ cl77.slots.size ≤ ((6 : Int32)).toNatClampNeg) := inb_of S77 ⟨by decide, by decide⟩
  obtain ⟨T77, h77, X77, e77, W77, st77⟩ := stC X75 hx hZ e75 Ar77 (j := (6 : Int32)) hin77 (g := (mkF m 31 #[.val (.ref ao), .val (.ref bo), .val (.int (6 : Int32)), .val (.int (nibS qb (36 : Int32)))] [(.int (dch (nibS qb (36 : Int32)))), (.int (6 : Int32)), (.ref bo)])) rfl rfl (hb hby d_wr_31)
  rw [(own_dchn (own_nib _ _))] at W77
  refine Go.st st77 ?_
  have F78 : Fld Z h77 ao "com/example/tallyroot/tallyroot/overlay/NodeId" "bits" "J" (.long qb) := F66.other W77 (Or.inl hne1)
  have F79 : Arv Z h77 bo kk .char (18 : Int32) [(.int (dch (nibS qb (60 : Int32)))), (.int (dch (nibS qb (56 : Int32)))), (.int (dch (nibS qb (52 : Int32)))), (.int (dch (nibS qb (48 : Int32)))), (.int (dch (nibS qb (44 : Int32)))), (.int (dch (nibS qb (40 : Int32)))), (.int (dch (nibS qb (36 : Int32)))), (.int u7), (.int u8), (.int u9), (.int u10), (.int u11), (.int u12), (.int u13), (.int u14), (.int u15), (.int u16), (.int u17)] (.int (0 : Int32)) := Arv.set Ar77 q77 S77 M77 H77 G77 (by have h_ := fits_nar_char (dch (nibS qb (36 : Int32))); rw [show nar .char (dch (nibS qb (36 : Int32))) = (dch (nibS qb (36 : Int32))) from (own_dchn (own_nib _ _))] at h_; exact h_) W77 6 rfl (Nat.le_of_ble_eq_true rfl)
  have F80 : Sta Z h77 "com/example/tallyroot/tallyroot/overlay/NodeId" "DIGITS" "[C" (.ref dgs) := F68.wr W77
  have F81 : Arv Z h77 dgs kd .char (16 : Int32) [(.int (48 : Int32)), (.int (49 : Int32)), (.int (50 : Int32)), (.int (51 : Int32)), (.int (52 : Int32)), (.int (53 : Int32)), (.int (54 : Int32)), (.int (55 : Int32)), (.int (56 : Int32)), (.int (57 : Int32)), (.int (97 : Int32)), (.int (98 : Int32)), (.int (99 : Int32)), (.int (100 : Int32)), (.int (101 : Int32)), (.int (102 : Int32))] (.int (0 : Int32)) := F69.other W77 hne2
  have K82 : Keep h0 h77 [bo] := K70.wr W77 (Or.inl (List.mem_of_getElem? (i := 0) rfl))
  have Z83 : n0 ≤ h77.size := Nat.le_trans Z71 (Nat.le_of_eq W77.size.symm)
  have N84 := Fr.snoc X77 N72 Pf2
  show Go p.tables e below _ (T77.setTop (mkF m 32 #[.val (.ref ao), .val (.ref bo), .val (.int (6 : Int32)), .val (.int (nibS qb (36 : Int32)))] []))
  refine Go.st (fun _ k => XS.iinc X77.here hx rfl (hb hby d_wr_32) rfl (l' := #[.val (.ref ao), .val (.ref bo), .val (.int ((6 : Int32) + (1 : Int32))), .val (.int (nibS qb (36 : Int32)))]) rfl k) ?_
  show Go p.tables e below _ (T77.setTop (mkF m 35 #[.val (.ref ao), .val (.ref bo), .val (.int ((6 : Int32) + (1 : Int32))), .val (.int (nibS qb (36 : Int32)))] []))
  rw [show ((6 : Int32) + (1 : Int32)) = (7 : Int32) from by decide]
  show Go p.tables e below _ (T77.setTop (mkF m 35 #[.val (.ref ao), .val (.ref bo), .val (.int (7 : Int32)), .val (.int (nibS qb (36 : Int32)))] []))
  refine Go.st (fun _ k => XS.goto X77.here hx rfl (pc0 := 35) (pc' := 2) rfl (hb hby d_wr_35) (by decide) (by decide) k) ?_
  show Go p.tables e below _ (T77.setTop (mkF m 2 #[.val (.ref ao), .val (.ref bo), .val (.int (7 : Int32)), .val (.int (nibS qb (36 : Int32)))] []))
  refine Go.st (fun _ k => XS.iloadN X77.here hx rfl (hb hby d_wr_2) rfl k) ?_
  show Go p.tables e below _ (T77.setTop (mkF m 3 #[.val (.ref ao), .val (.ref bo), .val (.int (7 : Int32)), .val (.int (nibS qb (36 : Int32)))] [(.int (7 : Int32))]))
  refine Go.st (fun _ k => XS.bipush X77.here hx rfl (hb hby d_wr_3) k) ?_
  show Go p.tables e below _ (T77.setTop (mkF m 5 #[.val (.ref ao), .val (.ref bo), .val (.int (7 : Int32)), .val (.int (nibS qb (36 : Int32)))] [(.int (16 : Int32)), (.int (7 : Int32))]))
  have hl85 : (7 : Int32) < (16 : Int32) := by decide
  refine Go.st (fun _ k => XS.icmpNo X77.here hx rfl (hb hby d_wr_5) rfl (Jvm.Free.XT.ii_ge_f hl85) k) ?_
  show Go p.tables e below _ (T77.setTop (mkF m 8 #[.val (.ref ao), .val (.ref bo), .val (.int (7 : Int32)), .val (.int (nibS qb (36 : Int32)))] []))
  refine Go.st (fun _ k => XS.aloadN X77.here hx rfl (hb hby d_wr_8) rfl rfl k) ?_
  show Go p.tables e below _ (T77.setTop (mkF m 9 #[.val (.ref ao), .val (.ref bo), .val (.int (7 : Int32)), .val (.int (nibS qb (36 : Int32)))] [(.ref ao)]))
  obtain ⟨T86, X86, e86, st86⟩ := getF X77 hx hZ hown (host := "") (Or.inl (hw _ (List.mem_of_getElem? (i := 15) rfl))) Via.refl e77 F78 (g := (mkF m 9 #[.val (.ref ao), .val (.ref bo), .val (.int (7 : Int32)), .val (.int (nibS qb (36 : Int32)))] [(.ref ao)])) rfl rfl (hb hby d_wr_9)
  refine Go.st st86 ?_
  show Go p.tables e below _ (T86.setTop (mkF m 12 #[.val (.ref ao), .val (.ref bo), .val (.int (7 : Int32)), .val (.int (nibS qb (36 : Int32)))] [(.long qb)]))
  refine Go.st (fun _ k => XS.iconst X86.here hx rfl (hb hby d_wr_12) k) ?_
  show Go p.tables e below _ (T86.setTop (mkF m 13 #[.val (.ref ao), .val (.ref bo), .val (.int (7 : Int32)), .val (.int (nibS qb (36 : Int32)))] [(.int (4 : Int32)), (.long qb)]))
  refine Go.st (fun _ k => XS.bipush X86.here hx rfl (hb hby d_wr_13) k) ?_
  show Go p.tables e below _ (T86.setTop (mkF m 15 #[.val (.ref ao), .val (.ref bo), .val (.int (7 : Int32)), .val (.int (nibS qb (36 : Int32)))] [(.int (15 : Int32)), (.int (4 : Int32)), (.long qb)]))
  refine Go.st (fun _ k => XS.iloadN X86.here hx rfl (hb hby d_wr_15) rfl k) ?_
  show Go p.tables e below _ (T86.setTop (mkF m 16 #[.val (.ref ao), .val (.ref bo), .val (.int (7 : Int32)), .val (.int (nibS qb (36 : Int32)))] [(.int (7 : Int32)), (.int (15 : Int32)), (.int (4 : Int32)), (.long qb)]))
  refine Go.st (fun _ k => XS.isub X86.here hx rfl (hb hby d_wr_16) rfl k) ?_
  show Go p.tables e below _ (T86.setTop (mkF m 17 #[.val (.ref ao), .val (.ref bo), .val (.int (7 : Int32)), .val (.int (nibS qb (36 : Int32)))] [(.int ((15 : Int32) - (7 : Int32))), (.int (4 : Int32)), (.long qb)]))
  rw [show ((15 : Int32) - (7 : Int32)) = (8 : Int32) from by decide]
  show Go p.tables e below _ (T86.setTop (mkF m 17 #[.val (.ref ao), .val (.ref bo), .val (.int (7 : Int32)), .val (.int (nibS qb (36 : Int32)))] [(.int (8 : Int32)), (.int (4 : Int32)), (.long qb)]))
  refine Go.st (fun _ k => XS.imul X86.here hx rfl (hb hby d_wr_17) rfl k) ?_
  show Go p.tables e below _ (T86.setTop (mkF m 18 #[.val (.ref ao), .val (.ref bo), .val (.int (7 : Int32)), .val (.int (nibS qb (36 : Int32)))] [(.int ((4 : Int32) * (8 : Int32))), (.long qb)]))
  rw [show ((4 : Int32) * (8 : Int32)) = (32 : Int32) from by decide]
  show Go p.tables e below _ (T86.setTop (mkF m 18 #[.val (.ref ao), .val (.ref bo), .val (.int (7 : Int32)), .val (.int (nibS qb (36 : Int32)))] [(.int (32 : Int32)), (.long qb)]))
  refine Go.st (fun _ k => XS.lushr X86.here hx rfl (hb hby d_wr_18) rfl k) ?_
  show Go p.tables e below _ (T86.setTop (mkF m 19 #[.val (.ref ao), .val (.ref bo), .val (.int (7 : Int32)), .val (.int (nibS qb (36 : Int32)))] [(.long ((qb.toUInt64 >>> ((32 : Int32) &&& 0x3f).toInt64.toUInt64).toInt64))]))
  refine Go.st (fun _ k => XS.l2i X86.here hx rfl (hb hby d_wr_19) rfl k) ?_
  show Go p.tables e below _ (T86.setTop (mkF m 20 #[.val (.ref ao), .val (.ref bo), .val (.int (7 : Int32)), .val (.int (nibS qb (36 : Int32)))] [(.int (((qb.toUInt64 >>> ((32 : Int32) &&& 0x3f).toInt64.toUInt64).toInt64).toInt32))]))
  refine Go.st (fun _ k => XS.bipush X86.here hx rfl (hb hby d_wr_20) k) ?_
  show Go p.tables e below _ (T86.setTop (mkF m 22 #[.val (.ref ao), .val (.ref bo), .val (.int (7 : Int32)), .val (.int (nibS qb (36 : Int32)))] [(.int (15 : Int32)), (.int (((qb.toUInt64 >>> ((32 : Int32) &&& 0x3f).toInt64.toUInt64).toInt64).toInt32))]))
  refine Go.st (fun _ k => XS.iand X86.here hx rfl (hb hby d_wr_22) rfl k) ?_
  show Go p.tables e below _ (T86.setTop (mkF m 23 #[.val (.ref ao), .val (.ref bo), .val (.int (7 : Int32)), .val (.int (nibS qb (36 : Int32)))] [(.int ((((qb.toUInt64 >>> ((32 : Int32) &&& 0x3f).toInt64.toUInt64).toInt64).toInt32) &&& (15 : Int32)))]))
  refine Go.st (fun _ k => XS.istoreN X86.here hx rfl (hb hby d_wr_23) rfl (l' := #[.val (.ref ao), .val (.ref bo), .val (.int (7 : Int32)), .val (.int ((((qb.toUInt64 >>> ((32 : Int32) &&& 0x3f).toInt64.toUInt64).toInt64).toInt32) &&& (15 : Int32)))]) rfl k) ?_
  show Go p.tables e below _ (T86.setTop (mkF m 24 #[.val (.ref ao), .val (.ref bo), .val (.int (7 : Int32)), .val (.int (nibS qb (32 : Int32)))] []))
  refine Go.st (fun _ k => XS.aloadN X86.here hx rfl (hb hby d_wr_24) rfl rfl k) ?_
  show Go p.tables e below _ (T86.setTop (mkF m 25 #[.val (.ref ao), .val (.ref bo), .val (.int (7 : Int32)), .val (.int (nibS qb (32 : Int32)))] [(.ref bo)]))
  refine Go.st (fun _ k => XS.iloadN X86.here hx rfl (hb hby d_wr_25) rfl k) ?_
  show Go p.tables e below _ (T86.setTop (mkF m 26 #[.val (.ref ao), .val (.ref bo), .val (.int (7 : Int32)), .val (.int (nibS qb (32 : Int32)))] [(.int (7 : Int32)), (.ref bo)]))
  obtain ⟨T87, X87, e87, st87⟩ := getS2 X86 hx hZ hown (host := "") (Or.inl (hw _ (List.mem_of_getElem? (i := 22) rfl))) Via.refl e86 F80 (g := (mkF m 26 #[.val (.ref ao), .val (.ref bo), .val (.int (7 : Int32)), .val (.int (nibS qb (32 : Int32)))] [(.int (7 : Int32)), (.ref bo)])) rfl (hb hby d_wr_26)
  refine Go.st st87 ?_
  show Go p.tables e below _ (T87.setTop (mkF m 29 #[.val (.ref ao), .val (.ref bo), .val (.int (7 : Int32)), .val (.int (nibS qb (32 : Int32)))] [(.ref dgs), (.int (7 : Int32)), (.ref bo)]))
  refine Go.st (fun _ k => XS.iloadN X87.here hx rfl (hb hby d_wr_29) rfl k) ?_
  show Go p.tables e below _ (T87.setTop (mkF m 30 #[.val (.ref ao), .val (.ref bo), .val (.int (7 : Int32)), .val (.int (nibS qb (32 : Int32)))] [(.int (nibS qb (32 : Int32))), (.ref dgs), (.int (7 : Int32)), (.ref bo)]))
  obtain ⟨cl88, Ar88, q88, S88, M88, H88, G88⟩ := id F81
  have hin88 : ¬ ((nibS qb (32 : Int32)) < 0 ∨ cl88.slots.size ≤ ((nibS qb (32 : Int32))).toNatClampNeg) := inb_of S88 (own_nibb _ _)
  have hat88 : cl88.slots[((nibS qb (32 : Int32))).toNatClampNeg]? = some (.int (dch (nibS qb (32 : Int32)))) := Has.at H88 hin88 (own_dget (own_nib _ _))
  refine Go.st (fun _ k => X87.caload hx (j := (nibS qb (32 : Int32))) (v := (.int (dch (nibS qb (32 : Int32))))) (by rw [e87]; exact Ar88.1) (State.isArrayOf_alike hZ.alike Ar88.2.1) Ar88.2.2 hin88 hat88 (g := (mkF m 30 #[.val (.ref ao), .val (.ref bo), .val (.int (7 : Int32)), .val (.int (nibS qb (32 : Int32)))] [(.int (nibS qb (32 : Int32))), (.ref dgs), (.int (7 : Int32)), (.ref bo)])) rfl rfl (hb hby d_wr_30) _ k) ?_
  show Go p.tables e below _ (T87.setTop (mkF m 31 #[.val (.ref ao), .val (.ref bo), .val (.int (7 : Int32)), .val (.int (nibS qb (32 : Int32)))] [(.int (dch (nibS qb (32 : Int32)))), (.int (7 : Int32)), (.ref bo)]))
  obtain ⟨cl89, Ar89, q89, S89, M89, H89, G89⟩ := id F79
  have hin89 : ¬ ((7 : Int32) < 0 ∨ cl89.slots.size ≤ ((7 : Int32)).toNatClampNeg) := inb_of S89 ⟨by decide, by decide⟩
  obtain ⟨T89, h89, X89, e89, W89, st89⟩ := stC X87 hx hZ e87 Ar89 (j := (7 : Int32)) hin89 (g := (mkF m 31 #[.val (.ref ao), .val (.ref bo), .val (.int (7 : Int32)), .val (.int (nibS qb (32 : Int32)))] [(.int (dch (nibS qb (32 : Int32)))), (.int (7 : Int32)), (.ref bo)])) rfl rfl (hb hby d_wr_31)
  rw [(own_dchn (own_nib _ _))] at W89
  refine Go.st st89 ?_
  have F90 : Fld Z h89 ao "com/example/tallyroot/tallyroot/overlay/NodeId" "bits" "J" (.long qb) := F78.other W89 (Or.inl hne1)
  have F91 : Arv Z h89 bo kk .char (18 : Int32) [(.int (dch (nibS qb (60 : Int32)))), (.int (dch (nibS qb (56 : Int32)))), (.int (dch (nibS qb (52 : Int32)))), (.int (dch (nibS qb (48 : Int32)))), (.int (dch (nibS qb (44 : Int32)))), (.int (dch (nibS qb (40 : Int32)))), (.int (dch (nibS qb (36 : Int32)))), (.int (dch (nibS qb (32 : Int32)))), (.int u8), (.int u9), (.int u10), (.int u11), (.int u12), (.int u13), (.int u14), (.int u15), (.int u16), (.int u17)] (.int (0 : Int32)) := Arv.set Ar89 q89 S89 M89 H89 G89 (by have h_ := fits_nar_char (dch (nibS qb (32 : Int32))); rw [show nar .char (dch (nibS qb (32 : Int32))) = (dch (nibS qb (32 : Int32))) from (own_dchn (own_nib _ _))] at h_; exact h_) W89 7 rfl (Nat.le_of_ble_eq_true rfl)
  have F92 : Sta Z h89 "com/example/tallyroot/tallyroot/overlay/NodeId" "DIGITS" "[C" (.ref dgs) := F80.wr W89
  have F93 : Arv Z h89 dgs kd .char (16 : Int32) [(.int (48 : Int32)), (.int (49 : Int32)), (.int (50 : Int32)), (.int (51 : Int32)), (.int (52 : Int32)), (.int (53 : Int32)), (.int (54 : Int32)), (.int (55 : Int32)), (.int (56 : Int32)), (.int (57 : Int32)), (.int (97 : Int32)), (.int (98 : Int32)), (.int (99 : Int32)), (.int (100 : Int32)), (.int (101 : Int32)), (.int (102 : Int32))] (.int (0 : Int32)) := F81.other W89 hne2
  have K94 : Keep h0 h89 [bo] := K82.wr W89 (Or.inl (List.mem_of_getElem? (i := 0) rfl))
  have Z95 : n0 ≤ h89.size := Nat.le_trans Z83 (Nat.le_of_eq W89.size.symm)
  have N96 := Fr.snoc X89 N84 Pf2
  show Go p.tables e below _ (T89.setTop (mkF m 32 #[.val (.ref ao), .val (.ref bo), .val (.int (7 : Int32)), .val (.int (nibS qb (32 : Int32)))] []))
  refine Go.st (fun _ k => XS.iinc X89.here hx rfl (hb hby d_wr_32) rfl (l' := #[.val (.ref ao), .val (.ref bo), .val (.int ((7 : Int32) + (1 : Int32))), .val (.int (nibS qb (32 : Int32)))]) rfl k) ?_
  show Go p.tables e below _ (T89.setTop (mkF m 35 #[.val (.ref ao), .val (.ref bo), .val (.int ((7 : Int32) + (1 : Int32))), .val (.int (nibS qb (32 : Int32)))] []))
  rw [show ((7 : Int32) + (1 : Int32)) = (8 : Int32) from by decide]
  show Go p.tables e below _ (T89.setTop (mkF m 35 #[.val (.ref ao), .val (.ref bo), .val (.int (8 : Int32)), .val (.int (nibS qb (32 : Int32)))] []))
  refine Go.st (fun _ k => XS.goto X89.here hx rfl (pc0 := 35) (pc' := 2) rfl (hb hby d_wr_35) (by decide) (by decide) k) ?_
  show Go p.tables e below _ (T89.setTop (mkF m 2 #[.val (.ref ao), .val (.ref bo), .val (.int (8 : Int32)), .val (.int (nibS qb (32 : Int32)))] []))
  refine Go.st (fun _ k => XS.iloadN X89.here hx rfl (hb hby d_wr_2) rfl k) ?_
  show Go p.tables e below _ (T89.setTop (mkF m 3 #[.val (.ref ao), .val (.ref bo), .val (.int (8 : Int32)), .val (.int (nibS qb (32 : Int32)))] [(.int (8 : Int32))]))
  refine Go.st (fun _ k => XS.bipush X89.here hx rfl (hb hby d_wr_3) k) ?_
  show Go p.tables e below _ (T89.setTop (mkF m 5 #[.val (.ref ao), .val (.ref bo), .val (.int (8 : Int32)), .val (.int (nibS qb (32 : Int32)))] [(.int (16 : Int32)), (.int (8 : Int32))]))
  have hl97 : (8 : Int32) < (16 : Int32) := by decide
  refine Go.st (fun _ k => XS.icmpNo X89.here hx rfl (hb hby d_wr_5) rfl (Jvm.Free.XT.ii_ge_f hl97) k) ?_
  show Go p.tables e below _ (T89.setTop (mkF m 8 #[.val (.ref ao), .val (.ref bo), .val (.int (8 : Int32)), .val (.int (nibS qb (32 : Int32)))] []))
  refine Go.st (fun _ k => XS.aloadN X89.here hx rfl (hb hby d_wr_8) rfl rfl k) ?_
  show Go p.tables e below _ (T89.setTop (mkF m 9 #[.val (.ref ao), .val (.ref bo), .val (.int (8 : Int32)), .val (.int (nibS qb (32 : Int32)))] [(.ref ao)]))
  obtain ⟨T98, X98, e98, st98⟩ := getF X89 hx hZ hown (host := "") (Or.inl (hw _ (List.mem_of_getElem? (i := 15) rfl))) Via.refl e89 F90 (g := (mkF m 9 #[.val (.ref ao), .val (.ref bo), .val (.int (8 : Int32)), .val (.int (nibS qb (32 : Int32)))] [(.ref ao)])) rfl rfl (hb hby d_wr_9)
  refine Go.st st98 ?_
  show Go p.tables e below _ (T98.setTop (mkF m 12 #[.val (.ref ao), .val (.ref bo), .val (.int (8 : Int32)), .val (.int (nibS qb (32 : Int32)))] [(.long qb)]))
  refine Go.st (fun _ k => XS.iconst X98.here hx rfl (hb hby d_wr_12) k) ?_
  show Go p.tables e below _ (T98.setTop (mkF m 13 #[.val (.ref ao), .val (.ref bo), .val (.int (8 : Int32)), .val (.int (nibS qb (32 : Int32)))] [(.int (4 : Int32)), (.long qb)]))
  refine Go.st (fun _ k => XS.bipush X98.here hx rfl (hb hby d_wr_13) k) ?_
  show Go p.tables e below _ (T98.setTop (mkF m 15 #[.val (.ref ao), .val (.ref bo), .val (.int (8 : Int32)), .val (.int (nibS qb (32 : Int32)))] [(.int (15 : Int32)), (.int (4 : Int32)), (.long qb)]))
  refine Go.st (fun _ k => XS.iloadN X98.here hx rfl (hb hby d_wr_15) rfl k) ?_
  show Go p.tables e below _ (T98.setTop (mkF m 16 #[.val (.ref ao), .val (.ref bo), .val (.int (8 : Int32)), .val (.int (nibS qb (32 : Int32)))] [(.int (8 : Int32)), (.int (15 : Int32)), (.int (4 : Int32)), (.long qb)]))
  refine Go.st (fun _ k => XS.isub X98.here hx rfl (hb hby d_wr_16) rfl k) ?_
  show Go p.tables e below _ (T98.setTop (mkF m 17 #[.val (.ref ao), .val (.ref bo), .val (.int (8 : Int32)), .val (.int (nibS qb (32 : Int32)))] [(.int ((15 : Int32) - (8 : Int32))), (.int (4 : Int32)), (.long qb)]))
  rw [show ((15 : Int32) - (8 : Int32)) = (7 : Int32) from by decide]
  show Go p.tables e below _ (T98.setTop (mkF m 17 #[.val (.ref ao), .val (.ref bo), .val (.int (8 : Int32)), .val (.int (nibS qb (32 : Int32)))] [(.int (7 : Int32)), (.int (4 : Int32)), (.long qb)]))
  refine Go.st (fun _ k => XS.imul X98.here hx rfl (hb hby d_wr_17) rfl k) ?_
  show Go p.tables e below _ (T98.setTop (mkF m 18 #[.val (.ref ao), .val (.ref bo), .val (.int (8 : Int32)), .val (.int (nibS qb (32 : Int32)))] [(.int ((4 : Int32) * (7 : Int32))), (.long qb)]))
  rw [show ((4 : Int32) * (7 : Int32)) = (28 : Int32) from by decide]
  show Go p.tables e below _ (T98.setTop (mkF m 18 #[.val (.ref ao), .val (.ref bo), .val (.int (8 : Int32)), .val (.int (nibS qb (32 : Int32)))] [(.int (28 : Int32)), (.long qb)]))
  refine Go.st (fun _ k => XS.lushr X98.here hx rfl (hb hby d_wr_18) rfl k) ?_
  show Go p.tables e below _ (T98.setTop (mkF m 19 #[.val (.ref ao), .val (.ref bo), .val (.int (8 : Int32)), .val (.int (nibS qb (32 : Int32)))] [(.long ((qb.toUInt64 >>> ((28 : Int32) &&& 0x3f).toInt64.toUInt64).toInt64))]))
  refine Go.st (fun _ k => XS.l2i X98.here hx rfl (hb hby d_wr_19) rfl k) ?_
  show Go p.tables e below _ (T98.setTop (mkF m 20 #[.val (.ref ao), .val (.ref bo), .val (.int (8 : Int32)), .val (.int (nibS qb (32 : Int32)))] [(.int (((qb.toUInt64 >>> ((28 : Int32) &&& 0x3f).toInt64.toUInt64).toInt64).toInt32))]))
  refine Go.st (fun _ k => XS.bipush X98.here hx rfl (hb hby d_wr_20) k) ?_
  show Go p.tables e below _ (T98.setTop (mkF m 22 #[.val (.ref ao), .val (.ref bo), .val (.int (8 : Int32)), .val (.int (nibS qb (32 : Int32)))] [(.int (15 : Int32)), (.int (((qb.toUInt64 >>> ((28 : Int32) &&& 0x3f).toInt64.toUInt64).toInt64).toInt32))]))
  refine Go.st (fun _ k => XS.iand X98.here hx rfl (hb hby d_wr_22) rfl k) ?_
  show Go p.tables e below _ (T98.setTop (mkF m 23 #[.val (.ref ao), .val (.ref bo), .val (.int (8 : Int32)), .val (.int (nibS qb (32 : Int32)))] [(.int ((((qb.toUInt64 >>> ((28 : Int32) &&& 0x3f).toInt64.toUInt64).toInt64).toInt32) &&& (15 : Int32)))]))
  refine Go.st (fun _ k => XS.istoreN X98.here hx rfl (hb hby d_wr_23) rfl (l' := #[.val (.ref ao), .val (.ref bo), .val (.int (8 : Int32)), .val (.int ((((qb.toUInt64 >>> ((28 : Int32) &&& 0x3f).toInt64.toUInt64).toInt64).toInt32) &&& (15 : Int32)))]) rfl k) ?_
  show Go p.tables e below _ (T98.setTop (mkF m 24 #[.val (.ref ao), .val (.ref bo), .val (.int (8 : Int32)), .val (.int (nibS qb (28 : Int32)))] []))
  refine Go.st (fun _ k => XS.aloadN X98.here hx rfl (hb hby d_wr_24) rfl rfl k) ?_
  show Go p.tables e below _ (T98.setTop (mkF m 25 #[.val (.ref ao), .val (.ref bo), .val (.int (8 : Int32)), .val (.int (nibS qb (28 : Int32)))] [(.ref bo)]))
  refine Go.st (fun _ k => XS.iloadN X98.here hx rfl (hb hby d_wr_25) rfl k) ?_
  show Go p.tables e below _ (T98.setTop (mkF m 26 #[.val (.ref ao), .val (.ref bo), .val (.int (8 : Int32)), .val (.int (nibS qb (28 : Int32)))] [(.int (8 : Int32)), (.ref bo)]))
  obtain ⟨T99, X99, e99, st99⟩ := getS2 X98 hx hZ hown (host := "") (Or.inl (hw _ (List.mem_of_getElem? (i := 22) rfl))) Via.refl e98 F92 (g := (mkF m 26 #[.val (.ref ao), .val (.ref bo), .val (.int (8 : Int32)), .val (.int (nibS qb (28 : Int32)))] [(.int (8 : Int32)), (.ref bo)])) rfl (hb hby d_wr_26)
  refine Go.st st99 ?_
  show Go p.tables e below _ (T99.setTop (mkF m 29 #[.val (.ref ao), .val (.ref bo), .val (.int (8 : Int32)), .val (.int (nibS qb (28 : Int32)))] [(.ref dgs), (.int (8 : Int32)), (.ref bo)]))
  refine Go.st (fun _ k => XS.iloadN X99.here hx rfl (hb hby d_wr_29) rfl k) ?_
  show Go p.tables e below _ (T99.setTop (mkF m 30 #[.val (.ref ao), .val (.ref bo), .val (.int (8 : Int32)), .val (.int (nibS qb (28 : Int32)))] [(.int (nibS qb (28 : Int32))), (.ref dgs), (.int (8 : Int32)), (.ref bo)]))
  obtain ⟨cl100, Ar100, q100, S100, M100, H100, G100⟩ := id F93
  have hin100 : ¬ ((nibS qb (28 : Int32)) < 0 ∨ cl100.slots.size ≤ ((nibS qb (28 : Int32))).toNatClampNeg) := inb_of S100 (own_nibb _ _)
  have hat100 : cl100.slots[((nibS qb (28 : Int32))).toNatClampNeg]? = some (.int (dch (nibS qb (28 : Int32)))) := Has.at H100 hin100 (own_dget (own_nib _ _))
  refine Go.st (fun _ k => X99.caload hx (j := (nibS qb (28 : Int32))) (v := (.int (dch (nibS qb (28 : Int32))))) (by rw [e99]; exact Ar100.1) (State.isArrayOf_alike hZ.alike Ar100.2.1) Ar100.2.2 hin100 hat100 (g := (mkF m 30 #[.val (.ref ao), .val (.ref bo), .val (.int (8 : Int32)), .val (.int (nibS qb (28 : Int32)))] [(.int (nibS qb (28 : Int32))), (.ref dgs), (.int (8 : Int32)), (.ref bo)])) rfl rfl (hb hby d_wr_30) _ k) ?_
  show Go p.tables e below _ (T99.setTop (mkF m 31 #[.val (.ref ao), .val (.ref bo), .val (.int (8 : Int32)), .val (.int (nibS qb (28 : Int32)))] [(.int (dch (nibS qb (28 : Int32)))), (.int (8 : Int32)), (.ref bo)]))
  obtain ⟨cl101, Ar101, q101, S101, M101, H101, G101⟩ := id F91
  have hin101 : ¬ ((8 : Int32) < 0 ∨ cl101.slots.size ≤ ((8 : Int32)).toNatClampNeg) := inb_of S101 ⟨by decide, by decide⟩
  obtain ⟨T101, h101, X101, e101, W101, st101⟩ := stC X99 hx hZ e99 Ar101 (j := (8 : Int32)) hin101 (g := (mkF m 31 #[.val (.ref ao), .val (.ref bo), .val (.int (8 : Int32)), .val (.int (nibS qb (28 : Int32)))] [(.int (dch (nibS qb (28 : Int32)))), (.int (8 : Int32)), (.ref bo)])) rfl rfl (hb hby d_wr_31)
  rw [(own_dchn (own_nib _ _))] at W101
  refine Go.st st101 ?_
  have F102 : Fld Z h101 ao "com/example/tallyroot/tallyroot/overlay/NodeId" "bits" "J" (.long qb) := F90.other W101 (Or.inl hne1)
  have F103 : Arv Z h101 bo kk .char (18 : Int32) [(.int (dch (nibS qb (60 : Int32)))), (.int (dch (nibS qb (56 : Int32)))), (.int (dch (nibS qb (52 : Int32)))), (.int (dch (nibS qb (48 : Int32)))), (.int (dch (nibS qb (44 : Int32)))), (.int (dch (nibS qb (40 : Int32)))), (.int (dch (nibS qb (36 : Int32)))), (.int (dch (nibS qb (32 : Int32)))), (.int (dch (nibS qb (28 : Int32)))), (.int u9), (.int u10), (.int u11), (.int u12), (.int u13), (.int u14), (.int u15), (.int u16), (.int u17)] (.int (0 : Int32)) := Arv.set Ar101 q101 S101 M101 H101 G101 (by have h_ := fits_nar_char (dch (nibS qb (28 : Int32))); rw [show nar .char (dch (nibS qb (28 : Int32))) = (dch (nibS qb (28 : Int32))) from (own_dchn (own_nib _ _))] at h_; exact h_) W101 8 rfl (Nat.le_of_ble_eq_true rfl)
  have F104 : Sta Z h101 "com/example/tallyroot/tallyroot/overlay/NodeId" "DIGITS" "[C" (.ref dgs) := F92.wr W101
  have F105 : Arv Z h101 dgs kd .char (16 : Int32) [(.int (48 : Int32)), (.int (49 : Int32)), (.int (50 : Int32)), (.int (51 : Int32)), (.int (52 : Int32)), (.int (53 : Int32)), (.int (54 : Int32)), (.int (55 : Int32)), (.int (56 : Int32)), (.int (57 : Int32)), (.int (97 : Int32)), (.int (98 : Int32)), (.int (99 : Int32)), (.int (100 : Int32)), (.int (101 : Int32)), (.int (102 : Int32))] (.int (0 : Int32)) := F93.other W101 hne2
  have K106 : Keep h0 h101 [bo] := K94.wr W101 (Or.inl (List.mem_of_getElem? (i := 0) rfl))
  have Z107 : n0 ≤ h101.size := Nat.le_trans Z95 (Nat.le_of_eq W101.size.symm)
  have N108 := Fr.snoc X101 N96 Pf2
  show Go p.tables e below _ (T101.setTop (mkF m 32 #[.val (.ref ao), .val (.ref bo), .val (.int (8 : Int32)), .val (.int (nibS qb (28 : Int32)))] []))
  refine Go.st (fun _ k => XS.iinc X101.here hx rfl (hb hby d_wr_32) rfl (l' := #[.val (.ref ao), .val (.ref bo), .val (.int ((8 : Int32) + (1 : Int32))), .val (.int (nibS qb (28 : Int32)))]) rfl k) ?_
  show Go p.tables e below _ (T101.setTop (mkF m 35 #[.val (.ref ao), .val (.ref bo), .val (.int ((8 : Int32) + (1 : Int32))), .val (.int (nibS qb (28 : Int32)))] []))
  rw [show ((8 : Int32) + (1 : Int32)) = (9 : Int32) from by decide]
  show Go p.tables e below _ (T101.setTop (mkF m 35 #[.val (.ref ao), .val (.ref bo), .val (.int (9 : Int32)), .val (.int (nibS qb (28 : Int32)))] []))
  refine Go.st (fun _ k => XS.goto X101.here hx rfl (pc0 := 35) (pc' := 2) rfl (hb hby d_wr_35) (by decide) (by decide) k) ?_
  show Go p.tables e below _ (T101.setTop (mkF m 2 #[.val (.ref ao), .val (.ref bo), .val (.int (9 : Int32)), .val (.int (nibS qb (28 : Int32)))] []))
  refine Go.st (fun _ k => XS.iloadN X101.here hx rfl (hb hby d_wr_2) rfl k) ?_
  show Go p.tables e below _ (T101.setTop (mkF m 3 #[.val (.ref ao), .val (.ref bo), .val (.int (9 : Int32)), .val (.int (nibS qb (28 : Int32)))] [(.int (9 : Int32))]))
  refine Go.st (fun _ k => XS.bipush X101.here hx rfl (hb hby d_wr_3) k) ?_
  show Go p.tables e below _ (T101.setTop (mkF m 5 #[.val (.ref ao), .val (.ref bo), .val (.int (9 : Int32)), .val (.int (nibS qb (28 : Int32)))] [(.int (16 : Int32)), (.int (9 : Int32))]))
  have hl109 : (9 : Int32) < (16 : Int32) := by decide
  refine Go.st (fun _ k => XS.icmpNo X101.here hx rfl (hb hby d_wr_5) rfl (Jvm.Free.XT.ii_ge_f hl109) k) ?_
  show Go p.tables e below _ (T101.setTop (mkF m 8 #[.val (.ref ao), .val (.ref bo), .val (.int (9 : Int32)), .val (.int (nibS qb (28 : Int32)))] []))
  refine Go.st (fun _ k => XS.aloadN X101.here hx rfl (hb hby d_wr_8) rfl rfl k) ?_
  show Go p.tables e below _ (T101.setTop (mkF m 9 #[.val (.ref ao), .val (.ref bo), .val (.int (9 : Int32)), .val (.int (nibS qb (28 : Int32)))] [(.ref ao)]))
  obtain ⟨T110, X110, e110, st110⟩ := getF X101 hx hZ hown (host := "") (Or.inl (hw _ (List.mem_of_getElem? (i := 15) rfl))) Via.refl e101 F102 (g := (mkF m 9 #[.val (.ref ao), .val (.ref bo), .val (.int (9 : Int32)), .val (.int (nibS qb (28 : Int32)))] [(.ref ao)])) rfl rfl (hb hby d_wr_9)
  refine Go.st st110 ?_
  show Go p.tables e below _ (T110.setTop (mkF m 12 #[.val (.ref ao), .val (.ref bo), .val (.int (9 : Int32)), .val (.int (nibS qb (28 : Int32)))] [(.long qb)]))
  refine Go.st (fun _ k => XS.iconst X110.here hx rfl (hb hby d_wr_12) k) ?_
  show Go p.tables e below _ (T110.setTop (mkF m 13 #[.val (.ref ao), .val (.ref bo), .val (.int (9 : Int32)), .val (.int (nibS qb (28 : Int32)))] [(.int (4 : Int32)), (.long qb)]))
  refine Go.st (fun _ k => XS.bipush X110.here hx rfl (hb hby d_wr_13) k) ?_
  show Go p.tables e below _ (T110.setTop (mkF m 15 #[.val (.ref ao), .val (.ref bo), .val (.int (9 : Int32)), .val (.int (nibS qb (28 : Int32)))] [(.int (15 : Int32)), (.int (4 : Int32)), (.long qb)]))
  refine Go.st (fun _ k => XS.iloadN X110.here hx rfl (hb hby d_wr_15) rfl k) ?_
  show Go p.tables e below _ (T110.setTop (mkF m 16 #[.val (.ref ao), .val (.ref bo), .val (.int (9 : Int32)), .val (.int (nibS qb (28 : Int32)))] [(.int (9 : Int32)), (.int (15 : Int32)), (.int (4 : Int32)), (.long qb)]))
  refine Go.st (fun _ k => XS.isub X110.here hx rfl (hb hby d_wr_16) rfl k) ?_
  show Go p.tables e below _ (T110.setTop (mkF m 17 #[.val (.ref ao), .val (.ref bo), .val (.int (9 : Int32)), .val (.int (nibS qb (28 : Int32)))] [(.int ((15 : Int32) - (9 : Int32))), (.int (4 : Int32)), (.long qb)]))
  rw [show ((15 : Int32) - (9 : Int32)) = (6 : Int32) from by decide]
  show Go p.tables e below _ (T110.setTop (mkF m 17 #[.val (.ref ao), .val (.ref bo), .val (.int (9 : Int32)), .val (.int (nibS qb (28 : Int32)))] [(.int (6 : Int32)), (.int (4 : Int32)), (.long qb)]))
  refine Go.st (fun _ k => XS.imul X110.here hx rfl (hb hby d_wr_17) rfl k) ?_
  show Go p.tables e below _ (T110.setTop (mkF m 18 #[.val (.ref ao), .val (.ref bo), .val (.int (9 : Int32)), .val (.int (nibS qb (28 : Int32)))] [(.int ((4 : Int32) * (6 : Int32))), (.long qb)]))
  rw [show ((4 : Int32) * (6 : Int32)) = (24 : Int32) from by decide]
  show Go p.tables e below _ (T110.setTop (mkF m 18 #[.val (.ref ao), .val (.ref bo), .val (.int (9 : Int32)), .val (.int (nibS qb (28 : Int32)))] [(.int (24 : Int32)), (.long qb)]))
  refine Go.st (fun _ k => XS.lushr X110.here hx rfl (hb hby d_wr_18) rfl k) ?_
  show Go p.tables e below _ (T110.setTop (mkF m 19 #[.val (.ref ao), .val (.ref bo), .val (.int (9 : Int32)), .val (.int (nibS qb (28 : Int32)))] [(.long ((qb.toUInt64 >>> ((24 : Int32) &&& 0x3f).toInt64.toUInt64).toInt64))]))
  refine Go.st (fun _ k => XS.l2i X110.here hx rfl (hb hby d_wr_19) rfl k) ?_
  show Go p.tables e below _ (T110.setTop (mkF m 20 #[.val (.ref ao), .val (.ref bo), .val (.int (9 : Int32)), .val (.int (nibS qb (28 : Int32)))] [(.int (((qb.toUInt64 >>> ((24 : Int32) &&& 0x3f).toInt64.toUInt64).toInt64).toInt32))]))
  refine Go.st (fun _ k => XS.bipush X110.here hx rfl (hb hby d_wr_20) k) ?_
  show Go p.tables e below _ (T110.setTop (mkF m 22 #[.val (.ref ao), .val (.ref bo), .val (.int (9 : Int32)), .val (.int (nibS qb (28 : Int32)))] [(.int (15 : Int32)), (.int (((qb.toUInt64 >>> ((24 : Int32) &&& 0x3f).toInt64.toUInt64).toInt64).toInt32))]))
  refine Go.st (fun _ k => XS.iand X110.here hx rfl (hb hby d_wr_22) rfl k) ?_
  show Go p.tables e below _ (T110.setTop (mkF m 23 #[.val (.ref ao), .val (.ref bo), .val (.int (9 : Int32)), .val (.int (nibS qb (28 : Int32)))] [(.int ((((qb.toUInt64 >>> ((24 : Int32) &&& 0x3f).toInt64.toUInt64).toInt64).toInt32) &&& (15 : Int32)))]))
  refine Go.st (fun _ k => XS.istoreN X110.here hx rfl (hb hby d_wr_23) rfl (l' := #[.val (.ref ao), .val (.ref bo), .val (.int (9 : Int32)), .val (.int ((((qb.toUInt64 >>> ((24 : Int32) &&& 0x3f).toInt64.toUInt64).toInt64).toInt32) &&& (15 : Int32)))]) rfl k) ?_
  show Go p.tables e below _ (T110.setTop (mkF m 24 #[.val (.ref ao), .val (.ref bo), .val (.int (9 : Int32)), .val (.int (nibS qb (24 : Int32)))] []))
  refine Go.st (fun _ k => XS.aloadN X110.here hx rfl (hb hby d_wr_24) rfl rfl k) ?_
  show Go p.tables e below _ (T110.setTop (mkF m 25 #[.val (.ref ao), .val (.ref bo), .val (.int (9 : Int32)), .val (.int (nibS qb (24 : Int32)))] [(.ref bo)]))
  refine Go.st (fun _ k => XS.iloadN X110.here hx rfl (hb hby d_wr_25) rfl k) ?_
  show Go p.tables e below _ (T110.setTop (mkF m 26 #[.val (.ref ao), .val (.ref bo), .val (.int (9 : Int32)), .val (.int (nibS qb (24 : Int32)))] [(.int (9 : Int32)), (.ref bo)]))
  obtain ⟨T111, X111, e111, st111⟩ := getS2 X110 hx hZ hown (host := "") (Or.inl (hw _ (List.mem_of_getElem? (i := 22) rfl))) Via.refl e110 F104 (g := (mkF m 26 #[.val (.ref ao), .val (.ref bo), .val (.int (9 : Int32)), .val (.int (nibS qb (24 : Int32)))] [(.int (9 : Int32)), (.ref bo)])) rfl (hb hby d_wr_26)
  refine Go.st st111 ?_
  show Go p.tables e below _ (T111.setTop (mkF m 29 #[.val (.ref ao), .val (.ref bo), .val (.int (9 : Int32)), .val (.int (nibS qb (24 : Int32)))] [(.ref dgs), (.int (9 : Int32)), (.ref bo)]))
  refine Go.st (fun _ k => XS.iloadN X111.here hx rfl (hb hby d_wr_29) rfl k) ?_
  show Go p.tables e below _ (T111.setTop (mkF m 30 #[.val (.ref ao), .val (.ref bo), .val (.int (9 : Int32)), .val (.int (nibS qb (24 : Int32)))] [(.int (nibS qb (24 : Int32))), (.ref dgs), (.int (9 : Int32)), (.ref bo)]))
  obtain ⟨cl112, Ar112, q112, S112, M112, H112, G112⟩ := id F105
  have hin112 : ¬ ((nibS qb (24 : Int32)) < 0 ∨ cl112.slots.size ≤ ((nibS qb (24 : Int32))).toNatClampNeg) := inb_of S112 (own_nibb _ _)
  have hat112 : cl112.slots[((nibS qb (24 : Int32))).toNatClampNeg]? = some (.int (dch (nibS qb (24 : Int32)))) := Has.at H112 hin112 (own_dget (own_nib _ _))
  refine Go.st (fun _ k => X111.caload hx (j := (nibS qb (24 : Int32))) (v := (.int (dch (nibS qb (24 : Int32))))) (by rw [e111]; exact Ar112.1) (State.isArrayOf_alike hZ.alike Ar112.2.1) Ar112.2.2 hin112 hat112 (g := (mkF m 30 #[.val (.ref ao), .val (.ref bo), .val (.int (9 : Int32)), .val (.int (nibS qb (24 : Int32)))] [(.int (nibS qb (24 : Int32))), (.ref dgs), (.int (9 : Int32)), (.ref bo)])) rfl rfl (hb hby d_wr_30) _ k) ?_
  show Go p.tables e below _ (T111.setTop (mkF m 31 #[.val (.ref ao), .val (.ref bo), .val (.int (9 : Int32)), .val (.int (nibS qb (24 : Int32)))] [(.int (dch (nibS qb (24 : Int32)))), (.int (9 : Int32)), (.ref bo)]))
  obtain ⟨cl113, Ar113, q113, S113, M113, H113, G113⟩ := id F103
  have hin113 : ¬ ((9 : Int32) < 0 ∨ cl113.slots.size ≤ ((9 : Int32)).toNatClampNeg) := inb_of S113 ⟨by decide, by decide⟩
  obtain ⟨T113, h113, X113, e113, W113, st113⟩ := stC X111 hx hZ e111 Ar113 (j := (9 : Int32)) hin113 (g := (mkF m 31 #[.val (.ref ao), .val (.ref bo), .val (.int (9 : Int32)), .val (.int (nibS qb (24 : Int32)))] [(.int (dch (nibS qb (24 : Int32)))), (.int (9 : Int32)), (.ref bo)])) rfl rfl (hb hby d_wr_31)
  rw [(own_dchn (own_nib _ _))] at W113
  refine Go.st st113 ?_
  have F114 : Fld Z h113 ao "com/example/tallyroot/tallyroot/overlay/NodeId" "bits" "J" (.long qb) := F102.other W113 (Or.inl hne1)
  have F115 : Arv Z h113 bo kk .char (18 : Int32) [(.int (dch (nibS qb (60 : Int32)))), (.int (dch (nibS qb (56 : Int32)))), (.int (dch (nibS qb (52 : Int32)))), (.int (dch (nibS qb (48 : Int32)))), (.int (dch (nibS qb (44 : Int32)))), (.int (dch (nibS qb (40 : Int32)))), (.int (dch (nibS qb (36 : Int32)))), (.int (dch (nibS qb (32 : Int32)))), (.int (dch (nibS qb (28 : Int32)))), (.int (dch (nibS qb (24 : Int32)))), (.int u10), (.int u11), (.int u12), (.int u13), (.int u14), (.int u15), (.int u16), (.int u17)] (.int (0 : Int32)) := Arv.set Ar113 q113 S113 M113 H113 G113 (by have h_ := fits_nar_char (dch (nibS qb (24 : Int32))); rw [show nar .char (dch (nibS qb (24 : Int32))) = (dch (nibS qb (24 : Int32))) from (own_dchn (own_nib _ _))] at h_; exact h_) W113 9 rfl (Nat.le_of_ble_eq_true rfl)
  have F116 : Sta Z h113 "com/example/tallyroot/tallyroot/overlay/NodeId" "DIGITS" "[C" (.ref dgs) := F104.wr W113
  have F117 : Arv Z h113 dgs kd .char (16 : Int32) [(.int (48 : Int32)), (.int (49 : Int32)), (.int (50 : Int32)), (.int (51 : Int32)), (.int (52 : Int32)), (.int (53 : Int32)), (.int (54 : Int32)), (.int (55 : Int32)), (.int (56 : Int32)), (.int (57 : Int32)), (.int (97 : Int32)), (.int (98 : Int32)), (.int (99 : Int32)), (.int (100 : Int32)), (.int (101 : Int32)), (.int (102 : Int32))] (.int (0 : Int32)) := F105.other W113 hne2
  have K118 : Keep h0 h113 [bo] := K106.wr W113 (Or.inl (List.mem_of_getElem? (i := 0) rfl))
  have Z119 : n0 ≤ h113.size := Nat.le_trans Z107 (Nat.le_of_eq W113.size.symm)
  have N120 := Fr.snoc X113 N108 Pf2
  show Go p.tables e below _ (T113.setTop (mkF m 32 #[.val (.ref ao), .val (.ref bo), .val (.int (9 : Int32)), .val (.int (nibS qb (24 : Int32)))] []))
  refine Go.st (fun _ k => XS.iinc X113.here hx rfl (hb hby d_wr_32) rfl (l' := #[.val (.ref ao), .val (.ref bo), .val (.int ((9 : Int32) + (1 : Int32))), .val (.int (nibS qb (24 : Int32)))]) rfl k) ?_
  show Go p.tables e below _ (T113.setTop (mkF m 35 #[.val (.ref ao), .val (.ref bo), .val (.int ((9 : Int32) + (1 : Int32))), .val (.int (nibS qb (24 : Int32)))] []))
  rw [show ((9 : Int32) + (1 : Int32)) = (10 : Int32) from by decide]
  show Go p.tables e below _ (T113.setTop (mkF m 35 #[.val (.ref ao), .val (.ref bo), .val (.int (10 : Int32)), .val (.int (nibS qb (24 : Int32)))] []))
  refine Go.st (fun _ k => XS.goto X113.here hx rfl (pc0 := 35) (pc' := 2) rfl (hb hby d_wr_35) (by decide) (by decide) k) ?_
  show Go p.tables e below _ (T113.setTop (mkF m 2 #[.val (.ref ao), .val (.ref bo), .val (.int (10 : Int32)), .val (.int (nibS qb (24 : Int32)))] []))
  refine Go.st (fun _ k => XS.iloadN X113.here hx rfl (hb hby d_wr_2) rfl k) ?_
  show Go p.tables e below _ (T113.setTop (mkF m 3 #[.val (.ref ao), .val (.ref bo), .val (.int (10 : Int32)), .val (.int (nibS qb (24 : Int32)))] [(.int (10 : Int32))]))
  refine Go.st (fun _ k => XS.bipush X113.here hx rfl (hb hby d_wr_3) k) ?_
  show Go p.tables e below _ (T113.setTop (mkF m 5 #[.val (.ref ao), .val (.ref bo), .val (.int (10 : Int32)), .val (.int (nibS qb (24 : Int32)))] [(.int (16 : Int32)), (.int (10 : Int32))]))
  have hl121 : (10 : Int32) < (16 : Int32) := by decide
  refine Go.st (fun _ k => XS.icmpNo X113.here hx rfl (hb hby d_wr_5) rfl (Jvm.Free.XT.ii_ge_f hl121) k) ?_
  show Go p.tables e below _ (T113.setTop (mkF m 8 #[.val (.ref ao), .val (.ref bo), .val (.int (10 : Int32)), .val (.int (nibS qb (24 : Int32)))] []))
  refine Go.st (fun _ k => XS.aloadN X113.here hx rfl (hb hby d_wr_8) rfl rfl k) ?_
  show Go p.tables e below _ (T113.setTop (mkF m 9 #[.val (.ref ao), .val (.ref bo), .val (.int (10 : Int32)), .val (.int (nibS qb (24 : Int32)))] [(.ref ao)]))
  obtain ⟨T122, X122, e122, st122⟩ := getF X113 hx hZ hown (host := "") (Or.inl (hw _ (List.mem_of_getElem? (i := 15) rfl))) Via.refl e113 F114 (g := (mkF m 9 #[.val (.ref ao), .val (.ref bo), .val (.int (10 : Int32)), .val (.int (nibS qb (24 : Int32)))] [(.ref ao)])) rfl rfl (hb hby d_wr_9)
  refine Go.st st122 ?_
  show Go p.tables e below _ (T122.setTop (mkF m 12 #[.val (.ref ao), .val (.ref bo), .val (.int (10 : Int32)), .val (.int (nibS qb (24 : Int32)))] [(.long qb)]))
  refine Go.st (fun _ k => XS.iconst X122.here hx rfl (hb hby d_wr_12) k) ?_
  show Go p.tables e below _ (T122.setTop (mkF m 13 #[.val (.ref ao), .val (.ref bo), .val (.int (10 : Int32)), .val (.int (nibS qb (24 : Int32)))] [(.int (4 : Int32)), (.long qb)]))
  refine Go.st (fun _ k => XS.bipush X122.here hx rfl (hb hby d_wr_13) k) ?_
  show Go p.tables e below _ (T122.setTop (mkF m 15 #[.val (.ref ao), .val (.ref bo), .val (.int (10 : Int32)), .val (.int (nibS qb (24 : Int32)))] [(.int (15 : Int32)), (.int (4 : Int32)), (.long qb)]))
  refine Go.st (fun _ k => XS.iloadN X122.here hx rfl (hb hby d_wr_15) rfl k) ?_
  show Go p.tables e below _ (T122.setTop (mkF m 16 #[.val (.ref ao), .val (.ref bo), .val (.int (10 : Int32)), .val (.int (nibS qb (24 : Int32)))] [(.int (10 : Int32)), (.int (15 : Int32)), (.int (4 : Int32)), (.long qb)]))
  refine Go.st (fun _ k => XS.isub X122.here hx rfl (hb hby d_wr_16) rfl k) ?_
  show Go p.tables e below _ (T122.setTop (mkF m 17 #[.val (.ref ao), .val (.ref bo), .val (.int (10 : Int32)), .val (.int (nibS qb (24 : Int32)))] [(.int ((15 : Int32) - (10 : Int32))), (.int (4 : Int32)), (.long qb)]))
  rw [show ((15 : Int32) - (10 : Int32)) = (5 : Int32) from by decide]
  show Go p.tables e below _ (T122.setTop (mkF m 17 #[.val (.ref ao), .val (.ref bo), .val (.int (10 : Int32)), .val (.int (nibS qb (24 : Int32)))] [(.int (5 : Int32)), (.int (4 : Int32)), (.long qb)]))
  refine Go.st (fun _ k => XS.imul X122.here hx rfl (hb hby d_wr_17) rfl k) ?_
  show Go p.tables e below _ (T122.setTop (mkF m 18 #[.val (.ref ao), .val (.ref bo), .val (.int (10 : Int32)), .val (.int (nibS qb (24 : Int32)))] [(.int ((4 : Int32) * (5 : Int32))), (.long qb)]))
  rw [show ((4 : Int32) * (5 : Int32)) = (20 : Int32) from by decide]
  show Go p.tables e below _ (T122.setTop (mkF m 18 #[.val (.ref ao), .val (.ref bo), .val (.int (10 : Int32)), .val (.int (nibS qb (24 : Int32)))] [(.int (20 : Int32)), (.long qb)]))
  refine Go.st (fun _ k => XS.lushr X122.here hx rfl (hb hby d_wr_18) rfl k) ?_
  show Go p.tables e below _ (T122.setTop (mkF m 19 #[.val (.ref ao), .val (.ref bo), .val (.int (10 : Int32)), .val (.int (nibS qb (24 : Int32)))] [(.long ((qb.toUInt64 >>> ((20 : Int32) &&& 0x3f).toInt64.toUInt64).toInt64))]))
  refine Go.st (fun _ k => XS.l2i X122.here hx rfl (hb hby d_wr_19) rfl k) ?_
  show Go p.tables e below _ (T122.setTop (mkF m 20 #[.val (.ref ao), .val (.ref bo), .val (.int (10 : Int32)), .val (.int (nibS qb (24 : Int32)))] [(.int (((qb.toUInt64 >>> ((20 : Int32) &&& 0x3f).toInt64.toUInt64).toInt64).toInt32))]))
  refine Go.st (fun _ k => XS.bipush X122.here hx rfl (hb hby d_wr_20) k) ?_
  show Go p.tables e below _ (T122.setTop (mkF m 22 #[.val (.ref ao), .val (.ref bo), .val (.int (10 : Int32)), .val (.int (nibS qb (24 : Int32)))] [(.int (15 : Int32)), (.int (((qb.toUInt64 >>> ((20 : Int32) &&& 0x3f).toInt64.toUInt64).toInt64).toInt32))]))
  refine Go.st (fun _ k => XS.iand X122.here hx rfl (hb hby d_wr_22) rfl k) ?_
  show Go p.tables e below _ (T122.setTop (mkF m 23 #[.val (.ref ao), .val (.ref bo), .val (.int (10 : Int32)), .val (.int (nibS qb (24 : Int32)))] [(.int ((((qb.toUInt64 >>> ((20 : Int32) &&& 0x3f).toInt64.toUInt64).toInt64).toInt32) &&& (15 : Int32)))]))
  refine Go.st (fun _ k => XS.istoreN X122.here hx rfl (hb hby d_wr_23) rfl (l' := #[.val (.ref ao), .val (.ref bo), .val (.int (10 : Int32)), .val (.int ((((qb.toUInt64 >>> ((20 : Int32) &&& 0x3f).toInt64.toUInt64).toInt64).toInt32) &&& (15 : Int32)))]) rfl k) ?_
  show Go p.tables e below _ (T122.setTop (mkF m 24 #[.val (.ref ao), .val (.ref bo), .val (.int (10 : Int32)), .val (.int (nibS qb (20 : Int32)))] []))
  refine Go.st (fun _ k => XS.aloadN X122.here hx rfl (hb hby d_wr_24) rfl rfl k) ?_
  show Go p.tables e below _ (T122.setTop (mkF m 25 #[.val (.ref ao), .val (.ref bo), .val (.int (10 : Int32)), .val (.int (nibS qb (20 : Int32)))] [(.ref bo)]))
  refine Go.st (fun _ k => XS.iloadN X122.here hx rfl (hb hby d_wr_25) rfl k) ?_
  show Go p.tables e below _ (T122.setTop (mkF m 26 #[.val (.ref ao), .val (.ref bo), .val (.int (10 : Int32)), .val (.int (nibS qb (20 : Int32)))] [(.int (10 : Int32)), (.ref bo)]))
  obtain ⟨T123, X123, e123, st123⟩ := getS2 X122 hx hZ hown (host := "") (Or.inl (hw _ (List.mem_of_getElem? (i := 22) rfl))) Via.refl e122 F116 (g := (mkF m 26 #[.val (.ref ao), .val (.ref bo), .val (.int (10 : Int32)), .val (.int (nibS qb (20 : Int32)))] [(.int (10 : Int32)), (.ref bo)])) rfl (hb hby d_wr_26)
  refine Go.st st123 ?_
  show Go p.tables e below _ (T123.setTop (mkF m 29 #[.val (.ref ao), .val (.ref bo), .val (.int (10 : Int32)), .val (.int (nibS qb (20 : Int32)))] [(.ref dgs), (.int (10 : Int32)), (.ref bo)]))
  refine Go.st (fun _ k => XS.iloadN X123.here hx rfl (hb hby d_wr_29) rfl k) ?_
  show Go p.tables e below _ (T123.setTop (mkF m 30 #[.val (.ref ao), .val (.ref bo), .val (.int (10 : Int32)), .val (.int (nibS qb (20 : Int32)))] [(.int (nibS qb (20 : Int32))), (.ref dgs), (.int (10 : Int32)), (.ref bo)]))
  obtain ⟨cl124, Ar124, q124, S124, M124, H124, G124⟩ := id F117
  have hin124 : ¬ ((nibS qb (20 : Int32)) < 0 ∨ cl124.slots.size ≤ ((nibS qb (20 : Int32))).toNatClampNeg) := inb_of S124 (own_nibb _ _)
  have hat124 : cl124.slots[((nibS qb (20 : Int32))).toNatClampNeg]? = some (.int (dch (nibS qb (20 : Int32)))) := Has.at H124 hin124 (own_dget (own_nib _ _))
  refine Go.st (fun _ k => X123.caload hx (j := (nibS qb (20 : Int32))) (v := (.int (dch (nibS qb (20 : Int32))))) (by rw [e123]; exact Ar124.1) (State.isArrayOf_alike hZ.alike Ar124.2.1) Ar124.2.2 hin124 hat124 (g := (mkF m 30 #[.val (.ref ao), .val (.ref bo), .val (.int (10 : Int32)), .val (.int (nibS qb (20 : Int32)))] [(.int (nibS qb (20 : Int32))), (.ref dgs), (.int (10 : Int32)), (.ref bo)])) rfl rfl (hb hby d_wr_30) _ k) ?_
  show Go p.tables e below _ (T123.setTop (mkF m 31 #[.val (.ref ao), .val (.ref bo), .val (.int (10 : Int32)), .val (.int (nibS qb (20 : Int32)))] [(.int (dch (nibS qb (20 : Int32)))), (.int (10 : Int32)), (.ref bo)]))
  obtain ⟨cl125, Ar125, q125, S125, M125, H125, G125⟩ := id F115
  have hin125 : ¬ ((10 : Int32) < 0 ∨ cl125.slots.size ≤ ((10 : Int32)).toNatClampNeg) := inb_of S125 ⟨by decide, by decide⟩
  obtain ⟨T125, h125, X125, e125, W125, st125⟩ := stC X123 hx hZ e123 Ar125 (j := (10 : Int32)) hin125 (g := (mkF m 31 #[.val (.ref ao), .val (.ref bo), .val (.int (10 : Int32)), .val (.int (nibS qb (20 : Int32)))] [(.int (dch (nibS qb (20 : Int32)))), (.int (10 : Int32)), (.ref bo)])) rfl rfl (hb hby d_wr_31)
  rw [(own_dchn (own_nib _ _))] at W125
  refine Go.st st125 ?_
  have F126 : Fld Z h125 ao "com/example/tallyroot/tallyroot/overlay/NodeId" "bits" "J" (.long qb) := F114.other W125 (Or.inl hne1)
  have F127 : Arv Z h125 bo kk .char (18 : Int32) [(.int (dch (nibS qb (60 : Int32)))), (.int (dch (nibS qb (56 : Int32)))), (.int (dch (nibS qb (52 : Int32)))), (.int (dch (nibS qb (48 : Int32)))), (.int (dch (nibS qb (44 : Int32)))), (.int (dch (nibS qb (40 : Int32)))), (.int (dch (nibS qb (36 : Int32)))), (.int (dch (nibS qb (32 : Int32)))), (.int (dch (nibS qb (28 : Int32)))), (.int (dch (nibS qb (24 : Int32)))), (.int (dch (nibS qb (20 : Int32)))), (.int u11), (.int u12), (.int u13), (.int u14), (.int u15), (.int u16), (.int u17)] (.int (0 : Int32)) := Arv.set Ar125 q125 S125 M125 H125 G125 (by have h_ := fits_nar_char (dch (nibS qb (20 : Int32))); rw [show nar .char (dch (nibS qb (20 : Int32))) = (dch (nibS qb (20 : Int32))) from (own_dchn (own_nib _ _))] at h_; exact h_) W125 10 rfl (Nat.le_of_ble_eq_true rfl)
  have F128 : Sta Z h125 "com/example/tallyroot/tallyroot/overlay/NodeId" "DIGITS" "[C" (.ref dgs) := F116.wr W125
  have F129 : Arv Z h125 dgs kd .char (16 : Int32) [(.int (48 : Int32)), (.int (49 : Int32)), (.int (50 : Int32)), (.int (51 : Int32)), (.int (52 : Int32)), (.int (53 : Int32)), (.int (54 : Int32)), (.int (55 : Int32)), (.int (56 : Int32)), (.int (57 : Int32)), (.int (97 : Int32)), (.int (98 : Int32)), (.int (99 : Int32)), (.int (100 : Int32)), (.int (101 : Int32)), (.int (102 : Int32))] (.int (0 : Int32)) := F117.other W125 hne2
  have K130 : Keep h0 h125 [bo] := K118.wr W125 (Or.inl (List.mem_of_getElem? (i := 0) rfl))
  have Z131 : n0 ≤ h125.size := Nat.le_trans Z119 (Nat.le_of_eq W125.size.symm)
  have N132 := Fr.snoc X125 N120 Pf2
  show Go p.tables e below _ (T125.setTop (mkF m 32 #[.val (.ref ao), .val (.ref bo), .val (.int (10 : Int32)), .val (.int (nibS qb (20 : Int32)))] []))
  refine Go.st (fun _ k => XS.iinc X125.here hx rfl (hb hby d_wr_32) rfl (l' := #[.val (.ref ao), .val (.ref bo), .val (.int ((10 : Int32) + (1 : Int32))), .val (.int (nibS qb (20 : Int32)))]) rfl k) ?_
  show Go p.tables e below _ (T125.setTop (mkF m 35 #[.val (.ref ao), .val (.ref bo), .val (.int ((10 : Int32) + (1 : Int32))), .val (.int (nibS qb (20 : Int32)))] []))
  rw [show ((10 : Int32) + (1 : Int32)) = (11 : Int32) from by decide]
  show Go p.tables e below _ (T125.setTop (mkF m 35 #[.val (.ref ao), .val (.ref bo), .val (.int (11 : Int32)), .val (.int (nibS qb (20 : Int32)))] []))
  refine Go.st (fun _ k => XS.goto X125.here hx rfl (pc0 := 35) (pc' := 2) rfl (hb hby d_wr_35) (by decide) (by decide) k) ?_
  show Go p.tables e below _ (T125.setTop (mkF m 2 #[.val (.ref ao), .val (.ref bo), .val (.int (11 : Int32)), .val (.int (nibS qb (20 : Int32)))] []))
  refine Go.st (fun _ k => XS.iloadN X125.here hx rfl (hb hby d_wr_2) rfl k) ?_
  show Go p.tables e below _ (T125.setTop (mkF m 3 #[.val (.ref ao), .val (.ref bo), .val (.int (11 : Int32)), .val (.int (nibS qb (20 : Int32)))] [(.int (11 : Int32))]))
  refine Go.st (fun _ k => XS.bipush X125.here hx rfl (hb hby d_wr_3) k) ?_
  show Go p.tables e below _ (T125.setTop (mkF m 5 #[.val (.ref ao), .val (.ref bo), .val (.int (11 : Int32)), .val (.int (nibS qb (20 : Int32)))] [(.int (16 : Int32)), (.int (11 : Int32))]))
  have hl133 : (11 : Int32) < (16 : Int32) := by decide
  refine Go.st (fun _ k => XS.icmpNo X125.here hx rfl (hb hby d_wr_5) rfl (Jvm.Free.XT.ii_ge_f hl133) k) ?_
  show Go p.tables e below _ (T125.setTop (mkF m 8 #[.val (.ref ao), .val (.ref bo), .val (.int (11 : Int32)), .val (.int (nibS qb (20 : Int32)))] []))
  refine Go.st (fun _ k => XS.aloadN X125.here hx rfl (hb hby d_wr_8) rfl rfl k) ?_
  show Go p.tables e below _ (T125.setTop (mkF m 9 #[.val (.ref ao), .val (.ref bo), .val (.int (11 : Int32)), .val (.int (nibS qb (20 : Int32)))] [(.ref ao)]))
  obtain ⟨T134, X134, e134, st134⟩ := getF X125 hx hZ hown (host := "") (Or.inl (hw _ (List.mem_of_getElem? (i := 15) rfl))) Via.refl e125 F126 (g := (mkF m 9 #[.val (.ref ao), .val (.ref bo), .val (.int (11 : Int32)), .val (.int (nibS qb (20 : Int32)))] [(.ref ao)])) rfl rfl (hb hby d_wr_9)
  refine Go.st st134 ?_
  show Go p.tables e below _ (T134.setTop (mkF m 12 #[.val (.ref ao), .val (.ref bo), .val (.int (11 : Int32)), .val (.int (nibS qb (20 : Int32)))] [(.long qb)]))
  refine Go.st (fun _ k => XS.iconst X134.here hx rfl (hb hby d_wr_12) k) ?_
  show Go p.tables e below _ (T134.setTop (mkF m 13 #[.val (.ref ao), .val (.ref bo), .val (.int (11 : Int32)), .val (.int (nibS qb (20 : Int32)))] [(.int (4 : Int32)), (.long qb)]))
  refine Go.st (fun _ k => XS.bipush X134.here hx rfl (hb hby d_wr_13) k) ?_
  show Go p.tables e below _ (T134.setTop (mkF m 15 #[.val (.ref ao), .val (.ref bo), .val (.int (11 : Int32)), .val (.int (nibS qb (20 : Int32)))] [(.int (15 : Int32)), (.int (4 : Int32)), (.long qb)]))
  refine Go.st (fun _ k => XS.iloadN X134.here hx rfl (hb hby d_wr_15) rfl k) ?_
  show Go p.tables e below _ (T134.setTop (mkF m 16 #[.val (.ref ao), .val (.ref bo), .val (.int (11 : Int32)), .val (.int (nibS qb (20 : Int32)))] [(.int (11 : Int32)), (.int (15 : Int32)), (.int (4 : Int32)), (.long qb)]))
  refine Go.st (fun _ k => XS.isub X134.here hx rfl (hb hby d_wr_16) rfl k) ?_
  show Go p.tables e below _ (T134.setTop (mkF m 17 #[.val (.ref ao), .val (.ref bo), .val (.int (11 : Int32)), .val (.int (nibS qb (20 : Int32)))] [(.int ((15 : Int32) - (11 : Int32))), (.int (4 : Int32)), (.long qb)]))
  rw [show ((15 : Int32) - (11 : Int32)) = (4 : Int32) from by decide]
  show Go p.tables e below _ (T134.setTop (mkF m 17 #[.val (.ref ao), .val (.ref bo), .val (.int (11 : Int32)), .val (.int (nibS qb (20 : Int32)))] [(.int (4 : Int32)), (.int (4 : Int32)), (.long qb)]))
  refine Go.st (fun _ k => XS.imul X134.here hx rfl (hb hby d_wr_17) rfl k) ?_
  show Go p.tables e below _ (T134.setTop (mkF m 18 #[.val (.ref ao), .val (.ref bo), .val (.int (11 : Int32)), .val (.int (nibS qb (20 : Int32)))] [(.int ((4 : Int32) * (4 : Int32))), (.long qb)]))
  rw [show ((4 : Int32) * (4 : Int32)) = (16 : Int32) from by decide]
  show Go p.tables e below _ (T134.setTop (mkF m 18 #[.val (.ref ao), .val (.ref bo), .val (.int (11 : Int32)), .val (.int (nibS qb (20 : Int32)))] [(.int (16 : Int32)), (.long qb)]))
  refine Go.st (fun _ k => XS.lushr X134.here hx rfl (hb hby d_wr_18) rfl k) ?_
  show Go p.tables e below _ (T134.setTop (mkF m 19 #[.val (.ref ao), .val (.ref bo), .val (.int (11 : Int32)), .val (.int (nibS qb (20 : Int32)))] [(.long ((qb.toUInt64 >>> ((16 : Int32) &&& 0x3f).toInt64.toUInt64).toInt64))]))
  refine Go.st (fun _ k => XS.l2i X134.here hx rfl (hb hby d_wr_19) rfl k) ?_
  show Go p.tables e below _ (T134.setTop (mkF m 20 #[.val (.ref ao), .val (.ref bo), .val (.int (11 : Int32)), .val (.int (nibS qb (20 : Int32)))] [(.int (((qb.toUInt64 >>> ((16 : Int32) &&& 0x3f).toInt64.toUInt64).toInt64).toInt32))]))
  refine Go.st (fun _ k => XS.bipush X134.here hx rfl (hb hby d_wr_20) k) ?_
  show Go p.tables e below _ (T134.setTop (mkF m 22 #[.val (.ref ao), .val (.ref bo), .val (.int (11 : Int32)), .val (.int (nibS qb (20 : Int32)))] [(.int (15 : Int32)), (.int (((qb.toUInt64 >>> ((16 : Int32) &&& 0x3f).toInt64.toUInt64).toInt64).toInt32))]))
  refine Go.st (fun _ k => XS.iand X134.here hx rfl (hb hby d_wr_22) rfl k) ?_
  show Go p.tables e below _ (T134.setTop (mkF m 23 #[.val (.ref ao), .val (.ref bo), .val (.int (11 : Int32)), .val (.int (nibS qb (20 : Int32)))] [(.int ((((qb.toUInt64 >>> ((16 : Int32) &&& 0x3f).toInt64.toUInt64).toInt64).toInt32) &&& (15 : Int32)))]))
  refine Go.st (fun _ k => XS.istoreN X134.here hx rfl (hb hby d_wr_23) rfl (l' := #[.val (.ref ao), .val (.ref bo), .val (.int (11 : Int32)), .val (.int ((((qb.toUInt64 >>> ((16 : Int32) &&& 0x3f).toInt64.toUInt64).toInt64).toInt32) &&& (15 : Int32)))]) rfl k) ?_
  show Go p.tables e below _ (T134.setTop (mkF m 24 #[.val (.ref ao), .val (.ref bo), .val (.int (11 : Int32)), .val (.int (nibS qb (16 : Int32)))] []))
  refine Go.st (fun _ k => XS.aloadN X134.here hx rfl (hb hby d_wr_24) rfl rfl k) ?_
  show Go p.tables e below _ (T134.setTop (mkF m 25 #[.val (.ref ao), .val (.ref bo), .val (.int (11 : Int32)), .val (.int (nibS qb (16 : Int32)))] [(.ref bo)]))
  refine Go.st (fun _ k => XS.iloadN X134.here hx rfl (hb hby d_wr_25) rfl k) ?_
  show Go p.tables e below _ (T134.setTop (mkF m 26 #[.val (.ref ao), .val (.ref bo), .val (.int (11 : Int32)), .val (.int (nibS qb (16 : Int32)))] [(.int (11 : Int32)), (.ref bo)]))
  obtain ⟨T135, X135, e135, st135⟩ := getS2 X134 hx hZ hown (host := "") (Or.inl (hw _ (List.mem_of_getElem? (i := 22) rfl))) Via.refl e134 F128 (g := (mkF m 26 #[.val (.ref ao), .val (.ref bo), .val (.int (11 : Int32)), .val (.int (nibS qb (16 : Int32)))] [(.int (11 : Int32)), (.ref bo)])) rfl (hb hby d_wr_26)
  refine Go.st st135 ?_
  show Go p.tables e below _ (T135.setTop (mkF m 29 #[.val (.ref ao), .val (.ref bo), .val (.int (11 : Int32)), .val (.int (nibS qb (16 : Int32)))] [(.ref dgs), (.int (11 : Int32)), (.ref bo)]))
  refine Go.st (fun _ k => XS.iloadN X135.here hx rfl (hb hby d_wr_29) rfl k) ?_
  show Go p.tables e below _ (T135.setTop (mkF m 30 #[.val (.ref ao), .val (.ref bo), .val (.int (11 : Int32)), .val (.int (nibS qb (16 : Int32)))] [(.int (nibS qb (16 : Int32))), (.ref dgs), (.int (11 : Int32)), (.ref bo)]))
  obtain ⟨cl136, Ar136, q136, S136, M136, H136, G136⟩ := id F129
  have hin136 : ¬ ((nibS qb (16 : Int32)) < 0 ∨ cl136.slots.size ≤ ((nibS qb (16 : Int32))).toNatClampNeg) := inb_of S136 (own_nibb _ _)
  have hat136 : cl136.slots[((nibS qb (16 : Int32))).toNatClampNeg]? = some (.int (dch (nibS qb (16 : Int32)))) := Has.at H136 hin136 (own_dget (own_nib _ _))
  refine Go.st (fun _ k => X135.caload hx (j := (nibS qb (16 : Int32))) (v := (.int (dch (nibS qb (16 : Int32))))) (by rw [e135]; exact Ar136.1) (State.isArrayOf_alike hZ.alike Ar136.2.1) Ar136.2.2 hin136 hat136 (g := (mkF m 30 #[.val (.ref ao), .val (.ref bo), .val (.int (11 : Int32)), .val (.int (nibS qb (16 : Int32)))] [(.int (nibS qb (16 : Int32))), (.ref dgs), (.int (11 : Int32)), (.ref bo)])) rfl rfl (hb hby d_wr_30) _ k) ?_
  show Go p.tables e below _ (T135.setTop (mkF m 31 #[.val (.ref ao), .val (.ref bo), .val (.int (11 : Int32)), .val (.int (nibS qb (16 : Int32)))] [(.int (dch (nibS qb (16 : Int32)))), (.int (11 : Int32)), (.ref bo)]))
  obtain ⟨cl137, Ar137, q137, S137, M137, H137, G137⟩ := id F127
  have hin137 : ¬ ((11 : Int32) < 0 ∨ cl137.slots.size ≤ ((11 : Int32)).toNatClampNeg) := inb_of S137 ⟨by decide, by decide⟩
  obtain ⟨T137, h137, X137, e137, W137, st137⟩ := stC X135 hx hZ e135 Ar137 (j := (11 : Int32)) hin137 (g := (mkF m 31 #[.val (.ref ao), .val (.ref bo), .val (.int (11 : Int32)), .val (.int (nibS qb (16 : Int32)))] [(.int (dch (nibS qb (16 : Int32)))), (.int (11 : Int32)), (.ref bo)])) rfl rfl (hb hby d_wr_31)
  rw [(own_dchn (own_nib _ _))] at W137
  refine Go.st st137 ?_
  have F138 : Fld Z h137 ao "com/example/tallyroot/tallyroot/overlay/NodeId" "bits" "J" (.long qb) := F126.other W137 (Or.inl hne1)
  have F139 : Arv Z h137 bo kk .char (18 : Int32) [(.int (dch (nibS qb (60 : Int32)))), (.int (dch (nibS qb (56 : Int32)))), (.int (dch (nibS qb (52 : Int32)))), (.int (dch (nibS qb (48 : Int32)))), (.int (dch (nibS qb (44 : Int32)))), (.int (dch (nibS qb (40 : Int32)))), (.int (dch (nibS qb (36 : Int32)))), (.int (dch (nibS qb (32 : Int32)))), (.int (dch (nibS qb (28 : Int32)))), (.int (dch (nibS qb (24 : Int32)))), (.int (dch (nibS qb (20 : Int32)))), (.int (dch (nibS qb (16 : Int32)))), (.int u12), (.int u13), (.int u14), (.int u15), (.int u16), (.int u17)] (.int (0 : Int32)) := Arv.set Ar137 q137 S137 M137 H137 G137 (by have h_ := fits_nar_char (dch (nibS qb (16 : Int32))); rw [show nar .char (dch (nibS qb (16 : Int32))) = (dch (nibS qb (16 : Int32))) from (own_dchn (own_nib _ _))] at h_; exact h_) W137 11 rfl (Nat.le_of_ble_eq_true rfl)
  have F140 : Sta Z h137 "com/example/tallyroot/tallyroot/overlay/NodeId" "DIGITS" "[C" (.ref dgs) := F128.wr W137
  have F141 : Arv Z h137 dgs kd .char (16 : Int32) [(.int (48 : Int32)), (.int (49 : Int32)), (.int (50 : Int32)), (.int (51 : Int32)), (.int (52 : Int32)), (.int (53 : Int32)), (.int (54 : Int32)), (.int (55 : Int32)), (.int (56 : Int32)), (.int (57 : Int32)), (.int (97 : Int32)), (.int (98 : Int32)), (.int (99 : Int32)), (.int (100 : Int32)), (.int (101 : Int32)), (.int (102 : Int32))] (.int (0 : Int32)) := F129.other W137 hne2
  have K142 : Keep h0 h137 [bo] := K130.wr W137 (Or.inl (List.mem_of_getElem? (i := 0) rfl))
  have Z143 : n0 ≤ h137.size := Nat.le_trans Z131 (Nat.le_of_eq W137.size.symm)
  have N144 := Fr.snoc X137 N132 Pf2
  show Go p.tables e below _ (T137.setTop (mkF m 32 #[.val (.ref ao), .val (.ref bo), .val (.int (11 : Int32)), .val (.int (nibS qb (16 : Int32)))] []))
  refine Go.st (fun _ k => XS.iinc X137.here hx rfl (hb hby d_wr_32) rfl (l' := #[.val (.ref ao), .val (.ref bo), .val (.int ((11 : Int32) + (1 : Int32))), .val (.int (nibS qb (16 : Int32)))]) rfl k) ?_
  show Go p.tables e below _ (T137.setTop (mkF m 35 #[.val (.ref ao), .val (.ref bo), .val (.int ((11 : Int32) + (1 : Int32))), .val (.int (nibS qb (16 : Int32)))] []))
  rw [show ((11 : Int32) + (1 : Int32)) = (12 : Int32) from by decide]
  show Go p.tables e below _ (T137.setTop (mkF m 35 #[.val (.ref ao), .val (.ref bo), .val (.int (12 : Int32)), .val (.int (nibS qb (16 : Int32)))] []))
  refine Go.st (fun _ k => XS.goto X137.here hx rfl (pc0 := 35) (pc' := 2) rfl (hb hby d_wr_35) (by decide) (by decide) k) ?_
  show Go p.tables e below _ (T137.setTop (mkF m 2 #[.val (.ref ao), .val (.ref bo), .val (.int (12 : Int32)), .val (.int (nibS qb (16 : Int32)))] []))
  refine Go.st (fun _ k => XS.iloadN X137.here hx rfl (hb hby d_wr_2) rfl k) ?_
  show Go p.tables e below _ (T137.setTop (mkF m 3 #[.val (.ref ao), .val (.ref bo), .val (.int (12 : Int32)), .val (.int (nibS qb (16 : Int32)))] [(.int (12 : Int32))]))
  refine Go.st (fun _ k => XS.bipush X137.here hx rfl (hb hby d_wr_3) k) ?_
  show Go p.tables e below _ (T137.setTop (mkF m 5 #[.val (.ref ao), .val (.ref bo), .val (.int (12 : Int32)), .val (.int (nibS qb (16 : Int32)))] [(.int (16 : Int32)), (.int (12 : Int32))]))
  have hl145 : (12 : Int32) < (16 : Int32) := by decide
  refine Go.st (fun _ k => XS.icmpNo X137.here hx rfl (hb hby d_wr_5) rfl (Jvm.Free.XT.ii_ge_f hl145) k) ?_
  show Go p.tables e below _ (T137.setTop (mkF m 8 #[.val (.ref ao), .val (.ref bo), .val (.int (12 : Int32)), .val (.int (nibS qb (16 : Int32)))] []))
  refine Go.st (fun _ k => XS.aloadN X137.here hx rfl (hb hby d_wr_8) rfl rfl k) ?_
  show Go p.tables e below _ (T137.setTop (mkF m 9 #[.val (.ref ao), .val (.ref bo), .val (.int (12 : Int32)), .val (.int (nibS qb (16 : Int32)))] [(.ref ao)]))
  obtain ⟨T146, X146, e146, st146⟩ := getF X137 hx hZ hown (host := "") (Or.inl (hw _ (List.mem_of_getElem? (i := 15) rfl))) Via.refl e137 F138 (g := (mkF m 9 #[.val (.ref ao), .val (.ref bo), .val (.int (12 : Int32)), .val (.int (nibS qb (16 : Int32)))] [(.ref ao)])) rfl rfl (hb hby d_wr_9)
  refine Go.st st146 ?_
  show Go p.tables e below _ (T146.setTop (mkF m 12 #[.val (.ref ao), .val (.ref bo), .val (.int (12 : Int32)), .val (.int (nibS qb (16 : Int32)))] [(.long qb)]))
  refine Go.st (fun _ k => XS.iconst X146.here hx rfl (hb hby d_wr_12) k) ?_
  show Go p.tables e below _ (T146.setTop (mkF m 13 #[.val (.ref ao), .val (.ref bo), .val (.int (12 : Int32)), .val (.int (nibS qb (16 : Int32)))] [(.int (4 : Int32)), (.long qb)]))
  refine Go.st (fun _ k => XS.bipush X146.here hx rfl (hb hby d_wr_13) k) ?_
  show Go p.tables e below _ (T146.setTop (mkF m 15 #[.val (.ref ao), .val (.ref bo), .val (.int (12 : Int32)), .val (.int (nibS qb (16 : Int32)))] [(.int (15 : Int32)), (.int (4 : Int32)), (.long qb)]))
  refine Go.st (fun _ k => XS.iloadN X146.here hx rfl (hb hby d_wr_15) rfl k) ?_
  show Go p.tables e below _ (T146.setTop (mkF m 16 #[.val (.ref ao), .val (.ref bo), .val (.int (12 : Int32)), .val (.int (nibS qb (16 : Int32)))] [(.int (12 : Int32)), (.int (15 : Int32)), (.int (4 : Int32)), (.long qb)]))
  refine Go.st (fun _ k => XS.isub X146.here hx rfl (hb hby d_wr_16) rfl k) ?_
  show Go p.tables e below _ (T146.setTop (mkF m 17 #[.val (.ref ao), .val (.ref bo), .val (.int (12 : Int32)), .val (.int (nibS qb (16 : Int32)))] [(.int ((15 : Int32) - (12 : Int32))), (.int (4 : Int32)), (.long qb)]))
  rw [show ((15 : Int32) - (12 : Int32)) = (3 : Int32) from by decide]
  show Go p.tables e below _ (T146.setTop (mkF m 17 #[.val (.ref ao), .val (.ref bo), .val (.int (12 : Int32)), .val (.int (nibS qb (16 : Int32)))] [(.int (3 : Int32)), (.int (4 : Int32)), (.long qb)]))
  refine Go.st (fun _ k => XS.imul X146.here hx rfl (hb hby d_wr_17) rfl k) ?_
  show Go p.tables e below _ (T146.setTop (mkF m 18 #[.val (.ref ao), .val (.ref bo), .val (.int (12 : Int32)), .val (.int (nibS qb (16 : Int32)))] [(.int ((4 : Int32) * (3 : Int32))), (.long qb)]))
  rw [show ((4 : Int32) * (3 : Int32)) = (12 : Int32) from by decide]
  show Go p.tables e below _ (T146.setTop (mkF m 18 #[.val (.ref ao), .val (.ref bo), .val (.int (12 : Int32)), .val (.int (nibS qb (16 : Int32)))] [(.int (12 : Int32)), (.long qb)]))
  refine Go.st (fun _ k => XS.lushr X146.here hx rfl (hb hby d_wr_18) rfl k) ?_
  show Go p.tables e below _ (T146.setTop (mkF m 19 #[.val (.ref ao), .val (.ref bo), .val (.int (12 : Int32)), .val (.int (nibS qb (16 : Int32)))] [(.long ((qb.toUInt64 >>> ((12 : Int32) &&& 0x3f).toInt64.toUInt64).toInt64))]))
  refine Go.st (fun _ k => XS.l2i X146.here hx rfl (hb hby d_wr_19) rfl k) ?_
  show Go p.tables e below _ (T146.setTop (mkF m 20 #[.val (.ref ao), .val (.ref bo), .val (.int (12 : Int32)), .val (.int (nibS qb (16 : Int32)))] [(.int (((qb.toUInt64 >>> ((12 : Int32) &&& 0x3f).toInt64.toUInt64).toInt64).toInt32))]))
  refine Go.st (fun _ k => XS.bipush X146.here hx rfl (hb hby d_wr_20) k) ?_
  show Go p.tables e below _ (T146.setTop (mkF m 22 #[.val (.ref ao), .val (.ref bo), .val (.int (12 : Int32)), .val (.int (nibS qb (16 : Int32)))] [(.int (15 : Int32)), (.int (((qb.toUInt64 >>> ((12 : Int32) &&& 0x3f).toInt64.toUInt64).toInt64).toInt32))]))
  refine Go.st (fun _ k => XS.iand X146.here hx rfl (hb hby d_wr_22) rfl k) ?_
  show Go p.tables e below _ (T146.setTop (mkF m 23 #[.val (.ref ao), .val (.ref bo), .val (.int (12 : Int32)), .val (.int (nibS qb (16 : Int32)))] [(.int ((((qb.toUInt64 >>> ((12 : Int32) &&& 0x3f).toInt64.toUInt64).toInt64).toInt32) &&& (15 : Int32)))]))
  refine Go.st (fun _ k => XS.istoreN X146.here hx rfl (hb hby d_wr_23) rfl (l' := #[.val (.ref ao), .val (.ref bo), .val (.int (12 : Int32)), .val (.int ((((qb.toUInt64 >>> ((12 : Int32) &&& 0x3f).toInt64.toUInt64).toInt64).toInt32) &&& (15 : Int32)))]) rfl k) ?_
  show Go p.tables e below _ (T146.setTop (mkF m 24 #[.val (.ref ao), .val (.ref bo), .val (.int (12 : Int32)), .val (.int (nibS qb (12 : Int32)))] []))
  refine Go.st (fun _ k => XS.aloadN X146.here hx rfl (hb hby d_wr_24) rfl rfl k) ?_
  show Go p.tables e below _ (T146.setTop (mkF m 25 #[.val (.ref ao), .val (.ref bo), .val (.int (12 : Int32)), .val (.int (nibS qb (12 : Int32)))] [(.ref bo)]))
  refine Go.st (fun _ k => XS.iloadN X146.here hx rfl (hb hby d_wr_25) rfl k) ?_
  show Go p.tables e below _ (T146.setTop (mkF m 26 #[.val (.ref ao), .val (.ref bo), .val (.int (12 : Int32)), .val (.int (nibS qb (12 : Int32)))] [(.int (12 : Int32)), (.ref bo)]))
  obtain ⟨T147, X147, e147, st147⟩ := getS2 X146 hx hZ hown (host := "") (Or.inl (hw _ (List.mem_of_getElem? (i := 22) rfl))) Via.refl e146 F140 (g := (mkF m 26 #[.val (.ref ao), .val (.ref bo), .val (.int (12 : Int32)), .val (.int (nibS qb (12 : Int32)))] [(.int (12 : Int32)), (.ref bo)])) rfl (hb hby d_wr_26)
  refine Go.st st147 ?_
  show Go p.tables e below _ (T147.setTop (mkF m 29 #[.val (.ref ao), .val (.ref bo), .val (.int (12 : Int32)), .val (.int (nibS qb (12 : Int32)))] [(.ref dgs), (.int (12 : Int32)), (.ref bo)]))
  refine Go.st (fun _ k => XS.iloadN X147.here hx rfl (hb hby d_wr_29) rfl k) ?_
  show Go p.tables e below _ (T147.setTop (mkF m 30 #[.val (.ref ao), .val (.ref bo), .val (.int (12 : Int32)), .val (.int (nibS qb (12 : Int32)))] [(.int (nibS qb (12 : Int32))), (.ref dgs), (.int (12 : Int32)), (.ref bo)]))
  obtain ⟨cl148, Ar148, q148, S148, M148, H148, G148⟩ := id F141
  have hin148 : ¬ ((nibS qb (12 : Int32)) < 0 ∨ cl148.slots.size ≤ ((nibS qb (12 : Int32))).toNatClampNeg) := inb_of S148 (own_nibb _ _)
  have hat148 : cl148.slots[((nibS qb (12 : Int32))).toNatClampNeg]? = some (.int (dch (nibS qb (12 : Int32)))) := Has.at H148 hin148 (own_dget (own_nib _ _))
  refine Go.st (fun _ k => X147.caload hx (j := (nibS qb (12 : Int32))) (v := (.int (dch (nibS qb (12 : Int32))))) (by rw [e147]; exact Ar148.1) (State.isArrayOf_alike hZ.alike Ar148.2.1) Ar148.2.2 hin148 hat148 (g := (mkF m 30 #[.val (.ref ao), .val (.ref bo), .val (.int (12 : Int32)), .val (.int (nibS qb (12 : Int32)))] [(.int (nibS qb (12 : Int32))), (.ref dgs), (.int (12 : Int32)), (.ref bo)])) rfl rfl (hb hby d_wr_30) _ k) ?_
  show Go p.tables e below _ (T147.setTop (mkF m 31 #[.val (.ref ao), .val (.ref bo), .val (.int (12 : Int32)), .val (.int (nibS qb (12 : Int32)))] [(.int (dch (nibS qb (12 : Int32)))), (.int (12 : Int32)), (.ref bo)]))
  obtain ⟨cl149, Ar149, q149, S149, M149, H149, G149⟩ := id F139
  have hin149 : ¬ ((12 : Int32) < 0 ∨ cl149.slots.size ≤ ((12 : Int32)).toNatClampNeg) := inb_of S149 ⟨by decide, by decide⟩
  obtain ⟨T149, h149, X149, e149, W149, st149⟩ := stC X147 hx hZ e147 Ar149 (j := (12 : Int32)) hin149 (g := (mkF m 31 #[.val (.ref ao), .val (.ref bo), .val (.int (12 : Int32)), .val (.int (nibS qb (12 : Int32)))] [(.int (dch (nibS qb (12 : Int32)))), (.int (12 : Int32)), (.ref bo)])) rfl rfl (hb hby d_wr_31)
  rw [(own_dchn (own_nib _ _))] at W149
  refine Go.st st149 ?_
  have F150 : Fld Z h149 ao "com/example/tallyroot/tallyroot/overlay/NodeId" "bits" "J" (.long qb) := F138.other W149 (Or.inl hne1)
  have F151 : Arv Z h149 bo kk .char (18 : Int32) [(.int (dch (nibS qb (60 : Int32)))), (.int (dch (nibS qb (56 : Int32)))), (.int (dch (nibS qb (52 : Int32)))), (.int (dch (nibS qb (48 : Int32)))), (.int (dch (nibS qb (44 : Int32)))), (.int (dch (nibS qb (40 : Int32)))), (.int (dch (nibS qb (36 : Int32)))), (.int (dch (nibS qb (32 : Int32)))), (.int (dch (nibS qb (28 : Int32)))), (.int (dch (nibS qb (24 : Int32)))), (.int (dch (nibS qb (20 : Int32)))), (.int (dch (nibS qb (16 : Int32)))), (.int (dch (nibS qb (12 : Int32)))), (.int u13), (.int u14), (.int u15), (.int u16), (.int u17)] (.int (0 : Int32)) := Arv.set Ar149 q149 S149 M149 H149 G149 (by have h_ := fits_nar_char (dch (nibS qb (12 : Int32))); rw [show nar .char (dch (nibS qb (12 : Int32))) = (dch (nibS qb (12 : Int32))) from (own_dchn (own_nib _ _))] at h_; exact h_) W149 12 rfl (Nat.le_of_ble_eq_true rfl)
  have F152 : Sta Z h149 "com/example/tallyroot/tallyroot/overlay/NodeId" "DIGITS" "[C" (.ref dgs) := F140.wr W149
  have F153 : Arv Z h149 dgs kd .char (16 : Int32) [(.int (48 : Int32)), (.int (49 : Int32)), (.int (50 : Int32)), (.int (51 : Int32)), (.int (52 : Int32)), (.int (53 : Int32)), (.int (54 : Int32)), (.int (55 : Int32)), (.int (56 : Int32)), (.int (57 : Int32)), (.int (97 : Int32)), (.int (98 : Int32)), (.int (99 : Int32)), (.int (100 : Int32)), (.int (101 : Int32)), (.int (102 : Int32))] (.int (0 : Int32)) := F141.other W149 hne2
  have K154 : Keep h0 h149 [bo] := K142.wr W149 (Or.inl (List.mem_of_getElem? (i := 0) rfl))
  have Z155 : n0 ≤ h149.size := Nat.le_trans Z143 (Nat.le_of_eq W149.size.symm)
  have N156 := Fr.snoc X149 N144 Pf2
  show Go p.tables e below _ (T149.setTop (mkF m 32 #[.val (.ref ao), .val (.ref bo), .val (.int (12 : Int32)), .val (.int (nibS qb (12 : Int32)))] []))
  refine Go.st (fun _ k => XS.iinc X149.here hx rfl (hb hby d_wr_32) rfl (l' := #[.val (.ref ao), .val (.ref bo), .val (.int ((12 : Int32) + (1 : Int32))), .val (.int (nibS qb (12 : Int32)))]) rfl k) ?_
  show Go p.tables e below _ (T149.setTop (mkF m 35 #[.val (.ref ao), .val (.ref bo), .val (.int ((12 : Int32) + (1 : Int32))), .val (.int (nibS qb (12 : Int32)))] []))
  rw [show ((12 : Int32) + (1 : Int32)) = (13 : Int32) from by decide]
  show Go p.tables e below _ (T149.setTop (mkF m 35 #[.val (.ref ao), .val (.ref bo), .val (.int (13 : Int32)), .val (.int (nibS qb (12 : Int32)))] []))
  refine Go.st (fun _ k => XS.goto X149.here hx rfl (pc0 := 35) (pc' := 2) rfl (hb hby d_wr_35) (by decide) (by decide) k) ?_
  show Go p.tables e below _ (T149.setTop (mkF m 2 #[.val (.ref ao), .val (.ref bo), .val (.int (13 : Int32)), .val (.int (nibS qb (12 : Int32)))] []))
  refine Go.st (fun _ k => XS.iloadN X149.here hx rfl (hb hby d_wr_2) rfl k) ?_
  show Go p.tables e below _ (T149.setTop (mkF m 3 #[.val (.ref ao), .val (.ref bo), .val (.int (13 : Int32)), .val (.int (nibS qb (12 : Int32)))] [(.int (13 : Int32))]))
  refine Go.st (fun _ k => XS.bipush X149.here hx rfl (hb hby d_wr_3) k) ?_
  show Go p.tables e below _ (T149.setTop (mkF m 5 #[.val (.ref ao), .val (.ref bo), .val (.int (13 : Int32)), .val (.int (nibS qb (12 : Int32)))] [(.int (16 : Int32)), (.int (13 : Int32))]))
  have hl157 : (13 : Int32) < (16 : Int32) := by decide
  refine Go.st (fun _ k => XS.icmpNo X149.here hx rfl (hb hby d_wr_5) rfl (Jvm.Free.XT.ii_ge_f hl157) k) ?_
  show Go p.tables e below _ (T149.setTop (mkF m 8 #[.val (.ref ao), .val (.ref bo), .val (.int (13 : Int32)), .val (.int (nibS qb (12 : Int32)))] []))
  refine Go.st (fun _ k => XS.aloadN X149.here hx rfl (hb hby d_wr_8) rfl rfl k) ?_
  show Go p.tables e below _ (T149.setTop (mkF m 9 #[.val (.ref ao), .val (.ref bo), .val (.int (13 : Int32)), .val (.int (nibS qb (12 : Int32)))] [(.ref ao)]))
  obtain ⟨T158, X158, e158, st158⟩ := getF X149 hx hZ hown (host := "") (Or.inl (hw _ (List.mem_of_getElem? (i := 15) rfl))) Via.refl e149 F150 (g := (mkF m 9 #[.val (.ref ao), .val (.ref bo), .val (.int (13 : Int32)), .val (.int (nibS qb (12 : Int32)))] [(.ref ao)])) rfl rfl (hb hby d_wr_9)
  refine Go.st st158 ?_
  show Go p.tables e below _ (T158.setTop (mkF m 12 #[.val (.ref ao), .val (.ref bo), .val (.int (13 : Int32)), .val (.int (nibS qb (12 : Int32)))] [(.long qb)]))
  refine Go.st (fun _ k => XS.iconst X158.here hx rfl (hb hby d_wr_12) k) ?_
  show Go p.tables e below _ (T158.setTop (mkF m 13 #[.val (.ref ao), .val (.ref bo), .val (.int (13 : Int32)), .val (.int (nibS qb (12 : Int32)))] [(.int (4 : Int32)), (.long qb)]))
  refine Go.st (fun _ k => XS.bipush X158.here hx rfl (hb hby d_wr_13) k) ?_
  show Go p.tables e below _ (T158.setTop (mkF m 15 #[.val (.ref ao), .val (.ref bo), .val (.int (13 : Int32)), .val (.int (nibS qb (12 : Int32)))] [(.int (15 : Int32)), (.int (4 : Int32)), (.long qb)]))
  refine Go.st (fun _ k => XS.iloadN X158.here hx rfl (hb hby d_wr_15) rfl k) ?_
  show Go p.tables e below _ (T158.setTop (mkF m 16 #[.val (.ref ao), .val (.ref bo), .val (.int (13 : Int32)), .val (.int (nibS qb (12 : Int32)))] [(.int (13 : Int32)), (.int (15 : Int32)), (.int (4 : Int32)), (.long qb)]))
  refine Go.st (fun _ k => XS.isub X158.here hx rfl (hb hby d_wr_16) rfl k) ?_
  show Go p.tables e below _ (T158.setTop (mkF m 17 #[.val (.ref ao), .val (.ref bo), .val (.int (13 : Int32)), .val (.int (nibS qb (12 : Int32)))] [(.int ((15 : Int32) - (13 : Int32))), (.int (4 : Int32)), (.long qb)]))
  rw [show ((15 : Int32) - (13 : Int32)) = (2 : Int32) from by decide]
  show Go p.tables e below _ (T158.setTop (mkF m 17 #[.val (.ref ao), .val (.ref bo), .val (.int (13 : Int32)), .val (.int (nibS qb (12 : Int32)))] [(.int (2 : Int32)), (.int (4 : Int32)), (.long qb)]))
  refine Go.st (fun _ k => XS.imul X158.here hx rfl (hb hby d_wr_17) rfl k) ?_
  show Go p.tables e below _ (T158.setTop (mkF m 18 #[.val (.ref ao), .val (.ref bo), .val (.int (13 : Int32)), .val (.int (nibS qb (12 : Int32)))] [(.int ((4 : Int32) * (2 : Int32))), (.long qb)]))
  rw [show ((4 : Int32) * (2 : Int32)) = (8 : Int32) from by decide]
  show Go p.tables e below _ (T158.setTop (mkF m 18 #[.val (.ref ao), .val (.ref bo), .val (.int (13 : Int32)), .val (.int (nibS qb (12 : Int32)))] [(.int (8 : Int32)), (.long qb)]))
  refine Go.st (fun _ k => XS.lushr X158.here hx rfl (hb hby d_wr_18) rfl k) ?_
  show Go p.tables e below _ (T158.setTop (mkF m 19 #[.val (.ref ao), .val (.ref bo), .val (.int (13 : Int32)), .val (.int (nibS qb (12 : Int32)))] [(.long ((qb.toUInt64 >>> ((8 : Int32) &&& 0x3f).toInt64.toUInt64).toInt64))]))
  refine Go.st (fun _ k => XS.l2i X158.here hx rfl (hb hby d_wr_19) rfl k) ?_
  show Go p.tables e below _ (T158.setTop (mkF m 20 #[.val (.ref ao), .val (.ref bo), .val (.int (13 : Int32)), .val (.int (nibS qb (12 : Int32)))] [(.int (((qb.toUInt64 >>> ((8 : Int32) &&& 0x3f).toInt64.toUInt64).toInt64).toInt32))]))
  refine Go.st (fun _ k => XS.bipush X158.here hx rfl (hb hby d_wr_20) k) ?_
  show Go p.tables e below _ (T158.setTop (mkF m 22 #[.val (.ref ao), .val (.ref bo), .val (.int (13 : Int32)), .val (.int (nibS qb (12 : Int32)))] [(.int (15 : Int32)), (.int (((qb.toUInt64 >>> ((8 : Int32) &&& 0x3f).toInt64.toUInt64).toInt64).toInt32))]))
  refine Go.st (fun _ k => XS.iand X158.here hx rfl (hb hby d_wr_22) rfl k) ?_
  show Go p.tables e below _ (T158.setTop (mkF m 23 #[.val (.ref ao), .val (.ref bo), .val (.int (13 : Int32)), .val (.int (nibS qb (12 : Int32)))] [(.int ((((qb.toUInt64 >>> ((8 : Int32) &&& 0x3f).toInt64.toUInt64).toInt64).toInt32) &&& (15 : Int32)))]))
  refine Go.st (fun _ k => XS.istoreN X158.here hx rfl (hb hby d_wr_23) rfl (l' := #[.val (.ref ao), .val (.ref bo), .val (.int (13 : Int32)), .val (.int ((((qb.toUInt64 >>> ((8 : Int32) &&& 0x3f).toInt64.toUInt64).toInt64).toInt32) &&& (15 : Int32)))]) rfl k) ?_
  show Go p.tables e below _ (T158.setTop (mkF m 24 #[.val (.ref ao), .val (.ref bo), .val (.int (13 : Int32)), .val (.int (nibS qb (8 : Int32)))] []))
  refine Go.st (fun _ k => XS.aloadN X158.here hx rfl (hb hby d_wr_24) rfl rfl k) ?_
  show Go p.tables e below _ (T158.setTop (mkF m 25 #[.val (.ref ao), .val (.ref bo), .val (.int (13 : Int32)), .val (.int (nibS qb (8 : Int32)))] [(.ref bo)]))
  refine Go.st (fun _ k => XS.iloadN X158.here hx rfl (hb hby d_wr_25) rfl k) ?_
  show Go p.tables e below _ (T158.setTop (mkF m 26 #[.val (.ref ao), .val (.ref bo), .val (.int (13 : Int32)), .val (.int (nibS qb (8 : Int32)))] [(.int (13 : Int32)), (.ref bo)]))
  obtain ⟨T159, X159, e159, st159⟩ := getS2 X158 hx hZ hown (host := "") (Or.inl (hw _ (List.mem_of_getElem? (i := 22) rfl))) Via.refl e158 F152 (g := (mkF m 26 #[.val (.ref ao), .val (.ref bo), .val (.int (13 : Int32)), .val (.int (nibS qb (8 : Int32)))] [(.int (13 : Int32)), (.ref bo)])) rfl (hb hby d_wr_26)
  refine Go.st st159 ?_
  show Go p.tables e below _ (T159.setTop (mkF m 29 #[.val (.ref ao), .val (.ref bo), .val (.int (13 : Int32)), .val (.int (nibS qb (8 : Int32)))] [(.ref dgs), (.int (13 : Int32)), (.ref bo)]))
  refine Go.st (fun _ k => XS.iloadN X159.here hx rfl (hb hby d_wr_29) rfl k) ?_
  show Go p.tables e below _ (T159.setTop (mkF m 30 #[.val (.ref ao), .val (.ref bo), .val (.int (13 : Int32)), .val (.int (nibS qb (8 : Int32)))] [(.int (nibS qb (8 : Int32))), (.ref dgs), (.int (13 : Int32)), (.ref bo)]))
  obtain ⟨cl160, Ar160, q160, S160, M160, H160, G160⟩ := id F153
  have hin160 : ¬ ((nibS qb (8 : Int32)) < 0 ∨ cl160.slots.size ≤ ((nibS qb (8 : Int32))).toNatClampNeg) := inb_of S160 (own_nibb _ _)
  have hat160 : cl160.slots[((nibS qb (8 : Int32))).toNatClampNeg]? = some (.int (dch (nibS qb (8 : Int32)))) := Has.at H160 hin160 (own_dget (own_nib _ _))
  refine Go.st (fun _ k => X159.caload hx (j := (nibS qb (8 : Int32))) (v := (.int (dch (nibS qb (8 : Int32))))) (by rw [e159]; exact Ar160.1) (State.isArrayOf_alike hZ.alike Ar160.2.1) Ar160.2.2 hin160 hat160 (g := (mkF m 30 #[.val (.ref ao), .val (.ref bo), .val (.int (13 : Int32)), .val (.int (nibS qb (8 : Int32)))] [(.int (nibS qb (8 : Int32))), (.ref dgs), (.int (13 : Int32)), (.ref bo)])) rfl rfl (hb hby d_wr_30) _ k) ?_
  show Go p.tables e below _ (T159.setTop (mkF m 31 #[.val (.ref ao), .val (.ref bo), .val (.int (13 : Int32)), .val (.int (nibS qb (8 : Int32)))] [(.int (dch (nibS qb (8 : Int32)))), (.int (13 : Int32)), (.ref bo)]))
  obtain ⟨cl161, Ar161, q161, S161, M161, H161, G161⟩ := id F151
  have hin161 : ¬ ((13 : Int32) < 0 ∨ cl161.slots.size ≤ ((13 : Int32)).toNatClampNeg) := inb_of S161 ⟨by decide, by decide⟩
  obtain ⟨T161, h161, X161, e161, W161, st161⟩ := stC X159 hx hZ e159 Ar161 (j := (13 : Int32)) hin161 (g := (mkF m 31 #[.val (.ref ao), .val (.ref bo), .val (.int (13 : Int32)), .val (.int (nibS qb (8 : Int32)))] [(.int (dch (nibS qb (8 : Int32)))), (.int (13 : Int32)), (.ref bo)])) rfl rfl (hb hby d_wr_31)
  rw [(own_dchn (own_nib _ _))] at W161
  refine Go.st st161 ?_
  have F162 : Fld Z h161 ao "com/example/tallyroot/tallyroot/overlay/NodeId" "bits" "J" (.long qb) := F150.other W161 (Or.inl hne1)
  have F163 : Arv Z h161 bo kk .char (18 : Int32) [(.int (dch (nibS qb (60 : Int32)))), (.int (dch (nibS qb (56 : Int32)))), (.int (dch (nibS qb (52 : Int32)))), (.int (dch (nibS qb (48 : Int32)))), (.int (dch (nibS qb (44 : Int32)))), (.int (dch (nibS qb (40 : Int32)))), (.int (dch (nibS qb (36 : Int32)))), (.int (dch (nibS qb (32 : Int32)))), (.int (dch (nibS qb (28 : Int32)))), (.int (dch (nibS qb (24 : Int32)))), (.int (dch (nibS qb (20 : Int32)))), (.int (dch (nibS qb (16 : Int32)))), (.int (dch (nibS qb (12 : Int32)))), (.int (dch (nibS qb (8 : Int32)))), (.int u14), (.int u15), (.int u16), (.int u17)] (.int (0 : Int32)) := Arv.set Ar161 q161 S161 M161 H161 G161 (by have h_ := fits_nar_char (dch (nibS qb (8 : Int32))); rw [show nar .char (dch (nibS qb (8 : Int32))) = (dch (nibS qb (8 : Int32))) from (own_dchn (own_nib _ _))] at h_; exact h_) W161 13 rfl (Nat.le_of_ble_eq_true rfl)
  have F164 : Sta Z h161 "com/example/tallyroot/tallyroot/overlay/NodeId" "DIGITS" "[C" (.ref dgs) := F152.wr W161
  have F165 : Arv Z h161 dgs kd .char (16 : Int32) [(.int (48 : Int32)), (.int (49 : Int32)), (.int (50 : Int32)), (.int (51 : Int32)), (.int (52 : Int32)), (.int (53 : Int32)), (.int (54 : Int32)), (.int (55 : Int32)), (.int (56 : Int32)), (.int (57 : Int32)), (.int (97 : Int32)), (.int (98 : Int32)), (.int (99 : Int32)), (.int (100 : Int32)), (.int (101 : Int32)), (.int (102 : Int32))] (.int (0 : Int32)) := F153.other W161 hne2
  have K166 : Keep h0 h161 [bo] := K154.wr W161 (Or.inl (List.mem_of_getElem? (i := 0) rfl))
  have Z167 : n0 ≤ h161.size := Nat.le_trans Z155 (Nat.le_of_eq W161.size.symm)
  have N168 := Fr.snoc X161 N156 Pf2
  show Go p.tables e below _ (T161.setTop (mkF m 32 #[.val (.ref ao), .val (.ref bo), .val (.int (13 : Int32)), .val (.int (nibS qb (8 : Int32)))] []))
  refine Go.st (fun _ k => XS.iinc X161.here hx rfl (hb hby d_wr_32) rfl (l' := #[.val (.ref ao), .val (.ref bo), .val (.int ((13 : Int32) + (1 : Int32))), .val (.int (nibS qb (8 : Int32)))]) rfl k) ?_
  show Go p.tables e below _ (T161.setTop (mkF m 35 #[.val (.ref ao), .val (.ref bo), .val (.int ((13 : Int32) + (1 : Int32))), .val (.int (nibS qb (8 : Int32)))] []))
  rw [show ((13 : Int32) + (1 : Int32)) = (14 : Int32) from by decide]
  show Go p.tables e below _ (T161.setTop (mkF m 35 #[.val (.ref ao), .val (.ref bo), .val (.int (14 : Int32)), .val (.int (nibS qb (8 : Int32)))] []))
  refine Go.st (fun _ k => XS.goto X161.here hx rfl (pc0 := 35) (pc' := 2) rfl (hb hby d_wr_35) (by decide) (by decide) k) ?_
  show Go p.tables e below _ (T161.setTop (mkF m 2 #[.val (.ref ao), .val (.ref bo), .val (.int (14 : Int32)), .val (.int (nibS qb (8 : Int32)))] []))
  refine Go.st (fun _ k => XS.iloadN X161.here hx rfl (hb hby d_wr_2) rfl k) ?_
  show Go p.tables e below _ (T161.setTop (mkF m 3 #[.val (.ref ao), .val (.ref bo), .val (.int (14 : Int32)), .val (.int (nibS qb (8 : Int32)))] [(.int (14 : Int32))]))
  refine Go.st (fun _ k => XS.bipush X161.here hx rfl (hb hby d_wr_3) k) ?_
  show Go p.tables e below _ (T161.setTop (mkF m 5 #[.val (.ref ao), .val (.ref bo), .val (.int (14 : Int32)), .val (.int (nibS qb (8 : Int32)))] [(.int (16 : Int32)), (.int (14 : Int32))]))
  have hl169 : (14 : Int32) < (16 : Int32) := by decide
  refine Go.st (fun _ k => XS.icmpNo X161.here hx rfl (hb hby d_wr_5) rfl (Jvm.Free.XT.ii_ge_f hl169) k) ?_
  show Go p.tables e below _ (T161.setTop (mkF m 8 #[.val (.ref ao), .val (.ref bo), .val (.int (14 : Int32)), .val (.int (nibS qb (8 : Int32)))] []))
  refine Go.st (fun _ k => XS.aloadN X161.here hx rfl (hb hby d_wr_8) rfl rfl k) ?_
  show Go p.tables e below _ (T161.setTop (mkF m 9 #[.val (.ref ao), .val (.ref bo), .val (.int (14 : Int32)), .val (.int (nibS qb (8 : Int32)))] [(.ref ao)]))
  obtain ⟨T170, X170, e170, st170⟩ := getF X161 hx hZ hown (host := "") (Or.inl (hw _ (List.mem_of_getElem? (i := 15) rfl))) Via.refl e161 F162 (g := (mkF m 9 #[.val (.ref ao), .val (.ref bo), .val (.int (14 : Int32)), .val (.int (nibS qb (8 : Int32)))] [(.ref ao)])) rfl rfl (hb hby d_wr_9)
  refine Go.st st170 ?_
  show Go p.tables e below _ (T170.setTop (mkF m 12 #[.val (.ref ao), .val (.ref bo), .val (.int (14 : Int32)), .val (.int (nibS qb (8 : Int32)))] [(.long qb)]))
  refine Go.st (fun _ k => XS.iconst X170.here hx rfl (hb hby d_wr_12) k) ?_
  show Go p.tables e below _ (T170.setTop (mkF m 13 #[.val (.ref ao), .val (.ref bo), .val (.int (14 : Int32)), .val (.int (nibS qb (8 : Int32)))] [(.int (4 : Int32)), (.long qb)]))
  refine Go.st (fun _ k => XS.bipush X170.here hx rfl (hb hby d_wr_13) k) ?_
  show Go p.tables e below _ (T170.setTop (mkF m 15 #[.val (.ref ao), .val (.ref bo), .val (.int (14 : Int32)), .val (.int (nibS qb (8 : Int32)))] [(.int (15 : Int32)), (.int (4 : Int32)), (.long qb)]))
  refine Go.st (fun _ k => XS.iloadN X170.here hx rfl (hb hby d_wr_15) rfl k) ?_
  show Go p.tables e below _ (T170.setTop (mkF m 16 #[.val (.ref ao), .val (.ref bo), .val (.int (14 : Int32)), .val (.int (nibS qb (8 : Int32)))] [(.int (14 : Int32)), (.int (15 : Int32)), (.int (4 : Int32)), (.long qb)]))
  refine Go.st (fun _ k => XS.isub X170.here hx rfl (hb hby d_wr_16) rfl k) ?_
  show Go p.tables e below _ (T170.setTop (mkF m 17 #[.val (.ref ao), .val (.ref bo), .val (.int (14 : Int32)), .val (.int (nibS qb (8 : Int32)))] [(.int ((15 : Int32) - (14 : Int32))), (.int (4 : Int32)), (.long qb)]))
  rw [show ((15 : Int32) - (14 : Int32)) = (1 : Int32) from by decide]
  show Go p.tables e below _ (T170.setTop (mkF m 17 #[.val (.ref ao), .val (.ref bo), .val (.int (14 : Int32)), .val (.int (nibS qb (8 : Int32)))] [(.int (1 : Int32)), (.int (4 : Int32)), (.long qb)]))
  refine Go.st (fun _ k => XS.imul X170.here hx rfl (hb hby d_wr_17) rfl k) ?_
  show Go p.tables e below _ (T170.setTop (mkF m 18 #[.val (.ref ao), .val (.ref bo), .val (.int (14 : Int32)), .val (.int (nibS qb (8 : Int32)))] [(.int ((4 : Int32) * (1 : Int32))), (.long qb)]))
  rw [show ((4 : Int32) * (1 : Int32)) = (4 : Int32) from by decide]
  show Go p.tables e below _ (T170.setTop (mkF m 18 #[.val (.ref ao), .val (.ref bo), .val (.int (14 : Int32)), .val (.int (nibS qb (8 : Int32)))] [(.int (4 : Int32)), (.long qb)]))
  refine Go.st (fun _ k => XS.lushr X170.here hx rfl (hb hby d_wr_18) rfl k) ?_
  show Go p.tables e below _ (T170.setTop (mkF m 19 #[.val (.ref ao), .val (.ref bo), .val (.int (14 : Int32)), .val (.int (nibS qb (8 : Int32)))] [(.long ((qb.toUInt64 >>> ((4 : Int32) &&& 0x3f).toInt64.toUInt64).toInt64))]))
  refine Go.st (fun _ k => XS.l2i X170.here hx rfl (hb hby d_wr_19) rfl k) ?_
  show Go p.tables e below _ (T170.setTop (mkF m 20 #[.val (.ref ao), .val (.ref bo), .val (.int (14 : Int32)), .val (.int (nibS qb (8 : Int32)))] [(.int (((qb.toUInt64 >>> ((4 : Int32) &&& 0x3f).toInt64.toUInt64).toInt64).toInt32))]))
  refine Go.st (fun _ k => XS.bipush X170.here hx rfl (hb hby d_wr_20) k) ?_
  show Go p.tables e below _ (T170.setTop (mkF m 22 #[.val (.ref ao), .val (.ref bo), .val (.int (14 : Int32)), .val (.int (nibS qb (8 : Int32)))] [(.int (15 : Int32)), (.int (((qb.toUInt64 >>> ((4 : Int32) &&& 0x3f).toInt64.toUInt64).toInt64).toInt32))]))
  refine Go.st (fun _ k => XS.iand X170.here hx rfl (hb hby d_wr_22) rfl k) ?_
  show Go p.tables e below _ (T170.setTop (mkF m 23 #[.val (.ref ao), .val (.ref bo), .val (.int (14 : Int32)), .val (.int (nibS qb (8 : Int32)))] [(.int ((((qb.toUInt64 >>> ((4 : Int32) &&& 0x3f).toInt64.toUInt64).toInt64).toInt32) &&& (15 : Int32)))]))
  refine Go.st (fun _ k => XS.istoreN X170.here hx rfl (hb hby d_wr_23) rfl (l' := #[.val (.ref ao), .val (.ref bo), .val (.int (14 : Int32)), .val (.int ((((qb.toUInt64 >>> ((4 : Int32) &&& 0x3f).toInt64.toUInt64).toInt64).toInt32) &&& (15 : Int32)))]) rfl k) ?_
  show Go p.tables e below _ (T170.setTop (mkF m 24 #[.val (.ref ao), .val (.ref bo), .val (.int (14 : Int32)), .val (.int (nibS qb (4 : Int32)))] []))
  refine Go.st (fun _ k => XS.aloadN X170.here hx rfl (hb hby d_wr_24) rfl rfl k) ?_
  show Go p.tables e below _ (T170.setTop (mkF m 25 #[.val (.ref ao), .val (.ref bo), .val (.int (14 : Int32)), .val (.int (nibS qb (4 : Int32)))] [(.ref bo)]))
  refine Go.st (fun _ k => XS.iloadN X170.here hx rfl (hb hby d_wr_25) rfl k) ?_
  show Go p.tables e below _ (T170.setTop (mkF m 26 #[.val (.ref ao), .val (.ref bo), .val (.int (14 : Int32)), .val (.int (nibS qb (4 : Int32)))] [(.int (14 : Int32)), (.ref bo)]))
  obtain ⟨T171, X171, e171, st171⟩ := getS2 X170 hx hZ hown (host := "") (Or.inl (hw _ (List.mem_of_getElem? (i := 22) rfl))) Via.refl e170 F164 (g := (mkF m 26 #[.val (.ref ao), .val (.ref bo), .val (.int (14 : Int32)), .val (.int (nibS qb (4 : Int32)))] [(.int (14 : Int32)), (.ref bo)])) rfl (hb hby d_wr_26)
  refine Go.st st171 ?_
  show Go p.tables e below _ (T171.setTop (mkF m 29 #[.val (.ref ao), .val (.ref bo), .val (.int (14 : Int32)), .val (.int (nibS qb (4 : Int32)))] [(.ref dgs), (.int (14 : Int32)), (.ref bo)]))
  refine Go.st (fun _ k => XS.iloadN X171.here hx rfl (hb hby d_wr_29) rfl k) ?_
  show Go p.tables e below _ (T171.setTop (mkF m 30 #[.val (.ref ao), .val (.ref bo), .val (.int (14 : Int32)), .val (.int (nibS qb (4 : Int32)))] [(.int (nibS qb (4 : Int32))), (.ref dgs), (.int (14 : Int32)), (.ref bo)]))
  obtain ⟨cl172, Ar172, q172, S172, M172, H172, G172⟩ := id F165
  have hin172 : ¬ ((nibS qb (4 : Int32)) < 0 ∨ cl172.slots.size ≤ ((nibS qb (4 : Int32))).toNatClampNeg) := inb_of S172 (own_nibb _ _)
  have hat172 : cl172.slots[((nibS qb (4 : Int32))).toNatClampNeg]? = some (.int (dch (nibS qb (4 : Int32)))) := Has.at H172 hin172 (own_dget (own_nib _ _))
  refine Go.st (fun _ k => X171.caload hx (j := (nibS qb (4 : Int32))) (v := (.int (dch (nibS qb (4 : Int32))))) (by rw [e171]; exact Ar172.1) (State.isArrayOf_alike hZ.alike Ar172.2.1) Ar172.2.2 hin172 hat172 (g := (mkF m 30 #[.val (.ref ao), .val (.ref bo), .val (.int (14 : Int32)), .val (.int (nibS qb (4 : Int32)))] [(.int (nibS qb (4 : Int32))), (.ref dgs), (.int (14 : Int32)), (.ref bo)])) rfl rfl (hb hby d_wr_30) _ k) ?_
  show Go p.tables e below _ (T171.setTop (mkF m 31 #[.val (.ref ao), .val (.ref bo), .val (.int (14 : Int32)), .val (.int (nibS qb (4 : Int32)))] [(.int (dch (nibS qb (4 : Int32)))), (.int (14 : Int32)), (.ref bo)]))
  obtain ⟨cl173, Ar173, q173, S173, M173, H173, G173⟩ := id F163
  have hin173 : ¬ ((14 : Int32) < 0 ∨ cl173.slots.size ≤ ((14 : Int32)).toNatClampNeg) := inb_of S173 ⟨by decide, by decide⟩
  obtain ⟨T173, h173, X173, e173, W173, st173⟩ := stC X171 hx hZ e171 Ar173 (j := (14 : Int32)) hin173 (g := (mkF m 31 #[.val (.ref ao), .val (.ref bo), .val (.int (14 : Int32)), .val (.int (nibS qb (4 : Int32)))] [(.int (dch (nibS qb (4 : Int32)))), (.int (14 : Int32)), (.ref bo)])) rfl rfl (hb hby d_wr_31)
  rw [(own_dchn (own_nib _ _))] at W173
  refine Go.st st173 ?_
  have F174 : Fld Z h173 ao "com/example/tallyroot/tallyroot/overlay/NodeId" "bits" "J" (.long qb) := F162.other W173 (Or.inl hne1)
  have F175 : Arv Z h173 bo kk .char (18 : Int32) [(.int (dch (nibS qb (60 : Int32)))), (.int (dch (nibS qb (56 : Int32)))), (.int (dch (nibS qb (52 : Int32)))), (.int (dch (nibS qb (48 : Int32)))), (.int (dch (nibS qb (44 : Int32)))), (.int (dch (nibS qb (40 : Int32)))), (.int (dch (nibS qb (36 : Int32)))), (.int (dch (nibS qb (32 : Int32)))), (.int (dch (nibS qb (28 : Int32)))), (.int (dch (nibS qb (24 : Int32)))), (.int (dch (nibS qb (20 : Int32)))), (.int (dch (nibS qb (16 : Int32)))), (.int (dch (nibS qb (12 : Int32)))), (.int (dch (nibS qb (8 : Int32)))), (.int (dch (nibS qb (4 : Int32)))), (.int u15), (.int u16), (.int u17)] (.int (0 : Int32)) := Arv.set Ar173 q173 S173 M173 H173 G173 (by have h_ := fits_nar_char (dch (nibS qb (4 : Int32))); rw [show nar .char (dch (nibS qb (4 : Int32))) = (dch (nibS qb (4 : Int32))) from (own_dchn (own_nib _ _))] at h_; exact h_) W173 14 rfl (Nat.le_of_ble_eq_true rfl)
  have F176 : Sta Z h173 "com/example/tallyroot/tallyroot/overlay/NodeId" "DIGITS" "[C" (.ref dgs) := F164.wr W173
  have F177 : Arv Z h173 dgs kd .char (16 : Int32) [(.int (48 : Int32)), (.int (49 : Int32)), (.int (50 : Int32)), (.int (51 : Int32)), (.int (52 : Int32)), (.int (53 : Int32)), (.int (54 : Int32)), (.int (55 : Int32)), (.int (56 : Int32)), (.int (57 : Int32)), (.int (97 : Int32)), (.int (98 : Int32)), (.int (99 : Int32)), (.int (100 : Int32)), (.int (101 : Int32)), (.int (102 : Int32))] (.int (0 : Int32)) := F165.other W173 hne2
  have K178 : Keep h0 h173 [bo] := K166.wr W173 (Or.inl (List.mem_of_getElem? (i := 0) rfl))
  have Z179 : n0 ≤ h173.size := Nat.le_trans Z167 (Nat.le_of_eq W173.size.symm)
  have N180 := Fr.snoc X173 N168 Pf2
  show Go p.tables e below _ (T173.setTop (mkF m 32 #[.val (.ref ao), .val (.ref bo), .val (.int (14 : Int32)), .val (.int (nibS qb (4 : Int32)))] []))
  refine Go.st (fun _ k => XS.iinc X173.here hx rfl (hb hby d_wr_32) rfl (l' := #[.val (.ref ao), .val (.ref bo), .val (.int ((14 : Int32) + (1 : Int32))), .val (.int (nibS qb (4 : Int32)))]) rfl k) ?_
  show Go p.tables e below _ (T173.setTop (mkF m 35 #[.val (.ref ao), .val (.ref bo), .val (.int ((14 : Int32) + (1 : Int32))), .val (.int (nibS qb (4 : Int32)))] []))
  rw [show ((14 : Int32) + (1 : Int32)) = (15 : Int32) from by decide]
  show Go p.tables e below _ (T173.setTop (mkF m 35 #[.val (.ref ao), .val (.ref bo), .val (.int (15 : Int32)), .val (.int (nibS qb (4 : Int32)))] []))
  refine Go.st (fun _ k => XS.goto X173.here hx rfl (pc0 := 35) (pc' := 2) rfl (hb hby d_wr_35) (by decide) (by decide) k) ?_
  show Go p.tables e below _ (T173.setTop (mkF m 2 #[.val (.ref ao), .val (.ref bo), .val (.int (15 : Int32)), .val (.int (nibS qb (4 : Int32)))] []))
  refine Go.st (fun _ k => XS.iloadN X173.here hx rfl (hb hby d_wr_2) rfl k) ?_
  show Go p.tables e below _ (T173.setTop (mkF m 3 #[.val (.ref ao), .val (.ref bo), .val (.int (15 : Int32)), .val (.int (nibS qb (4 : Int32)))] [(.int (15 : Int32))]))
  refine Go.st (fun _ k => XS.bipush X173.here hx rfl (hb hby d_wr_3) k) ?_
  show Go p.tables e below _ (T173.setTop (mkF m 5 #[.val (.ref ao), .val (.ref bo), .val (.int (15 : Int32)), .val (.int (nibS qb (4 : Int32)))] [(.int (16 : Int32)), (.int (15 : Int32))]))
  have hl181 : (15 : Int32) < (16 : Int32) := by decide
  refine Go.st (fun _ k => XS.icmpNo X173.here hx rfl (hb hby d_wr_5) rfl (Jvm.Free.XT.ii_ge_f hl181) k) ?_
  show Go p.tables e below _ (T173.setTop (mkF m 8 #[.val (.ref ao), .val (.ref bo), .val (.int (15 : Int32)), .val (.int (nibS qb (4 : Int32)))] []))
  refine Go.st (fun _ k => XS.aloadN X173.here hx rfl (hb hby d_wr_8) rfl rfl k) ?_
  show Go p.tables e below _ (T173.setTop (mkF m 9 #[.val (.ref ao), .val (.ref bo), .val (.int (15 : Int32)), .val (.int (nibS qb (4 : Int32)))] [(.ref ao)]))
  obtain ⟨T182, X182, e182, st182⟩ := getF X173 hx hZ hown (host := "") (Or.inl (hw _ (List.mem_of_getElem? (i := 15) rfl))) Via.refl e173 F174 (g := (mkF m 9 #[.val (.ref ao), .val (.ref bo), .val (.int (15 : Int32)), .val (.int (nibS qb (4 : Int32)))] [(.ref ao)])) rfl rfl (hb hby d_wr_9)
  refine Go.st st182 ?_
  show Go p.tables e below _ (T182.setTop (mkF m 12 #[.val (.ref ao), .val (.ref bo), .val (.int (15 : Int32)), .val (.int (nibS qb (4 : Int32)))] [(.long qb)]))
  refine Go.st (fun _ k => XS.iconst X182.here hx rfl (hb hby d_wr_12) k) ?_
  show Go p.tables e below _ (T182.setTop (mkF m 13 #[.val (.ref ao), .val (.ref bo), .val (.int (15 : Int32)), .val (.int (nibS qb (4 : Int32)))] [(.int (4 : Int32)), (.long qb)]))
  refine Go.st (fun _ k => XS.bipush X182.here hx rfl (hb hby d_wr_13) k) ?_
  show Go p.tables e below _ (T182.setTop (mkF m 15 #[.val (.ref ao), .val (.ref bo), .val (.int (15 : Int32)), .val (.int (nibS qb (4 : Int32)))] [(.int (15 : Int32)), (.int (4 : Int32)), (.long qb)]))
  refine Go.st (fun _ k => XS.iloadN X182.here hx rfl (hb hby d_wr_15) rfl k) ?_
  show Go p.tables e below _ (T182.setTop (mkF m 16 #[.val (.ref ao), .val (.ref bo), .val (.int (15 : Int32)), .val (.int (nibS qb (4 : Int32)))] [(.int (15 : Int32)), (.int (15 : Int32)), (.int (4 : Int32)), (.long qb)]))
  refine Go.st (fun _ k => XS.isub X182.here hx rfl (hb hby d_wr_16) rfl k) ?_
  show Go p.tables e below _ (T182.setTop (mkF m 17 #[.val (.ref ao), .val (.ref bo), .val (.int (15 : Int32)), .val (.int (nibS qb (4 : Int32)))] [(.int ((15 : Int32) - (15 : Int32))), (.int (4 : Int32)), (.long qb)]))
  rw [show ((15 : Int32) - (15 : Int32)) = (0 : Int32) from by decide]
  show Go p.tables e below _ (T182.setTop (mkF m 17 #[.val (.ref ao), .val (.ref bo), .val (.int (15 : Int32)), .val (.int (nibS qb (4 : Int32)))] [(.int (0 : Int32)), (.int (4 : Int32)), (.long qb)]))
  refine Go.st (fun _ k => XS.imul X182.here hx rfl (hb hby d_wr_17) rfl k) ?_
  show Go p.tables e below _ (T182.setTop (mkF m 18 #[.val (.ref ao), .val (.ref bo), .val (.int (15 : Int32)), .val (.int (nibS qb (4 : Int32)))] [(.int ((4 : Int32) * (0 : Int32))), (.long qb)]))
  rw [show ((4 : Int32) * (0 : Int32)) = (0 : Int32) from by decide]
  show Go p.tables e below _ (T182.setTop (mkF m 18 #[.val (.ref ao), .val (.ref bo), .val (.int (15 : Int32)), .val (.int (nibS qb (4 : Int32)))] [(.int (0 : Int32)), (.long qb)]))
  refine Go.st (fun _ k => XS.lushr X182.here hx rfl (hb hby d_wr_18) rfl k) ?_
  show Go p.tables e below _ (T182.setTop (mkF m 19 #[.val (.ref ao), .val (.ref bo), .val (.int (15 : Int32)), .val (.int (nibS qb (4 : Int32)))] [(.long ((qb.toUInt64 >>> ((0 : Int32) &&& 0x3f).toInt64.toUInt64).toInt64))]))
  refine Go.st (fun _ k => XS.l2i X182.here hx rfl (hb hby d_wr_19) rfl k) ?_
  show Go p.tables e below _ (T182.setTop (mkF m 20 #[.val (.ref ao), .val (.ref bo), .val (.int (15 : Int32)), .val (.int (nibS qb (4 : Int32)))] [(.int (((qb.toUInt64 >>> ((0 : Int32) &&& 0x3f).toInt64.toUInt64).toInt64).toInt32))]))
  refine Go.st (fun _ k => XS.bipush X182.here hx rfl (hb hby d_wr_20) k) ?_
  show Go p.tables e below _ (T182.setTop (mkF m 22 #[.val (.ref ao), .val (.ref bo), .val (.int (15 : Int32)), .val (.int (nibS qb (4 : Int32)))] [(.int (15 : Int32)), (.int (((qb.toUInt64 >>> ((0 : Int32) &&& 0x3f).toInt64.toUInt64).toInt64).toInt32))]))
  refine Go.st (fun _ k => XS.iand X182.here hx rfl (hb hby d_wr_22) rfl k) ?_
  show Go p.tables e below _ (T182.setTop (mkF m 23 #[.val (.ref ao), .val (.ref bo), .val (.int (15 : Int32)), .val (.int (nibS qb (4 : Int32)))] [(.int ((((qb.toUInt64 >>> ((0 : Int32) &&& 0x3f).toInt64.toUInt64).toInt64).toInt32) &&& (15 : Int32)))]))
  refine Go.st (fun _ k => XS.istoreN X182.here hx rfl (hb hby d_wr_23) rfl (l' := #[.val (.ref ao), .val (.ref bo), .val (.int (15 : Int32)), .val (.int ((((qb.toUInt64 >>> ((0 : Int32) &&& 0x3f).toInt64.toUInt64).toInt64).toInt32) &&& (15 : Int32)))]) rfl k) ?_
  show Go p.tables e below _ (T182.setTop (mkF m 24 #[.val (.ref ao), .val (.ref bo), .val (.int (15 : Int32)), .val (.int (nibS qb (0 : Int32)))] []))
  refine Go.st (fun _ k => XS.aloadN X182.here hx rfl (hb hby d_wr_24) rfl rfl k) ?_
  show Go p.tables e below _ (T182.setTop (mkF m 25 #[.val (.ref ao), .val (.ref bo), .val (.int (15 : Int32)), .val (.int (nibS qb (0 : Int32)))] [(.ref bo)]))
  refine Go.st (fun _ k => XS.iloadN X182.here hx rfl (hb hby d_wr_25) rfl k) ?_
  show Go p.tables e below _ (T182.setTop (mkF m 26 #[.val (.ref ao), .val (.ref bo), .val (.int (15 : Int32)), .val (.int (nibS qb (0 : Int32)))] [(.int (15 : Int32)), (.ref bo)]))
  obtain ⟨T183, X183, e183, st183⟩ := getS2 X182 hx hZ hown (host := "") (Or.inl (hw _ (List.mem_of_getElem? (i := 22) rfl))) Via.refl e182 F176 (g := (mkF m 26 #[.val (.ref ao), .val (.ref bo), .val (.int (15 : Int32)), .val (.int (nibS qb (0 : Int32)))] [(.int (15 : Int32)), (.ref bo)])) rfl (hb hby d_wr_26)
  refine Go.st st183 ?_
  show Go p.tables e below _ (T183.setTop (mkF m 29 #[.val (.ref ao), .val (.ref bo), .val (.int (15 : Int32)), .val (.int (nibS qb (0 : Int32)))] [(.ref dgs), (.int (15 : Int32)), (.ref bo)]))
  refine Go.st (fun _ k => XS.iloadN X183.here hx rfl (hb hby d_wr_29) rfl k) ?_
  show Go p.tables e below _ (T183.setTop (mkF m 30 #[.val (.ref ao), .val (.ref bo), .val (.int (15 : Int32)), .val (.int (nibS qb (0 : Int32)))] [(.int (nibS qb (0 : Int32))), (.ref dgs), (.int (15 : Int32)), (.ref bo)]))
  obtain ⟨cl184, Ar184, q184, S184, M184, H184, G184⟩ := id F177
  have hin184 : ¬ ((nibS qb (0 : Int32)) < 0 ∨ cl184.slots.size ≤ ((nibS qb (0 : Int32))).toNatClampNeg) := inb_of S184 (own_nibb _ _)
  have hat184 : cl184.slots[((nibS qb (0 : Int32))).toNatClampNeg]? = some (.int (dch (nibS qb (0 : Int32)))) := Has.at H184 hin184 (own_dget (own_nib _ _))
  refine Go.st (fun _ k => X183.caload hx (j := (nibS qb (0 : Int32))) (v := (.int (dch (nibS qb (0 : Int32))))) (by rw [e183]; exact Ar184.1) (State.isArrayOf_alike hZ.alike Ar184.2.1) Ar184.2.2 hin184 hat184 (g := (mkF m 30 #[.val (.ref ao), .val (.ref bo), .val (.int (15 : Int32)), .val (.int (nibS qb (0 : Int32)))] [(.int (nibS qb (0 : Int32))), (.ref dgs), (.int (15 : Int32)), (.ref bo)])) rfl rfl (hb hby d_wr_30) _ k) ?_
  show Go p.tables e below _ (T183.setTop (mkF m 31 #[.val (.ref ao), .val (.ref bo), .val (.int (15 : Int32)), .val (.int (nibS qb (0 : Int32)))] [(.int (dch (nibS qb (0 : Int32)))), (.int (15 : Int32)), (.ref bo)]))
  obtain ⟨cl185, Ar185, q185, S185, M185, H185, G185⟩ := id F175
  have hin185 : ¬ ((15 : Int32) < 0 ∨ cl185.slots.size ≤ ((15 : Int32)).toNatClampNeg) := inb_of S185 ⟨by decide, by decide⟩
  obtain ⟨T185, h185, X185, e185, W185, st185⟩ := stC X183 hx hZ e183 Ar185 (j := (15 : Int32)) hin185 (g := (mkF m 31 #[.val (.ref ao), .val (.ref bo), .val (.int (15 : Int32)), .val (.int (nibS qb (0 : Int32)))] [(.int (dch (nibS qb (0 : Int32)))), (.int (15 : Int32)), (.ref bo)])) rfl rfl (hb hby d_wr_31)
  rw [(own_dchn (own_nib _ _))] at W185
  refine Go.st st185 ?_
  have F186 : Fld Z h185 ao "com/example/tallyroot/tallyroot/overlay/NodeId" "bits" "J" (.long qb) := F174.other W185 (Or.inl hne1)
  have F187 : Arv Z h185 bo kk .char (18 : Int32) [(.int (dch (nibS qb (60 : Int32)))), (.int (dch (nibS qb (56 : Int32)))), (.int (dch (nibS qb (52 : Int32)))), (.int (dch (nibS qb (48 : Int32)))), (.int (dch (nibS qb (44 : Int32)))), (.int (dch (nibS qb (40 : Int32)))), (.int (dch (nibS qb (36 : Int32)))), (.int (dch (nibS qb (32 : Int32)))), (.int (dch (nibS qb (28 : Int32)))), (.int (dch (nibS qb (24 : Int32)))), (.int (dch (nibS qb (20 : Int32)))), (.int (dch (nibS qb (16 : Int32)))), (.int (dch (nibS qb (12 : Int32)))), (.int (dch (nibS qb (8 : Int32)))), (.int (dch (nibS qb (4 : Int32)))), (.int (dch (nibS qb (0 : Int32)))), (.int u16), (.int u17)] (.int (0 : Int32)) := Arv.set Ar185 q185 S185 M185 H185 G185 (by have h_ := fits_nar_char (dch (nibS qb (0 : Int32))); rw [show nar .char (dch (nibS qb (0 : Int32))) = (dch (nibS qb (0 : Int32))) from (own_dchn (own_nib _ _))] at h_; exact h_) W185 15 rfl (Nat.le_of_ble_eq_true rfl)
  have F188 : Sta Z h185 "com/example/tallyroot/tallyroot/overlay/NodeId" "DIGITS" "[C" (.ref dgs) := F176.wr W185
  have F189 : Arv Z h185 dgs kd .char (16 : Int32) [(.int (48 : Int32)), (.int (49 : Int32)), (.int (50 : Int32)), (.int (51 : Int32)), (.int (52 : Int32)), (.int (53 : Int32)), (.int (54 : Int32)), (.int (55 : Int32)), (.int (56 : Int32)), (.int (57 : Int32)), (.int (97 : Int32)), (.int (98 : Int32)), (.int (99 : Int32)), (.int (100 : Int32)), (.int (101 : Int32)), (.int (102 : Int32))] (.int (0 : Int32)) := F177.other W185 hne2
  have K190 : Keep h0 h185 [bo] := K178.wr W185 (Or.inl (List.mem_of_getElem? (i := 0) rfl))
  have Z191 : n0 ≤ h185.size := Nat.le_trans Z179 (Nat.le_of_eq W185.size.symm)
  have N192 := Fr.snoc X185 N180 Pf2
  show Go p.tables e below _ (T185.setTop (mkF m 32 #[.val (.ref ao), .val (.ref bo), .val (.int (15 : Int32)), .val (.int (nibS qb (0 : Int32)))] []))
  refine Go.st (fun _ k => XS.iinc X185.here hx rfl (hb hby d_wr_32) rfl (l' := #[.val (.ref ao), .val (.ref bo), .val (.int ((15 : Int32) + (1 : Int32))), .val (.int (nibS qb (0 : Int32)))]) rfl k) ?_
  show Go p.tables e below _ (T185.setTop (mkF m 35 #[.val (.ref ao), .val (.ref bo), .val (.int ((15 : Int32) + (1 : Int32))), .val (.int (nibS qb (0 : Int32)))] []))
  rw [show ((15 : Int32) + (1 : Int32)) = (16 : Int32) from by decide]
  show Go p.tables e below _ (T185.setTop (mkF m 35 #[.val (.ref ao), .val (.ref bo), .val (.int (16 : Int32)), .val (.int (nibS qb (0 : Int32)))] []))
  refine Go.st (fun _ k => XS.goto X185.here hx rfl (pc0 := 35) (pc' := 2) rfl (hb hby d_wr_35) (by decide) (by decide) k) ?_
  show Go p.tables e below _ (T185.setTop (mkF m 2 #[.val (.ref ao), .val (.ref bo), .val (.int (16 : Int32)), .val (.int (nibS qb (0 : Int32)))] []))
  refine Go.st (fun _ k => XS.iloadN X185.here hx rfl (hb hby d_wr_2) rfl k) ?_
  show Go p.tables e below _ (T185.setTop (mkF m 3 #[.val (.ref ao), .val (.ref bo), .val (.int (16 : Int32)), .val (.int (nibS qb (0 : Int32)))] [(.int (16 : Int32))]))
  refine Go.st (fun _ k => XS.bipush X185.here hx rfl (hb hby d_wr_3) k) ?_
  show Go p.tables e below _ (T185.setTop (mkF m 5 #[.val (.ref ao), .val (.ref bo), .val (.int (16 : Int32)), .val (.int (nibS qb (0 : Int32)))] [(.int (16 : Int32)), (.int (16 : Int32))]))
  have hl193 : ¬ ((16 : Int32) < (16 : Int32)) := by decide
  refine Go.st (fun _ k => XS.icmpYes X185.here hx rfl (pc0 := 5) (pc' := 38) rfl (hb hby d_wr_5) rfl (Jvm.Free.XT.ii_ge_t hl193) (by decide) (by decide) k) ?_
  show Go p.tables e below _ (T185.setTop (mkF m 38 #[.val (.ref ao), .val (.ref bo), .val (.int (16 : Int32)), .val (.int (nibS qb (0 : Int32)))] []))
  subst hG
  obtain ⟨fs, hr, hrun, hended, hW, hsame⟩ := X185.leave (v := none) (fun _ => rfl)
  refine ⟨_, _, ?_, hrun, hended, _, _, rfl, ?_, ⟨_, rfl⟩, hW, hsame.mono (by decide) (by decide)⟩
  · exact X185.returnOut hx Bd.returns (hb hby d_wr_38) hr
  · show Q_wr Z ao bo qb kk dgs kd u0 u1 u2 u3 u4 u5 u6 u7 u8 u9 u10 u11 u12 u13 u14 u15 u16 u17 h0 n0 _ T185.heap _
    rw [e185]
    exact ⟨rfl, N192, K190, F187⟩
theorem pn_2 : plainName "com/example/tallyroot/tallyroot/overlay/NodeIdWriteToPinLaw" = true := by first | (simp [plainName, overriddenIn]; done) | decide +kernel
theorem d_hex_0 : decode method_3_code 0 = .ok (.iload_n 0, 1) := by decide +kernel
theorem d_hex_1 : decode method_3_code 1 = .ok (.bipush 48, 2) := by decide +kernel
theorem d_hex_3 : decode method_3_code 3 = .ok (.if_icmp .lt 9, 3) := by decide +kernel
theorem d_hex_6 : decode method_3_code 6 = .ok (.iload_n 0, 1) := by decide +kernel
theorem d_hex_7 : decode method_3_code 7 = .ok (.bipush 57, 2) := by decide +kernel
theorem d_hex_9 : decode method_3_code 9 = .ok (.if_icmp .le 15, 3) := by decide +kernel
theorem d_hex_12 : decode method_3_code 12 = .ok (.iload_n 0, 1) := by decide +kernel
theorem d_hex_13 : decode method_3_code 13 = .ok (.bipush 97, 2) := by decide +kernel
theorem d_hex_15 : decode method_3_code 15 = .ok (.if_icmp .lt 13, 3) := by decide +kernel
theorem d_hex_18 : decode method_3_code 18 = .ok (.iload_n 0, 1) := by decide +kernel
theorem d_hex_19 : decode method_3_code 19 = .ok (.bipush 102, 2) := by decide +kernel
theorem d_hex_21 : decode method_3_code 21 = .ok (.if_icmp .gt 7, 3) := by decide +kernel
theorem d_hex_24 : decode method_3_code 24 = .ok (.iconst 1, 1) := by decide +kernel
theorem d_hex_25 : decode method_3_code 25 = .ok (.goto 4, 3) := by decide +kernel
theorem d_hex_28 : decode method_3_code 28 = .ok (.iconst 0, 1) := by decide +kernel
theorem d_hex_29 : decode method_3_code 29 = .ok (.ireturn, 1) := by decide +kernel
theorem ef_hex (m : MethodId) (pc : Int32) : entryFrame m #[(.int pc)] 1 = mkF m 0 #[.val (.int pc)] [] := by first | (simp [entryFrame, mkF, argsToLocals, Value.category]; done) | rfl
def Q_hex (Z : State) (pc : Int32) (h0 : Heap) (n0 : Nat) (v : Option Value) (h : Heap) (L : List Loc) : Prop := v = some (.int (hxF pc)) ∧ Fr n0 L ∧ h = h0
set_option maxRecDepth 65536 in
set_option maxHeartbeats 40000000 in
theorem rm_hex (l : Launch) (Z : State) (a0 : Array Value) (hw : ∀ d ∈ tables_1, d.before a0 Z = true) (ws : List Jvm.Cond) (pc : Int32) (h0 : Heap) (n0 : Nat) (Z0 : n0 ≤ h0.size)  :
    MetFree l (⟨"com/example/tallyroot/tallyroot/overlay/NodeIdWriteToPinLaw", "hex", "(C)Z"⟩ : MethodName) (head1 (Jvm.Cond.code (⟨"com/example/tallyroot/tallyroot/overlay/NodeIdWriteToPinLaw", "hex", "(C)Z"⟩ : MethodName) method_3_code 1 (some .boolean) :: ws) ({ frames := 0, cells := 0, slots := 0, locals := 0 } : Room)) (fun a U => a = #[(.int pc)] ∧ Z.Warmed39 U.vm ∧ U.heap = h0) (fun _ _ _ _ _ => True) (fun _ U o U' => ∃ v L, o = .returned v ∧ Q_hex Z pc h0 n0 v U'.heap L ∧ FrameEnd U o U' L ({ frames := 0, cells := 0, slots := 0, locals := 0 } : Room).cells ({ frames := 0, cells := 0, slots := 0, locals := 0 } : Room).slots) := by
  refine MetFree.of_bodySF (plainFor_of_name pn_2) hisR ?_
  intro p e s m args below meth c s₁ Bd hml0 hP hK
  obtain ⟨rfl, hZ, hh⟩ := hP
  have hx := Bd.exec
  have hby := Bd.bytes
  have hml : c.maxLocals = 1 := hml0
  have hown : s.vm.findClass "com/example/tallyroot/tallyroot/overlay/NodeIdWriteToPinLaw" = some m.cls := findClass_of_methodNamed Bd.named
  have hnm := (name_of_methodNamed Bd.named Bd.method).1
  have X0 : Stand p l e ({ frames := 0, cells := 0, slots := 0, locals := 0 } : Room) s m #[(.int pc)] below meth c s₁ [] 0 0 := Stand.of_body Bd
  have e0 : s₁.heap = h0 := by rw [← hh, Bd.state]; rfl
  have N0 := Fr.nil n0
  have K0 : Keep h0 h0 [] := Keep.refl h0 []
  show Go p.tables e below _ (s₁.setTop (entryFrame m #[(.int pc)] 1))
  refine Go.start ?_
  intro G hG
  refine Go.st (fun t k => castTop (ef_hex m pc) k) ?_
  show Go p.tables e below _ (s₁.setTop (mkF m 0 #[.val (.int pc)] []))
  refine Go.st (fun _ k => XS.iloadN X0.here hx rfl (hb hby d_hex_0) rfl k) ?_
  show Go p.tables e below _ (s₁.setTop (mkF m 1 #[.val (.int pc)] [(.int pc)]))
  refine Go.st (fun _ k => XS.bipush X0.here hx rfl (hb hby d_hex_1) k) ?_
  show Go p.tables e below _ (s₁.setTop (mkF m 3 #[.val (.int pc)] [(.int (48 : Int32)), (.int pc)]))
  by_cases hc3 : pc < (48 : Int32)
  · skip
    refine Go.st (fun _ k => XS.icmpYes X0.here hx rfl (pc0 := 3) (pc' := 12) rfl (hb hby d_hex_3) rfl (Jvm.Free.XT.ii_lt_t hc3) (by decide) (by decide) k) ?_
    show Go p.tables e below _ (s₁.setTop (mkF m 12 #[.val (.int pc)] []))
    refine Go.st (fun _ k => XS.iloadN X0.here hx rfl (hb hby d_hex_12) rfl k) ?_
    show Go p.tables e below _ (s₁.setTop (mkF m 13 #[.val (.int pc)] [(.int pc)]))
    refine Go.st (fun _ k => XS.bipush X0.here hx rfl (hb hby d_hex_13) k) ?_
    show Go p.tables e below _ (s₁.setTop (mkF m 15 #[.val (.int pc)] [(.int (97 : Int32)), (.int pc)]))
    by_cases hc15 : pc < (97 : Int32)
    · skip
      refine Go.st (fun _ k => XS.icmpYes X0.here hx rfl (pc0 := 15) (pc' := 28) rfl (hb hby d_hex_15) rfl (Jvm.Free.XT.ii_lt_t hc15) (by decide) (by decide) k) ?_
      show Go p.tables e below _ (s₁.setTop (mkF m 28 #[.val (.int pc)] []))
      refine Go.st (fun _ k => XS.iconst X0.here hx rfl (hb hby d_hex_28) k) ?_
      show Go p.tables e below _ (s₁.setTop (mkF m 29 #[.val (.int pc)] [(.int (0 : Int32))]))
      subst hG
      obtain ⟨fs, hr, hrun, hended, hW, hsame⟩ := X0.leave (v := some (.int (nar .boolean (0 : Int32)))) (fun h => by rw [Bd.returns] at h; cases h)
      refine ⟨_, _, ?_, hrun, hended, _, _, rfl, ?_, ⟨_, rfl⟩, hW, hsame.mono (by decide) (by decide)⟩
      · exact retN X0 hx (t := .boolean) Bd.returns (by simp) (hb hby d_hex_29) hr
      · show Q_hex Z pc h0 n0 _ s₁.heap _
        rw [e0]
        exact ⟨(by show some (Value.int (0 : Int32)) = _; simp [hxF, hc3, hc15]), N0, rfl⟩
    · skip
      refine Go.st (fun _ k => XS.icmpNo X0.here hx rfl (hb hby d_hex_15) rfl (Jvm.Free.XT.ii_lt_f hc15) k) ?_
      show Go p.tables e below _ (s₁.setTop (mkF m 18 #[.val (.int pc)] []))
      refine Go.st (fun _ k => XS.iloadN X0.here hx rfl (hb hby d_hex_18) rfl k) ?_
      show Go p.tables e below _ (s₁.setTop (mkF m 19 #[.val (.int pc)] [(.int pc)]))
      refine Go.st (fun _ k => XS.bipush X0.here hx rfl (hb hby d_hex_19) k) ?_
      show Go p.tables e below _ (s₁.setTop (mkF m 21 #[.val (.int pc)] [(.int (102 : Int32)), (.int pc)]))
      by_cases hc21 : (102 : Int32) < pc
      · skip
        refine Go.st (fun _ k => XS.icmpYes X0.here hx rfl (pc0 := 21) (pc' := 28) rfl (hb hby d_hex_21) rfl (Jvm.Free.XT.ii_gt_t hc21) (by decide) (by decide) k) ?_
        show Go p.tables e below _ (s₁.setTop (mkF m 28 #[.val (.int pc)] []))
        refine Go.st (fun _ k => XS.iconst X0.here hx rfl (hb hby d_hex_28) k) ?_
        show Go p.tables e below _ (s₁.setTop (mkF m 29 #[.val (.int pc)] [(.int (0 : Int32))]))
        subst hG
        obtain ⟨fs, hr, hrun, hended, hW, hsame⟩ := X0.leave (v := some (.int (nar .boolean (0 : Int32)))) (fun h => by rw [Bd.returns] at h; cases h)
        refine ⟨_, _, ?_, hrun, hended, _, _, rfl, ?_, ⟨_, rfl⟩, hW, hsame.mono (by decide) (by decide)⟩
        · exact retN X0 hx (t := .boolean) Bd.returns (by simp) (hb hby d_hex_29) hr
        · show Q_hex Z pc h0 n0 _ s₁.heap _
          rw [e0]
          exact ⟨(by show some (Value.int (0 : Int32)) = _; simp [hxF, hc3, hc15, hc21]), N0, rfl⟩
      · skip
        refine Go.st (fun _ k => XS.icmpNo X0.here hx rfl (hb hby d_hex_21) rfl (Jvm.Free.XT.ii_gt_f hc21) k) ?_
        show Go p.tables e below _ (s₁.setTop (mkF m 24 #[.val (.int pc)] []))
        refine Go.st (fun _ k => XS.iconst X0.here hx rfl (hb hby d_hex_24) k) ?_
        show Go p.tables e below _ (s₁.setTop (mkF m 25 #[.val (.int pc)] [(.int (1 : Int32))]))
        refine Go.st (fun _ k => XS.goto X0.here hx rfl (pc0 := 25) (pc' := 29) rfl (hb hby d_hex_25) (by decide) (by decide) k) ?_
        show Go p.tables e below _ (s₁.setTop (mkF m 29 #[.val (.int pc)] [(.int (1 : Int32))]))
        subst hG
        obtain ⟨fs, hr, hrun, hended, hW, hsame⟩ := X0.leave (v := some (.int (nar .boolean (1 : Int32)))) (fun h => by rw [Bd.returns] at h; cases h)
        refine ⟨_, _, ?_, hrun, hended, _, _, rfl, ?_, ⟨_, rfl⟩, hW, hsame.mono (by decide) (by decide)⟩
        · exact retN X0 hx (t := .boolean) Bd.returns (by simp) (hb hby d_hex_29) hr
        · show Q_hex Z pc h0 n0 _ s₁.heap _
          rw [e0]
          exact ⟨(by show some (Value.int (1 : Int32)) = _; simp [hxF, hc3, hc15, hc21]), N0, rfl⟩
  · skip
    refine Go.st (fun _ k => XS.icmpNo X0.here hx rfl (hb hby d_hex_3) rfl (Jvm.Free.XT.ii_lt_f hc3) k) ?_
    show Go p.tables e below _ (s₁.setTop (mkF m 6 #[.val (.int pc)] []))
    refine Go.st (fun _ k => XS.iloadN X0.here hx rfl (hb hby d_hex_6) rfl k) ?_
    show Go p.tables e below _ (s₁.setTop (mkF m 7 #[.val (.int pc)] [(.int pc)]))
    refine Go.st (fun _ k => XS.bipush X0.here hx rfl (hb hby d_hex_7) k) ?_
    show Go p.tables e below _ (s₁.setTop (mkF m 9 #[.val (.int pc)] [(.int (57 : Int32)), (.int pc)]))
    by_cases hc9 : (57 : Int32) < pc
    · skip
      refine Go.st (fun _ k => XS.icmpNo X0.here hx rfl (hb hby d_hex_9) rfl (Jvm.Free.XT.ii_le_f hc9) k) ?_
      show Go p.tables e below _ (s₁.setTop (mkF m 12 #[.val (.int pc)] []))
      refine Go.st (fun _ k => XS.iloadN X0.here hx rfl (hb hby d_hex_12) rfl k) ?_
      show Go p.tables e below _ (s₁.setTop (mkF m 13 #[.val (.int pc)] [(.int pc)]))
      refine Go.st (fun _ k => XS.bipush X0.here hx rfl (hb hby d_hex_13) k) ?_
      show Go p.tables e below _ (s₁.setTop (mkF m 15 #[.val (.int pc)] [(.int (97 : Int32)), (.int pc)]))
      by_cases hc15 : pc < (97 : Int32)
      · skip
        refine Go.st (fun _ k => XS.icmpYes X0.here hx rfl (pc0 := 15) (pc' := 28) rfl (hb hby d_hex_15) rfl (Jvm.Free.XT.ii_lt_t hc15) (by decide) (by decide) k) ?_
        show Go p.tables e below _ (s₁.setTop (mkF m 28 #[.val (.int pc)] []))
        refine Go.st (fun _ k => XS.iconst X0.here hx rfl (hb hby d_hex_28) k) ?_
        show Go p.tables e below _ (s₁.setTop (mkF m 29 #[.val (.int pc)] [(.int (0 : Int32))]))
        subst hG
        obtain ⟨fs, hr, hrun, hended, hW, hsame⟩ := X0.leave (v := some (.int (nar .boolean (0 : Int32)))) (fun h => by rw [Bd.returns] at h; cases h)
        refine ⟨_, _, ?_, hrun, hended, _, _, rfl, ?_, ⟨_, rfl⟩, hW, hsame.mono (by decide) (by decide)⟩
        · exact retN X0 hx (t := .boolean) Bd.returns (by simp) (hb hby d_hex_29) hr
        · show Q_hex Z pc h0 n0 _ s₁.heap _
          rw [e0]
          exact ⟨(by show some (Value.int (0 : Int32)) = _; simp [hxF, hc3, hc9, hc15]), N0, rfl⟩
      · skip
        refine Go.st (fun _ k => XS.icmpNo X0.here hx rfl (hb hby d_hex_15) rfl (Jvm.Free.XT.ii_lt_f hc15) k) ?_
        show Go p.tables e below _ (s₁.setTop (mkF m 18 #[.val (.int pc)] []))
        refine Go.st (fun _ k => XS.iloadN X0.here hx rfl (hb hby d_hex_18) rfl k) ?_
        show Go p.tables e below _ (s₁.setTop (mkF m 19 #[.val (.int pc)] [(.int pc)]))
        refine Go.st (fun _ k => XS.bipush X0.here hx rfl (hb hby d_hex_19) k) ?_
        show Go p.tables e below _ (s₁.setTop (mkF m 21 #[.val (.int pc)] [(.int (102 : Int32)), (.int pc)]))
        by_cases hc21 : (102 : Int32) < pc
        · skip
          refine Go.st (fun _ k => XS.icmpYes X0.here hx rfl (pc0 := 21) (pc' := 28) rfl (hb hby d_hex_21) rfl (Jvm.Free.XT.ii_gt_t hc21) (by decide) (by decide) k) ?_
          show Go p.tables e below _ (s₁.setTop (mkF m 28 #[.val (.int pc)] []))
          refine Go.st (fun _ k => XS.iconst X0.here hx rfl (hb hby d_hex_28) k) ?_
          show Go p.tables e below _ (s₁.setTop (mkF m 29 #[.val (.int pc)] [(.int (0 : Int32))]))
          subst hG
          obtain ⟨fs, hr, hrun, hended, hW, hsame⟩ := X0.leave (v := some (.int (nar .boolean (0 : Int32)))) (fun h => by rw [Bd.returns] at h; cases h)
          refine ⟨_, _, ?_, hrun, hended, _, _, rfl, ?_, ⟨_, rfl⟩, hW, hsame.mono (by decide) (by decide)⟩
          · exact retN X0 hx (t := .boolean) Bd.returns (by simp) (hb hby d_hex_29) hr
          · show Q_hex Z pc h0 n0 _ s₁.heap _
            rw [e0]
            exact ⟨(by show some (Value.int (0 : Int32)) = _; simp [hxF, hc3, hc9, hc15, hc21]), N0, rfl⟩
        · skip
          refine Go.st (fun _ k => XS.icmpNo X0.here hx rfl (hb hby d_hex_21) rfl (Jvm.Free.XT.ii_gt_f hc21) k) ?_
          show Go p.tables e below _ (s₁.setTop (mkF m 24 #[.val (.int pc)] []))
          refine Go.st (fun _ k => XS.iconst X0.here hx rfl (hb hby d_hex_24) k) ?_
          show Go p.tables e below _ (s₁.setTop (mkF m 25 #[.val (.int pc)] [(.int (1 : Int32))]))
          refine Go.st (fun _ k => XS.goto X0.here hx rfl (pc0 := 25) (pc' := 29) rfl (hb hby d_hex_25) (by decide) (by decide) k) ?_
          show Go p.tables e below _ (s₁.setTop (mkF m 29 #[.val (.int pc)] [(.int (1 : Int32))]))
          subst hG
          obtain ⟨fs, hr, hrun, hended, hW, hsame⟩ := X0.leave (v := some (.int (nar .boolean (1 : Int32)))) (fun h => by rw [Bd.returns] at h; cases h)
          refine ⟨_, _, ?_, hrun, hended, _, _, rfl, ?_, ⟨_, rfl⟩, hW, hsame.mono (by decide) (by decide)⟩
          · exact retN X0 hx (t := .boolean) Bd.returns (by simp) (hb hby d_hex_29) hr
          · show Q_hex Z pc h0 n0 _ s₁.heap _
            rw [e0]
            exact ⟨(by show some (Value.int (1 : Int32)) = _; simp [hxF, hc3, hc9, hc15, hc21]), N0, rfl⟩
    · skip
      refine Go.st (fun _ k => XS.icmpYes X0.here hx rfl (pc0 := 9) (pc' := 24) rfl (hb hby d_hex_9) rfl (Jvm.Free.XT.ii_le_t hc9) (by decide) (by decide) k) ?_
      show Go p.tables e below _ (s₁.setTop (mkF m 24 #[.val (.int pc)] []))
      refine Go.st (fun _ k => XS.iconst X0.here hx rfl (hb hby d_hex_24) k) ?_
      show Go p.tables e below _ (s₁.setTop (mkF m 25 #[.val (.int pc)] [(.int (1 : Int32))]))
      refine Go.st (fun _ k => XS.goto X0.here hx rfl (pc0 := 25) (pc' := 29) rfl (hb hby d_hex_25) (by decide) (by decide) k) ?_
      show Go p.tables e below _ (s₁.setTop (mkF m 29 #[.val (.int pc)] [(.int (1 : Int32))]))
      subst hG
      obtain ⟨fs, hr, hrun, hended, hW, hsame⟩ := X0.leave (v := some (.int (nar .boolean (1 : Int32)))) (fun h => by rw [Bd.returns] at h; cases h)
      refine ⟨_, _, ?_, hrun, hended, _, _, rfl, ?_, ⟨_, rfl⟩, hW, hsame.mono (by decide) (by decide)⟩
      · exact retN X0 hx (t := .boolean) Bd.returns (by simp) (hb hby d_hex_29) hr
      · show Q_hex Z pc h0 n0 _ s₁.heap _
        rw [e0]
        exact ⟨(by show some (Value.int (1 : Int32)) = _; simp [hxF, hc3, hc9]), N0, rfl⟩
theorem own_hd1 {n : Int32} (h : 0 ≤ n.toInt ∧ n.toInt < 16) : ¬ dch n < 48 := own_all16 (P := fun n => ¬ dch n < 48) (by decide) (by decide) (by decide) (by decide) (by decide) (by decide) (by decide) (by decide) (by decide) (by decide) (by decide) (by decide) (by decide) (by decide) (by decide) (by decide) h
theorem own_hd2 {n : Int32} (h : 0 ≤ n.toInt ∧ n.toInt < 16) : (57 < dch n ∨ dch n - 48 = n) ∧ (¬ 57 < dch n ∨ (¬ dch n < 97 ∧ ¬ 102 < dch n ∧ (dch n - 97) + 10 = n)) := own_all16 (P := fun n => (57 < dch n ∨ dch n - 48 = n) ∧ (¬ 57 < dch n ∨ (¬ dch n < 97 ∧ ¬ 102 < dch n ∧ (dch n - 97) + 10 = n))) (by decide) (by decide) (by decide) (by decide) (by decide) (by decide) (by decide) (by decide) (by decide) (by decide) (by decide) (by decide) (by decide) (by decide) (by decide) (by decide) h
theorem d_hexd_0 : decode prog_42_method_3_code 0 = .ok (.iload_n 0, 1) := by decide +kernel
theorem d_hexd_1 : decode prog_42_method_3_code 1 = .ok (.bipush 48, 2) := by decide +kernel
theorem d_hexd_3 : decode prog_42_method_3_code 3 = .ok (.if_icmp .lt 14, 3) := by decide +kernel
theorem d_hexd_6 : decode prog_42_method_3_code 6 = .ok (.iload_n 0, 1) := by decide +kernel
theorem d_hexd_7 : decode prog_42_method_3_code 7 = .ok (.bipush 57, 2) := by decide +kernel
theorem d_hexd_9 : decode prog_42_method_3_code 9 = .ok (.if_icmp .gt 8, 3) := by decide +kernel
theorem d_hexd_12 : decode prog_42_method_3_code 12 = .ok (.iload_n 0, 1) := by decide +kernel
theorem d_hexd_13 : decode prog_42_method_3_code 13 = .ok (.bipush 48, 2) := by decide +kernel
theorem d_hexd_15 : decode prog_42_method_3_code 15 = .ok (.isub, 1) := by decide +kernel
theorem d_hexd_16 : decode prog_42_method_3_code 16 = .ok (.ireturn, 1) := by decide +kernel
theorem d_hexd_17 : decode prog_42_method_3_code 17 = .ok (.iload_n 0, 1) := by decide +kernel
theorem d_hexd_18 : decode prog_42_method_3_code 18 = .ok (.bipush 97, 2) := by decide +kernel
theorem d_hexd_20 : decode prog_42_method_3_code 20 = .ok (.if_icmp .lt 17, 3) := by decide +kernel
theorem d_hexd_23 : decode prog_42_method_3_code 23 = .ok (.iload_n 0, 1) := by decide +kernel
theorem d_hexd_24 : decode prog_42_method_3_code 24 = .ok (.bipush 102, 2) := by decide +kernel
theorem d_hexd_26 : decode prog_42_method_3_code 26 = .ok (.if_icmp .gt 11, 3) := by decide +kernel
theorem d_hexd_29 : decode prog_42_method_3_code 29 = .ok (.iload_n 0, 1) := by decide +kernel
theorem d_hexd_30 : decode prog_42_method_3_code 30 = .ok (.bipush 97, 2) := by decide +kernel
theorem d_hexd_32 : decode prog_42_method_3_code 32 = .ok (.isub, 1) := by decide +kernel
theorem d_hexd_33 : decode prog_42_method_3_code 33 = .ok (.bipush 10, 2) := by decide +kernel
theorem d_hexd_35 : decode prog_42_method_3_code 35 = .ok (.iadd, 1) := by decide +kernel
theorem d_hexd_36 : decode prog_42_method_3_code 36 = .ok (.ireturn, 1) := by decide +kernel
theorem ef_hexd (m : MethodId) (pc : Int32) (so : Addr) : entryFrame m #[(.int pc), (.ref so)] 2 = mkF m 0 #[.val (.int pc), .val (.ref so)] [] := by first | (simp [entryFrame, mkF, argsToLocals, Value.category]; done) | rfl
def Q_hexd (Z : State) (pc : Int32) (so : Addr) (pn : Int32) (h0 : Heap) (n0 : Nat) (v : Option Value) (h : Heap) (L : List Loc) : Prop := v = some (.int pn) ∧ Fr n0 L ∧ h = h0
set_option maxRecDepth 65536 in
set_option maxHeartbeats 40000000 in
theorem rm_hexd (l : Launch) (Z : State) (a0 : Array Value) (hw : ∀ d ∈ tables_1, d.before a0 Z = true) (ws : List Jvm.Cond) (pc : Int32) (so : Addr) (pn : Int32) (h0 : Heap) (n0 : Nat) (Z0 : n0 ≤ h0.size) (hpc : pc = dch pn) (hpn : 0 ≤ pn.toInt ∧ pn.toInt < 16) :
    MetFree l (⟨"com/example/tallyroot/tallyroot/overlay/NodeId", "hexDigit", "(CLjava/lang/CharSequence;)I"⟩ : MethodName) (head1 (Jvm.Cond.code (⟨"com/example/tallyroot/tallyroot/overlay/NodeId", "hexDigit", "(CLjava/lang/CharSequence;)I"⟩ : MethodName) prog_42_method_3_code 2 (some .int) :: ws) ({ frames := 0, cells := 0, slots := 0, locals := 0 } : Room)) (fun a U => a = #[(.int pc), (.ref so)] ∧ Z.Warmed39 U.vm ∧ U.heap = h0) (fun _ _ _ _ _ => True) (fun _ U o U' => ∃ v L, o = .returned v ∧ Q_hexd Z pc so pn h0 n0 v U'.heap L ∧ FrameEnd U o U' L ({ frames := 0, cells := 0, slots := 0, locals := 0 } : Room).cells ({ frames := 0, cells := 0, slots := 0, locals := 0 } : Room).slots) := by
  refine MetFree.of_bodySF (plainFor_of_name pn_1) hisR ?_
  intro p e s m args below meth c s₁ Bd hml0 hP hK
  obtain ⟨rfl, hZ, hh⟩ := hP
  have hx := Bd.exec
  have hby := Bd.bytes
  have hml : c.maxLocals = 2 := hml0
  have hown : s.vm.findClass "com/example/tallyroot/tallyroot/overlay/NodeId" = some m.cls := findClass_of_methodNamed Bd.named
  have hnm := (name_of_methodNamed Bd.named Bd.method).1
  have X0 : Stand p l e ({ frames := 0, cells := 0, slots := 0, locals := 0 } : Room) s m #[(.int pc), (.ref so)] below meth c s₁ [] 0 0 := Stand.of_body Bd
  have e0 : s₁.heap = h0 := by rw [← hh, Bd.state]; rfl
  have N0 := Fr.nil n0
  have K0 : Keep h0 h0 [] := Keep.refl h0 []
  show Go p.tables e below _ (s₁.setTop (entryFrame m #[(.int pc), (.ref so)] 2))
  refine Go.start ?_
  intro G hG
  refine Go.st (fun t k => castTop (ef_hexd m pc so) k) ?_
  subst hpc
  show Go p.tables e below _ (s₁.setTop (mkF m 0 #[.val (.int (dch pn)), .val (.ref so)] []))
  refine Go.st (fun _ k => XS.iloadN X0.here hx rfl (hb hby d_hexd_0) rfl k) ?_
  show Go p.tables e below _ (s₁.setTop (mkF m 1 #[.val (.int (dch pn)), .val (.ref so)] [(.int (dch pn))]))
  refine Go.st (fun _ k => XS.bipush X0.here hx rfl (hb hby d_hexd_1) k) ?_
  show Go p.tables e below _ (s₁.setTop (mkF m 3 #[.val (.int (dch pn)), .val (.ref so)] [(.int (48 : Int32)), (.int (dch pn))]))
  have hc3 : ¬ ((dch pn) < (48 : Int32)) := own_hd1 hpn
  refine Go.st (fun _ k => XS.icmpNo X0.here hx rfl (hb hby d_hexd_3) rfl (Jvm.Free.XT.ii_lt_f hc3) k) ?_
  show Go p.tables e below _ (s₁.setTop (mkF m 6 #[.val (.int (dch pn)), .val (.ref so)] []))
  refine Go.st (fun _ k => XS.iloadN X0.here hx rfl (hb hby d_hexd_6) rfl k) ?_
  show Go p.tables e below _ (s₁.setTop (mkF m 7 #[.val (.int (dch pn)), .val (.ref so)] [(.int (dch pn))]))
  refine Go.st (fun _ k => XS.bipush X0.here hx rfl (hb hby d_hexd_7) k) ?_
  show Go p.tables e below _ (s₁.setTop (mkF m 9 #[.val (.int (dch pn)), .val (.ref so)] [(.int (57 : Int32)), (.int (dch pn))]))
  by_cases hc9 : (57 : Int32) < (dch pn)
  · skip
    refine Go.st (fun _ k => XS.icmpYes X0.here hx rfl (pc0 := 9) (pc' := 17) rfl (hb hby d_hexd_9) rfl (Jvm.Free.XT.ii_gt_t hc9) (by decide) (by decide) k) ?_
    show Go p.tables e below _ (s₁.setTop (mkF m 17 #[.val (.int (dch pn)), .val (.ref so)] []))
    refine Go.st (fun _ k => XS.iloadN X0.here hx rfl (hb hby d_hexd_17) rfl k) ?_
    show Go p.tables e below _ (s₁.setTop (mkF m 18 #[.val (.int (dch pn)), .val (.ref so)] [(.int (dch pn))]))
    refine Go.st (fun _ k => XS.bipush X0.here hx rfl (hb hby d_hexd_18) k) ?_
    show Go p.tables e below _ (s₁.setTop (mkF m 20 #[.val (.int (dch pn)), .val (.ref so)] [(.int (97 : Int32)), (.int (dch pn))]))
    have hc20 : ¬ ((dch pn) < (97 : Int32)) := ((own_hd2 hpn).2.resolve_left (not_not_intro hc9)).1
    refine Go.st (fun _ k => XS.icmpNo X0.here hx rfl (hb hby d_hexd_20) rfl (Jvm.Free.XT.ii_lt_f hc20) k) ?_
    show Go p.tables e below _ (s₁.setTop (mkF m 23 #[.val (.int (dch pn)), .val (.ref so)] []))
    refine Go.st (fun _ k => XS.iloadN X0.here hx rfl (hb hby d_hexd_23) rfl k) ?_
    show Go p.tables e below _ (s₁.setTop (mkF m 24 #[.val (.int (dch pn)), .val (.ref so)] [(.int (dch pn))]))
    refine Go.st (fun _ k => XS.bipush X0.here hx rfl (hb hby d_hexd_24) k) ?_
    show Go p.tables e below _ (s₁.setTop (mkF m 26 #[.val (.int (dch pn)), .val (.ref so)] [(.int (102 : Int32)), (.int (dch pn))]))
    have hc26 : ¬ ((102 : Int32) < (dch pn)) := ((own_hd2 hpn).2.resolve_left (not_not_intro hc9)).2.1
    refine Go.st (fun _ k => XS.icmpNo X0.here hx rfl (hb hby d_hexd_26) rfl (Jvm.Free.XT.ii_gt_f hc26) k) ?_
    show Go p.tables e below _ (s₁.setTop (mkF m 29 #[.val (.int (dch pn)), .val (.ref so)] []))
    refine Go.st (fun _ k => XS.iloadN X0.here hx rfl (hb hby d_hexd_29) rfl k) ?_
    show Go p.tables e below _ (s₁.setTop (mkF m 30 #[.val (.int (dch pn)), .val (.ref so)] [(.int (dch pn))]))
    refine Go.st (fun _ k => XS.bipush X0.here hx rfl (hb hby d_hexd_30) k) ?_
    show Go p.tables e below _ (s₁.setTop (mkF m 32 #[.val (.int (dch pn)), .val (.ref so)] [(.int (97 : Int32)), (.int (dch pn))]))
    refine Go.st (fun _ k => XS.isub X0.here hx rfl (hb hby d_hexd_32) rfl k) ?_
    show Go p.tables e below _ (s₁.setTop (mkF m 33 #[.val (.int (dch pn)), .val (.ref so)] [(.int ((dch pn) - (97 : Int32)))]))
    refine Go.st (fun _ k => XS.bipush X0.here hx rfl (hb hby d_hexd_33) k) ?_
    show Go p.tables e below _ (s₁.setTop (mkF m 35 #[.val (.int (dch pn)), .val (.ref so)] [(.int (10 : Int32)), (.int ((dch pn) - (97 : Int32)))]))
    refine Go.st (fun _ k => XS.iadd X0.here hx rfl (hb hby d_hexd_35) rfl k) ?_
    show Go p.tables e below _ (s₁.setTop (mkF m 36 #[.val (.int (dch pn)), .val (.ref so)] [(.int (((dch pn) - (97 : Int32)) + (10 : Int32)))]))
    subst hG
    obtain ⟨fs, hr, hrun, hended, hW, hsame⟩ := X0.leave (v := some (.int (((dch pn) - (97 : Int32)) + (10 : Int32)))) (fun h => by rw [Bd.returns] at h; cases h)
    refine ⟨_, _, ?_, hrun, hended, _, _, rfl, ?_, ⟨_, rfl⟩, hW, hsame.mono (by decide) (by decide)⟩
    · exact retI X0 hx Bd.returns (hb hby d_hexd_36) hr
    · show Q_hexd Z (dch pn) so pn h0 n0 _ s₁.heap _
      rw [e0]
      exact ⟨(by rw [((own_hd2 hpn).2.resolve_left (not_not_intro hc9)).2.2]), N0, rfl⟩
  · skip
    refine Go.st (fun _ k => XS.icmpNo X0.here hx rfl (hb hby d_hexd_9) rfl (Jvm.Free.XT.ii_gt_f hc9) k) ?_
    show Go p.tables e below _ (s₁.setTop (mkF m 12 #[.val (.int (dch pn)), .val (.ref so)] []))
    refine Go.st (fun _ k => XS.iloadN X0.here hx rfl (hb hby d_hexd_12) rfl k) ?_
    show Go p.tables e below _ (s₁.setTop (mkF m 13 #[.val (.int (dch pn)), .val (.ref so)] [(.int (dch pn))]))
    refine Go.st (fun _ k => XS.bipush X0.here hx rfl (hb hby d_hexd_13) k) ?_
    show Go p.tables e below _ (s₁.setTop (mkF m 15 #[.val (.int (dch pn)), .val (.ref so)] [(.int (48 : Int32)), (.int (dch pn))]))
    refine Go.st (fun _ k => XS.isub X0.here hx rfl (hb hby d_hexd_15) rfl k) ?_
    show Go p.tables e below _ (s₁.setTop (mkF m 16 #[.val (.int (dch pn)), .val (.ref so)] [(.int ((dch pn) - (48 : Int32)))]))
    subst hG
    obtain ⟨fs, hr, hrun, hended, hW, hsame⟩ := X0.leave (v := some (.int ((dch pn) - (48 : Int32)))) (fun h => by rw [Bd.returns] at h; cases h)
    refine ⟨_, _, ?_, hrun, hended, _, _, rfl, ?_, ⟨_, rfl⟩, hW, hsame.mono (by decide) (by decide)⟩
    · exact retI X0 hx Bd.returns (hb hby d_hexd_16) hr
    · show Q_hexd Z (dch pn) so pn h0 n0 _ s₁.heap _
      rw [e0]
      exact ⟨(by rw [(own_hd2 hpn).1.resolve_left hc9]), N0, rfl⟩
theorem own_hps {ms : List Int32} (hm : ∀ z ∈ ms, 0 ≤ z.toInt ∧ z.toInt < 16) : ∀ c ∈ ms.map dch, ¬ c < 0 ∧ ¬ (255 : Int32) < c := by
  intro c hc
  obtain ⟨z, hz, rfl⟩ := List.mem_map.mp hc
  exact own_dchr (hm z hz)
theorem pd_1 : parseMethodDescriptor "()I" = some ⟨[], some .int⟩ := by decide +kernel
theorem pd_2 : parseMethodDescriptor "(I)C" = some ⟨[.int], some .char⟩ := by decide +kernel
theorem pd_3 : parseMethodDescriptor "(CLjava/lang/CharSequence;)I" = some ⟨[.char, (.object "java/lang/CharSequence")], some .int⟩ := by decide +kernel
theorem pd_4 : parseMethodDescriptor "(J)V" = some ⟨[.long], none⟩ := by decide +kernel
theorem d_parse_0 : decode prog_42_method_2_code 0 = .ok (.aload_n 0, 1) := by decide +kernel
theorem d_parse_1 : decode prog_42_method_2_code 1 = .ok (.invokeinterface 13 1, 5) := by decide +kernel
theorem d_parse_6 : decode prog_42_method_2_code 6 = .ok (.bipush 16, 2) := by decide +kernel
theorem d_parse_8 : decode prog_42_method_2_code 8 = .ok (.if_icmp .eq 8, 3) := by decide +kernel
theorem d_parse_16 : decode prog_42_method_2_code 16 = .ok (.lconst 0, 1) := by decide +kernel
theorem d_parse_17 : decode prog_42_method_2_code 17 = .ok (.lstore_n 1, 1) := by decide +kernel
theorem d_parse_18 : decode prog_42_method_2_code 18 = .ok (.iconst 0, 1) := by decide +kernel
theorem d_parse_19 : decode prog_42_method_2_code 19 = .ok (.istore_n 3, 1) := by decide +kernel
theorem d_parse_20 : decode prog_42_method_2_code 20 = .ok (.iload_n 3, 1) := by decide +kernel
theorem d_parse_21 : decode prog_42_method_2_code 21 = .ok (.bipush 16, 2) := by decide +kernel
theorem d_parse_23 : decode prog_42_method_2_code 23 = .ok (.if_icmp .ge 26, 3) := by decide +kernel
theorem d_parse_26 : decode prog_42_method_2_code 26 = .ok (.lload_n 1, 1) := by decide +kernel
theorem d_parse_27 : decode prog_42_method_2_code 27 = .ok (.iconst 4, 1) := by decide +kernel
theorem d_parse_28 : decode prog_42_method_2_code 28 = .ok (.lshl, 1) := by decide +kernel
theorem d_parse_29 : decode prog_42_method_2_code 29 = .ok (.aload_n 0, 1) := by decide +kernel
theorem d_parse_30 : decode prog_42_method_2_code 30 = .ok (.iload_n 3, 1) := by decide +kernel
theorem d_parse_31 : decode prog_42_method_2_code 31 = .ok (.invokeinterface 23 2, 5) := by decide +kernel
theorem d_parse_36 : decode prog_42_method_2_code 36 = .ok (.aload_n 0, 1) := by decide +kernel
theorem d_parse_37 : decode prog_42_method_2_code 37 = .ok (.invokestatic 27, 3) := by decide +kernel
theorem d_parse_40 : decode prog_42_method_2_code 40 = .ok (.i2l, 1) := by decide +kernel
theorem d_parse_41 : decode prog_42_method_2_code 41 = .ok (.lor, 1) := by decide +kernel
theorem d_parse_42 : decode prog_42_method_2_code 42 = .ok (.lstore_n 1, 1) := by decide +kernel
theorem d_parse_43 : decode prog_42_method_2_code 43 = .ok (.iinc 3 1, 3) := by decide +kernel
theorem d_parse_46 : decode prog_42_method_2_code 46 = .ok (.goto (-26), 3) := by decide +kernel
theorem d_parse_49 : decode prog_42_method_2_code 49 = .ok (.new 8, 3) := by decide +kernel
theorem d_parse_52 : decode prog_42_method_2_code 52 = .ok (.dup, 1) := by decide +kernel
theorem d_parse_53 : decode prog_42_method_2_code 53 = .ok (.lload_n 1, 1) := by decide +kernel
theorem d_parse_54 : decode prog_42_method_2_code 54 = .ok (.invokespecial 31, 3) := by decide +kernel
theorem d_parse_57 : decode prog_42_method_2_code 57 = .ok (.areturn, 1) := by decide +kernel
theorem ef_parse (m : MethodId) (so : Addr) : entryFrame m #[(.ref so)] 4 = mkF m 0 #[.val (.ref so), .unset, .unset, .unset] [] := by first | (simp [entryFrame, mkF, argsToLocals, Value.category]; done) | rfl
def Q_parse (Z : State) (so : Addr) (tb : Addr) (kb : ClassId) (G1 : Int32) (G3 : Value) (m0 : Int32) (m1 : Int32) (m2 : Int32) (m3 : Int32) (m4 : Int32) (m5 : Int32) (m6 : Int32) (m7 : Int32) (m8 : Int32) (m9 : Int32) (m10 : Int32) (m11 : Int32) (m12 : Int32) (m13 : Int32) (m14 : Int32) (m15 : Int32) (h0 : Heap) (n0 : Nat) (v : Option Value) (h : Heap) (L : List Loc) : Prop := ∃ fr : Addr, ∃ rr : Int64, ∃ a0 : Int64, ∃ a1 : Int64, ∃ a2 : Int64, ∃ a3 : Int64, ∃ a4 : Int64, ∃ a5 : Int64, ∃ a6 : Int64, ∃ a7 : Int64, ∃ a8 : Int64, ∃ a9 : Int64, ∃ a10 : Int64, ∃ a11 : Int64, ∃ a12 : Int64, ∃ a13 : Int64, ∃ a14 : Int64, v = some (.ref fr) ∧ Fr n0 L ∧ Keep h0 h [] ∧ n0 ≤ fr ∧ h0.size ≤ fr ∧ Exa Z h fr "com/example/tallyroot/tallyroot/overlay/NodeId" ∧ Fld Z h fr "com/example/tallyroot/tallyroot/overlay/NodeId" "bits" "J" (.long rr) ∧ stepF 0 m0 = a0 ∧ stepF a0 m1 = a1 ∧ stepF a1 m2 = a2 ∧ stepF a2 m3 = a3 ∧ stepF a3 m4 = a4 ∧ stepF a4 m5 = a5 ∧ stepF a5 m6 = a6 ∧ stepF a6 m7 = a7 ∧ stepF a7 m8 = a8 ∧ stepF a8 m9 = a9 ∧ stepF a9 m10 = a10 ∧ stepF a10 m11 = a11 ∧ stepF a11 m12 = a12 ∧ stepF a12 m13 = a13 ∧ stepF a13 m14 = a14 ∧ stepF a14 m15 = rr
set_option maxRecDepth 65536 in
set_option maxHeartbeats 40000000 in
theorem rm_parse (l : Launch) (Z : State) (a0 : Array Value) (hw : ∀ d ∈ tables_1, d.before a0 Z = true) (ws : List Jvm.Cond) (so : Addr) (tb : Addr) (kb : ClassId) (G1 : Int32) (G3 : Value) (m0 : Int32) (m1 : Int32) (m2 : Int32) (m3 : Int32) (m4 : Int32) (m5 : Int32) (m6 : Int32) (m7 : Int32) (m8 : Int32) (m9 : Int32) (m10 : Int32) (m11 : Int32) (m12 : Int32) (m13 : Int32) (m14 : Int32) (m15 : Int32) (h0 : Heap) (n0 : Nat) (Z0 : n0 ≤ h0.size) (Pf0 : Exa Z h0 so "java/lang/String") (Pf1 : Fld Z h0 so "java/lang/String" "coder" "B" (.int (0 : Int32))) (Pf2 : Fld Z h0 so "java/lang/String" "value" "[B" (.ref tb)) (Pf3 : Arv Z h0 tb kb .byte (16 : Int32) ((([dch m0, dch m1, dch m2, dch m3, dch m4, dch m5, dch m6, dch m7, dch m8, dch m9, dch m10, dch m11, dch m12, dch m13, dch m14, dch m15] : List Int32).map (fun c => c.toInt8.toInt32)).map Value.int) (.int (0 : Int32))) (Pf4 : Old Z n0 h0) (O2 : Sta Z Z.heap "java/lang/String" "COMPACT_STRINGS" "Z" (.int G1)) (P5 : ¬ (G1 = (0 : Int32))) (O4 : Sta Z Z.heap "jdk/internal/util/Preconditions" "SIOOBE_FORMATTER" "Ljava/util/function/BiFunction;" G3) (rG3 : G3.isRef = true) (hm : ∀ z ∈ ([m0, m1, m2, m3, m4, m5, m6, m7, m8, m9, m10, m11, m12, m13, m14, m15] : List Int32), 0 ≤ z.toInt ∧ z.toInt < 16) :
    MetFree l (⟨"com/example/tallyroot/tallyroot/overlay/NodeId", "parse", "(Ljava/lang/CharSequence;)Lcom/example/tallyroot/tallyroot/overlay/NodeId;"⟩ : MethodName) (head1 (Jvm.Cond.code (⟨"com/example/tallyroot/tallyroot/overlay/NodeId", "parse", "(Ljava/lang/CharSequence;)Lcom/example/tallyroot/tallyroot/overlay/NodeId;"⟩ : MethodName) prog_42_method_2_code 4 (some (.object "com/example/tallyroot/tallyroot/overlay/NodeId")) :: ws) ({ frames := 4, cells := 1, slots := 1, locals := 55 } : Room)) (fun a U => a = #[(.ref so)] ∧ Z.Warmed39 U.vm ∧ U.heap = h0) (fun _ _ _ _ _ => True) (fun _ U o U' => ∃ v L, o = .returned v ∧ Q_parse Z so tb kb G1 G3 m0 m1 m2 m3 m4 m5 m6 m7 m8 m9 m10 m11 m12 m13 m14 m15 h0 n0 v U'.heap L ∧ FrameEnd U o U' L ({ frames := 4, cells := 1, slots := 1, locals := 55 } : Room).cells ({ frames := 4, cells := 1, slots := 1, locals := 55 } : Room).slots) := by
  refine MetFree.of_bodySF (plainFor_of_name pn_1) hisR ?_
  intro p e s m args below meth c s₁ Bd hml0 hP hK
  obtain ⟨rfl, hZ, hh⟩ := hP
  have hx := Bd.exec
  have hby := Bd.bytes
  have hml : c.maxLocals = 4 := hml0
  have hown : s.vm.findClass "com/example/tallyroot/tallyroot/overlay/NodeId" = some m.cls := findClass_of_methodNamed Bd.named
  have hnm := (name_of_methodNamed Bd.named Bd.method).1
  have X0 : Stand p l e ({ frames := 4, cells := 1, slots := 1, locals := 55 } : Room) s m #[(.ref so)] below meth c s₁ [] 0 0 := Stand.of_body Bd
  have e0 : s₁.heap = h0 := by rw [← hh, Bd.state]; rfl
  have N0 := Fr.nil n0
  have K0 : Keep h0 h0 [] := Keep.refl h0 []
  show Go p.tables e below _ (s₁.setTop (entryFrame m #[(.ref so)] 4))
  refine Go.start ?_
  intro G hG
  refine Go.st (fun t k => castTop (ef_parse m so) k) ?_
  have hps : ∀ c ∈ ([dch m0, dch m1, dch m2, dch m3, dch m4, dch m5, dch m6, dch m7, dch m8, dch m9, dch m10, dch m11, dch m12, dch m13, dch m14, dch m15] : List Int32), ¬ c < 0 ∧ ¬ (255 : Int32) < c := own_hps (ms := [m0, m1, m2, m3, m4, m5, m6, m7, m8, m9, m10, m11, m12, m13, m14, m15]) hm
  show Go p.tables e below _ (s₁.setTop (mkF m 0 #[.val (.ref so), .unset, .unset, .unset] []))
  refine Go.st (fun _ k => XS.aloadN X0.here hx rfl (hb hby d_parse_0) rfl rfl k) ?_
  show Go p.tables e below _ (s₁.setTop (mkF m 1 #[.val (.ref so), .unset, .unset, .unset] [(.ref so)]))
  have hcd2 : StrChars.Road.CodA ([(dch m0), (dch m1), (dch m2), (dch m3), (dch m4), (dch m5), (dch m6), (dch m7), (dch m8), (dch m9), (dch m10), (dch m11), (dch m12), (dch m13), (dch m14), (dch m15)] : List Int32) 0 (16 : Int32) ((([dch m0, dch m1, dch m2, dch m3, dch m4, dch m5, dch m6, dch m7, dch m8, dch m9, dch m10, dch m11, dch m12, dch m13, dch m14, dch m15] : List Int32).map (fun c => c.toInt8.toInt32)).map Value.int) := StrChars.Road.codOf (n := 16) rfl (fun x hx => (hps x hx).2)
  have hbd2 : ∀ x ∈ ([(dch m0), (dch m1), (dch m2), (dch m3), (dch m4), (dch m5), (dch m6), (dch m7), (dch m8), (dch m9), (dch m10), (dch m11), (dch m12), (dch m13), (dch m14), (dch m15)] : List Int32), ¬ x < 0 ∧ ¬ (65535 : Int32) < x := own_up _ hps
  obtain ⟨cq1, kq1, q1a, q1b, q1c⟩ := isOf hZ e0 Pf0
  obtain ⟨_, _, ⟨T1, L1, k1, n1⟩, -, X1, ⟨Lc1, hQ1, l1, y1, z1⟩, st1⟩ := X0.interfaceBack hx (xi := (⟨"java/lang/CharSequence", "length", "()I"⟩ : MethodName)) (y := (⟨"java/lang/String", "length", "()I"⟩ : MethodName)) hown (mvT hZ (hw _ (List.mem_of_getElem? (i := 58) rfl))) (mvT hZ (hw _ (List.mem_of_getElem? (i := 59) rfl))) (mvT hZ (hw _ (List.mem_of_getElem? (i := 60) rfl))) (mvT hZ (hw _ (List.mem_of_getElem? (i := 61) rfl))) (mvT hZ (hw _ (List.mem_of_getElem? (i := 62) rfl))) (mvT hZ (hw _ (List.mem_of_getElem? (i := 63) rfl))) (mvT hZ (hw _ (List.mem_of_getElem? (i := 64) rfl))) (mvT hZ (hw _ (List.mem_of_getElem? (i := 65) rfl))) (by decide) (StrChars.Road.lenW (W := 0) hZ (fun d hd => hw d (own_wordsLen d hd)) (kI := 4) (hw _ (List.mem_of_getElem? (i := 29) rfl)) Pf0 Pf2 Pf1 Pf3 hcd2 hbd2 (O2.ext Pf4.2) P5 (Nat.le_of_ble_eq_true rfl) (by decide) (by decide)) q1a q1b q1c (g := (mkF m 1 #[.val (.ref so), .unset, .unset, .unset] [(.ref so)])) rfl (by rw [hml]; rfl) (Steps.refl _) (argsL := []) (rest := []) (lenOf pd_1 rfl) rfl (by show 2 * 0 + _ ≤ _; exact Nat.le_of_eq rfl) (hb hby d_parse_1) (fun _ _ => ⟨rfl, e0, (by decide : 0 + 0 ≤ _), (by decide : 0 + 0 ≤ _)⟩)
  dsimp only [Pt.U, Pt.locs, Pt.cells, Pt.slots] at X1 l1 y1 z1 st1 hQ1
  rw [l1, y1, z1] at X1
  obtain ⟨rfl, rfl, e1⟩ := hQ1
  have N1 := Fr.app N0 (Fr.nil n0)
  refine Go.st (fun _ k => st1.trans k) ?_
  show Go p.tables e below _ (T1.setTop (mkF m 6 #[.val (.ref so), .unset, .unset, .unset] [(.int (16 : Int32))]))
  refine Go.st (fun _ k => XS.bipush X1.here hx rfl (hb hby d_parse_6) k) ?_
  show Go p.tables e below _ (T1.setTop (mkF m 8 #[.val (.ref so), .unset, .unset, .unset] [(.int (16 : Int32)), (.int (16 : Int32))]))
  have hl3 : (16 : Int32) = (16 : Int32) := by decide
  refine Go.st (fun _ k => XS.icmpYes X1.here hx rfl (pc0 := 8) (pc' := 16) rfl (hb hby d_parse_8) rfl (Jvm.Free.XT.ii_eq_t hl3) (by decide) (by decide) k) ?_
  show Go p.tables e below _ (T1.setTop (mkF m 16 #[.val (.ref so), .unset, .unset, .unset] []))
  refine Go.st (fun _ k => XS.lconst X1.here hx rfl (hb hby d_parse_16) k) ?_
  show Go p.tables e below _ (T1.setTop (mkF m 17 #[.val (.ref so), .unset, .unset, .unset] [(.long (0 : Int64))]))
  refine Go.st (fun _ k => XS.lstoreN X1.here hx rfl (hb hby d_parse_17) rfl (l' := #[.val (.ref so), .val (.long (0 : Int64)), .second, .unset]) rfl k) ?_
  show Go p.tables e below _ (T1.setTop (mkF m 18 #[.val (.ref so), .val (.long (0 : Int64)), .second, .unset] []))
  show Go p.tables e below _ (T1.setTop (mkF m 18 #[.val (.ref so), .val (.long (0 : Int64)), .second, .unset] []))
  refine Go.st (fun _ k => XS.iconst X1.here hx rfl (hb hby d_parse_18) k) ?_
  show Go p.tables e below _ (T1.setTop (mkF m 19 #[.val (.ref so), .val (.long (0 : Int64)), .second, .unset] [(.int (0 : Int32))]))
  refine Go.st (fun _ k => XS.istoreN X1.here hx rfl (hb hby d_parse_19) rfl (l' := #[.val (.ref so), .val (.long (0 : Int64)), .second, .val (.int (0 : Int32))]) rfl k) ?_
  show Go p.tables e below _ (T1.setTop (mkF m 20 #[.val (.ref so), .val (.long (0 : Int64)), .second, .val (.int (0 : Int32))] []))
  show Go p.tables e below _ (T1.setTop (mkF m 20 #[.val (.ref so), .val (.long (0 : Int64)), .second, .val (.int (0 : Int32))] []))
  refine Go.st (fun _ k => XS.iloadN X1.here hx rfl (hb hby d_parse_20) rfl k) ?_
  show Go p.tables e below _ (T1.setTop (mkF m 21 #[.val (.ref so), .val (.long (0 : Int64)), .second, .val (.int (0 : Int32))] [(.int (0 : Int32))]))
  refine Go.st (fun _ k => XS.bipush X1.here hx rfl (hb hby d_parse_21) k) ?_
  show Go p.tables e below _ (T1.setTop (mkF m 23 #[.val (.ref so), .val (.long (0 : Int64)), .second, .val (.int (0 : Int32))] [(.int (16 : Int32)), (.int (0 : Int32))]))
  have hl4 : (0 : Int32) < (16 : Int32) := by decide
  refine Go.st (fun _ k => XS.icmpNo X1.here hx rfl (hb hby d_parse_23) rfl (Jvm.Free.XT.ii_ge_f hl4) k) ?_
  show Go p.tables e below _ (T1.setTop (mkF m 26 #[.val (.ref so), .val (.long (0 : Int64)), .second, .val (.int (0 : Int32))] []))
  refine Go.st (fun _ k => XS.lloadN X1.here hx rfl (hb hby d_parse_26) rfl k) ?_
  show Go p.tables e below _ (T1.setTop (mkF m 27 #[.val (.ref so), .val (.long (0 : Int64)), .second, .val (.int (0 : Int32))] [(.long (0 : Int64))]))
  refine Go.st (fun _ k => XS.iconst X1.here hx rfl (hb hby d_parse_27) k) ?_
  show Go p.tables e below _ (T1.setTop (mkF m 28 #[.val (.ref so), .val (.long (0 : Int64)), .second, .val (.int (0 : Int32))] [(.int (4 : Int32)), (.long (0 : Int64))]))
  refine Go.st (fun _ k => XS.lshl X1.here hx rfl (hb hby d_parse_28) rfl k) ?_
  show Go p.tables e below _ (T1.setTop (mkF m 29 #[.val (.ref so), .val (.long (0 : Int64)), .second, .val (.int (0 : Int32))] [(.long ((0 : Int64) <<< ((4 : Int32) &&& 0x3f).toInt64))]))
  refine Go.st (fun _ k => XS.aloadN X1.here hx rfl (hb hby d_parse_29) rfl rfl k) ?_
  show Go p.tables e below _ (T1.setTop (mkF m 30 #[.val (.ref so), .val (.long (0 : Int64)), .second, .val (.int (0 : Int32))] [(.ref so), (.long ((0 : Int64) <<< ((4 : Int32) &&& 0x3f).toInt64))]))
  refine Go.st (fun _ k => XS.iloadN X1.here hx rfl (hb hby d_parse_30) rfl k) ?_
  show Go p.tables e below _ (T1.setTop (mkF m 31 #[.val (.ref so), .val (.long (0 : Int64)), .second, .val (.int (0 : Int32))] [(.int (0 : Int32)), (.ref so), (.long ((0 : Int64) <<< ((4 : Int32) &&& 0x3f).toInt64))]))
  obtain ⟨cq5, kq5, q5a, q5b, q5c⟩ := isOf hZ e1 Pf0
  obtain ⟨_, _, ⟨T5, L5, k5, n5⟩, -, X5, ⟨Lc5, hQ5, l5, y5, z5⟩, st5⟩ := X1.interfaceBack hx (xi := (⟨"java/lang/CharSequence", "charAt", "(I)C"⟩ : MethodName)) (y := (⟨"java/lang/String", "charAt", "(I)C"⟩ : MethodName)) hown (mvT hZ (hw _ (List.mem_of_getElem? (i := 72) rfl))) (mvT hZ (hw _ (List.mem_of_getElem? (i := 73) rfl))) (mvT hZ (hw _ (List.mem_of_getElem? (i := 74) rfl))) (mvT hZ (hw _ (List.mem_of_getElem? (i := 75) rfl))) (mvT hZ (hw _ (List.mem_of_getElem? (i := 76) rfl))) (mvT hZ (hw _ (List.mem_of_getElem? (i := 77) rfl))) (mvT hZ (hw _ (List.mem_of_getElem? (i := 78) rfl))) (mvT hZ (hw _ (List.mem_of_getElem? (i := 65) rfl))) (by decide) (StrChars.Road.chN (W := 2) hZ (fun d hd => hw d (own_wordsChN d hd)) (kI := 4) (hw _ (List.mem_of_getElem? (i := 29) rfl)) Pf0 Pf2 Pf1 Pf3 hcd2 hbd2 (O2.ext Pf4.2) P5 (O4.ext Pf4.2) rG3 (Nat.le_of_ble_eq_true rfl) (i := 0) (Nat.le_of_ble_eq_true rfl) (j := 0) rfl (by decide) (by decide)) q5a q5b q5c (g := (mkF m 31 #[.val (.ref so), .val (.long (0 : Int64)), .second, .val (.int (0 : Int32))] [(.int (0 : Int32)), (.ref so), (.long ((0 : Int64) <<< ((4 : Int32) &&& 0x3f).toInt64))])) rfl (by rw [hml]; rfl) (Steps.refl _) (argsL := [(.int (0 : Int32))]) (rest := [(.long ((0 : Int64) <<< ((4 : Int32) &&& 0x3f).toInt64))]) (lenOf pd_2 rfl) rfl (by show 2 * 0 + _ ≤ _; exact Nat.le_of_eq rfl) (hb hby d_parse_31) (fun _ _ => ⟨rfl, e1, (by decide : 0 + 0 ≤ _), (by decide : 0 + 0 ≤ _)⟩)
  dsimp only [Pt.U, Pt.locs, Pt.cells, Pt.slots] at X5 l5 y5 z5 st5 hQ5
  rw [l5, y5, z5] at X5
  obtain ⟨rfl, rfl, e5⟩ := hQ5
  have N5 := Fr.app N1 (Fr.nil n0)
  refine Go.st (fun _ k => st5.trans k) ?_
  show Go p.tables e below _ (T5.setTop (mkF m 36 #[.val (.ref so), .val (.long (0 : Int64)), .second, .val (.int (0 : Int32))] [(.int (dch m0)), (.long ((0 : Int64) <<< ((4 : Int32) &&& 0x3f).toInt64))]))
  refine Go.st (fun _ k => XS.aloadN X5.here hx rfl (hb hby d_parse_36) rfl rfl k) ?_
  show Go p.tables e below _ (T5.setTop (mkF m 37 #[.val (.ref so), .val (.long (0 : Int64)), .second, .val (.int (0 : Int32))] [(.ref so), (.int (dch m0)), (.long ((0 : Int64) <<< ((4 : Int32) &&& 0x3f).toInt64))]))
  obtain ⟨_, _, ⟨T6, L6, k6, n6⟩, -, X6, ⟨Lc6, hQ6, l6, y6, z6⟩, st6⟩ := Jvm.LawKit.callS X5 hx (y := (⟨"com/example/tallyroot/tallyroot/overlay/NodeId", "hexDigit", "(CLjava/lang/CharSequence;)I"⟩ : MethodName)) hown (mvT hZ (hw _ (List.mem_of_getElem? (i := 97) rfl))) (mvT hZ (hw _ (List.mem_of_getElem? (i := 98) rfl))) (mvT hZ (hw _ (List.mem_of_getElem? (i := 3) rfl))) (mvT hZ (hw _ (List.mem_of_getElem? (i := 99) rfl))) (by decide) (backOf (W := 2) (rm_hexd l Z a0 hw [] (dch m0) so m0 h0 n0 Z0 (by show (dch m0) = dch m0; exact rfl) (by show 0 ≤ m0.toInt ∧ m0.toInt < 16; exact (hm m0 (List.mem_of_getElem? (i := 0) rfl)))) hZ (hw _ (List.mem_of_getElem? (i := 99) rfl)) (hw _ (List.mem_of_getElem? (i := 3) rfl)) (by decide) (by decide)) (g := (mkF m 37 #[.val (.ref so), .val (.long (0 : Int64)), .second, .val (.int (0 : Int32))] [(.ref so), (.int (dch m0)), (.long ((0 : Int64) <<< ((4 : Int32) &&& 0x3f).toInt64))])) rfl (by rw [hml]; rfl) (argsL := [(.int (dch m0)), (.ref so)]) (rest := [(.long ((0 : Int64) <<< ((4 : Int32) &&& 0x3f).toInt64))]) (lenOf pd_3 rfl) rfl (by show 2 * 0 + _ ≤ _; exact Nat.le_of_eq rfl) (hb hby d_parse_37) (fun _ _ => ⟨rfl, e5, (by decide : 0 + 0 ≤ _), (by decide : 0 + 0 ≤ _)⟩)
  dsimp only [Pt.U, Pt.locs, Pt.cells, Pt.slots] at X6 l6 y6 z6 st6 hQ6
  rw [l6, y6, z6] at X6
  obtain ⟨rfl, N6q, e6⟩ := hQ6
  have N6 := Fr.app N5 N6q
  refine Go.st st6 ?_
  show Go p.tables e below _ (T6.setTop (mkF m 40 #[.val (.ref so), .val (.long (0 : Int64)), .second, .val (.int (0 : Int32))] [(.int m0), (.long ((0 : Int64) <<< ((4 : Int32) &&& 0x3f).toInt64))]))
  refine Go.st (fun _ k => XS.i2l X6.here hx rfl (hb hby d_parse_40) rfl k) ?_
  show Go p.tables e below _ (T6.setTop (mkF m 41 #[.val (.ref so), .val (.long (0 : Int64)), .second, .val (.int (0 : Int32))] [(.long (m0.toInt64)), (.long ((0 : Int64) <<< ((4 : Int32) &&& 0x3f).toInt64))]))
  refine Go.st (fun _ k => XS.lor X6.here hx rfl (hb hby d_parse_41) rfl k) ?_
  show Go p.tables e below _ (T6.setTop (mkF m 42 #[.val (.ref so), .val (.long (0 : Int64)), .second, .val (.int (0 : Int32))] [(.long (stepF (0 : Int64) m0))]))
  refine Go.st (fun _ k => XS.lstoreN X6.here hx rfl (hb hby d_parse_42) rfl (l' := #[.val (.ref so), .val (.long (stepF (0 : Int64) m0)), .second, .val (.int (0 : Int32))]) rfl k) ?_
  show Go p.tables e below _ (T6.setTop (mkF m 43 #[.val (.ref so), .val (.long (stepF (0 : Int64) m0)), .second, .val (.int (0 : Int32))] []))
  generalize hqv42 : (stepF (0 : Int64) m0) = v42
  show Go p.tables e below _ (T6.setTop (mkF m 43 #[.val (.ref so), .val (.long v42), .second, .val (.int (0 : Int32))] []))
  refine Go.st (fun _ k => XS.iinc X6.here hx rfl (hb hby d_parse_43) rfl (l' := #[.val (.ref so), .val (.long v42), .second, .val (.int ((0 : Int32) + (1 : Int32)))]) rfl k) ?_
  show Go p.tables e below _ (T6.setTop (mkF m 46 #[.val (.ref so), .val (.long v42), .second, .val (.int ((0 : Int32) + (1 : Int32)))] []))
  rw [show ((0 : Int32) + (1 : Int32)) = (1 : Int32) from by decide]
  show Go p.tables e below _ (T6.setTop (mkF m 46 #[.val (.ref so), .val (.long v42), .second, .val (.int (1 : Int32))] []))
  refine Go.st (fun _ k => XS.goto X6.here hx rfl (pc0 := 46) (pc' := 20) rfl (hb hby d_parse_46) (by decide) (by decide) k) ?_
  show Go p.tables e below _ (T6.setTop (mkF m 20 #[.val (.ref so), .val (.long v42), .second, .val (.int (1 : Int32))] []))
  refine Go.st (fun _ k => XS.iloadN X6.here hx rfl (hb hby d_parse_20) rfl k) ?_
  show Go p.tables e below _ (T6.setTop (mkF m 21 #[.val (.ref so), .val (.long v42), .second, .val (.int (1 : Int32))] [(.int (1 : Int32))]))
  refine Go.st (fun _ k => XS.bipush X6.here hx rfl (hb hby d_parse_21) k) ?_
  show Go p.tables e below _ (T6.setTop (mkF m 23 #[.val (.ref so), .val (.long v42), .second, .val (.int (1 : Int32))] [(.int (16 : Int32)), (.int (1 : Int32))]))
  have hl7 : (1 : Int32) < (16 : Int32) := by decide
  refine Go.st (fun _ k => XS.icmpNo X6.here hx rfl (hb hby d_parse_23) rfl (Jvm.Free.XT.ii_ge_f hl7) k) ?_
  show Go p.tables e below _ (T6.setTop (mkF m 26 #[.val (.ref so), .val (.long v42), .second, .val (.int (1 : Int32))] []))
  refine Go.st (fun _ k => XS.lloadN X6.here hx rfl (hb hby d_parse_26) rfl k) ?_
  show Go p.tables e below _ (T6.setTop (mkF m 27 #[.val (.ref so), .val (.long v42), .second, .val (.int (1 : Int32))] [(.long v42)]))
  refine Go.st (fun _ k => XS.iconst X6.here hx rfl (hb hby d_parse_27) k) ?_
  show Go p.tables e below _ (T6.setTop (mkF m 28 #[.val (.ref so), .val (.long v42), .second, .val (.int (1 : Int32))] [(.int (4 : Int32)), (.long v42)]))
  refine Go.st (fun _ k => XS.lshl X6.here hx rfl (hb hby d_parse_28) rfl k) ?_
  show Go p.tables e below _ (T6.setTop (mkF m 29 #[.val (.ref so), .val (.long v42), .second, .val (.int (1 : Int32))] [(.long (v42 <<< ((4 : Int32) &&& 0x3f).toInt64))]))
  refine Go.st (fun _ k => XS.aloadN X6.here hx rfl (hb hby d_parse_29) rfl rfl k) ?_
  show Go p.tables e below _ (T6.setTop (mkF m 30 #[.val (.ref so), .val (.long v42), .second, .val (.int (1 : Int32))] [(.ref so), (.long (v42 <<< ((4 : Int32) &&& 0x3f).toInt64))]))
  refine Go.st (fun _ k => XS.iloadN X6.here hx rfl (hb hby d_parse_30) rfl k) ?_
  show Go p.tables e below _ (T6.setTop (mkF m 31 #[.val (.ref so), .val (.long v42), .second, .val (.int (1 : Int32))] [(.int (1 : Int32)), (.ref so), (.long (v42 <<< ((4 : Int32) &&& 0x3f).toInt64))]))
  obtain ⟨cq8, kq8, q8a, q8b, q8c⟩ := isOf hZ e6 Pf0
  obtain ⟨_, _, ⟨T8, L8, k8, n8⟩, -, X8, ⟨Lc8, hQ8, l8, y8, z8⟩, st8⟩ := X6.interfaceBack hx (xi := (⟨"java/lang/CharSequence", "charAt", "(I)C"⟩ : MethodName)) (y := (⟨"java/lang/String", "charAt", "(I)C"⟩ : MethodName)) hown (mvT hZ (hw _ (List.mem_of_getElem? (i := 72) rfl))) (mvT hZ (hw _ (List.mem_of_getElem? (i := 73) rfl))) (mvT hZ (hw _ (List.mem_of_getElem? (i := 74) rfl))) (mvT hZ (hw _ (List.mem_of_getElem? (i := 75) rfl))) (mvT hZ (hw _ (List.mem_of_getElem? (i := 76) rfl))) (mvT hZ (hw _ (List.mem_of_getElem? (i := 77) rfl))) (mvT hZ (hw _ (List.mem_of_getElem? (i := 78) rfl))) (mvT hZ (hw _ (List.mem_of_getElem? (i := 65) rfl))) (by decide) (StrChars.Road.chN (W := 2) hZ (fun d hd => hw d (own_wordsChN d hd)) (kI := 4) (hw _ (List.mem_of_getElem? (i := 29) rfl)) Pf0 Pf2 Pf1 Pf3 hcd2 hbd2 (O2.ext Pf4.2) P5 (O4.ext Pf4.2) rG3 (Nat.le_of_ble_eq_true rfl) (i := 1) (Nat.le_of_ble_eq_true rfl) (j := 1) rfl (by decide) (by decide)) q8a q8b q8c (g := (mkF m 31 #[.val (.ref so), .val (.long v42), .second, .val (.int (1 : Int32))] [(.int (1 : Int32)), (.ref so), (.long (v42 <<< ((4 : Int32) &&& 0x3f).toInt64))])) rfl (by rw [hml]; rfl) (Steps.refl _) (argsL := [(.int (1 : Int32))]) (rest := [(.long (v42 <<< ((4 : Int32) &&& 0x3f).toInt64))]) (lenOf pd_2 rfl) rfl (by show 2 * 0 + _ ≤ _; exact Nat.le_of_eq rfl) (hb hby d_parse_31) (fun _ _ => ⟨rfl, e6, (by decide : 0 + 0 ≤ _), (by decide : 0 + 0 ≤ _)⟩)
  dsimp only [Pt.U, Pt.locs, Pt.cells, Pt.slots] at X8 l8 y8 z8 st8 hQ8
  rw [l8, y8, z8] at X8
  obtain ⟨rfl, rfl, e8⟩ := hQ8
  have N8 := Fr.app N6 (Fr.nil n0)
  refine Go.st (fun _ k => st8.trans k) ?_
  show Go p.tables e below _ (T8.setTop (mkF m 36 #[.val (.ref so), .val (.long v42), .second, .val (.int (1 : Int32))] [(.int (dch m1)), (.long (v42 <<< ((4 : Int32) &&& 0x3f).toInt64))]))
  refine Go.st (fun _ k => XS.aloadN X8.here hx rfl (hb hby d_parse_36) rfl rfl k) ?_
  show Go p.tables e below _ (T8.setTop (mkF m 37 #[.val (.ref so), .val (.long v42), .second, .val (.int (1 : Int32))] [(.ref so), (.int (dch m1)), (.long (v42 <<< ((4 : Int32) &&& 0x3f).toInt64))]))
  obtain ⟨_, _, ⟨T9, L9, k9, n9⟩, -, X9, ⟨Lc9, hQ9, l9, y9, z9⟩, st9⟩ := Jvm.LawKit.callS X8 hx (y := (⟨"com/example/tallyroot/tallyroot/overlay/NodeId", "hexDigit", "(CLjava/lang/CharSequence;)I"⟩ : MethodName)) hown (mvT hZ (hw _ (List.mem_of_getElem? (i := 97) rfl))) (mvT hZ (hw _ (List.mem_of_getElem? (i := 98) rfl))) (mvT hZ (hw _ (List.mem_of_getElem? (i := 3) rfl))) (mvT hZ (hw _ (List.mem_of_getElem? (i := 99) rfl))) (by decide) (backOf (W := 2) (rm_hexd l Z a0 hw [] (dch m1) so m1 h0 n0 Z0 (by show (dch m1) = dch m1; exact rfl) (by show 0 ≤ m1.toInt ∧ m1.toInt < 16; exact (hm m1 (List.mem_of_getElem? (i := 1) rfl)))) hZ (hw _ (List.mem_of_getElem? (i := 99) rfl)) (hw _ (List.mem_of_getElem? (i := 3) rfl)) (by decide) (by decide)) (g := (mkF m 37 #[.val (.ref so), .val (.long v42), .second, .val (.int (1 : Int32))] [(.ref so), (.int (dch m1)), (.long (v42 <<< ((4 : Int32) &&& 0x3f).toInt64))])) rfl (by rw [hml]; rfl) (argsL := [(.int (dch m1)), (.ref so)]) (rest := [(.long (v42 <<< ((4 : Int32) &&& 0x3f).toInt64))]) (lenOf pd_3 rfl) rfl (by show 2 * 0 + _ ≤ _; exact Nat.le_of_eq rfl) (hb hby d_parse_37) (fun _ _ => ⟨rfl, e8, (by decide : 0 + 0 ≤ _), (by decide : 0 + 0 ≤ _)⟩)
  dsimp only [Pt.U, Pt.locs, Pt.cells, Pt.slots] at X9 l9 y9 z9 st9 hQ9
  rw [l9, y9, z9] at X9
  obtain ⟨rfl, N9q, e9⟩ := hQ9
  have N9 := Fr.app N8 N9q
  refine Go.st st9 ?_
  show Go p.tables e below _ (T9.setTop (mkF m 40 #[.val (.ref so), .val (.long v42), .second, .val (.int (1 : Int32))] [(.int m1), (.long (v42 <<< ((4 : Int32) &&& 0x3f).toInt64))]))
  refine Go.st (fun _ k => XS.i2l X9.here hx rfl (hb hby d_parse_40) rfl k) ?_
  show Go p.tables e below _ (T9.setTop (mkF m 41 #[.val (.ref so), .val (.long v42), .second, .val (.int (1 : Int32))] [(.long (m1.toInt64)), (.long (v42 <<< ((4 : Int32) &&& 0x3f).toInt64))]))
  refine Go.st (fun _ k => XS.lor X9.here hx rfl (hb hby d_parse_41) rfl k) ?_
  show Go p.tables e below _ (T9.setTop (mkF m 42 #[.val (.ref so), .val (.long v42), .second, .val (.int (1 : Int32))] [(.long (stepF v42 m1))]))
  refine Go.st (fun _ k => XS.lstoreN X9.here hx rfl (hb hby d_parse_42) rfl (l' := #[.val (.ref so), .val (.long (stepF v42 m1)), .second, .val (.int (1 : Int32))]) rfl k) ?_
  show Go p.tables e below _ (T9.setTop (mkF m 43 #[.val (.ref so), .val (.long (stepF v42 m1)), .second, .val (.int (1 : Int32))] []))
  generalize hqv42x : (stepF v42 m1) = v42x
  show Go p.tables e below _ (T9.setTop (mkF m 43 #[.val (.ref so), .val (.long v42x), .second, .val (.int (1 : Int32))] []))
  refine Go.st (fun _ k => XS.iinc X9.here hx rfl (hb hby d_parse_43) rfl (l' := #[.val (.ref so), .val (.long v42x), .second, .val (.int ((1 : Int32) + (1 : Int32)))]) rfl k) ?_
  show Go p.tables e below _ (T9.setTop (mkF m 46 #[.val (.ref so), .val (.long v42x), .second, .val (.int ((1 : Int32) + (1 : Int32)))] []))
  rw [show ((1 : Int32) + (1 : Int32)) = (2 : Int32) from by decide]
  show Go p.tables e below _ (T9.setTop (mkF m 46 #[.val (.ref so), .val (.long v42x), .second, .val (.int (2 : Int32))] []))
  refine Go.st (fun _ k => XS.goto X9.here hx rfl (pc0 := 46) (pc' := 20) rfl (hb hby d_parse_46) (by decide) (by decide) k) ?_
  show Go p.tables e below _ (T9.setTop (mkF m 20 #[.val (.ref so), .val (.long v42x), .second, .val (.int (2 : Int32))] []))
  refine Go.st (fun _ k => XS.iloadN X9.here hx rfl (hb hby d_parse_20) rfl k) ?_
  show Go p.tables e below _ (T9.setTop (mkF m 21 #[.val (.ref so), .val (.long v42x), .second, .val (.int (2 : Int32))] [(.int (2 : Int32))]))
  refine Go.st (fun _ k => XS.bipush X9.here hx rfl (hb hby d_parse_21) k) ?_
  show Go p.tables e below _ (T9.setTop (mkF m 23 #[.val (.ref so), .val (.long v42x), .second, .val (.int (2 : Int32))] [(.int (16 : Int32)), (.int (2 : Int32))]))
  have hl10 : (2 : Int32) < (16 : Int32) := by decide
  refine Go.st (fun _ k => XS.icmpNo X9.here hx rfl (hb hby d_parse_23) rfl (Jvm.Free.XT.ii_ge_f hl10) k) ?_
  show Go p.tables e below _ (T9.setTop (mkF m 26 #[.val (.ref so), .val (.long v42x), .second, .val (.int (2 : Int32))] []))
  refine Go.st (fun _ k => XS.lloadN X9.here hx rfl (hb hby d_parse_26) rfl k) ?_
  show Go p.tables e below _ (T9.setTop (mkF m 27 #[.val (.ref so), .val (.long v42x), .second, .val (.int (2 : Int32))] [(.long v42x)]))
  refine Go.st (fun _ k => XS.iconst X9.here hx rfl (hb hby d_parse_27) k) ?_
  show Go p.tables e below _ (T9.setTop (mkF m 28 #[.val (.ref so), .val (.long v42x), .second, .val (.int (2 : Int32))] [(.int (4 : Int32)), (.long v42x)]))
  refine Go.st (fun _ k => XS.lshl X9.here hx rfl (hb hby d_parse_28) rfl k) ?_
  show Go p.tables e below _ (T9.setTop (mkF m 29 #[.val (.ref so), .val (.long v42x), .second, .val (.int (2 : Int32))] [(.long (v42x <<< ((4 : Int32) &&& 0x3f).toInt64))]))
  refine Go.st (fun _ k => XS.aloadN X9.here hx rfl (hb hby d_parse_29) rfl rfl k) ?_
  show Go p.tables e below _ (T9.setTop (mkF m 30 #[.val (.ref so), .val (.long v42x), .second, .val (.int (2 : Int32))] [(.ref so), (.long (v42x <<< ((4 : Int32) &&& 0x3f).toInt64))]))
  refine Go.st (fun _ k => XS.iloadN X9.here hx rfl (hb hby d_parse_30) rfl k) ?_
  show Go p.tables e below _ (T9.setTop (mkF m 31 #[.val (.ref so), .val (.long v42x), .second, .val (.int (2 : Int32))] [(.int (2 : Int32)), (.ref so), (.long (v42x <<< ((4 : Int32) &&& 0x3f).toInt64))]))
  obtain ⟨cq11, kq11, q11a, q11b, q11c⟩ := isOf hZ e9 Pf0
  obtain ⟨_, _, ⟨T11, L11, k11, n11⟩, -, X11, ⟨Lc11, hQ11, l11, y11, z11⟩, st11⟩ := X9.interfaceBack hx (xi := (⟨"java/lang/CharSequence", "charAt", "(I)C"⟩ : MethodName)) (y := (⟨"java/lang/String", "charAt", "(I)C"⟩ : MethodName)) hown (mvT hZ (hw _ (List.mem_of_getElem? (i := 72) rfl))) (mvT hZ (hw _ (List.mem_of_getElem? (i := 73) rfl))) (mvT hZ (hw _ (List.mem_of_getElem? (i := 74) rfl))) (mvT hZ (hw _ (List.mem_of_getElem? (i := 75) rfl))) (mvT hZ (hw _ (List.mem_of_getElem? (i := 76) rfl))) (mvT hZ (hw _ (List.mem_of_getElem? (i := 77) rfl))) (mvT hZ (hw _ (List.mem_of_getElem? (i := 78) rfl))) (mvT hZ (hw _ (List.mem_of_getElem? (i := 65) rfl))) (by decide) (StrChars.Road.chN (W := 2) hZ (fun d hd => hw d (own_wordsChN d hd)) (kI := 4) (hw _ (List.mem_of_getElem? (i := 29) rfl)) Pf0 Pf2 Pf1 Pf3 hcd2 hbd2 (O2.ext Pf4.2) P5 (O4.ext Pf4.2) rG3 (Nat.le_of_ble_eq_true rfl) (i := 2) (Nat.le_of_ble_eq_true rfl) (j := 2) rfl (by decide) (by decide)) q11a q11b q11c (g := (mkF m 31 #[.val (.ref so), .val (.long v42x), .second, .val (.int (2 : Int32))] [(.int (2 : Int32)), (.ref so), (.long (v42x <<< ((4 : Int32) &&& 0x3f).toInt64))])) rfl (by rw [hml]; rfl) (Steps.refl _) (argsL := [(.int (2 : Int32))]) (rest := [(.long (v42x <<< ((4 : Int32) &&& 0x3f).toInt64))]) (lenOf pd_2 rfl) rfl (by show 2 * 0 + _ ≤ _; exact Nat.le_of_eq rfl) (hb hby d_parse_31) (fun _ _ => ⟨rfl, e9, (by decide : 0 + 0 ≤ _), (by decide : 0 + 0 ≤ _)⟩)
  dsimp only [Pt.U, Pt.locs, Pt.cells, Pt.slots] at X11 l11 y11 z11 st11 hQ11
  rw [l11, y11, z11] at X11
  obtain ⟨rfl, rfl, e11⟩ := hQ11
  have N11 := Fr.app N9 (Fr.nil n0)
  refine Go.st (fun _ k => st11.trans k) ?_
  show Go p.tables e below _ (T11.setTop (mkF m 36 #[.val (.ref so), .val (.long v42x), .second, .val (.int (2 : Int32))] [(.int (dch m2)), (.long (v42x <<< ((4 : Int32) &&& 0x3f).toInt64))]))
  refine Go.st (fun _ k => XS.aloadN X11.here hx rfl (hb hby d_parse_36) rfl rfl k) ?_
  show Go p.tables e below _ (T11.setTop (mkF m 37 #[.val (.ref so), .val (.long v42x), .second, .val (.int (2 : Int32))] [(.ref so), (.int (dch m2)), (.long (v42x <<< ((4 : Int32) &&& 0x3f).toInt64))]))
  obtain ⟨_, _, ⟨T12, L12, k12, n12⟩, -, X12, ⟨Lc12, hQ12, l12, y12, z12⟩, st12⟩ := Jvm.LawKit.callS X11 hx (y := (⟨"com/example/tallyroot/tallyroot/overlay/NodeId", "hexDigit", "(CLjava/lang/CharSequence;)I"⟩ : MethodName)) hown (mvT hZ (hw _ (List.mem_of_getElem? (i := 97) rfl))) (mvT hZ (hw _ (List.mem_of_getElem? (i := 98) rfl))) (mvT hZ (hw _ (List.mem_of_getElem? (i := 3) rfl))) (mvT hZ (hw _ (List.mem_of_getElem? (i := 99) rfl))) (by decide) (backOf (W := 2) (rm_hexd l Z a0 hw [] (dch m2) so m2 h0 n0 Z0 (by show (dch m2) = dch m2; exact rfl) (by show 0 ≤ m2.toInt ∧ m2.toInt < 16; exact (hm m2 (List.mem_of_getElem? (i := 2) rfl)))) hZ (hw _ (List.mem_of_getElem? (i := 99) rfl)) (hw _ (List.mem_of_getElem? (i := 3) rfl)) (by decide) (by decide)) (g := (mkF m 37 #[.val (.ref so), .val (.long v42x), .second, .val (.int (2 : Int32))] [(.ref so), (.int (dch m2)), (.long (v42x <<< ((4 : Int32) &&& 0x3f).toInt64))])) rfl (by rw [hml]; rfl) (argsL := [(.int (dch m2)), (.ref so)]) (rest := [(.long (v42x <<< ((4 : Int32) &&& 0x3f).toInt64))]) (lenOf pd_3 rfl) rfl (by show 2 * 0 + _ ≤ _; exact Nat.le_of_eq rfl) (hb hby d_parse_37) (fun _ _ => ⟨rfl, e11, (by decide : 0 + 0 ≤ _), (by decide : 0 + 0 ≤ _)⟩)
  dsimp only [Pt.U, Pt.locs, Pt.cells, Pt.slots] at X12 l12 y12 z12 st12 hQ12
  rw [l12, y12, z12] at X12
  obtain ⟨rfl, N12q, e12⟩ := hQ12
  have N12 := Fr.app N11 N12q
  refine Go.st st12 ?_
  show Go p.tables e below _ (T12.setTop (mkF m 40 #[.val (.ref so), .val (.long v42x), .second, .val (.int (2 : Int32))] [(.int m2), (.long (v42x <<< ((4 : Int32) &&& 0x3f).toInt64))]))
  refine Go.st (fun _ k => XS.i2l X12.here hx rfl (hb hby d_parse_40) rfl k) ?_
  show Go p.tables e below _ (T12.setTop (mkF m 41 #[.val (.ref so), .val (.long v42x), .second, .val (.int (2 : Int32))] [(.long (m2.toInt64)), (.long (v42x <<< ((4 : Int32) &&& 0x3f).toInt64))]))
  refine Go.st (fun _ k => XS.lor X12.here hx rfl (hb hby d_parse_41) rfl k) ?_
  show Go p.tables e below _ (T12.setTop (mkF m 42 #[.val (.ref so), .val (.long v42x), .second, .val (.int (2 : Int32))] [(.long (stepF v42x m2))]))
  refine Go.st (fun _ k => XS.lstoreN X12.here hx rfl (hb hby d_parse_42) rfl (l' := #[.val (.ref so), .val (.long (stepF v42x m2)), .second, .val (.int (2 : Int32))]) rfl k) ?_
  show Go p.tables e below _ (T12.setTop (mkF m 43 #[.val (.ref so), .val (.long (stepF v42x m2)), .second, .val (.int (2 : Int32))] []))
  generalize hqv42xx : (stepF v42x m2) = v42xx
  show Go p.tables e below _ (T12.setTop (mkF m 43 #[.val (.ref so), .val (.long v42xx), .second, .val (.int (2 : Int32))] []))
  refine Go.st (fun _ k => XS.iinc X12.here hx rfl (hb hby d_parse_43) rfl (l' := #[.val (.ref so), .val (.long v42xx), .second, .val (.int ((2 : Int32) + (1 : Int32)))]) rfl k) ?_
  show Go p.tables e below _ (T12.setTop (mkF m 46 #[.val (.ref so), .val (.long v42xx), .second, .val (.int ((2 : Int32) + (1 : Int32)))] []))
  rw [show ((2 : Int32) + (1 : Int32)) = (3 : Int32) from by decide]
  show Go p.tables e below _ (T12.setTop (mkF m 46 #[.val (.ref so), .val (.long v42xx), .second, .val (.int (3 : Int32))] []))
  refine Go.st (fun _ k => XS.goto X12.here hx rfl (pc0 := 46) (pc' := 20) rfl (hb hby d_parse_46) (by decide) (by decide) k) ?_
  show Go p.tables e below _ (T12.setTop (mkF m 20 #[.val (.ref so), .val (.long v42xx), .second, .val (.int (3 : Int32))] []))
  refine Go.st (fun _ k => XS.iloadN X12.here hx rfl (hb hby d_parse_20) rfl k) ?_
  show Go p.tables e below _ (T12.setTop (mkF m 21 #[.val (.ref so), .val (.long v42xx), .second, .val (.int (3 : Int32))] [(.int (3 : Int32))]))
  refine Go.st (fun _ k => XS.bipush X12.here hx rfl (hb hby d_parse_21) k) ?_
  show Go p.tables e below _ (T12.setTop (mkF m 23 #[.val (.ref so), .val (.long v42xx), .second, .val (.int (3 : Int32))] [(.int (16 : Int32)), (.int (3 : Int32))]))
  have hl13 : (3 : Int32) < (16 : Int32) := by decide
  refine Go.st (fun _ k => XS.icmpNo X12.here hx rfl (hb hby d_parse_23) rfl (Jvm.Free.XT.ii_ge_f hl13) k) ?_
  show Go p.tables e below _ (T12.setTop (mkF m 26 #[.val (.ref so), .val (.long v42xx), .second, .val (.int (3 : Int32))] []))
  refine Go.st (fun _ k => XS.lloadN X12.here hx rfl (hb hby d_parse_26) rfl k) ?_
  show Go p.tables e below _ (T12.setTop (mkF m 27 #[.val (.ref so), .val (.long v42xx), .second, .val (.int (3 : Int32))] [(.long v42xx)]))
  refine Go.st (fun _ k => XS.iconst X12.here hx rfl (hb hby d_parse_27) k) ?_
  show Go p.tables e below _ (T12.setTop (mkF m 28 #[.val (.ref so), .val (.long v42xx), .second, .val (.int (3 : Int32))] [(.int (4 : Int32)), (.long v42xx)]))
  refine Go.st (fun _ k => XS.lshl X12.here hx rfl (hb hby d_parse_28) rfl k) ?_
  show Go p.tables e below _ (T12.setTop (mkF m 29 #[.val (.ref so), .val (.long v42xx), .second, .val (.int (3 : Int32))] [(.long (v42xx <<< ((4 : Int32) &&& 0x3f).toInt64))]))
  refine Go.st (fun _ k => XS.aloadN X12.here hx rfl (hb hby d_parse_29) rfl rfl k) ?_
  show Go p.tables e below _ (T12.setTop (mkF m 30 #[.val (.ref so), .val (.long v42xx), .second, .val (.int (3 : Int32))] [(.ref so), (.long (v42xx <<< ((4 : Int32) &&& 0x3f).toInt64))]))
  refine Go.st (fun _ k => XS.iloadN X12.here hx rfl (hb hby d_parse_30) rfl k) ?_
  show Go p.tables e below _ (T12.setTop (mkF m 31 #[.val (.ref so), .val (.long v42xx), .second, .val (.int (3 : Int32))] [(.int (3 : Int32)), (.ref so), (.long (v42xx <<< ((4 : Int32) &&& 0x3f).toInt64))]))
  obtain ⟨cq14, kq14, q14a, q14b, q14c⟩ := isOf hZ e12 Pf0
  obtain ⟨_, _, ⟨T14, L14, k14, n14⟩, -, X14, ⟨Lc14, hQ14, l14, y14, z14⟩, st14⟩ := X12.interfaceBack hx (xi := (⟨"java/lang/CharSequence", "charAt", "(I)C"⟩ : MethodName)) (y := (⟨"java/lang/String", "charAt", "(I)C"⟩ : MethodName)) hown (mvT hZ (hw _ (List.mem_of_getElem? (i := 72) rfl))) (mvT hZ (hw _ (List.mem_of_getElem? (i := 73) rfl))) (mvT hZ (hw _ (List.mem_of_getElem? (i := 74) rfl))) (mvT hZ (hw _ (List.mem_of_getElem? (i := 75) rfl))) (mvT hZ (hw _ (List.mem_of_getElem? (i := 76) rfl))) (mvT hZ (hw _ (List.mem_of_getElem? (i := 77) rfl))) (mvT hZ (hw _ (List.mem_of_getElem? (i := 78) rfl))) (mvT hZ (hw _ (List.mem_of_getElem? (i := 65) rfl))) (by decide) (StrChars.Road.chN (W := 2) hZ (fun d hd => hw d (own_wordsChN d hd)) (kI := 4) (hw _ (List.mem_of_getElem? (i := 29) rfl)) Pf0 Pf2 Pf1 Pf3 hcd2 hbd2 (O2.ext Pf4.2) P5 (O4.ext Pf4.2) rG3 (Nat.le_of_ble_eq_true rfl) (i := 3) (Nat.le_of_ble_eq_true rfl) (j := 3) rfl (by decide) (by decide)) q14a q14b q14c (g := (mkF m 31 #[.val (.ref so), .val (.long v42xx), .second, .val (.int (3 : Int32))] [(.int (3 : Int32)), (.ref so), (.long (v42xx <<< ((4 : Int32) &&& 0x3f).toInt64))])) rfl (by rw [hml]; rfl) (Steps.refl _) (argsL := [(.int (3 : Int32))]) (rest := [(.long (v42xx <<< ((4 : Int32) &&& 0x3f).toInt64))]) (lenOf pd_2 rfl) rfl (by show 2 * 0 + _ ≤ _; exact Nat.le_of_eq rfl) (hb hby d_parse_31) (fun _ _ => ⟨rfl, e12, (by decide : 0 + 0 ≤ _), (by decide : 0 + 0 ≤ _)⟩)
  dsimp only [Pt.U, Pt.locs, Pt.cells, Pt.slots] at X14 l14 y14 z14 st14 hQ14
  rw [l14, y14, z14] at X14
  obtain ⟨rfl, rfl, e14⟩ := hQ14
  have N14 := Fr.app N12 (Fr.nil n0)
  refine Go.st (fun _ k => st14.trans k) ?_
  show Go p.tables e below _ (T14.setTop (mkF m 36 #[.val (.ref so), .val (.long v42xx), .second, .val (.int (3 : Int32))] [(.int (dch m3)), (.long (v42xx <<< ((4 : Int32) &&& 0x3f).toInt64))]))
  refine Go.st (fun _ k => XS.aloadN X14.here hx rfl (hb hby d_parse_36) rfl rfl k) ?_
  show Go p.tables e below _ (T14.setTop (mkF m 37 #[.val (.ref so), .val (.long v42xx), .second, .val (.int (3 : Int32))] [(.ref so), (.int (dch m3)), (.long (v42xx <<< ((4 : Int32) &&& 0x3f).toInt64))]))
  obtain ⟨_, _, ⟨T15, L15, k15, n15⟩, -, X15, ⟨Lc15, hQ15, l15, y15, z15⟩, st15⟩ := Jvm.LawKit.callS X14 hx (y := (⟨"com/example/tallyroot/tallyroot/overlay/NodeId", "hexDigit", "(CLjava/lang/CharSequence;)I"⟩ : MethodName)) hown (mvT hZ (hw _ (List.mem_of_getElem? (i := 97) rfl))) (mvT hZ (hw _ (List.mem_of_getElem? (i := 98) rfl))) (mvT hZ (hw _ (List.mem_of_getElem? (i := 3) rfl))) (mvT hZ (hw _ (List.mem_of_getElem? (i := 99) rfl))) (by decide) (backOf (W := 2) (rm_hexd l Z a0 hw [] (dch m3) so m3 h0 n0 Z0 (by show (dch m3) = dch m3; exact rfl) (by show 0 ≤ m3.toInt ∧ m3.toInt < 16; exact (hm m3 (List.mem_of_getElem? (i := 3) rfl)))) hZ (hw _ (List.mem_of_getElem? (i := 99) rfl)) (hw _ (List.mem_of_getElem? (i := 3) rfl)) (by decide) (by decide)) (g := (mkF m 37 #[.val (.ref so), .val (.long v42xx), .second, .val (.int (3 : Int32))] [(.ref so), (.int (dch m3)), (.long (v42xx <<< ((4 : Int32) &&& 0x3f).toInt64))])) rfl (by rw [hml]; rfl) (argsL := [(.int (dch m3)), (.ref so)]) (rest := [(.long (v42xx <<< ((4 : Int32) &&& 0x3f).toInt64))]) (lenOf pd_3 rfl) rfl (by show 2 * 0 + _ ≤ _; exact Nat.le_of_eq rfl) (hb hby d_parse_37) (fun _ _ => ⟨rfl, e14, (by decide : 0 + 0 ≤ _), (by decide : 0 + 0 ≤ _)⟩)
  dsimp only [Pt.U, Pt.locs, Pt.cells, Pt.slots] at X15 l15 y15 z15 st15 hQ15
  rw [l15, y15, z15] at X15
  obtain ⟨rfl, N15q, e15⟩ := hQ15
  have N15 := Fr.app N14 N15q
  refine Go.st st15 ?_
  show Go p.tables e below _ (T15.setTop (mkF m 40 #[.val (.ref so), .val (.long v42xx), .second, .val (.int (3 : Int32))] [(.int m3), (.long (v42xx <<< ((4 : Int32) &&& 0x3f).toInt64))]))
  refine Go.st (fun _ k => XS.i2l X15.here hx rfl (hb hby d_parse_40) rfl k) ?_
  show Go p.tables e below _ (T15.setTop (mkF m 41 #[.val (.ref so), .val (.long v42xx), .second, .val (.int (3 : Int32))] [(.long (m3.toInt64)), (.long (v42xx <<< ((4 : Int32) &&& 0x3f).toInt64))]))
  refine Go.st (fun _ k => XS.lor X15.here hx rfl (hb hby d_parse_41) rfl k) ?_
  show Go p.tables e below _ (T15.setTop (mkF m 42 #[.val (.ref so), .val (.long v42xx), .second, .val (.int (3 : Int32))] [(.long (stepF v42xx m3))]))
  refine Go.st (fun _ k => XS.lstoreN X15.here hx rfl (hb hby d_parse_42) rfl (l' := #[.val (.ref so), .val (.long (stepF v42xx m3)), .second, .val (.int (3 : Int32))]) rfl k) ?_
  show Go p.tables e below _ (T15.setTop (mkF m 43 #[.val (.ref so), .val (.long (stepF v42xx m3)), .second, .val (.int (3 : Int32))] []))
  generalize hqv42xxx : (stepF v42xx m3) = v42xxx
  show Go p.tables e below _ (T15.setTop (mkF m 43 #[.val (.ref so), .val (.long v42xxx), .second, .val (.int (3 : Int32))] []))
  refine Go.st (fun _ k => XS.iinc X15.here hx rfl (hb hby d_parse_43) rfl (l' := #[.val (.ref so), .val (.long v42xxx), .second, .val (.int ((3 : Int32) + (1 : Int32)))]) rfl k) ?_
  show Go p.tables e below _ (T15.setTop (mkF m 46 #[.val (.ref so), .val (.long v42xxx), .second, .val (.int ((3 : Int32) + (1 : Int32)))] []))
  rw [show ((3 : Int32) + (1 : Int32)) = (4 : Int32) from by decide]
  show Go p.tables e below _ (T15.setTop (mkF m 46 #[.val (.ref so), .val (.long v42xxx), .second, .val (.int (4 : Int32))] []))
  refine Go.st (fun _ k => XS.goto X15.here hx rfl (pc0 := 46) (pc' := 20) rfl (hb hby d_parse_46) (by decide) (by decide) k) ?_
  show Go p.tables e below _ (T15.setTop (mkF m 20 #[.val (.ref so), .val (.long v42xxx), .second, .val (.int (4 : Int32))] []))
  refine Go.st (fun _ k => XS.iloadN X15.here hx rfl (hb hby d_parse_20) rfl k) ?_
  show Go p.tables e below _ (T15.setTop (mkF m 21 #[.val (.ref so), .val (.long v42xxx), .second, .val (.int (4 : Int32))] [(.int (4 : Int32))]))
  refine Go.st (fun _ k => XS.bipush X15.here hx rfl (hb hby d_parse_21) k) ?_
  show Go p.tables e below _ (T15.setTop (mkF m 23 #[.val (.ref so), .val (.long v42xxx), .second, .val (.int (4 : Int32))] [(.int (16 : Int32)), (.int (4 : Int32))]))
  have hl16 : (4 : Int32) < (16 : Int32) := by decide
  refine Go.st (fun _ k => XS.icmpNo X15.here hx rfl (hb hby d_parse_23) rfl (Jvm.Free.XT.ii_ge_f hl16) k) ?_
  show Go p.tables e below _ (T15.setTop (mkF m 26 #[.val (.ref so), .val (.long v42xxx), .second, .val (.int (4 : Int32))] []))
  refine Go.st (fun _ k => XS.lloadN X15.here hx rfl (hb hby d_parse_26) rfl k) ?_
  show Go p.tables e below _ (T15.setTop (mkF m 27 #[.val (.ref so), .val (.long v42xxx), .second, .val (.int (4 : Int32))] [(.long v42xxx)]))
  refine Go.st (fun _ k => XS.iconst X15.here hx rfl (hb hby d_parse_27) k) ?_
  show Go p.tables e below _ (T15.setTop (mkF m 28 #[.val (.ref so), .val (.long v42xxx), .second, .val (.int (4 : Int32))] [(.int (4 : Int32)), (.long v42xxx)]))
  refine Go.st (fun _ k => XS.lshl X15.here hx rfl (hb hby d_parse_28) rfl k) ?_
  show Go p.tables e below _ (T15.setTop (mkF m 29 #[.val (.ref so), .val (.long v42xxx), .second, .val (.int (4 : Int32))] [(.long (v42xxx <<< ((4 : Int32) &&& 0x3f).toInt64))]))
  refine Go.st (fun _ k => XS.aloadN X15.here hx rfl (hb hby d_parse_29) rfl rfl k) ?_
  show Go p.tables e below _ (T15.setTop (mkF m 30 #[.val (.ref so), .val (.long v42xxx), .second, .val (.int (4 : Int32))] [(.ref so), (.long (v42xxx <<< ((4 : Int32) &&& 0x3f).toInt64))]))
  refine Go.st (fun _ k => XS.iloadN X15.here hx rfl (hb hby d_parse_30) rfl k) ?_
  show Go p.tables e below _ (T15.setTop (mkF m 31 #[.val (.ref so), .val (.long v42xxx), .second, .val (.int (4 : Int32))] [(.int (4 : Int32)), (.ref so), (.long (v42xxx <<< ((4 : Int32) &&& 0x3f).toInt64))]))
  obtain ⟨cq17, kq17, q17a, q17b, q17c⟩ := isOf hZ e15 Pf0
  obtain ⟨_, _, ⟨T17, L17, k17, n17⟩, -, X17, ⟨Lc17, hQ17, l17, y17, z17⟩, st17⟩ := X15.interfaceBack hx (xi := (⟨"java/lang/CharSequence", "charAt", "(I)C"⟩ : MethodName)) (y := (⟨"java/lang/String", "charAt", "(I)C"⟩ : MethodName)) hown (mvT hZ (hw _ (List.mem_of_getElem? (i := 72) rfl))) (mvT hZ (hw _ (List.mem_of_getElem? (i := 73) rfl))) (mvT hZ (hw _ (List.mem_of_getElem? (i := 74) rfl))) (mvT hZ (hw _ (List.mem_of_getElem? (i := 75) rfl))) (mvT hZ (hw _ (List.mem_of_getElem? (i := 76) rfl))) (mvT hZ (hw _ (List.mem_of_getElem? (i := 77) rfl))) (mvT hZ (hw _ (List.mem_of_getElem? (i := 78) rfl))) (mvT hZ (hw _ (List.mem_of_getElem? (i := 65) rfl))) (by decide) (StrChars.Road.chN (W := 2) hZ (fun d hd => hw d (own_wordsChN d hd)) (kI := 4) (hw _ (List.mem_of_getElem? (i := 29) rfl)) Pf0 Pf2 Pf1 Pf3 hcd2 hbd2 (O2.ext Pf4.2) P5 (O4.ext Pf4.2) rG3 (Nat.le_of_ble_eq_true rfl) (i := 4) (Nat.le_of_ble_eq_true rfl) (j := 4) rfl (by decide) (by decide)) q17a q17b q17c (g := (mkF m 31 #[.val (.ref so), .val (.long v42xxx), .second, .val (.int (4 : Int32))] [(.int (4 : Int32)), (.ref so), (.long (v42xxx <<< ((4 : Int32) &&& 0x3f).toInt64))])) rfl (by rw [hml]; rfl) (Steps.refl _) (argsL := [(.int (4 : Int32))]) (rest := [(.long (v42xxx <<< ((4 : Int32) &&& 0x3f).toInt64))]) (lenOf pd_2 rfl) rfl (by show 2 * 0 + _ ≤ _; exact Nat.le_of_eq rfl) (hb hby d_parse_31) (fun _ _ => ⟨rfl, e15, (by decide : 0 + 0 ≤ _), (by decide : 0 + 0 ≤ _)⟩)
  dsimp only [Pt.U, Pt.locs, Pt.cells, Pt.slots] at X17 l17 y17 z17 st17 hQ17
  rw [l17, y17, z17] at X17
  obtain ⟨rfl, rfl, e17⟩ := hQ17
  have N17 := Fr.app N15 (Fr.nil n0)
  refine Go.st (fun _ k => st17.trans k) ?_
  show Go p.tables e below _ (T17.setTop (mkF m 36 #[.val (.ref so), .val (.long v42xxx), .second, .val (.int (4 : Int32))] [(.int (dch m4)), (.long (v42xxx <<< ((4 : Int32) &&& 0x3f).toInt64))]))
  refine Go.st (fun _ k => XS.aloadN X17.here hx rfl (hb hby d_parse_36) rfl rfl k) ?_
  show Go p.tables e below _ (T17.setTop (mkF m 37 #[.val (.ref so), .val (.long v42xxx), .second, .val (.int (4 : Int32))] [(.ref so), (.int (dch m4)), (.long (v42xxx <<< ((4 : Int32) &&& 0x3f).toInt64))]))
  obtain ⟨_, _, ⟨T18, L18, k18, n18⟩, -, X18, ⟨Lc18, hQ18, l18, y18, z18⟩, st18⟩ := Jvm.LawKit.callS X17 hx (y := (⟨"com/example/tallyroot/tallyroot/overlay/NodeId", "hexDigit", "(CLjava/lang/CharSequence;)I"⟩ : MethodName)) hown (mvT hZ (hw _ (List.mem_of_getElem? (i := 97) rfl))) (mvT hZ (hw _ (List.mem_of_getElem? (i := 98) rfl))) (mvT hZ (hw _ (List.mem_of_getElem? (i := 3) rfl))) (mvT hZ (hw _ (List.mem_of_getElem? (i := 99) rfl))) (by decide) (backOf (W := 2) (rm_hexd l Z a0 hw [] (dch m4) so m4 h0 n0 Z0 (by show (dch m4) = dch m4; exact rfl) (by show 0 ≤ m4.toInt ∧ m4.toInt < 16; exact (hm m4 (List.mem_of_getElem? (i := 4) rfl)))) hZ (hw _ (List.mem_of_getElem? (i := 99) rfl)) (hw _ (List.mem_of_getElem? (i := 3) rfl)) (by decide) (by decide)) (g := (mkF m 37 #[.val (.ref so), .val (.long v42xxx), .second, .val (.int (4 : Int32))] [(.ref so), (.int (dch m4)), (.long (v42xxx <<< ((4 : Int32) &&& 0x3f).toInt64))])) rfl (by rw [hml]; rfl) (argsL := [(.int (dch m4)), (.ref so)]) (rest := [(.long (v42xxx <<< ((4 : Int32) &&& 0x3f).toInt64))]) (lenOf pd_3 rfl) rfl (by show 2 * 0 + _ ≤ _; exact Nat.le_of_eq rfl) (hb hby d_parse_37) (fun _ _ => ⟨rfl, e17, (by decide : 0 + 0 ≤ _), (by decide : 0 + 0 ≤ _)⟩)
  dsimp only [Pt.U, Pt.locs, Pt.cells, Pt.slots] at X18 l18 y18 z18 st18 hQ18
  rw [l18, y18, z18] at X18
  obtain ⟨rfl, N18q, e18⟩ := hQ18
  have N18 := Fr.app N17 N18q
  refine Go.st st18 ?_
  show Go p.tables e below _ (T18.setTop (mkF m 40 #[.val (.ref so), .val (.long v42xxx), .second, .val (.int (4 : Int32))] [(.int m4), (.long (v42xxx <<< ((4 : Int32) &&& 0x3f).toInt64))]))
  refine Go.st (fun _ k => XS.i2l X18.here hx rfl (hb hby d_parse_40) rfl k) ?_
  show Go p.tables e below _ (T18.setTop (mkF m 41 #[.val (.ref so), .val (.long v42xxx), .second, .val (.int (4 : Int32))] [(.long (m4.toInt64)), (.long (v42xxx <<< ((4 : Int32) &&& 0x3f).toInt64))]))
  refine Go.st (fun _ k => XS.lor X18.here hx rfl (hb hby d_parse_41) rfl k) ?_
  show Go p.tables e below _ (T18.setTop (mkF m 42 #[.val (.ref so), .val (.long v42xxx), .second, .val (.int (4 : Int32))] [(.long (stepF v42xxx m4))]))
  refine Go.st (fun _ k => XS.lstoreN X18.here hx rfl (hb hby d_parse_42) rfl (l' := #[.val (.ref so), .val (.long (stepF v42xxx m4)), .second, .val (.int (4 : Int32))]) rfl k) ?_
  show Go p.tables e below _ (T18.setTop (mkF m 43 #[.val (.ref so), .val (.long (stepF v42xxx m4)), .second, .val (.int (4 : Int32))] []))
  generalize hqv42xxxx : (stepF v42xxx m4) = v42xxxx
  show Go p.tables e below _ (T18.setTop (mkF m 43 #[.val (.ref so), .val (.long v42xxxx), .second, .val (.int (4 : Int32))] []))
  refine Go.st (fun _ k => XS.iinc X18.here hx rfl (hb hby d_parse_43) rfl (l' := #[.val (.ref so), .val (.long v42xxxx), .second, .val (.int ((4 : Int32) + (1 : Int32)))]) rfl k) ?_
  show Go p.tables e below _ (T18.setTop (mkF m 46 #[.val (.ref so), .val (.long v42xxxx), .second, .val (.int ((4 : Int32) + (1 : Int32)))] []))
  rw [show ((4 : Int32) + (1 : Int32)) = (5 : Int32) from by decide]
  show Go p.tables e below _ (T18.setTop (mkF m 46 #[.val (.ref so), .val (.long v42xxxx), .second, .val (.int (5 : Int32))] []))
  refine Go.st (fun _ k => XS.goto X18.here hx rfl (pc0 := 46) (pc' := 20) rfl (hb hby d_parse_46) (by decide) (by decide) k) ?_
  show Go p.tables e below _ (T18.setTop (mkF m 20 #[.val (.ref so), .val (.long v42xxxx), .second, .val (.int (5 : Int32))] []))
  refine Go.st (fun _ k => XS.iloadN X18.here hx rfl (hb hby d_parse_20) rfl k) ?_
  show Go p.tables e below _ (T18.setTop (mkF m 21 #[.val (.ref so), .val (.long v42xxxx), .second, .val (.int (5 : Int32))] [(.int (5 : Int32))]))
  refine Go.st (fun _ k => XS.bipush X18.here hx rfl (hb hby d_parse_21) k) ?_
  show Go p.tables e below _ (T18.setTop (mkF m 23 #[.val (.ref so), .val (.long v42xxxx), .second, .val (.int (5 : Int32))] [(.int (16 : Int32)), (.int (5 : Int32))]))
  have hl19 : (5 : Int32) < (16 : Int32) := by decide
  refine Go.st (fun _ k => XS.icmpNo X18.here hx rfl (hb hby d_parse_23) rfl (Jvm.Free.XT.ii_ge_f hl19) k) ?_
  show Go p.tables e below _ (T18.setTop (mkF m 26 #[.val (.ref so), .val (.long v42xxxx), .second, .val (.int (5 : Int32))] []))
  refine Go.st (fun _ k => XS.lloadN X18.here hx rfl (hb hby d_parse_26) rfl k) ?_
  show Go p.tables e below _ (T18.setTop (mkF m 27 #[.val (.ref so), .val (.long v42xxxx), .second, .val (.int (5 : Int32))] [(.long v42xxxx)]))
  refine Go.st (fun _ k => XS.iconst X18.here hx rfl (hb hby d_parse_27) k) ?_
  show Go p.tables e below _ (T18.setTop (mkF m 28 #[.val (.ref so), .val (.long v42xxxx), .second, .val (.int (5 : Int32))] [(.int (4 : Int32)), (.long v42xxxx)]))
  refine Go.st (fun _ k => XS.lshl X18.here hx rfl (hb hby d_parse_28) rfl k) ?_
  show Go p.tables e below _ (T18.setTop (mkF m 29 #[.val (.ref so), .val (.long v42xxxx), .second, .val (.int (5 : Int32))] [(.long (v42xxxx <<< ((4 : Int32) &&& 0x3f).toInt64))]))
  refine Go.st (fun _ k => XS.aloadN X18.here hx rfl (hb hby d_parse_29) rfl rfl k) ?_
  show Go p.tables e below _ (T18.setTop (mkF m 30 #[.val (.ref so), .val (.long v42xxxx), .second, .val (.int (5 : Int32))] [(.ref so), (.long (v42xxxx <<< ((4 : Int32) &&& 0x3f).toInt64))]))
  refine Go.st (fun _ k => XS.iloadN X18.here hx rfl (hb hby d_parse_30) rfl k) ?_
  show Go p.tables e below _ (T18.setTop (mkF m 31 #[.val (.ref so), .val (.long v42xxxx), .second, .val (.int (5 : Int32))] [(.int (5 : Int32)), (.ref so), (.long (v42xxxx <<< ((4 : Int32) &&& 0x3f).toInt64))]))
  obtain ⟨cq20, kq20, q20a, q20b, q20c⟩ := isOf hZ e18 Pf0
  obtain ⟨_, _, ⟨T20, L20, k20, n20⟩, -, X20, ⟨Lc20, hQ20, l20, y20, z20⟩, st20⟩ := X18.interfaceBack hx (xi := (⟨"java/lang/CharSequence", "charAt", "(I)C"⟩ : MethodName)) (y := (⟨"java/lang/String", "charAt", "(I)C"⟩ : MethodName)) hown (mvT hZ (hw _ (List.mem_of_getElem? (i := 72) rfl))) (mvT hZ (hw _ (List.mem_of_getElem? (i := 73) rfl))) (mvT hZ (hw _ (List.mem_of_getElem? (i := 74) rfl))) (mvT hZ (hw _ (List.mem_of_getElem? (i := 75) rfl))) (mvT hZ (hw _ (List.mem_of_getElem? (i := 76) rfl))) (mvT hZ (hw _ (List.mem_of_getElem? (i := 77) rfl))) (mvT hZ (hw _ (List.mem_of_getElem? (i := 78) rfl))) (mvT hZ (hw _ (List.mem_of_getElem? (i := 65) rfl))) (by decide) (StrChars.Road.chN (W := 2) hZ (fun d hd => hw d (own_wordsChN d hd)) (kI := 4) (hw _ (List.mem_of_getElem? (i := 29) rfl)) Pf0 Pf2 Pf1 Pf3 hcd2 hbd2 (O2.ext Pf4.2) P5 (O4.ext Pf4.2) rG3 (Nat.le_of_ble_eq_true rfl) (i := 5) (Nat.le_of_ble_eq_true rfl) (j := 5) rfl (by decide) (by decide)) q20a q20b q20c (g := (mkF m 31 #[.val (.ref so), .val (.long v42xxxx), .second, .val (.int (5 : Int32))] [(.int (5 : Int32)), (.ref so), (.long (v42xxxx <<< ((4 : Int32) &&& 0x3f).toInt64))])) rfl (by rw [hml]; rfl) (Steps.refl _) (argsL := [(.int (5 : Int32))]) (rest := [(.long (v42xxxx <<< ((4 : Int32) &&& 0x3f).toInt64))]) (lenOf pd_2 rfl) rfl (by show 2 * 0 + _ ≤ _; exact Nat.le_of_eq rfl) (hb hby d_parse_31) (fun _ _ => ⟨rfl, e18, (by decide : 0 + 0 ≤ _), (by decide : 0 + 0 ≤ _)⟩)
  dsimp only [Pt.U, Pt.locs, Pt.cells, Pt.slots] at X20 l20 y20 z20 st20 hQ20
  rw [l20, y20, z20] at X20
  obtain ⟨rfl, rfl, e20⟩ := hQ20
  have N20 := Fr.app N18 (Fr.nil n0)
  refine Go.st (fun _ k => st20.trans k) ?_
  show Go p.tables e below _ (T20.setTop (mkF m 36 #[.val (.ref so), .val (.long v42xxxx), .second, .val (.int (5 : Int32))] [(.int (dch m5)), (.long (v42xxxx <<< ((4 : Int32) &&& 0x3f).toInt64))]))
  refine Go.st (fun _ k => XS.aloadN X20.here hx rfl (hb hby d_parse_36) rfl rfl k) ?_
  show Go p.tables e below _ (T20.setTop (mkF m 37 #[.val (.ref so), .val (.long v42xxxx), .second, .val (.int (5 : Int32))] [(.ref so), (.int (dch m5)), (.long (v42xxxx <<< ((4 : Int32) &&& 0x3f).toInt64))]))
  obtain ⟨_, _, ⟨T21, L21, k21, n21⟩, -, X21, ⟨Lc21, hQ21, l21, y21, z21⟩, st21⟩ := Jvm.LawKit.callS X20 hx (y := (⟨"com/example/tallyroot/tallyroot/overlay/NodeId", "hexDigit", "(CLjava/lang/CharSequence;)I"⟩ : MethodName)) hown (mvT hZ (hw _ (List.mem_of_getElem? (i := 97) rfl))) (mvT hZ (hw _ (List.mem_of_getElem? (i := 98) rfl))) (mvT hZ (hw _ (List.mem_of_getElem? (i := 3) rfl))) (mvT hZ (hw _ (List.mem_of_getElem? (i := 99) rfl))) (by decide) (backOf (W := 2) (rm_hexd l Z a0 hw [] (dch m5) so m5 h0 n0 Z0 (by show (dch m5) = dch m5; exact rfl) (by show 0 ≤ m5.toInt ∧ m5.toInt < 16; exact (hm m5 (List.mem_of_getElem? (i := 5) rfl)))) hZ (hw _ (List.mem_of_getElem? (i := 99) rfl)) (hw _ (List.mem_of_getElem? (i := 3) rfl)) (by decide) (by decide)) (g := (mkF m 37 #[.val (.ref so), .val (.long v42xxxx), .second, .val (.int (5 : Int32))] [(.ref so), (.int (dch m5)), (.long (v42xxxx <<< ((4 : Int32) &&& 0x3f).toInt64))])) rfl (by rw [hml]; rfl) (argsL := [(.int (dch m5)), (.ref so)]) (rest := [(.long (v42xxxx <<< ((4 : Int32) &&& 0x3f).toInt64))]) (lenOf pd_3 rfl) rfl (by show 2 * 0 + _ ≤ _; exact Nat.le_of_eq rfl) (hb hby d_parse_37) (fun _ _ => ⟨rfl, e20, (by decide : 0 + 0 ≤ _), (by decide : 0 + 0 ≤ _)⟩)
  dsimp only [Pt.U, Pt.locs, Pt.cells, Pt.slots] at X21 l21 y21 z21 st21 hQ21
  rw [l21, y21, z21] at X21
  obtain ⟨rfl, N21q, e21⟩ := hQ21
  have N21 := Fr.app N20 N21q
  refine Go.st st21 ?_
  show Go p.tables e below _ (T21.setTop (mkF m 40 #[.val (.ref so), .val (.long v42xxxx), .second, .val (.int (5 : Int32))] [(.int m5), (.long (v42xxxx <<< ((4 : Int32) &&& 0x3f).toInt64))]))
  refine Go.st (fun _ k => XS.i2l X21.here hx rfl (hb hby d_parse_40) rfl k) ?_
  show Go p.tables e below _ (T21.setTop (mkF m 41 #[.val (.ref so), .val (.long v42xxxx), .second, .val (.int (5 : Int32))] [(.long (m5.toInt64)), (.long (v42xxxx <<< ((4 : Int32) &&& 0x3f).toInt64))]))
  refine Go.st (fun _ k => XS.lor X21.here hx rfl (hb hby d_parse_41) rfl k) ?_
  show Go p.tables e below _ (T21.setTop (mkF m 42 #[.val (.ref so), .val (.long v42xxxx), .second, .val (.int (5 : Int32))] [(.long (stepF v42xxxx m5))]))
  refine Go.st (fun _ k => XS.lstoreN X21.here hx rfl (hb hby d_parse_42) rfl (l' := #[.val (.ref so), .val (.long (stepF v42xxxx m5)), .second, .val (.int (5 : Int32))]) rfl k) ?_
  show Go p.tables e below _ (T21.setTop (mkF m 43 #[.val (.ref so), .val (.long (stepF v42xxxx m5)), .second, .val (.int (5 : Int32))] []))
  generalize hqv42xxxxx : (stepF v42xxxx m5) = v42xxxxx
  show Go p.tables e below _ (T21.setTop (mkF m 43 #[.val (.ref so), .val (.long v42xxxxx), .second, .val (.int (5 : Int32))] []))
  refine Go.st (fun _ k => XS.iinc X21.here hx rfl (hb hby d_parse_43) rfl (l' := #[.val (.ref so), .val (.long v42xxxxx), .second, .val (.int ((5 : Int32) + (1 : Int32)))]) rfl k) ?_
  show Go p.tables e below _ (T21.setTop (mkF m 46 #[.val (.ref so), .val (.long v42xxxxx), .second, .val (.int ((5 : Int32) + (1 : Int32)))] []))
  rw [show ((5 : Int32) + (1 : Int32)) = (6 : Int32) from by decide]
  show Go p.tables e below _ (T21.setTop (mkF m 46 #[.val (.ref so), .val (.long v42xxxxx), .second, .val (.int (6 : Int32))] []))
  refine Go.st (fun _ k => XS.goto X21.here hx rfl (pc0 := 46) (pc' := 20) rfl (hb hby d_parse_46) (by decide) (by decide) k) ?_
  show Go p.tables e below _ (T21.setTop (mkF m 20 #[.val (.ref so), .val (.long v42xxxxx), .second, .val (.int (6 : Int32))] []))
  refine Go.st (fun _ k => XS.iloadN X21.here hx rfl (hb hby d_parse_20) rfl k) ?_
  show Go p.tables e below _ (T21.setTop (mkF m 21 #[.val (.ref so), .val (.long v42xxxxx), .second, .val (.int (6 : Int32))] [(.int (6 : Int32))]))
  refine Go.st (fun _ k => XS.bipush X21.here hx rfl (hb hby d_parse_21) k) ?_
  show Go p.tables e below _ (T21.setTop (mkF m 23 #[.val (.ref so), .val (.long v42xxxxx), .second, .val (.int (6 : Int32))] [(.int (16 : Int32)), (.int (6 : Int32))]))
  have hl22 : (6 : Int32) < (16 : Int32) := by decide
  refine Go.st (fun _ k => XS.icmpNo X21.here hx rfl (hb hby d_parse_23) rfl (Jvm.Free.XT.ii_ge_f hl22) k) ?_
  show Go p.tables e below _ (T21.setTop (mkF m 26 #[.val (.ref so), .val (.long v42xxxxx), .second, .val (.int (6 : Int32))] []))
  refine Go.st (fun _ k => XS.lloadN X21.here hx rfl (hb hby d_parse_26) rfl k) ?_
  show Go p.tables e below _ (T21.setTop (mkF m 27 #[.val (.ref so), .val (.long v42xxxxx), .second, .val (.int (6 : Int32))] [(.long v42xxxxx)]))
  refine Go.st (fun _ k => XS.iconst X21.here hx rfl (hb hby d_parse_27) k) ?_
  show Go p.tables e below _ (T21.setTop (mkF m 28 #[.val (.ref so), .val (.long v42xxxxx), .second, .val (.int (6 : Int32))] [(.int (4 : Int32)), (.long v42xxxxx)]))
  refine Go.st (fun _ k => XS.lshl X21.here hx rfl (hb hby d_parse_28) rfl k) ?_
  show Go p.tables e below _ (T21.setTop (mkF m 29 #[.val (.ref so), .val (.long v42xxxxx), .second, .val (.int (6 : Int32))] [(.long (v42xxxxx <<< ((4 : Int32) &&& 0x3f).toInt64))]))
  refine Go.st (fun _ k => XS.aloadN X21.here hx rfl (hb hby d_parse_29) rfl rfl k) ?_
  show Go p.tables e below _ (T21.setTop (mkF m 30 #[.val (.ref so), .val (.long v42xxxxx), .second, .val (.int (6 : Int32))] [(.ref so), (.long (v42xxxxx <<< ((4 : Int32) &&& 0x3f).toInt64))]))
  refine Go.st (fun _ k => XS.iloadN X21.here hx rfl (hb hby d_parse_30) rfl k) ?_
  show Go p.tables e below _ (T21.setTop (mkF m 31 #[.val (.ref so), .val (.long v42xxxxx), .second, .val (.int (6 : Int32))] [(.int (6 : Int32)), (.ref so), (.long (v42xxxxx <<< ((4 : Int32) &&& 0x3f).toInt64))]))
  obtain ⟨cq23, kq23, q23a, q23b, q23c⟩ := isOf hZ e21 Pf0
  obtain ⟨_, _, ⟨T23, L23, k23, n23⟩, -, X23, ⟨Lc23, hQ23, l23, y23, z23⟩, st23⟩ := X21.interfaceBack hx (xi := (⟨"java/lang/CharSequence", "charAt", "(I)C"⟩ : MethodName)) (y := (⟨"java/lang/String", "charAt", "(I)C"⟩ : MethodName)) hown (mvT hZ (hw _ (List.mem_of_getElem? (i := 72) rfl))) (mvT hZ (hw _ (List.mem_of_getElem? (i := 73) rfl))) (mvT hZ (hw _ (List.mem_of_getElem? (i := 74) rfl))) (mvT hZ (hw _ (List.mem_of_getElem? (i := 75) rfl))) (mvT hZ (hw _ (List.mem_of_getElem? (i := 76) rfl))) (mvT hZ (hw _ (List.mem_of_getElem? (i := 77) rfl))) (mvT hZ (hw _ (List.mem_of_getElem? (i := 78) rfl))) (mvT hZ (hw _ (List.mem_of_getElem? (i := 65) rfl))) (by decide) (StrChars.Road.chN (W := 2) hZ (fun d hd => hw d (own_wordsChN d hd)) (kI := 4) (hw _ (List.mem_of_getElem? (i := 29) rfl)) Pf0 Pf2 Pf1 Pf3 hcd2 hbd2 (O2.ext Pf4.2) P5 (O4.ext Pf4.2) rG3 (Nat.le_of_ble_eq_true rfl) (i := 6) (Nat.le_of_ble_eq_true rfl) (j := 6) rfl (by decide) (by decide)) q23a q23b q23c (g := (mkF m 31 #[.val (.ref so), .val (.long v42xxxxx), .second, .val (.int (6 : Int32))] [(.int (6 : Int32)), (.ref so), (.long (v42xxxxx <<< ((4 : Int32) &&& 0x3f).toInt64))])) rfl (by rw [hml]; rfl) (Steps.refl _) (argsL := [(.int (6 : Int32))]) (rest := [(.long (v42xxxxx <<< ((4 : Int32) &&& 0x3f).toInt64))]) (lenOf pd_2 rfl) rfl (by show 2 * 0 + _ ≤ _; exact Nat.le_of_eq rfl) (hb hby d_parse_31) (fun _ _ => ⟨rfl, e21, (by decide : 0 + 0 ≤ _), (by decide : 0 + 0 ≤ _)⟩)
  dsimp only [Pt.U, Pt.locs, Pt.cells, Pt.slots] at X23 l23 y23 z23 st23 hQ23
  rw [l23, y23, z23] at X23
  obtain ⟨rfl, rfl, e23⟩ := hQ23
  have N23 := Fr.app N21 (Fr.nil n0)
  refine Go.st (fun _ k => st23.trans k) ?_
  show Go p.tables e below _ (T23.setTop (mkF m 36 #[.val (.ref so), .val (.long v42xxxxx), .second, .val (.int (6 : Int32))] [(.int (dch m6)), (.long (v42xxxxx <<< ((4 : Int32) &&& 0x3f).toInt64))]))
  refine Go.st (fun _ k => XS.aloadN X23.here hx rfl (hb hby d_parse_36) rfl rfl k) ?_
  show Go p.tables e below _ (T23.setTop (mkF m 37 #[.val (.ref so), .val (.long v42xxxxx), .second, .val (.int (6 : Int32))] [(.ref so), (.int (dch m6)), (.long (v42xxxxx <<< ((4 : Int32) &&& 0x3f).toInt64))]))
  obtain ⟨_, _, ⟨T24, L24, k24, n24⟩, -, X24, ⟨Lc24, hQ24, l24, y24, z24⟩, st24⟩ := Jvm.LawKit.callS X23 hx (y := (⟨"com/example/tallyroot/tallyroot/overlay/NodeId", "hexDigit", "(CLjava/lang/CharSequence;)I"⟩ : MethodName)) hown (mvT hZ (hw _ (List.mem_of_getElem? (i := 97) rfl))) (mvT hZ (hw _ (List.mem_of_getElem? (i := 98) rfl))) (mvT hZ (hw _ (List.mem_of_getElem? (i := 3) rfl))) (mvT hZ (hw _ (List.mem_of_getElem? (i := 99) rfl))) (by decide) (backOf (W := 2) (rm_hexd l Z a0 hw [] (dch m6) so m6 h0 n0 Z0 (by show (dch m6) = dch m6; exact rfl) (by show 0 ≤ m6.toInt ∧ m6.toInt < 16; exact (hm m6 (List.mem_of_getElem? (i := 6) rfl)))) hZ (hw _ (List.mem_of_getElem? (i := 99) rfl)) (hw _ (List.mem_of_getElem? (i := 3) rfl)) (by decide) (by decide)) (g := (mkF m 37 #[.val (.ref so), .val (.long v42xxxxx), .second, .val (.int (6 : Int32))] [(.ref so), (.int (dch m6)), (.long (v42xxxxx <<< ((4 : Int32) &&& 0x3f).toInt64))])) rfl (by rw [hml]; rfl) (argsL := [(.int (dch m6)), (.ref so)]) (rest := [(.long (v42xxxxx <<< ((4 : Int32) &&& 0x3f).toInt64))]) (lenOf pd_3 rfl) rfl (by show 2 * 0 + _ ≤ _; exact Nat.le_of_eq rfl) (hb hby d_parse_37) (fun _ _ => ⟨rfl, e23, (by decide : 0 + 0 ≤ _), (by decide : 0 + 0 ≤ _)⟩)
  dsimp only [Pt.U, Pt.locs, Pt.cells, Pt.slots] at X24 l24 y24 z24 st24 hQ24
  rw [l24, y24, z24] at X24
  obtain ⟨rfl, N24q, e24⟩ := hQ24
  have N24 := Fr.app N23 N24q
  refine Go.st st24 ?_
  show Go p.tables e below _ (T24.setTop (mkF m 40 #[.val (.ref so), .val (.long v42xxxxx), .second, .val (.int (6 : Int32))] [(.int m6), (.long (v42xxxxx <<< ((4 : Int32) &&& 0x3f).toInt64))]))
  refine Go.st (fun _ k => XS.i2l X24.here hx rfl (hb hby d_parse_40) rfl k) ?_
  show Go p.tables e below _ (T24.setTop (mkF m 41 #[.val (.ref so), .val (.long v42xxxxx), .second, .val (.int (6 : Int32))] [(.long (m6.toInt64)), (.long (v42xxxxx <<< ((4 : Int32) &&& 0x3f).toInt64))]))
  refine Go.st (fun _ k => XS.lor X24.here hx rfl (hb hby d_parse_41) rfl k) ?_
  show Go p.tables e below _ (T24.setTop (mkF m 42 #[.val (.ref so), .val (.long v42xxxxx), .second, .val (.int (6 : Int32))] [(.long (stepF v42xxxxx m6))]))
  refine Go.st (fun _ k => XS.lstoreN X24.here hx rfl (hb hby d_parse_42) rfl (l' := #[.val (.ref so), .val (.long (stepF v42xxxxx m6)), .second, .val (.int (6 : Int32))]) rfl k) ?_
  show Go p.tables e below _ (T24.setTop (mkF m 43 #[.val (.ref so), .val (.long (stepF v42xxxxx m6)), .second, .val (.int (6 : Int32))] []))
  generalize hqv42xxxxxx : (stepF v42xxxxx m6) = v42xxxxxx
  show Go p.tables e below _ (T24.setTop (mkF m 43 #[.val (.ref so), .val (.long v42xxxxxx), .second, .val (.int (6 : Int32))] []))
  refine Go.st (fun _ k => XS.iinc X24.here hx rfl (hb hby d_parse_43) rfl (l' := #[.val (.ref so), .val (.long v42xxxxxx), .second, .val (.int ((6 : Int32) + (1 : Int32)))]) rfl k) ?_
  show Go p.tables e below _ (T24.setTop (mkF m 46 #[.val (.ref so), .val (.long v42xxxxxx), .second, .val (.int ((6 : Int32) + (1 : Int32)))] []))
  rw [show ((6 : Int32) + (1 : Int32)) = (7 : Int32) from by decide]
  show Go p.tables e below _ (T24.setTop (mkF m 46 #[.val (.ref so), .val (.long v42xxxxxx), .second, .val (.int (7 : Int32))] []))
  refine Go.st (fun _ k => XS.goto X24.here hx rfl (pc0 := 46) (pc' := 20) rfl (hb hby d_parse_46) (by decide) (by decide) k) ?_
  show Go p.tables e below _ (T24.setTop (mkF m 20 #[.val (.ref so), .val (.long v42xxxxxx), .second, .val (.int (7 : Int32))] []))
  refine Go.st (fun _ k => XS.iloadN X24.here hx rfl (hb hby d_parse_20) rfl k) ?_
  show Go p.tables e below _ (T24.setTop (mkF m 21 #[.val (.ref so), .val (.long v42xxxxxx), .second, .val (.int (7 : Int32))] [(.int (7 : Int32))]))
  refine Go.st (fun _ k => XS.bipush X24.here hx rfl (hb hby d_parse_21) k) ?_
  show Go p.tables e below _ (T24.setTop (mkF m 23 #[.val (.ref so), .val (.long v42xxxxxx), .second, .val (.int (7 : Int32))] [(.int (16 : Int32)), (.int (7 : Int32))]))
  have hl25 : (7 : Int32) < (16 : Int32) := by decide
  refine Go.st (fun _ k => XS.icmpNo X24.here hx rfl (hb hby d_parse_23) rfl (Jvm.Free.XT.ii_ge_f hl25) k) ?_
  show Go p.tables e below _ (T24.setTop (mkF m 26 #[.val (.ref so), .val (.long v42xxxxxx), .second, .val (.int (7 : Int32))] []))
  refine Go.st (fun _ k => XS.lloadN X24.here hx rfl (hb hby d_parse_26) rfl k) ?_
  show Go p.tables e below _ (T24.setTop (mkF m 27 #[.val (.ref so), .val (.long v42xxxxxx), .second, .val (.int (7 : Int32))] [(.long v42xxxxxx)]))
  refine Go.st (fun _ k => XS.iconst X24.here hx rfl (hb hby d_parse_27) k) ?_
  show Go p.tables e below _ (T24.setTop (mkF m 28 #[.val (.ref so), .val (.long v42xxxxxx), .second, .val (.int (7 : Int32))] [(.int (4 : Int32)), (.long v42xxxxxx)]))
  refine Go.st (fun _ k => XS.lshl X24.here hx rfl (hb hby d_parse_28) rfl k) ?_
  show Go p.tables e below _ (T24.setTop (mkF m 29 #[.val (.ref so), .val (.long v42xxxxxx), .second, .val (.int (7 : Int32))] [(.long (v42xxxxxx <<< ((4 : Int32) &&& 0x3f).toInt64))]))
  refine Go.st (fun _ k => XS.aloadN X24.here hx rfl (hb hby d_parse_29) rfl rfl k) ?_
  show Go p.tables e below _ (T24.setTop (mkF m 30 #[.val (.ref so), .val (.long v42xxxxxx), .second, .val (.int (7 : Int32))] [(.ref so), (.long (v42xxxxxx <<< ((4 : Int32) &&& 0x3f).toInt64))]))
  refine Go.st (fun _ k => XS.iloadN X24.here hx rfl (hb hby d_parse_30) rfl k) ?_
  show Go p.tables e below _ (T24.setTop (mkF m 31 #[.val (.ref so), .val (.long v42xxxxxx), .second, .val (.int (7 : Int32))] [(.int (7 : Int32)), (.ref so), (.long (v42xxxxxx <<< ((4 : Int32) &&& 0x3f).toInt64))]))
  obtain ⟨cq26, kq26, q26a, q26b, q26c⟩ := isOf hZ e24 Pf0
  obtain ⟨_, _, ⟨T26, L26, k26, n26⟩, -, X26, ⟨Lc26, hQ26, l26, y26, z26⟩, st26⟩ := X24.interfaceBack hx (xi := (⟨"java/lang/CharSequence", "charAt", "(I)C"⟩ : MethodName)) (y := (⟨"java/lang/String", "charAt", "(I)C"⟩ : MethodName)) hown (mvT hZ (hw _ (List.mem_of_getElem? (i := 72) rfl))) (mvT hZ (hw _ (List.mem_of_getElem? (i := 73) rfl))) (mvT hZ (hw _ (List.mem_of_getElem? (i := 74) rfl))) (mvT hZ (hw _ (List.mem_of_getElem? (i := 75) rfl))) (mvT hZ (hw _ (List.mem_of_getElem? (i := 76) rfl))) (mvT hZ (hw _ (List.mem_of_getElem? (i := 77) rfl))) (mvT hZ (hw _ (List.mem_of_getElem? (i := 78) rfl))) (mvT hZ (hw _ (List.mem_of_getElem? (i := 65) rfl))) (by decide) (StrChars.Road.chN (W := 2) hZ (fun d hd => hw d (own_wordsChN d hd)) (kI := 4) (hw _ (List.mem_of_getElem? (i := 29) rfl)) Pf0 Pf2 Pf1 Pf3 hcd2 hbd2 (O2.ext Pf4.2) P5 (O4.ext Pf4.2) rG3 (Nat.le_of_ble_eq_true rfl) (i := 7) (Nat.le_of_ble_eq_true rfl) (j := 7) rfl (by decide) (by decide)) q26a q26b q26c (g := (mkF m 31 #[.val (.ref so), .val (.long v42xxxxxx), .second, .val (.int (7 : Int32))] [(.int (7 : Int32)), (.ref so), (.long (v42xxxxxx <<< ((4 : Int32) &&& 0x3f).toInt64))])) rfl (by rw [hml]; rfl) (Steps.refl _) (argsL := [(.int (7 : Int32))]) (rest := [(.long (v42xxxxxx <<< ((4 : Int32) &&& 0x3f).toInt64))]) (lenOf pd_2 rfl) rfl (by show 2 * 0 + _ ≤ _; exact Nat.le_of_eq rfl) (hb hby d_parse_31) (fun _ _ => ⟨rfl, e24, (by decide : 0 + 0 ≤ _), (by decide : 0 + 0 ≤ _)⟩)
  dsimp only [Pt.U, Pt.locs, Pt.cells, Pt.slots] at X26 l26 y26 z26 st26 hQ26
  rw [l26, y26, z26] at X26
  obtain ⟨rfl, rfl, e26⟩ := hQ26
  have N26 := Fr.app N24 (Fr.nil n0)
  refine Go.st (fun _ k => st26.trans k) ?_
  show Go p.tables e below _ (T26.setTop (mkF m 36 #[.val (.ref so), .val (.long v42xxxxxx), .second, .val (.int (7 : Int32))] [(.int (dch m7)), (.long (v42xxxxxx <<< ((4 : Int32) &&& 0x3f).toInt64))]))
  refine Go.st (fun _ k => XS.aloadN X26.here hx rfl (hb hby d_parse_36) rfl rfl k) ?_
  show Go p.tables e below _ (T26.setTop (mkF m 37 #[.val (.ref so), .val (.long v42xxxxxx), .second, .val (.int (7 : Int32))] [(.ref so), (.int (dch m7)), (.long (v42xxxxxx <<< ((4 : Int32) &&& 0x3f).toInt64))]))
  obtain ⟨_, _, ⟨T27, L27, k27, n27⟩, -, X27, ⟨Lc27, hQ27, l27, y27, z27⟩, st27⟩ := Jvm.LawKit.callS X26 hx (y := (⟨"com/example/tallyroot/tallyroot/overlay/NodeId", "hexDigit", "(CLjava/lang/CharSequence;)I"⟩ : MethodName)) hown (mvT hZ (hw _ (List.mem_of_getElem? (i := 97) rfl))) (mvT hZ (hw _ (List.mem_of_getElem? (i := 98) rfl))) (mvT hZ (hw _ (List.mem_of_getElem? (i := 3) rfl))) (mvT hZ (hw _ (List.mem_of_getElem? (i := 99) rfl))) (by decide) (backOf (W := 2) (rm_hexd l Z a0 hw [] (dch m7) so m7 h0 n0 Z0 (by show (dch m7) = dch m7; exact rfl) (by show 0 ≤ m7.toInt ∧ m7.toInt < 16; exact (hm m7 (List.mem_of_getElem? (i := 7) rfl)))) hZ (hw _ (List.mem_of_getElem? (i := 99) rfl)) (hw _ (List.mem_of_getElem? (i := 3) rfl)) (by decide) (by decide)) (g := (mkF m 37 #[.val (.ref so), .val (.long v42xxxxxx), .second, .val (.int (7 : Int32))] [(.ref so), (.int (dch m7)), (.long (v42xxxxxx <<< ((4 : Int32) &&& 0x3f).toInt64))])) rfl (by rw [hml]; rfl) (argsL := [(.int (dch m7)), (.ref so)]) (rest := [(.long (v42xxxxxx <<< ((4 : Int32) &&& 0x3f).toInt64))]) (lenOf pd_3 rfl) rfl (by show 2 * 0 + _ ≤ _; exact Nat.le_of_eq rfl) (hb hby d_parse_37) (fun _ _ => ⟨rfl, e26, (by decide : 0 + 0 ≤ _), (by decide : 0 + 0 ≤ _)⟩)
  dsimp only [Pt.U, Pt.locs, Pt.cells, Pt.slots] at X27 l27 y27 z27 st27 hQ27
  rw [l27, y27, z27] at X27
  obtain ⟨rfl, N27q, e27⟩ := hQ27
  have N27 := Fr.app N26 N27q
  refine Go.st st27 ?_
  show Go p.tables e below _ (T27.setTop (mkF m 40 #[.val (.ref so), .val (.long v42xxxxxx), .second, .val (.int (7 : Int32))] [(.int m7), (.long (v42xxxxxx <<< ((4 : Int32) &&& 0x3f).toInt64))]))
  refine Go.st (fun _ k => XS.i2l X27.here hx rfl (hb hby d_parse_40) rfl k) ?_
  show Go p.tables e below _ (T27.setTop (mkF m 41 #[.val (.ref so), .val (.long v42xxxxxx), .second, .val (.int (7 : Int32))] [(.long (m7.toInt64)), (.long (v42xxxxxx <<< ((4 : Int32) &&& 0x3f).toInt64))]))
  refine Go.st (fun _ k => XS.lor X27.here hx rfl (hb hby d_parse_41) rfl k) ?_
  show Go p.tables e below _ (T27.setTop (mkF m 42 #[.val (.ref so), .val (.long v42xxxxxx), .second, .val (.int (7 : Int32))] [(.long (stepF v42xxxxxx m7))]))
  refine Go.st (fun _ k => XS.lstoreN X27.here hx rfl (hb hby d_parse_42) rfl (l' := #[.val (.ref so), .val (.long (stepF v42xxxxxx m7)), .second, .val (.int (7 : Int32))]) rfl k) ?_
  show Go p.tables e below _ (T27.setTop (mkF m 43 #[.val (.ref so), .val (.long (stepF v42xxxxxx m7)), .second, .val (.int (7 : Int32))] []))
  generalize hqv42xxxxxxx : (stepF v42xxxxxx m7) = v42xxxxxxx
  show Go p.tables e below _ (T27.setTop (mkF m 43 #[.val (.ref so), .val (.long v42xxxxxxx), .second, .val (.int (7 : Int32))] []))
  refine Go.st (fun _ k => XS.iinc X27.here hx rfl (hb hby d_parse_43) rfl (l' := #[.val (.ref so), .val (.long v42xxxxxxx), .second, .val (.int ((7 : Int32) + (1 : Int32)))]) rfl k) ?_
  show Go p.tables e below _ (T27.setTop (mkF m 46 #[.val (.ref so), .val (.long v42xxxxxxx), .second, .val (.int ((7 : Int32) + (1 : Int32)))] []))
  rw [show ((7 : Int32) + (1 : Int32)) = (8 : Int32) from by decide]
  show Go p.tables e below _ (T27.setTop (mkF m 46 #[.val (.ref so), .val (.long v42xxxxxxx), .second, .val (.int (8 : Int32))] []))
  refine Go.st (fun _ k => XS.goto X27.here hx rfl (pc0 := 46) (pc' := 20) rfl (hb hby d_parse_46) (by decide) (by decide) k) ?_
  show Go p.tables e below _ (T27.setTop (mkF m 20 #[.val (.ref so), .val (.long v42xxxxxxx), .second, .val (.int (8 : Int32))] []))
  refine Go.st (fun _ k => XS.iloadN X27.here hx rfl (hb hby d_parse_20) rfl k) ?_
  show Go p.tables e below _ (T27.setTop (mkF m 21 #[.val (.ref so), .val (.long v42xxxxxxx), .second, .val (.int (8 : Int32))] [(.int (8 : Int32))]))
  refine Go.st (fun _ k => XS.bipush X27.here hx rfl (hb hby d_parse_21) k) ?_
  show Go p.tables e below _ (T27.setTop (mkF m 23 #[.val (.ref so), .val (.long v42xxxxxxx), .second, .val (.int (8 : Int32))] [(.int (16 : Int32)), (.int (8 : Int32))]))
  have hl28 : (8 : Int32) < (16 : Int32) := by decide
  refine Go.st (fun _ k => XS.icmpNo X27.here hx rfl (hb hby d_parse_23) rfl (Jvm.Free.XT.ii_ge_f hl28) k) ?_
  show Go p.tables e below _ (T27.setTop (mkF m 26 #[.val (.ref so), .val (.long v42xxxxxxx), .second, .val (.int (8 : Int32))] []))
  refine Go.st (fun _ k => XS.lloadN X27.here hx rfl (hb hby d_parse_26) rfl k) ?_
  show Go p.tables e below _ (T27.setTop (mkF m 27 #[.val (.ref so), .val (.long v42xxxxxxx), .second, .val (.int (8 : Int32))] [(.long v42xxxxxxx)]))
  refine Go.st (fun _ k => XS.iconst X27.here hx rfl (hb hby d_parse_27) k) ?_
  show Go p.tables e below _ (T27.setTop (mkF m 28 #[.val (.ref so), .val (.long v42xxxxxxx), .second, .val (.int (8 : Int32))] [(.int (4 : Int32)), (.long v42xxxxxxx)]))
  refine Go.st (fun _ k => XS.lshl X27.here hx rfl (hb hby d_parse_28) rfl k) ?_
  show Go p.tables e below _ (T27.setTop (mkF m 29 #[.val (.ref so), .val (.long v42xxxxxxx), .second, .val (.int (8 : Int32))] [(.long (v42xxxxxxx <<< ((4 : Int32) &&& 0x3f).toInt64))]))
  refine Go.st (fun _ k => XS.aloadN X27.here hx rfl (hb hby d_parse_29) rfl rfl k) ?_
  show Go p.tables e below _ (T27.setTop (mkF m 30 #[.val (.ref so), .val (.long v42xxxxxxx), .second, .val (.int (8 : Int32))] [(.ref so), (.long (v42xxxxxxx <<< ((4 : Int32) &&& 0x3f).toInt64))]))
  refine Go.st (fun _ k => XS.iloadN X27.here hx rfl (hb hby d_parse_30) rfl k) ?_
  show Go p.tables e below _ (T27.setTop (mkF m 31 #[.val (.ref so), .val (.long v42xxxxxxx), .second, .val (.int (8 : Int32))] [(.int (8 : Int32)), (.ref so), (.long (v42xxxxxxx <<< ((4 : Int32) &&& 0x3f).toInt64))]))
  obtain ⟨cq29, kq29, q29a, q29b, q29c⟩ := isOf hZ e27 Pf0
  obtain ⟨_, _, ⟨T29, L29, k29, n29⟩, -, X29, ⟨Lc29, hQ29, l29, y29, z29⟩, st29⟩ := X27.interfaceBack hx (xi := (⟨"java/lang/CharSequence", "charAt", "(I)C"⟩ : MethodName)) (y := (⟨"java/lang/String", "charAt", "(I)C"⟩ : MethodName)) hown (mvT hZ (hw _ (List.mem_of_getElem? (i := 72) rfl))) (mvT hZ (hw _ (List.mem_of_getElem? (i := 73) rfl))) (mvT hZ (hw _ (List.mem_of_getElem? (i := 74) rfl))) (mvT hZ (hw _ (List.mem_of_getElem? (i := 75) rfl))) (mvT hZ (hw _ (List.mem_of_getElem? (i := 76) rfl))) (mvT hZ (hw _ (List.mem_of_getElem? (i := 77) rfl))) (mvT hZ (hw _ (List.mem_of_getElem? (i := 78) rfl))) (mvT hZ (hw _ (List.mem_of_getElem? (i := 65) rfl))) (by decide) (StrChars.Road.chN (W := 2) hZ (fun d hd => hw d (own_wordsChN d hd)) (kI := 4) (hw _ (List.mem_of_getElem? (i := 29) rfl)) Pf0 Pf2 Pf1 Pf3 hcd2 hbd2 (O2.ext Pf4.2) P5 (O4.ext Pf4.2) rG3 (Nat.le_of_ble_eq_true rfl) (i := 8) (Nat.le_of_ble_eq_true rfl) (j := 8) rfl (by decide) (by decide)) q29a q29b q29c (g := (mkF m 31 #[.val (.ref so), .val (.long v42xxxxxxx), .second, .val (.int (8 : Int32))] [(.int (8 : Int32)), (.ref so), (.long (v42xxxxxxx <<< ((4 : Int32) &&& 0x3f).toInt64))])) rfl (by rw [hml]; rfl) (Steps.refl _) (argsL := [(.int (8 : Int32))]) (rest := [(.long (v42xxxxxxx <<< ((4 : Int32) &&& 0x3f).toInt64))]) (lenOf pd_2 rfl) rfl (by show 2 * 0 + _ ≤ _; exact Nat.le_of_eq rfl) (hb hby d_parse_31) (fun _ _ => ⟨rfl, e27, (by decide : 0 + 0 ≤ _), (by decide : 0 + 0 ≤ _)⟩)
  dsimp only [Pt.U, Pt.locs, Pt.cells, Pt.slots] at X29 l29 y29 z29 st29 hQ29
  rw [l29, y29, z29] at X29
  obtain ⟨rfl, rfl, e29⟩ := hQ29
  have N29 := Fr.app N27 (Fr.nil n0)
  refine Go.st (fun _ k => st29.trans k) ?_
  show Go p.tables e below _ (T29.setTop (mkF m 36 #[.val (.ref so), .val (.long v42xxxxxxx), .second, .val (.int (8 : Int32))] [(.int (dch m8)), (.long (v42xxxxxxx <<< ((4 : Int32) &&& 0x3f).toInt64))]))
  refine Go.st (fun _ k => XS.aloadN X29.here hx rfl (hb hby d_parse_36) rfl rfl k) ?_
  show Go p.tables e below _ (T29.setTop (mkF m 37 #[.val (.ref so), .val (.long v42xxxxxxx), .second, .val (.int (8 : Int32))] [(.ref so), (.int (dch m8)), (.long (v42xxxxxxx <<< ((4 : Int32) &&& 0x3f).toInt64))]))
  obtain ⟨_, _, ⟨T30, L30, k30, n30⟩, -, X30, ⟨Lc30, hQ30, l30, y30, z30⟩, st30⟩ := Jvm.LawKit.callS X29 hx (y := (⟨"com/example/tallyroot/tallyroot/overlay/NodeId", "hexDigit", "(CLjava/lang/CharSequence;)I"⟩ : MethodName)) hown (mvT hZ (hw _ (List.mem_of_getElem? (i := 97) rfl))) (mvT hZ (hw _ (List.mem_of_getElem? (i := 98) rfl))) (mvT hZ (hw _ (List.mem_of_getElem? (i := 3) rfl))) (mvT hZ (hw _ (List.mem_of_getElem? (i := 99) rfl))) (by decide) (backOf (W := 2) (rm_hexd l Z a0 hw [] (dch m8) so m8 h0 n0 Z0 (by show (dch m8) = dch m8; exact rfl) (by show 0 ≤ m8.toInt ∧ m8.toInt < 16; exact (hm m8 (List.mem_of_getElem? (i := 8) rfl)))) hZ (hw _ (List.mem_of_getElem? (i := 99) rfl)) (hw _ (List.mem_of_getElem? (i := 3) rfl)) (by decide) (by decide)) (g := (mkF m 37 #[.val (.ref so), .val (.long v42xxxxxxx), .second, .val (.int (8 : Int32))] [(.ref so), (.int (dch m8)), (.long (v42xxxxxxx <<< ((4 : Int32) &&& 0x3f).toInt64))])) rfl (by rw [hml]; rfl) (argsL := [(.int (dch m8)), (.ref so)]) (rest := [(.long (v42xxxxxxx <<< ((4 : Int32) &&& 0x3f).toInt64))]) (lenOf pd_3 rfl) rfl (by show 2 * 0 + _ ≤ _; exact Nat.le_of_eq rfl) (hb hby d_parse_37) (fun _ _ => ⟨rfl, e29, (by decide : 0 + 0 ≤ _), (by decide : 0 + 0 ≤ _)⟩)
  dsimp only [Pt.U, Pt.locs, Pt.cells, Pt.slots] at X30 l30 y30 z30 st30 hQ30
  rw [l30, y30, z30] at X30
  obtain ⟨rfl, N30q, e30⟩ := hQ30
  have N30 := Fr.app N29 N30q
  refine Go.st st30 ?_
  show Go p.tables e below _ (T30.setTop (mkF m 40 #[.val (.ref so), .val (.long v42xxxxxxx), .second, .val (.int (8 : Int32))] [(.int m8), (.long (v42xxxxxxx <<< ((4 : Int32) &&& 0x3f).toInt64))]))
  refine Go.st (fun _ k => XS.i2l X30.here hx rfl (hb hby d_parse_40) rfl k) ?_
  show Go p.tables e below _ (T30.setTop (mkF m 41 #[.val (.ref so), .val (.long v42xxxxxxx), .second, .val (.int (8 : Int32))] [(.long (m8.toInt64)), (.long (v42xxxxxxx <<< ((4 : Int32) &&& 0x3f).toInt64))]))
  refine Go.st (fun _ k => XS.lor X30.here hx rfl (hb hby d_parse_41) rfl k) ?_
  show Go p.tables e below _ (T30.setTop (mkF m 42 #[.val (.ref so), .val (.long v42xxxxxxx), .second, .val (.int (8 : Int32))] [(.long (stepF v42xxxxxxx m8))]))
  refine Go.st (fun _ k => XS.lstoreN X30.here hx rfl (hb hby d_parse_42) rfl (l' := #[.val (.ref so), .val (.long (stepF v42xxxxxxx m8)), .second, .val (.int (8 : Int32))]) rfl k) ?_
  show Go p.tables e below _ (T30.setTop (mkF m 43 #[.val (.ref so), .val (.long (stepF v42xxxxxxx m8)), .second, .val (.int (8 : Int32))] []))
  generalize hqv42xxxxxxxx : (stepF v42xxxxxxx m8) = v42xxxxxxxx
  show Go p.tables e below _ (T30.setTop (mkF m 43 #[.val (.ref so), .val (.long v42xxxxxxxx), .second, .val (.int (8 : Int32))] []))
  refine Go.st (fun _ k => XS.iinc X30.here hx rfl (hb hby d_parse_43) rfl (l' := #[.val (.ref so), .val (.long v42xxxxxxxx), .second, .val (.int ((8 : Int32) + (1 : Int32)))]) rfl k) ?_
  show Go p.tables e below _ (T30.setTop (mkF m 46 #[.val (.ref so), .val (.long v42xxxxxxxx), .second, .val (.int ((8 : Int32) + (1 : Int32)))] []))
  rw [show ((8 : Int32) + (1 : Int32)) = (9 : Int32) from by decide]
  show Go p.tables e below _ (T30.setTop (mkF m 46 #[.val (.ref so), .val (.long v42xxxxxxxx), .second, .val (.int (9 : Int32))] []))
  refine Go.st (fun _ k => XS.goto X30.here hx rfl (pc0 := 46) (pc' := 20) rfl (hb hby d_parse_46) (by decide) (by decide) k) ?_
  show Go p.tables e below _ (T30.setTop (mkF m 20 #[.val (.ref so), .val (.long v42xxxxxxxx), .second, .val (.int (9 : Int32))] []))
  refine Go.st (fun _ k => XS.iloadN X30.here hx rfl (hb hby d_parse_20) rfl k) ?_
  show Go p.tables e below _ (T30.setTop (mkF m 21 #[.val (.ref so), .val (.long v42xxxxxxxx), .second, .val (.int (9 : Int32))] [(.int (9 : Int32))]))
  refine Go.st (fun _ k => XS.bipush X30.here hx rfl (hb hby d_parse_21) k) ?_
  show Go p.tables e below _ (T30.setTop (mkF m 23 #[.val (.ref so), .val (.long v42xxxxxxxx), .second, .val (.int (9 : Int32))] [(.int (16 : Int32)), (.int (9 : Int32))]))
  have hl31 : (9 : Int32) < (16 : Int32) := by decide
  refine Go.st (fun _ k => XS.icmpNo X30.here hx rfl (hb hby d_parse_23) rfl (Jvm.Free.XT.ii_ge_f hl31) k) ?_
  show Go p.tables e below _ (T30.setTop (mkF m 26 #[.val (.ref so), .val (.long v42xxxxxxxx), .second, .val (.int (9 : Int32))] []))
  refine Go.st (fun _ k => XS.lloadN X30.here hx rfl (hb hby d_parse_26) rfl k) ?_
  show Go p.tables e below _ (T30.setTop (mkF m 27 #[.val (.ref so), .val (.long v42xxxxxxxx), .second, .val (.int (9 : Int32))] [(.long v42xxxxxxxx)]))
  refine Go.st (fun _ k => XS.iconst X30.here hx rfl (hb hby d_parse_27) k) ?_
  show Go p.tables e below _ (T30.setTop (mkF m 28 #[.val (.ref so), .val (.long v42xxxxxxxx), .second, .val (.int (9 : Int32))] [(.int (4 : Int32)), (.long v42xxxxxxxx)]))
  refine Go.st (fun _ k => XS.lshl X30.here hx rfl (hb hby d_parse_28) rfl k) ?_
  show Go p.tables e below _ (T30.setTop (mkF m 29 #[.val (.ref so), .val (.long v42xxxxxxxx), .second, .val (.int (9 : Int32))] [(.long (v42xxxxxxxx <<< ((4 : Int32) &&& 0x3f).toInt64))]))
  refine Go.st (fun _ k => XS.aloadN X30.here hx rfl (hb hby d_parse_29) rfl rfl k) ?_
  show Go p.tables e below _ (T30.setTop (mkF m 30 #[.val (.ref so), .val (.long v42xxxxxxxx), .second, .val (.int (9 : Int32))] [(.ref so), (.long (v42xxxxxxxx <<< ((4 : Int32) &&& 0x3f).toInt64))]))
  refine Go.st (fun _ k => XS.iloadN X30.here hx rfl (hb hby d_parse_30) rfl k) ?_
  show Go p.tables e below _ (T30.setTop (mkF m 31 #[.val (.ref so), .val (.long v42xxxxxxxx), .second, .val (.int (9 : Int32))] [(.int (9 : Int32)), (.ref so), (.long (v42xxxxxxxx <<< ((4 : Int32) &&& 0x3f).toInt64))]))
  obtain ⟨cq32, kq32, q32a, q32b, q32c⟩ := isOf hZ e30 Pf0
  obtain ⟨_, _, ⟨T32, L32, k32, n32⟩, -, X32, ⟨Lc32, hQ32, l32, y32, z32⟩, st32⟩ := X30.interfaceBack hx (xi := (⟨"java/lang/CharSequence", "charAt", "(I)C"⟩ : MethodName)) (y := (⟨"java/lang/String", "charAt", "(I)C"⟩ : MethodName)) hown (mvT hZ (hw _ (List.mem_of_getElem? (i := 72) rfl))) (mvT hZ (hw _ (List.mem_of_getElem? (i := 73) rfl))) (mvT hZ (hw _ (List.mem_of_getElem? (i := 74) rfl))) (mvT hZ (hw _ (List.mem_of_getElem? (i := 75) rfl))) (mvT hZ (hw _ (List.mem_of_getElem? (i := 76) rfl))) (mvT hZ (hw _ (List.mem_of_getElem? (i := 77) rfl))) (mvT hZ (hw _ (List.mem_of_getElem? (i := 78) rfl))) (mvT hZ (hw _ (List.mem_of_getElem? (i := 65) rfl))) (by decide) (StrChars.Road.chN (W := 2) hZ (fun d hd => hw d (own_wordsChN d hd)) (kI := 4) (hw _ (List.mem_of_getElem? (i := 29) rfl)) Pf0 Pf2 Pf1 Pf3 hcd2 hbd2 (O2.ext Pf4.2) P5 (O4.ext Pf4.2) rG3 (Nat.le_of_ble_eq_true rfl) (i := 9) (Nat.le_of_ble_eq_true rfl) (j := 9) rfl (by decide) (by decide)) q32a q32b q32c (g := (mkF m 31 #[.val (.ref so), .val (.long v42xxxxxxxx), .second, .val (.int (9 : Int32))] [(.int (9 : Int32)), (.ref so), (.long (v42xxxxxxxx <<< ((4 : Int32) &&& 0x3f).toInt64))])) rfl (by rw [hml]; rfl) (Steps.refl _) (argsL := [(.int (9 : Int32))]) (rest := [(.long (v42xxxxxxxx <<< ((4 : Int32) &&& 0x3f).toInt64))]) (lenOf pd_2 rfl) rfl (by show 2 * 0 + _ ≤ _; exact Nat.le_of_eq rfl) (hb hby d_parse_31) (fun _ _ => ⟨rfl, e30, (by decide : 0 + 0 ≤ _), (by decide : 0 + 0 ≤ _)⟩)
  dsimp only [Pt.U, Pt.locs, Pt.cells, Pt.slots] at X32 l32 y32 z32 st32 hQ32
  rw [l32, y32, z32] at X32
  obtain ⟨rfl, rfl, e32⟩ := hQ32
  have N32 := Fr.app N30 (Fr.nil n0)
  refine Go.st (fun _ k => st32.trans k) ?_
  show Go p.tables e below _ (T32.setTop (mkF m 36 #[.val (.ref so), .val (.long v42xxxxxxxx), .second, .val (.int (9 : Int32))] [(.int (dch m9)), (.long (v42xxxxxxxx <<< ((4 : Int32) &&& 0x3f).toInt64))]))
  refine Go.st (fun _ k => XS.aloadN X32.here hx rfl (hb hby d_parse_36) rfl rfl k) ?_
  show Go p.tables e below _ (T32.setTop (mkF m 37 #[.val (.ref so), .val (.long v42xxxxxxxx), .second, .val (.int (9 : Int32))] [(.ref so), (.int (dch m9)), (.long (v42xxxxxxxx <<< ((4 : Int32) &&& 0x3f).toInt64))]))
  obtain ⟨_, _, ⟨T33, L33, k33, n33⟩, -, X33, ⟨Lc33, hQ33, l33, y33, z33⟩, st33⟩ := Jvm.LawKit.callS X32 hx (y := (⟨"com/example/tallyroot/tallyroot/overlay/NodeId", "hexDigit", "(CLjava/lang/CharSequence;)I"⟩ : MethodName)) hown (mvT hZ (hw _ (List.mem_of_getElem? (i := 97) rfl))) (mvT hZ (hw _ (List.mem_of_getElem? (i := 98) rfl))) (mvT hZ (hw _ (List.mem_of_getElem? (i := 3) rfl))) (mvT hZ (hw _ (List.mem_of_getElem? (i := 99) rfl))) (by decide) (backOf (W := 2) (rm_hexd l Z a0 hw [] (dch m9) so m9 h0 n0 Z0 (by show (dch m9) = dch m9; exact rfl) (by show 0 ≤ m9.toInt ∧ m9.toInt < 16; exact (hm m9 (List.mem_of_getElem? (i := 9) rfl)))) hZ (hw _ (List.mem_of_getElem? (i := 99) rfl)) (hw _ (List.mem_of_getElem? (i := 3) rfl)) (by decide) (by decide)) (g := (mkF m 37 #[.val (.ref so), .val (.long v42xxxxxxxx), .second, .val (.int (9 : Int32))] [(.ref so), (.int (dch m9)), (.long (v42xxxxxxxx <<< ((4 : Int32) &&& 0x3f).toInt64))])) rfl (by rw [hml]; rfl) (argsL := [(.int (dch m9)), (.ref so)]) (rest := [(.long (v42xxxxxxxx <<< ((4 : Int32) &&& 0x3f).toInt64))]) (lenOf pd_3 rfl) rfl (by show 2 * 0 + _ ≤ _; exact Nat.le_of_eq rfl) (hb hby d_parse_37) (fun _ _ => ⟨rfl, e32, (by decide : 0 + 0 ≤ _), (by decide : 0 + 0 ≤ _)⟩)
  dsimp only [Pt.U, Pt.locs, Pt.cells, Pt.slots] at X33 l33 y33 z33 st33 hQ33
  rw [l33, y33, z33] at X33
  obtain ⟨rfl, N33q, e33⟩ := hQ33
  have N33 := Fr.app N32 N33q
  refine Go.st st33 ?_
  show Go p.tables e below _ (T33.setTop (mkF m 40 #[.val (.ref so), .val (.long v42xxxxxxxx), .second, .val (.int (9 : Int32))] [(.int m9), (.long (v42xxxxxxxx <<< ((4 : Int32) &&& 0x3f).toInt64))]))
  refine Go.st (fun _ k => XS.i2l X33.here hx rfl (hb hby d_parse_40) rfl k) ?_
  show Go p.tables e below _ (T33.setTop (mkF m 41 #[.val (.ref so), .val (.long v42xxxxxxxx), .second, .val (.int (9 : Int32))] [(.long (m9.toInt64)), (.long (v42xxxxxxxx <<< ((4 : Int32) &&& 0x3f).toInt64))]))
  refine Go.st (fun _ k => XS.lor X33.here hx rfl (hb hby d_parse_41) rfl k) ?_
  show Go p.tables e below _ (T33.setTop (mkF m 42 #[.val (.ref so), .val (.long v42xxxxxxxx), .second, .val (.int (9 : Int32))] [(.long (stepF v42xxxxxxxx m9))]))
  refine Go.st (fun _ k => XS.lstoreN X33.here hx rfl (hb hby d_parse_42) rfl (l' := #[.val (.ref so), .val (.long (stepF v42xxxxxxxx m9)), .second, .val (.int (9 : Int32))]) rfl k) ?_
  show Go p.tables e below _ (T33.setTop (mkF m 43 #[.val (.ref so), .val (.long (stepF v42xxxxxxxx m9)), .second, .val (.int (9 : Int32))] []))
  generalize hqv42xxxxxxxxx : (stepF v42xxxxxxxx m9) = v42xxxxxxxxx
  show Go p.tables e below _ (T33.setTop (mkF m 43 #[.val (.ref so), .val (.long v42xxxxxxxxx), .second, .val (.int (9 : Int32))] []))
  refine Go.st (fun _ k => XS.iinc X33.here hx rfl (hb hby d_parse_43) rfl (l' := #[.val (.ref so), .val (.long v42xxxxxxxxx), .second, .val (.int ((9 : Int32) + (1 : Int32)))]) rfl k) ?_
  show Go p.tables e below _ (T33.setTop (mkF m 46 #[.val (.ref so), .val (.long v42xxxxxxxxx), .second, .val (.int ((9 : Int32) + (1 : Int32)))] []))
  rw [show ((9 : Int32) + (1 : Int32)) = (10 : Int32) from by decide]
  show Go p.tables e below _ (T33.setTop (mkF m 46 #[.val (.ref so), .val (.long v42xxxxxxxxx), .second, .val (.int (10 : Int32))] []))
  refine Go.st (fun _ k => XS.goto X33.here hx rfl (pc0 := 46) (pc' := 20) rfl (hb hby d_parse_46) (by decide) (by decide) k) ?_
  show Go p.tables e below _ (T33.setTop (mkF m 20 #[.val (.ref so), .val (.long v42xxxxxxxxx), .second, .val (.int (10 : Int32))] []))
  refine Go.st (fun _ k => XS.iloadN X33.here hx rfl (hb hby d_parse_20) rfl k) ?_
  show Go p.tables e below _ (T33.setTop (mkF m 21 #[.val (.ref so), .val (.long v42xxxxxxxxx), .second, .val (.int (10 : Int32))] [(.int (10 : Int32))]))
  refine Go.st (fun _ k => XS.bipush X33.here hx rfl (hb hby d_parse_21) k) ?_
  show Go p.tables e below _ (T33.setTop (mkF m 23 #[.val (.ref so), .val (.long v42xxxxxxxxx), .second, .val (.int (10 : Int32))] [(.int (16 : Int32)), (.int (10 : Int32))]))
  have hl34 : (10 : Int32) < (16 : Int32) := by decide
  refine Go.st (fun _ k => XS.icmpNo X33.here hx rfl (hb hby d_parse_23) rfl (Jvm.Free.XT.ii_ge_f hl34) k) ?_
  show Go p.tables e below _ (T33.setTop (mkF m 26 #[.val (.ref so), .val (.long v42xxxxxxxxx), .second, .val (.int (10 : Int32))] []))
  refine Go.st (fun _ k => XS.lloadN X33.here hx rfl (hb hby d_parse_26) rfl k) ?_
  show Go p.tables e below _ (T33.setTop (mkF m 27 #[.val (.ref so), .val (.long v42xxxxxxxxx), .second, .val (.int (10 : Int32))] [(.long v42xxxxxxxxx)]))
  refine Go.st (fun _ k => XS.iconst X33.here hx rfl (hb hby d_parse_27) k) ?_
  show Go p.tables e below _ (T33.setTop (mkF m 28 #[.val (.ref so), .val (.long v42xxxxxxxxx), .second, .val (.int (10 : Int32))] [(.int (4 : Int32)), (.long v42xxxxxxxxx)]))
  refine Go.st (fun _ k => XS.lshl X33.here hx rfl (hb hby d_parse_28) rfl k) ?_
  show Go p.tables e below _ (T33.setTop (mkF m 29 #[.val (.ref so), .val (.long v42xxxxxxxxx), .second, .val (.int (10 : Int32))] [(.long (v42xxxxxxxxx <<< ((4 : Int32) &&& 0x3f).toInt64))]))
  refine Go.st (fun _ k => XS.aloadN X33.here hx rfl (hb hby d_parse_29) rfl rfl k) ?_
  show Go p.tables e below _ (T33.setTop (mkF m 30 #[.val (.ref so), .val (.long v42xxxxxxxxx), .second, .val (.int (10 : Int32))] [(.ref so), (.long (v42xxxxxxxxx <<< ((4 : Int32) &&& 0x3f).toInt64))]))
  refine Go.st (fun _ k => XS.iloadN X33.here hx rfl (hb hby d_parse_30) rfl k) ?_
  show Go p.tables e below _ (T33.setTop (mkF m 31 #[.val (.ref so), .val (.long v42xxxxxxxxx), .second, .val (.int (10 : Int32))] [(.int (10 : Int32)), (.ref so), (.long (v42xxxxxxxxx <<< ((4 : Int32) &&& 0x3f).toInt64))]))
  obtain ⟨cq35, kq35, q35a, q35b, q35c⟩ := isOf hZ e33 Pf0
  obtain ⟨_, _, ⟨T35, L35, k35, n35⟩, -, X35, ⟨Lc35, hQ35, l35, y35, z35⟩, st35⟩ := X33.interfaceBack hx (xi := (⟨"java/lang/CharSequence", "charAt", "(I)C"⟩ : MethodName)) (y := (⟨"java/lang/String", "charAt", "(I)C"⟩ : MethodName)) hown (mvT hZ (hw _ (List.mem_of_getElem? (i := 72) rfl))) (mvT hZ (hw _ (List.mem_of_getElem? (i := 73) rfl))) (mvT hZ (hw _ (List.mem_of_getElem? (i := 74) rfl))) (mvT hZ (hw _ (List.mem_of_getElem? (i := 75) rfl))) (mvT hZ (hw _ (List.mem_of_getElem? (i := 76) rfl))) (mvT hZ (hw _ (List.mem_of_getElem? (i := 77) rfl))) (mvT hZ (hw _ (List.mem_of_getElem? (i := 78) rfl))) (mvT hZ (hw _ (List.mem_of_getElem? (i := 65) rfl))) (by decide) (StrChars.Road.chN (W := 2) hZ (fun d hd => hw d (own_wordsChN d hd)) (kI := 4) (hw _ (List.mem_of_getElem? (i := 29) rfl)) Pf0 Pf2 Pf1 Pf3 hcd2 hbd2 (O2.ext Pf4.2) P5 (O4.ext Pf4.2) rG3 (Nat.le_of_ble_eq_true rfl) (i := 10) (Nat.le_of_ble_eq_true rfl) (j := 10) rfl (by decide) (by decide)) q35a q35b q35c (g := (mkF m 31 #[.val (.ref so), .val (.long v42xxxxxxxxx), .second, .val (.int (10 : Int32))] [(.int (10 : Int32)), (.ref so), (.long (v42xxxxxxxxx <<< ((4 : Int32) &&& 0x3f).toInt64))])) rfl (by rw [hml]; rfl) (Steps.refl _) (argsL := [(.int (10 : Int32))]) (rest := [(.long (v42xxxxxxxxx <<< ((4 : Int32) &&& 0x3f).toInt64))]) (lenOf pd_2 rfl) rfl (by show 2 * 0 + _ ≤ _; exact Nat.le_of_eq rfl) (hb hby d_parse_31) (fun _ _ => ⟨rfl, e33, (by decide : 0 + 0 ≤ _), (by decide : 0 + 0 ≤ _)⟩)
  dsimp only [Pt.U, Pt.locs, Pt.cells, Pt.slots] at X35 l35 y35 z35 st35 hQ35
  rw [l35, y35, z35] at X35
  obtain ⟨rfl, rfl, e35⟩ := hQ35
  have N35 := Fr.app N33 (Fr.nil n0)
  refine Go.st (fun _ k => st35.trans k) ?_
  show Go p.tables e below _ (T35.setTop (mkF m 36 #[.val (.ref so), .val (.long v42xxxxxxxxx), .second, .val (.int (10 : Int32))] [(.int (dch m10)), (.long (v42xxxxxxxxx <<< ((4 : Int32) &&& 0x3f).toInt64))]))
  refine Go.st (fun _ k => XS.aloadN X35.here hx rfl (hb hby d_parse_36) rfl rfl k) ?_
  show Go p.tables e below _ (T35.setTop (mkF m 37 #[.val (.ref so), .val (.long v42xxxxxxxxx), .second, .val (.int (10 : Int32))] [(.ref so), (.int (dch m10)), (.long (v42xxxxxxxxx <<< ((4 : Int32) &&& 0x3f).toInt64))]))
  obtain ⟨_, _, ⟨T36, L36, k36, n36⟩, -, X36, ⟨Lc36, hQ36, l36, y36, z36⟩, st36⟩ := Jvm.LawKit.callS X35 hx (y := (⟨"com/example/tallyroot/tallyroot/overlay/NodeId", "hexDigit", "(CLjava/lang/CharSequence;)I"⟩ : MethodName)) hown (mvT hZ (hw _ (List.mem_of_getElem? (i := 97) rfl))) (mvT hZ (hw _ (List.mem_of_getElem? (i := 98) rfl))) (mvT hZ (hw _ (List.mem_of_getElem? (i := 3) rfl))) (mvT hZ (hw _ (List.mem_of_getElem? (i := 99) rfl))) (by decide) (backOf (W := 2) (rm_hexd l Z a0 hw [] (dch m10) so m10 h0 n0 Z0 (by show (dch m10) = dch m10; exact rfl) (by show 0 ≤ m10.toInt ∧ m10.toInt < 16; exact (hm m10 (List.mem_of_getElem? (i := 10) rfl)))) hZ (hw _ (List.mem_of_getElem? (i := 99) rfl)) (hw _ (List.mem_of_getElem? (i := 3) rfl)) (by decide) (by decide)) (g := (mkF m 37 #[.val (.ref so), .val (.long v42xxxxxxxxx), .second, .val (.int (10 : Int32))] [(.ref so), (.int (dch m10)), (.long (v42xxxxxxxxx <<< ((4 : Int32) &&& 0x3f).toInt64))])) rfl (by rw [hml]; rfl) (argsL := [(.int (dch m10)), (.ref so)]) (rest := [(.long (v42xxxxxxxxx <<< ((4 : Int32) &&& 0x3f).toInt64))]) (lenOf pd_3 rfl) rfl (by show 2 * 0 + _ ≤ _; exact Nat.le_of_eq rfl) (hb hby d_parse_37) (fun _ _ => ⟨rfl, e35, (by decide : 0 + 0 ≤ _), (by decide : 0 + 0 ≤ _)⟩)
  dsimp only [Pt.U, Pt.locs, Pt.cells, Pt.slots] at X36 l36 y36 z36 st36 hQ36
  rw [l36, y36, z36] at X36
  obtain ⟨rfl, N36q, e36⟩ := hQ36
  have N36 := Fr.app N35 N36q
  refine Go.st st36 ?_
  show Go p.tables e below _ (T36.setTop (mkF m 40 #[.val (.ref so), .val (.long v42xxxxxxxxx), .second, .val (.int (10 : Int32))] [(.int m10), (.long (v42xxxxxxxxx <<< ((4 : Int32) &&& 0x3f).toInt64))]))
  refine Go.st (fun _ k => XS.i2l X36.here hx rfl (hb hby d_parse_40) rfl k) ?_
  show Go p.tables e below _ (T36.setTop (mkF m 41 #[.val (.ref so), .val (.long v42xxxxxxxxx), .second, .val (.int (10 : Int32))] [(.long (m10.toInt64)), (.long (v42xxxxxxxxx <<< ((4 : Int32) &&& 0x3f).toInt64))]))
  refine Go.st (fun _ k => XS.lor X36.here hx rfl (hb hby d_parse_41) rfl k) ?_
  show Go p.tables e below _ (T36.setTop (mkF m 42 #[.val (.ref so), .val (.long v42xxxxxxxxx), .second, .val (.int (10 : Int32))] [(.long (stepF v42xxxxxxxxx m10))]))
  refine Go.st (fun _ k => XS.lstoreN X36.here hx rfl (hb hby d_parse_42) rfl (l' := #[.val (.ref so), .val (.long (stepF v42xxxxxxxxx m10)), .second, .val (.int (10 : Int32))]) rfl k) ?_
  show Go p.tables e below _ (T36.setTop (mkF m 43 #[.val (.ref so), .val (.long (stepF v42xxxxxxxxx m10)), .second, .val (.int (10 : Int32))] []))
  generalize hqv42xxxxxxxxxx : (stepF v42xxxxxxxxx m10) = v42xxxxxxxxxx
  show Go p.tables e below _ (T36.setTop (mkF m 43 #[.val (.ref so), .val (.long v42xxxxxxxxxx), .second, .val (.int (10 : Int32))] []))
  refine Go.st (fun _ k => XS.iinc X36.here hx rfl (hb hby d_parse_43) rfl (l' := #[.val (.ref so), .val (.long v42xxxxxxxxxx), .second, .val (.int ((10 : Int32) + (1 : Int32)))]) rfl k) ?_
  show Go p.tables e below _ (T36.setTop (mkF m 46 #[.val (.ref so), .val (.long v42xxxxxxxxxx), .second, .val (.int ((10 : Int32) + (1 : Int32)))] []))
  rw [show ((10 : Int32) + (1 : Int32)) = (11 : Int32) from by decide]
  show Go p.tables e below _ (T36.setTop (mkF m 46 #[.val (.ref so), .val (.long v42xxxxxxxxxx), .second, .val (.int (11 : Int32))] []))
  refine Go.st (fun _ k => XS.goto X36.here hx rfl (pc0 := 46) (pc' := 20) rfl (hb hby d_parse_46) (by decide) (by decide) k) ?_
  show Go p.tables e below _ (T36.setTop (mkF m 20 #[.val (.ref so), .val (.long v42xxxxxxxxxx), .second, .val (.int (11 : Int32))] []))
  refine Go.st (fun _ k => XS.iloadN X36.here hx rfl (hb hby d_parse_20) rfl k) ?_
  show Go p.tables e below _ (T36.setTop (mkF m 21 #[.val (.ref so), .val (.long v42xxxxxxxxxx), .second, .val (.int (11 : Int32))] [(.int (11 : Int32))]))
  refine Go.st (fun _ k => XS.bipush X36.here hx rfl (hb hby d_parse_21) k) ?_
  show Go p.tables e below _ (T36.setTop (mkF m 23 #[.val (.ref so), .val (.long v42xxxxxxxxxx), .second, .val (.int (11 : Int32))] [(.int (16 : Int32)), (.int (11 : Int32))]))
  have hl37 : (11 : Int32) < (16 : Int32) := by decide
  refine Go.st (fun _ k => XS.icmpNo X36.here hx rfl (hb hby d_parse_23) rfl (Jvm.Free.XT.ii_ge_f hl37) k) ?_
  show Go p.tables e below _ (T36.setTop (mkF m 26 #[.val (.ref so), .val (.long v42xxxxxxxxxx), .second, .val (.int (11 : Int32))] []))
  refine Go.st (fun _ k => XS.lloadN X36.here hx rfl (hb hby d_parse_26) rfl k) ?_
  show Go p.tables e below _ (T36.setTop (mkF m 27 #[.val (.ref so), .val (.long v42xxxxxxxxxx), .second, .val (.int (11 : Int32))] [(.long v42xxxxxxxxxx)]))
  refine Go.st (fun _ k => XS.iconst X36.here hx rfl (hb hby d_parse_27) k) ?_
  show Go p.tables e below _ (T36.setTop (mkF m 28 #[.val (.ref so), .val (.long v42xxxxxxxxxx), .second, .val (.int (11 : Int32))] [(.int (4 : Int32)), (.long v42xxxxxxxxxx)]))
  refine Go.st (fun _ k => XS.lshl X36.here hx rfl (hb hby d_parse_28) rfl k) ?_
  show Go p.tables e below _ (T36.setTop (mkF m 29 #[.val (.ref so), .val (.long v42xxxxxxxxxx), .second, .val (.int (11 : Int32))] [(.long (v42xxxxxxxxxx <<< ((4 : Int32) &&& 0x3f).toInt64))]))
  refine Go.st (fun _ k => XS.aloadN X36.here hx rfl (hb hby d_parse_29) rfl rfl k) ?_
  show Go p.tables e below _ (T36.setTop (mkF m 30 #[.val (.ref so), .val (.long v42xxxxxxxxxx), .second, .val (.int (11 : Int32))] [(.ref so), (.long (v42xxxxxxxxxx <<< ((4 : Int32) &&& 0x3f).toInt64))]))
  refine Go.st (fun _ k => XS.iloadN X36.here hx rfl (hb hby d_parse_30) rfl k) ?_
  show Go p.tables e below _ (T36.setTop (mkF m 31 #[.val (.ref so), .val (.long v42xxxxxxxxxx), .second, .val (.int (11 : Int32))] [(.int (11 : Int32)), (.ref so), (.long (v42xxxxxxxxxx <<< ((4 : Int32) &&& 0x3f).toInt64))]))
  obtain ⟨cq38, kq38, q38a, q38b, q38c⟩ := isOf hZ e36 Pf0
  obtain ⟨_, _, ⟨T38, L38, k38, n38⟩, -, X38, ⟨Lc38, hQ38, l38, y38, z38⟩, st38⟩ := X36.interfaceBack hx (xi := (⟨"java/lang/CharSequence", "charAt", "(I)C"⟩ : MethodName)) (y := (⟨"java/lang/String", "charAt", "(I)C"⟩ : MethodName)) hown (mvT hZ (hw _ (List.mem_of_getElem? (i := 72) rfl))) (mvT hZ (hw _ (List.mem_of_getElem? (i := 73) rfl))) (mvT hZ (hw _ (List.mem_of_getElem? (i := 74) rfl))) (mvT hZ (hw _ (List.mem_of_getElem? (i := 75) rfl))) (mvT hZ (hw _ (List.mem_of_getElem? (i := 76) rfl))) (mvT hZ (hw _ (List.mem_of_getElem? (i := 77) rfl))) (mvT hZ (hw _ (List.mem_of_getElem? (i := 78) rfl))) (mvT hZ (hw _ (List.mem_of_getElem? (i := 65) rfl))) (by decide) (StrChars.Road.chN (W := 2) hZ (fun d hd => hw d (own_wordsChN d hd)) (kI := 4) (hw _ (List.mem_of_getElem? (i := 29) rfl)) Pf0 Pf2 Pf1 Pf3 hcd2 hbd2 (O2.ext Pf4.2) P5 (O4.ext Pf4.2) rG3 (Nat.le_of_ble_eq_true rfl) (i := 11) (Nat.le_of_ble_eq_true rfl) (j := 11) rfl (by decide) (by decide)) q38a q38b q38c (g := (mkF m 31 #[.val (.ref so), .val (.long v42xxxxxxxxxx), .second, .val (.int (11 : Int32))] [(.int (11 : Int32)), (.ref so), (.long (v42xxxxxxxxxx <<< ((4 : Int32) &&& 0x3f).toInt64))])) rfl (by rw [hml]; rfl) (Steps.refl _) (argsL := [(.int (11 : Int32))]) (rest := [(.long (v42xxxxxxxxxx <<< ((4 : Int32) &&& 0x3f).toInt64))]) (lenOf pd_2 rfl) rfl (by show 2 * 0 + _ ≤ _; exact Nat.le_of_eq rfl) (hb hby d_parse_31) (fun _ _ => ⟨rfl, e36, (by decide : 0 + 0 ≤ _), (by decide : 0 + 0 ≤ _)⟩)
  dsimp only [Pt.U, Pt.locs, Pt.cells, Pt.slots] at X38 l38 y38 z38 st38 hQ38
  rw [l38, y38, z38] at X38
  obtain ⟨rfl, rfl, e38⟩ := hQ38
  have N38 := Fr.app N36 (Fr.nil n0)
  refine Go.st (fun _ k => st38.trans k) ?_
  show Go p.tables e below _ (T38.setTop (mkF m 36 #[.val (.ref so), .val (.long v42xxxxxxxxxx), .second, .val (.int (11 : Int32))] [(.int (dch m11)), (.long (v42xxxxxxxxxx <<< ((4 : Int32) &&& 0x3f).toInt64))]))
  refine Go.st (fun _ k => XS.aloadN X38.here hx rfl (hb hby d_parse_36) rfl rfl k) ?_
  show Go p.tables e below _ (T38.setTop (mkF m 37 #[.val (.ref so), .val (.long v42xxxxxxxxxx), .second, .val (.int (11 : Int32))] [(.ref so), (.int (dch m11)), (.long (v42xxxxxxxxxx <<< ((4 : Int32) &&& 0x3f).toInt64))]))
  obtain ⟨_, _, ⟨T39, L39, k39, n39⟩, -, X39, ⟨Lc39, hQ39, l39, y39, z39⟩, st39⟩ := Jvm.LawKit.callS X38 hx (y := (⟨"com/example/tallyroot/tallyroot/overlay/NodeId", "hexDigit", "(CLjava/lang/CharSequence;)I"⟩ : MethodName)) hown (mvT hZ (hw _ (List.mem_of_getElem? (i := 97) rfl))) (mvT hZ (hw _ (List.mem_of_getElem? (i := 98) rfl))) (mvT hZ (hw _ (List.mem_of_getElem? (i := 3) rfl))) (mvT hZ (hw _ (List.mem_of_getElem? (i := 99) rfl))) (by decide) (backOf (W := 2) (rm_hexd l Z a0 hw [] (dch m11) so m11 h0 n0 Z0 (by show (dch m11) = dch m11; exact rfl) (by show 0 ≤ m11.toInt ∧ m11.toInt < 16; exact (hm m11 (List.mem_of_getElem? (i := 11) rfl)))) hZ (hw _ (List.mem_of_getElem? (i := 99) rfl)) (hw _ (List.mem_of_getElem? (i := 3) rfl)) (by decide) (by decide)) (g := (mkF m 37 #[.val (.ref so), .val (.long v42xxxxxxxxxx), .second, .val (.int (11 : Int32))] [(.ref so), (.int (dch m11)), (.long (v42xxxxxxxxxx <<< ((4 : Int32) &&& 0x3f).toInt64))])) rfl (by rw [hml]; rfl) (argsL := [(.int (dch m11)), (.ref so)]) (rest := [(.long (v42xxxxxxxxxx <<< ((4 : Int32) &&& 0x3f).toInt64))]) (lenOf pd_3 rfl) rfl (by show 2 * 0 + _ ≤ _; exact Nat.le_of_eq rfl) (hb hby d_parse_37) (fun _ _ => ⟨rfl, e38, (by decide : 0 + 0 ≤ _), (by decide : 0 + 0 ≤ _)⟩)
  dsimp only [Pt.U, Pt.locs, Pt.cells, Pt.slots] at X39 l39 y39 z39 st39 hQ39
  rw [l39, y39, z39] at X39
  obtain ⟨rfl, N39q, e39⟩ := hQ39
  have N39 := Fr.app N38 N39q
  refine Go.st st39 ?_
  show Go p.tables e below _ (T39.setTop (mkF m 40 #[.val (.ref so), .val (.long v42xxxxxxxxxx), .second, .val (.int (11 : Int32))] [(.int m11), (.long (v42xxxxxxxxxx <<< ((4 : Int32) &&& 0x3f).toInt64))]))
  refine Go.st (fun _ k => XS.i2l X39.here hx rfl (hb hby d_parse_40) rfl k) ?_
  show Go p.tables e below _ (T39.setTop (mkF m 41 #[.val (.ref so), .val (.long v42xxxxxxxxxx), .second, .val (.int (11 : Int32))] [(.long (m11.toInt64)), (.long (v42xxxxxxxxxx <<< ((4 : Int32) &&& 0x3f).toInt64))]))
  refine Go.st (fun _ k => XS.lor X39.here hx rfl (hb hby d_parse_41) rfl k) ?_
  show Go p.tables e below _ (T39.setTop (mkF m 42 #[.val (.ref so), .val (.long v42xxxxxxxxxx), .second, .val (.int (11 : Int32))] [(.long (stepF v42xxxxxxxxxx m11))]))
  refine Go.st (fun _ k => XS.lstoreN X39.here hx rfl (hb hby d_parse_42) rfl (l' := #[.val (.ref so), .val (.long (stepF v42xxxxxxxxxx m11)), .second, .val (.int (11 : Int32))]) rfl k) ?_
  show Go p.tables e below _ (T39.setTop (mkF m 43 #[.val (.ref so), .val (.long (stepF v42xxxxxxxxxx m11)), .second, .val (.int (11 : Int32))] []))
  generalize hqv42xxxxxxxxxxx : (stepF v42xxxxxxxxxx m11) = v42xxxxxxxxxxx
  show Go p.tables e below _ (T39.setTop (mkF m 43 #[.val (.ref so), .val (.long v42xxxxxxxxxxx), .second, .val (.int (11 : Int32))] []))
  refine Go.st (fun _ k => XS.iinc X39.here hx rfl (hb hby d_parse_43) rfl (l' := #[.val (.ref so), .val (.long v42xxxxxxxxxxx), .second, .val (.int ((11 : Int32) + (1 : Int32)))]) rfl k) ?_
  show Go p.tables e below _ (T39.setTop (mkF m 46 #[.val (.ref so), .val (.long v42xxxxxxxxxxx), .second, .val (.int ((11 : Int32) + (1 : Int32)))] []))
  rw [show ((11 : Int32) + (1 : Int32)) = (12 : Int32) from by decide]
  show Go p.tables e below _ (T39.setTop (mkF m 46 #[.val (.ref so), .val (.long v42xxxxxxxxxxx), .second, .val (.int (12 : Int32))] []))
  refine Go.st (fun _ k => XS.goto X39.here hx rfl (pc0 := 46) (pc' := 20) rfl (hb hby d_parse_46) (by decide) (by decide) k) ?_
  show Go p.tables e below _ (T39.setTop (mkF m 20 #[.val (.ref so), .val (.long v42xxxxxxxxxxx), .second, .val (.int (12 : Int32))] []))
  refine Go.st (fun _ k => XS.iloadN X39.here hx rfl (hb hby d_parse_20) rfl k) ?_
  show Go p.tables e below _ (T39.setTop (mkF m 21 #[.val (.ref so), .val (.long v42xxxxxxxxxxx), .second, .val (.int (12 : Int32))] [(.int (12 : Int32))]))
  refine Go.st (fun _ k => XS.bipush X39.here hx rfl (hb hby d_parse_21) k) ?_
  show Go p.tables e below _ (T39.setTop (mkF m 23 #[.val (.ref so), .val (.long v42xxxxxxxxxxx), .second, .val (.int (12 : Int32))] [(.int (16 : Int32)), (.int (12 : Int32))]))
  have hl40 : (12 : Int32) < (16 : Int32) := by decide
  refine Go.st (fun _ k => XS.icmpNo X39.here hx rfl (hb hby d_parse_23) rfl (Jvm.Free.XT.ii_ge_f hl40) k) ?_
  show Go p.tables e below _ (T39.setTop (mkF m 26 #[.val (.ref so), .val (.long v42xxxxxxxxxxx), .second, .val (.int (12 : Int32))] []))
  refine Go.st (fun _ k => XS.lloadN X39.here hx rfl (hb hby d_parse_26) rfl k) ?_
  show Go p.tables e below _ (T39.setTop (mkF m 27 #[.val (.ref so), .val (.long v42xxxxxxxxxxx), .second, .val (.int (12 : Int32))] [(.long v42xxxxxxxxxxx)]))
  refine Go.st (fun _ k => XS.iconst X39.here hx rfl (hb hby d_parse_27) k) ?_
  show Go p.tables e below _ (T39.setTop (mkF m 28 #[.val (.ref so), .val (.long v42xxxxxxxxxxx), .second, .val (.int (12 : Int32))] [(.int (4 : Int32)), (.long v42xxxxxxxxxxx)]))
  refine Go.st (fun _ k => XS.lshl X39.here hx rfl (hb hby d_parse_28) rfl k) ?_
  show Go p.tables e below _ (T39.setTop (mkF m 29 #[.val (.ref so), .val (.long v42xxxxxxxxxxx), .second, .val (.int (12 : Int32))] [(.long (v42xxxxxxxxxxx <<< ((4 : Int32) &&& 0x3f).toInt64))]))
  refine Go.st (fun _ k => XS.aloadN X39.here hx rfl (hb hby d_parse_29) rfl rfl k) ?_
  show Go p.tables e below _ (T39.setTop (mkF m 30 #[.val (.ref so), .val (.long v42xxxxxxxxxxx), .second, .val (.int (12 : Int32))] [(.ref so), (.long (v42xxxxxxxxxxx <<< ((4 : Int32) &&& 0x3f).toInt64))]))
  refine Go.st (fun _ k => XS.iloadN X39.here hx rfl (hb hby d_parse_30) rfl k) ?_
  show Go p.tables e below _ (T39.setTop (mkF m 31 #[.val (.ref so), .val (.long v42xxxxxxxxxxx), .second, .val (.int (12 : Int32))] [(.int (12 : Int32)), (.ref so), (.long (v42xxxxxxxxxxx <<< ((4 : Int32) &&& 0x3f).toInt64))]))
  obtain ⟨cq41, kq41, q41a, q41b, q41c⟩ := isOf hZ e39 Pf0
  obtain ⟨_, _, ⟨T41, L41, k41, n41⟩, -, X41, ⟨Lc41, hQ41, l41, y41, z41⟩, st41⟩ := X39.interfaceBack hx (xi := (⟨"java/lang/CharSequence", "charAt", "(I)C"⟩ : MethodName)) (y := (⟨"java/lang/String", "charAt", "(I)C"⟩ : MethodName)) hown (mvT hZ (hw _ (List.mem_of_getElem? (i := 72) rfl))) (mvT hZ (hw _ (List.mem_of_getElem? (i := 73) rfl))) (mvT hZ (hw _ (List.mem_of_getElem? (i := 74) rfl))) (mvT hZ (hw _ (List.mem_of_getElem? (i := 75) rfl))) (mvT hZ (hw _ (List.mem_of_getElem? (i := 76) rfl))) (mvT hZ (hw _ (List.mem_of_getElem? (i := 77) rfl))) (mvT hZ (hw _ (List.mem_of_getElem? (i := 78) rfl))) (mvT hZ (hw _ (List.mem_of_getElem? (i := 65) rfl))) (by decide) (StrChars.Road.chN (W := 2) hZ (fun d hd => hw d (own_wordsChN d hd)) (kI := 4) (hw _ (List.mem_of_getElem? (i := 29) rfl)) Pf0 Pf2 Pf1 Pf3 hcd2 hbd2 (O2.ext Pf4.2) P5 (O4.ext Pf4.2) rG3 (Nat.le_of_ble_eq_true rfl) (i := 12) (Nat.le_of_ble_eq_true rfl) (j := 12) rfl (by decide) (by decide)) q41a q41b q41c (g := (mkF m 31 #[.val (.ref so), .val (.long v42xxxxxxxxxxx), .second, .val (.int (12 : Int32))] [(.int (12 : Int32)), (.ref so), (.long (v42xxxxxxxxxxx <<< ((4 : Int32) &&& 0x3f).toInt64))])) rfl (by rw [hml]; rfl) (Steps.refl _) (argsL := [(.int (12 : Int32))]) (rest := [(.long (v42xxxxxxxxxxx <<< ((4 : Int32) &&& 0x3f).toInt64))]) (lenOf pd_2 rfl) rfl (by show 2 * 0 + _ ≤ _; exact Nat.le_of_eq rfl) (hb hby d_parse_31) (fun _ _ => ⟨rfl, e39, (by decide : 0 + 0 ≤ _), (by decide : 0 + 0 ≤ _)⟩)
  dsimp only [Pt.U, Pt.locs, Pt.cells, Pt.slots] at X41 l41 y41 z41 st41 hQ41
  rw [l41, y41, z41] at X41
  obtain ⟨rfl, rfl, e41⟩ := hQ41
  have N41 := Fr.app N39 (Fr.nil n0)
  refine Go.st (fun _ k => st41.trans k) ?_
  show Go p.tables e below _ (T41.setTop (mkF m 36 #[.val (.ref so), .val (.long v42xxxxxxxxxxx), .second, .val (.int (12 : Int32))] [(.int (dch m12)), (.long (v42xxxxxxxxxxx <<< ((4 : Int32) &&& 0x3f).toInt64))]))
  refine Go.st (fun _ k => XS.aloadN X41.here hx rfl (hb hby d_parse_36) rfl rfl k) ?_
  show Go p.tables e below _ (T41.setTop (mkF m 37 #[.val (.ref so), .val (.long v42xxxxxxxxxxx), .second, .val (.int (12 : Int32))] [(.ref so), (.int (dch m12)), (.long (v42xxxxxxxxxxx <<< ((4 : Int32) &&& 0x3f).toInt64))]))
  obtain ⟨_, _, ⟨T42, L42, k42, n42⟩, -, X42, ⟨Lc42, hQ42, l42, y42, z42⟩, st42⟩ := Jvm.LawKit.callS X41 hx (y := (⟨"com/example/tallyroot/tallyroot/overlay/NodeId", "hexDigit", "(CLjava/lang/CharSequence;)I"⟩ : MethodName)) hown (mvT hZ (hw _ (List.mem_of_getElem? (i := 97) rfl))) (mvT hZ (hw _ (List.mem_of_getElem? (i := 98) rfl))) (mvT hZ (hw _ (List.mem_of_getElem? (i := 3) rfl))) (mvT hZ (hw _ (List.mem_of_getElem? (i := 99) rfl))) (by decide) (backOf (W := 2) (rm_hexd l Z a0 hw [] (dch m12) so m12 h0 n0 Z0 (by show (dch m12) = dch m12; exact rfl) (by show 0 ≤ m12.toInt ∧ m12.toInt < 16; exact (hm m12 (List.mem_of_getElem? (i := 12) rfl)))) hZ (hw _ (List.mem_of_getElem? (i := 99) rfl)) (hw _ (List.mem_of_getElem? (i := 3) rfl)) (by decide) (by decide)) (g := (mkF m 37 #[.val (.ref so), .val (.long v42xxxxxxxxxxx), .second, .val (.int (12 : Int32))] [(.ref so), (.int (dch m12)), (.long (v42xxxxxxxxxxx <<< ((4 : Int32) &&& 0x3f).toInt64))])) rfl (by rw [hml]; rfl) (argsL := [(.int (dch m12)), (.ref so)]) (rest := [(.long (v42xxxxxxxxxxx <<< ((4 : Int32) &&& 0x3f).toInt64))]) (lenOf pd_3 rfl) rfl (by show 2 * 0 + _ ≤ _; exact Nat.le_of_eq rfl) (hb hby d_parse_37) (fun _ _ => ⟨rfl, e41, (by decide : 0 + 0 ≤ _), (by decide : 0 + 0 ≤ _)⟩)
  dsimp only [Pt.U, Pt.locs, Pt.cells, Pt.slots] at X42 l42 y42 z42 st42 hQ42
  rw [l42, y42, z42] at X42
  obtain ⟨rfl, N42q, e42⟩ := hQ42
  have N42 := Fr.app N41 N42q
  refine Go.st st42 ?_
  show Go p.tables e below _ (T42.setTop (mkF m 40 #[.val (.ref so), .val (.long v42xxxxxxxxxxx), .second, .val (.int (12 : Int32))] [(.int m12), (.long (v42xxxxxxxxxxx <<< ((4 : Int32) &&& 0x3f).toInt64))]))
  refine Go.st (fun _ k => XS.i2l X42.here hx rfl (hb hby d_parse_40) rfl k) ?_
  show Go p.tables e below _ (T42.setTop (mkF m 41 #[.val (.ref so), .val (.long v42xxxxxxxxxxx), .second, .val (.int (12 : Int32))] [(.long (m12.toInt64)), (.long (v42xxxxxxxxxxx <<< ((4 : Int32) &&& 0x3f).toInt64))]))
  refine Go.st (fun _ k => XS.lor X42.here hx rfl (hb hby d_parse_41) rfl k) ?_
  show Go p.tables e below _ (T42.setTop (mkF m 42 #[.val (.ref so), .val (.long v42xxxxxxxxxxx), .second, .val (.int (12 : Int32))] [(.long (stepF v42xxxxxxxxxxx m12))]))
  refine Go.st (fun _ k => XS.lstoreN X42.here hx rfl (hb hby d_parse_42) rfl (l' := #[.val (.ref so), .val (.long (stepF v42xxxxxxxxxxx m12)), .second, .val (.int (12 : Int32))]) rfl k) ?_
  show Go p.tables e below _ (T42.setTop (mkF m 43 #[.val (.ref so), .val (.long (stepF v42xxxxxxxxxxx m12)), .second, .val (.int (12 : Int32))] []))
  generalize hqv42xxxxxxxxxxxx : (stepF v42xxxxxxxxxxx m12) = v42xxxxxxxxxxxx
  show Go p.tables e below _ (T42.setTop (mkF m 43 #[.val (.ref so), .val (.long v42xxxxxxxxxxxx), .second, .val (.int (12 : Int32))] []))
  refine Go.st (fun _ k => XS.iinc X42.here hx rfl (hb hby d_parse_43) rfl (l' := #[.val (.ref so), .val (.long v42xxxxxxxxxxxx), .second, .val (.int ((12 : Int32) + (1 : Int32)))]) rfl k) ?_
  show Go p.tables e below _ (T42.setTop (mkF m 46 #[.val (.ref so), .val (.long v42xxxxxxxxxxxx), .second, .val (.int ((12 : Int32) + (1 : Int32)))] []))
  rw [show ((12 : Int32) + (1 : Int32)) = (13 : Int32) from by decide]
  show Go p.tables e below _ (T42.setTop (mkF m 46 #[.val (.ref so), .val (.long v42xxxxxxxxxxxx), .second, .val (.int (13 : Int32))] []))
  refine Go.st (fun _ k => XS.goto X42.here hx rfl (pc0 := 46) (pc' := 20) rfl (hb hby d_parse_46) (by decide) (by decide) k) ?_
  show Go p.tables e below _ (T42.setTop (mkF m 20 #[.val (.ref so), .val (.long v42xxxxxxxxxxxx), .second, .val (.int (13 : Int32))] []))
  refine Go.st (fun _ k => XS.iloadN X42.here hx rfl (hb hby d_parse_20) rfl k) ?_
  show Go p.tables e below _ (T42.setTop (mkF m 21 #[.val (.ref so), .val (.long v42xxxxxxxxxxxx), .second, .val (.int (13 : Int32))] [(.int (13 : Int32))]))
  refine Go.st (fun _ k => XS.bipush X42.here hx rfl (hb hby d_parse_21) k) ?_
  show Go p.tables e below _ (T42.setTop (mkF m 23 #[.val (.ref so), .val (.long v42xxxxxxxxxxxx), .second, .val (.int (13 : Int32))] [(.int (16 : Int32)), (.int (13 : Int32))]))
  have hl43 : (13 : Int32) < (16 : Int32) := by decide
  refine Go.st (fun _ k => XS.icmpNo X42.here hx rfl (hb hby d_parse_23) rfl (Jvm.Free.XT.ii_ge_f hl43) k) ?_
  show Go p.tables e below _ (T42.setTop (mkF m 26 #[.val (.ref so), .val (.long v42xxxxxxxxxxxx), .second, .val (.int (13 : Int32))] []))
  refine Go.st (fun _ k => XS.lloadN X42.here hx rfl (hb hby d_parse_26) rfl k) ?_
  show Go p.tables e below _ (T42.setTop (mkF m 27 #[.val (.ref so), .val (.long v42xxxxxxxxxxxx), .second, .val (.int (13 : Int32))] [(.long v42xxxxxxxxxxxx)]))
  refine Go.st (fun _ k => XS.iconst X42.here hx rfl (hb hby d_parse_27) k) ?_
  show Go p.tables e below _ (T42.setTop (mkF m 28 #[.val (.ref so), .val (.long v42xxxxxxxxxxxx), .second, .val (.int (13 : Int32))] [(.int (4 : Int32)), (.long v42xxxxxxxxxxxx)]))
  refine Go.st (fun _ k => XS.lshl X42.here hx rfl (hb hby d_parse_28) rfl k) ?_
  show Go p.tables e below _ (T42.setTop (mkF m 29 #[.val (.ref so), .val (.long v42xxxxxxxxxxxx), .second, .val (.int (13 : Int32))] [(.long (v42xxxxxxxxxxxx <<< ((4 : Int32) &&& 0x3f).toInt64))]))
  refine Go.st (fun _ k => XS.aloadN X42.here hx rfl (hb hby d_parse_29) rfl rfl k) ?_
  show Go p.tables e below _ (T42.setTop (mkF m 30 #[.val (.ref so), .val (.long v42xxxxxxxxxxxx), .second, .val (.int (13 : Int32))] [(.ref so), (.long (v42xxxxxxxxxxxx <<< ((4 : Int32) &&& 0x3f).toInt64))]))
  refine Go.st (fun _ k => XS.iloadN X42.here hx rfl (hb hby d_parse_30) rfl k) ?_
  show Go p.tables e below _ (T42.setTop (mkF m 31 #[.val (.ref so), .val (.long v42xxxxxxxxxxxx), .second, .val (.int (13 : Int32))] [(.int (13 : Int32)), (.ref so), (.long (v42xxxxxxxxxxxx <<< ((4 : Int32) &&& 0x3f).toInt64))]))
  obtain ⟨cq44, kq44, q44a, q44b, q44c⟩ := isOf hZ e42 Pf0
  obtain ⟨_, _, ⟨T44, L44, k44, n44⟩, -, X44, ⟨Lc44, hQ44, l44, y44, z44⟩, st44⟩ := X42.interfaceBack hx (xi := (⟨"java/lang/CharSequence", "charAt", "(I)C"⟩ : MethodName)) (y := (⟨"java/lang/String", "charAt", "(I)C"⟩ : MethodName)) hown (mvT hZ (hw _ (List.mem_of_getElem? (i := 72) rfl))) (mvT hZ (hw _ (List.mem_of_getElem? (i := 73) rfl))) (mvT hZ (hw _ (List.mem_of_getElem? (i := 74) rfl))) (mvT hZ (hw _ (List.mem_of_getElem? (i := 75) rfl))) (mvT hZ (hw _ (List.mem_of_getElem? (i := 76) rfl))) (mvT hZ (hw _ (List.mem_of_getElem? (i := 77) rfl))) (mvT hZ (hw _ (List.mem_of_getElem? (i := 78) rfl))) (mvT hZ (hw _ (List.mem_of_getElem? (i := 65) rfl))) (by decide) (StrChars.Road.chN (W := 2) hZ (fun d hd => hw d (own_wordsChN d hd)) (kI := 4) (hw _ (List.mem_of_getElem? (i := 29) rfl)) Pf0 Pf2 Pf1 Pf3 hcd2 hbd2 (O2.ext Pf4.2) P5 (O4.ext Pf4.2) rG3 (Nat.le_of_ble_eq_true rfl) (i := 13) (Nat.le_of_ble_eq_true rfl) (j := 13) rfl (by decide) (by decide)) q44a q44b q44c (g := (mkF m 31 #[.val (.ref so), .val (.long v42xxxxxxxxxxxx), .second, .val (.int (13 : Int32))] [(.int (13 : Int32)), (.ref so), (.long (v42xxxxxxxxxxxx <<< ((4 : Int32) &&& 0x3f).toInt64))])) rfl (by rw [hml]; rfl) (Steps.refl _) (argsL := [(.int (13 : Int32))]) (rest := [(.long (v42xxxxxxxxxxxx <<< ((4 : Int32) &&& 0x3f).toInt64))]) (lenOf pd_2 rfl) rfl (by show 2 * 0 + _ ≤ _; exact Nat.le_of_eq rfl) (hb hby d_parse_31) (fun _ _ => ⟨rfl, e42, (by decide : 0 + 0 ≤ _), (by decide : 0 + 0 ≤ _)⟩)
  dsimp only [Pt.U, Pt.locs, Pt.cells, Pt.slots] at X44 l44 y44 z44 st44 hQ44
  rw [l44, y44, z44] at X44
  obtain ⟨rfl, rfl, e44⟩ := hQ44
  have N44 := Fr.app N42 (Fr.nil n0)
  refine Go.st (fun _ k => st44.trans k) ?_
  show Go p.tables e below _ (T44.setTop (mkF m 36 #[.val (.ref so), .val (.long v42xxxxxxxxxxxx), .second, .val (.int (13 : Int32))] [(.int (dch m13)), (.long (v42xxxxxxxxxxxx <<< ((4 : Int32) &&& 0x3f).toInt64))]))
  refine Go.st (fun _ k => XS.aloadN X44.here hx rfl (hb hby d_parse_36) rfl rfl k) ?_
  show Go p.tables e below _ (T44.setTop (mkF m 37 #[.val (.ref so), .val (.long v42xxxxxxxxxxxx), .second, .val (.int (13 : Int32))] [(.ref so), (.int (dch m13)), (.long (v42xxxxxxxxxxxx <<< ((4 : Int32) &&& 0x3f).toInt64))]))
  obtain ⟨_, _, ⟨T45, L45, k45, n45⟩, -, X45, ⟨Lc45, hQ45, l45, y45, z45⟩, st45⟩ := Jvm.LawKit.callS X44 hx (y := (⟨"com/example/tallyroot/tallyroot/overlay/NodeId", "hexDigit", "(CLjava/lang/CharSequence;)I"⟩ : MethodName)) hown (mvT hZ (hw _ (List.mem_of_getElem? (i := 97) rfl))) (mvT hZ (hw _ (List.mem_of_getElem? (i := 98) rfl))) (mvT hZ (hw _ (List.mem_of_getElem? (i := 3) rfl))) (mvT hZ (hw _ (List.mem_of_getElem? (i := 99) rfl))) (by decide) (backOf (W := 2) (rm_hexd l Z a0 hw [] (dch m13) so m13 h0 n0 Z0 (by show (dch m13) = dch m13; exact rfl) (by show 0 ≤ m13.toInt ∧ m13.toInt < 16; exact (hm m13 (List.mem_of_getElem? (i := 13) rfl)))) hZ (hw _ (List.mem_of_getElem? (i := 99) rfl)) (hw _ (List.mem_of_getElem? (i := 3) rfl)) (by decide) (by decide)) (g := (mkF m 37 #[.val (.ref so), .val (.long v42xxxxxxxxxxxx), .second, .val (.int (13 : Int32))] [(.ref so), (.int (dch m13)), (.long (v42xxxxxxxxxxxx <<< ((4 : Int32) &&& 0x3f).toInt64))])) rfl (by rw [hml]; rfl) (argsL := [(.int (dch m13)), (.ref so)]) (rest := [(.long (v42xxxxxxxxxxxx <<< ((4 : Int32) &&& 0x3f).toInt64))]) (lenOf pd_3 rfl) rfl (by show 2 * 0 + _ ≤ _; exact Nat.le_of_eq rfl) (hb hby d_parse_37) (fun _ _ => ⟨rfl, e44, (by decide : 0 + 0 ≤ _), (by decide : 0 + 0 ≤ _)⟩)
  dsimp only [Pt.U, Pt.locs, Pt.cells, Pt.slots] at X45 l45 y45 z45 st45 hQ45
  rw [l45, y45, z45] at X45
  obtain ⟨rfl, N45q, e45⟩ := hQ45
  have N45 := Fr.app N44 N45q
  refine Go.st st45 ?_
  show Go p.tables e below _ (T45.setTop (mkF m 40 #[.val (.ref so), .val (.long v42xxxxxxxxxxxx), .second, .val (.int (13 : Int32))] [(.int m13), (.long (v42xxxxxxxxxxxx <<< ((4 : Int32) &&& 0x3f).toInt64))]))
  refine Go.st (fun _ k => XS.i2l X45.here hx rfl (hb hby d_parse_40) rfl k) ?_
  show Go p.tables e below _ (T45.setTop (mkF m 41 #[.val (.ref so), .val (.long v42xxxxxxxxxxxx), .second, .val (.int (13 : Int32))] [(.long (m13.toInt64)), (.long (v42xxxxxxxxxxxx <<< ((4 : Int32) &&& 0x3f).toInt64))]))
  refine Go.st (fun _ k => XS.lor X45.here hx rfl (hb hby d_parse_41) rfl k) ?_
  show Go p.tables e below _ (T45.setTop (mkF m 42 #[.val (.ref so), .val (.long v42xxxxxxxxxxxx), .second, .val (.int (13 : Int32))] [(.long (stepF v42xxxxxxxxxxxx m13))]))
  refine Go.st (fun _ k => XS.lstoreN X45.here hx rfl (hb hby d_parse_42) rfl (l' := #[.val (.ref so), .val (.long (stepF v42xxxxxxxxxxxx m13)), .second, .val (.int (13 : Int32))]) rfl k) ?_
  show Go p.tables e below _ (T45.setTop (mkF m 43 #[.val (.ref so), .val (.long (stepF v42xxxxxxxxxxxx m13)), .second, .val (.int (13 : Int32))] []))
  generalize hqv42xxxxxxxxxxxxx : (stepF v42xxxxxxxxxxxx m13) = v42xxxxxxxxxxxxx
  show Go p.tables e below _ (T45.setTop (mkF m 43 #[.val (.ref so), .val (.long v42xxxxxxxxxxxxx), .second, .val (.int (13 : Int32))] []))
  refine Go.st (fun _ k => XS.iinc X45.here hx rfl (hb hby d_parse_43) rfl (l' := #[.val (.ref so), .val (.long v42xxxxxxxxxxxxx), .second, .val (.int ((13 : Int32) + (1 : Int32)))]) rfl k) ?_
  show Go p.tables e below _ (T45.setTop (mkF m 46 #[.val (.ref so), .val (.long v42xxxxxxxxxxxxx), .second, .val (.int ((13 : Int32) + (1 : Int32)))] []))
  rw [show ((13 : Int32) + (1 : Int32)) = (14 : Int32) from by decide]
  show Go p.tables e below _ (T45.setTop (mkF m 46 #[.val (.ref so), .val (.long v42xxxxxxxxxxxxx), .second, .val (.int (14 : Int32))] []))
  refine Go.st (fun _ k => XS.goto X45.here hx rfl (pc0 := 46) (pc' := 20) rfl (hb hby d_parse_46) (by decide) (by decide) k) ?_
  show Go p.tables e below _ (T45.setTop (mkF m 20 #[.val (.ref so), .val (.long v42xxxxxxxxxxxxx), .second, .val (.int (14 : Int32))] []))
  refine Go.st (fun _ k => XS.iloadN X45.here hx rfl (hb hby d_parse_20) rfl k) ?_
  show Go p.tables e below _ (T45.setTop (mkF m 21 #[.val (.ref so), .val (.long v42xxxxxxxxxxxxx), .second, .val (.int (14 : Int32))] [(.int (14 : Int32))]))
  refine Go.st (fun _ k => XS.bipush X45.here hx rfl (hb hby d_parse_21) k) ?_
  show Go p.tables e below _ (T45.setTop (mkF m 23 #[.val (.ref so), .val (.long v42xxxxxxxxxxxxx), .second, .val (.int (14 : Int32))] [(.int (16 : Int32)), (.int (14 : Int32))]))
  have hl46 : (14 : Int32) < (16 : Int32) := by decide
  refine Go.st (fun _ k => XS.icmpNo X45.here hx rfl (hb hby d_parse_23) rfl (Jvm.Free.XT.ii_ge_f hl46) k) ?_
  show Go p.tables e below _ (T45.setTop (mkF m 26 #[.val (.ref so), .val (.long v42xxxxxxxxxxxxx), .second, .val (.int (14 : Int32))] []))
  refine Go.st (fun _ k => XS.lloadN X45.here hx rfl (hb hby d_parse_26) rfl k) ?_
  show Go p.tables e below _ (T45.setTop (mkF m 27 #[.val (.ref so), .val (.long v42xxxxxxxxxxxxx), .second, .val (.int (14 : Int32))] [(.long v42xxxxxxxxxxxxx)]))
  refine Go.st (fun _ k => XS.iconst X45.here hx rfl (hb hby d_parse_27) k) ?_
  show Go p.tables e below _ (T45.setTop (mkF m 28 #[.val (.ref so), .val (.long v42xxxxxxxxxxxxx), .second, .val (.int (14 : Int32))] [(.int (4 : Int32)), (.long v42xxxxxxxxxxxxx)]))
  refine Go.st (fun _ k => XS.lshl X45.here hx rfl (hb hby d_parse_28) rfl k) ?_
  show Go p.tables e below _ (T45.setTop (mkF m 29 #[.val (.ref so), .val (.long v42xxxxxxxxxxxxx), .second, .val (.int (14 : Int32))] [(.long (v42xxxxxxxxxxxxx <<< ((4 : Int32) &&& 0x3f).toInt64))]))
  refine Go.st (fun _ k => XS.aloadN X45.here hx rfl (hb hby d_parse_29) rfl rfl k) ?_
  show Go p.tables e below _ (T45.setTop (mkF m 30 #[.val (.ref so), .val (.long v42xxxxxxxxxxxxx), .second, .val (.int (14 : Int32))] [(.ref so), (.long (v42xxxxxxxxxxxxx <<< ((4 : Int32) &&& 0x3f).toInt64))]))
  refine Go.st (fun _ k => XS.iloadN X45.here hx rfl (hb hby d_parse_30) rfl k) ?_
  show Go p.tables e below _ (T45.setTop (mkF m 31 #[.val (.ref so), .val (.long v42xxxxxxxxxxxxx), .second, .val (.int (14 : Int32))] [(.int (14 : Int32)), (.ref so), (.long (v42xxxxxxxxxxxxx <<< ((4 : Int32) &&& 0x3f).toInt64))]))
  obtain ⟨cq47, kq47, q47a, q47b, q47c⟩ := isOf hZ e45 Pf0
  obtain ⟨_, _, ⟨T47, L47, k47, n47⟩, -, X47, ⟨Lc47, hQ47, l47, y47, z47⟩, st47⟩ := X45.interfaceBack hx (xi := (⟨"java/lang/CharSequence", "charAt", "(I)C"⟩ : MethodName)) (y := (⟨"java/lang/String", "charAt", "(I)C"⟩ : MethodName)) hown (mvT hZ (hw _ (List.mem_of_getElem? (i := 72) rfl))) (mvT hZ (hw _ (List.mem_of_getElem? (i := 73) rfl))) (mvT hZ (hw _ (List.mem_of_getElem? (i := 74) rfl))) (mvT hZ (hw _ (List.mem_of_getElem? (i := 75) rfl))) (mvT hZ (hw _ (List.mem_of_getElem? (i := 76) rfl))) (mvT hZ (hw _ (List.mem_of_getElem? (i := 77) rfl))) (mvT hZ (hw _ (List.mem_of_getElem? (i := 78) rfl))) (mvT hZ (hw _ (List.mem_of_getElem? (i := 65) rfl))) (by decide) (StrChars.Road.chN (W := 2) hZ (fun d hd => hw d (own_wordsChN d hd)) (kI := 4) (hw _ (List.mem_of_getElem? (i := 29) rfl)) Pf0 Pf2 Pf1 Pf3 hcd2 hbd2 (O2.ext Pf4.2) P5 (O4.ext Pf4.2) rG3 (Nat.le_of_ble_eq_true rfl) (i := 14) (Nat.le_of_ble_eq_true rfl) (j := 14) rfl (by decide) (by decide)) q47a q47b q47c (g := (mkF m 31 #[.val (.ref so), .val (.long v42xxxxxxxxxxxxx), .second, .val (.int (14 : Int32))] [(.int (14 : Int32)), (.ref so), (.long (v42xxxxxxxxxxxxx <<< ((4 : Int32) &&& 0x3f).toInt64))])) rfl (by rw [hml]; rfl) (Steps.refl _) (argsL := [(.int (14 : Int32))]) (rest := [(.long (v42xxxxxxxxxxxxx <<< ((4 : Int32) &&& 0x3f).toInt64))]) (lenOf pd_2 rfl) rfl (by show 2 * 0 + _ ≤ _; exact Nat.le_of_eq rfl) (hb hby d_parse_31) (fun _ _ => ⟨rfl, e45, (by decide : 0 + 0 ≤ _), (by decide : 0 + 0 ≤ _)⟩)
  dsimp only [Pt.U, Pt.locs, Pt.cells, Pt.slots] at X47 l47 y47 z47 st47 hQ47
  rw [l47, y47, z47] at X47
  obtain ⟨rfl, rfl, e47⟩ := hQ47
  have N47 := Fr.app N45 (Fr.nil n0)
  refine Go.st (fun _ k => st47.trans k) ?_
  show Go p.tables e below _ (T47.setTop (mkF m 36 #[.val (.ref so), .val (.long v42xxxxxxxxxxxxx), .second, .val (.int (14 : Int32))] [(.int (dch m14)), (.long (v42xxxxxxxxxxxxx <<< ((4 : Int32) &&& 0x3f).toInt64))]))
  refine Go.st (fun _ k => XS.aloadN X47.here hx rfl (hb hby d_parse_36) rfl rfl k) ?_
  show Go p.tables e below _ (T47.setTop (mkF m 37 #[.val (.ref so), .val (.long v42xxxxxxxxxxxxx), .second, .val (.int (14 : Int32))] [(.ref so), (.int (dch m14)), (.long (v42xxxxxxxxxxxxx <<< ((4 : Int32) &&& 0x3f).toInt64))]))
  obtain ⟨_, _, ⟨T48, L48, k48, n48⟩, -, X48, ⟨Lc48, hQ48, l48, y48, z48⟩, st48⟩ := Jvm.LawKit.callS X47 hx (y := (⟨"com/example/tallyroot/tallyroot/overlay/NodeId", "hexDigit", "(CLjava/lang/CharSequence;)I"⟩ : MethodName)) hown (mvT hZ (hw _ (List.mem_of_getElem? (i := 97) rfl))) (mvT hZ (hw _ (List.mem_of_getElem? (i := 98) rfl))) (mvT hZ (hw _ (List.mem_of_getElem? (i := 3) rfl))) (mvT hZ (hw _ (List.mem_of_getElem? (i := 99) rfl))) (by decide) (backOf (W := 2) (rm_hexd l Z a0 hw [] (dch m14) so m14 h0 n0 Z0 (by show (dch m14) = dch m14; exact rfl) (by show 0 ≤ m14.toInt ∧ m14.toInt < 16; exact (hm m14 (List.mem_of_getElem? (i := 14) rfl)))) hZ (hw _ (List.mem_of_getElem? (i := 99) rfl)) (hw _ (List.mem_of_getElem? (i := 3) rfl)) (by decide) (by decide)) (g := (mkF m 37 #[.val (.ref so), .val (.long v42xxxxxxxxxxxxx), .second, .val (.int (14 : Int32))] [(.ref so), (.int (dch m14)), (.long (v42xxxxxxxxxxxxx <<< ((4 : Int32) &&& 0x3f).toInt64))])) rfl (by rw [hml]; rfl) (argsL := [(.int (dch m14)), (.ref so)]) (rest := [(.long (v42xxxxxxxxxxxxx <<< ((4 : Int32) &&& 0x3f).toInt64))]) (lenOf pd_3 rfl) rfl (by show 2 * 0 + _ ≤ _; exact Nat.le_of_eq rfl) (hb hby d_parse_37) (fun _ _ => ⟨rfl, e47, (by decide : 0 + 0 ≤ _), (by decide : 0 + 0 ≤ _)⟩)
  dsimp only [Pt.U, Pt.locs, Pt.cells, Pt.slots] at X48 l48 y48 z48 st48 hQ48
  rw [l48, y48, z48] at X48
  obtain ⟨rfl, N48q, e48⟩ := hQ48
  have N48 := Fr.app N47 N48q
  refine Go.st st48 ?_
  show Go p.tables e below _ (T48.setTop (mkF m 40 #[.val (.ref so), .val (.long v42xxxxxxxxxxxxx), .second, .val (.int (14 : Int32))] [(.int m14), (.long (v42xxxxxxxxxxxxx <<< ((4 : Int32) &&& 0x3f).toInt64))]))
  refine Go.st (fun _ k => XS.i2l X48.here hx rfl (hb hby d_parse_40) rfl k) ?_
  show Go p.tables e below _ (T48.setTop (mkF m 41 #[.val (.ref so), .val (.long v42xxxxxxxxxxxxx), .second, .val (.int (14 : Int32))] [(.long (m14.toInt64)), (.long (v42xxxxxxxxxxxxx <<< ((4 : Int32) &&& 0x3f).toInt64))]))
  refine Go.st (fun _ k => XS.lor X48.here hx rfl (hb hby d_parse_41) rfl k) ?_
  show Go p.tables e below _ (T48.setTop (mkF m 42 #[.val (.ref so), .val (.long v42xxxxxxxxxxxxx), .second, .val (.int (14 : Int32))] [(.long (stepF v42xxxxxxxxxxxxx m14))]))
  refine Go.st (fun _ k => XS.lstoreN X48.here hx rfl (hb hby d_parse_42) rfl (l' := #[.val (.ref so), .val (.long (stepF v42xxxxxxxxxxxxx m14)), .second, .val (.int (14 : Int32))]) rfl k) ?_
  show Go p.tables e below _ (T48.setTop (mkF m 43 #[.val (.ref so), .val (.long (stepF v42xxxxxxxxxxxxx m14)), .second, .val (.int (14 : Int32))] []))
  generalize hqv42xxxxxxxxxxxxxx : (stepF v42xxxxxxxxxxxxx m14) = v42xxxxxxxxxxxxxx
  show Go p.tables e below _ (T48.setTop (mkF m 43 #[.val (.ref so), .val (.long v42xxxxxxxxxxxxxx), .second, .val (.int (14 : Int32))] []))
  refine Go.st (fun _ k => XS.iinc X48.here hx rfl (hb hby d_parse_43) rfl (l' := #[.val (.ref so), .val (.long v42xxxxxxxxxxxxxx), .second, .val (.int ((14 : Int32) + (1 : Int32)))]) rfl k) ?_
  show Go p.tables e below _ (T48.setTop (mkF m 46 #[.val (.ref so), .val (.long v42xxxxxxxxxxxxxx), .second, .val (.int ((14 : Int32) + (1 : Int32)))] []))
  rw [show ((14 : Int32) + (1 : Int32)) = (15 : Int32) from by decide]
  show Go p.tables e below _ (T48.setTop (mkF m 46 #[.val (.ref so), .val (.long v42xxxxxxxxxxxxxx), .second, .val (.int (15 : Int32))] []))
  refine Go.st (fun _ k => XS.goto X48.here hx rfl (pc0 := 46) (pc' := 20) rfl (hb hby d_parse_46) (by decide) (by decide) k) ?_
  show Go p.tables e below _ (T48.setTop (mkF m 20 #[.val (.ref so), .val (.long v42xxxxxxxxxxxxxx), .second, .val (.int (15 : Int32))] []))
  refine Go.st (fun _ k => XS.iloadN X48.here hx rfl (hb hby d_parse_20) rfl k) ?_
  show Go p.tables e below _ (T48.setTop (mkF m 21 #[.val (.ref so), .val (.long v42xxxxxxxxxxxxxx), .second, .val (.int (15 : Int32))] [(.int (15 : Int32))]))
  refine Go.st (fun _ k => XS.bipush X48.here hx rfl (hb hby d_parse_21) k) ?_
  show Go p.tables e below _ (T48.setTop (mkF m 23 #[.val (.ref so), .val (.long v42xxxxxxxxxxxxxx), .second, .val (.int (15 : Int32))] [(.int (16 : Int32)), (.int (15 : Int32))]))
  have hl49 : (15 : Int32) < (16 : Int32) := by decide
  refine Go.st (fun _ k => XS.icmpNo X48.here hx rfl (hb hby d_parse_23) rfl (Jvm.Free.XT.ii_ge_f hl49) k) ?_
  show Go p.tables e below _ (T48.setTop (mkF m 26 #[.val (.ref so), .val (.long v42xxxxxxxxxxxxxx), .second, .val (.int (15 : Int32))] []))
  refine Go.st (fun _ k => XS.lloadN X48.here hx rfl (hb hby d_parse_26) rfl k) ?_
  show Go p.tables e below _ (T48.setTop (mkF m 27 #[.val (.ref so), .val (.long v42xxxxxxxxxxxxxx), .second, .val (.int (15 : Int32))] [(.long v42xxxxxxxxxxxxxx)]))
  refine Go.st (fun _ k => XS.iconst X48.here hx rfl (hb hby d_parse_27) k) ?_
  show Go p.tables e below _ (T48.setTop (mkF m 28 #[.val (.ref so), .val (.long v42xxxxxxxxxxxxxx), .second, .val (.int (15 : Int32))] [(.int (4 : Int32)), (.long v42xxxxxxxxxxxxxx)]))
  refine Go.st (fun _ k => XS.lshl X48.here hx rfl (hb hby d_parse_28) rfl k) ?_
  show Go p.tables e below _ (T48.setTop (mkF m 29 #[.val (.ref so), .val (.long v42xxxxxxxxxxxxxx), .second, .val (.int (15 : Int32))] [(.long (v42xxxxxxxxxxxxxx <<< ((4 : Int32) &&& 0x3f).toInt64))]))
  refine Go.st (fun _ k => XS.aloadN X48.here hx rfl (hb hby d_parse_29) rfl rfl k) ?_
  show Go p.tables e below _ (T48.setTop (mkF m 30 #[.val (.ref so), .val (.long v42xxxxxxxxxxxxxx), .second, .val (.int (15 : Int32))] [(.ref so), (.long (v42xxxxxxxxxxxxxx <<< ((4 : Int32) &&& 0x3f).toInt64))]))
  refine Go.st (fun _ k => XS.iloadN X48.here hx rfl (hb hby d_parse_30) rfl k) ?_
  show Go p.tables e below _ (T48.setTop (mkF m 31 #[.val (.ref so), .val (.long v42xxxxxxxxxxxxxx), .second, .val (.int (15 : Int32))] [(.int (15 : Int32)), (.ref so), (.long (v42xxxxxxxxxxxxxx <<< ((4 : Int32) &&& 0x3f).toInt64))]))
  obtain ⟨cq50, kq50, q50a, q50b, q50c⟩ := isOf hZ e48 Pf0
  obtain ⟨_, _, ⟨T50, L50, k50, n50⟩, -, X50, ⟨Lc50, hQ50, l50, y50, z50⟩, st50⟩ := X48.interfaceBack hx (xi := (⟨"java/lang/CharSequence", "charAt", "(I)C"⟩ : MethodName)) (y := (⟨"java/lang/String", "charAt", "(I)C"⟩ : MethodName)) hown (mvT hZ (hw _ (List.mem_of_getElem? (i := 72) rfl))) (mvT hZ (hw _ (List.mem_of_getElem? (i := 73) rfl))) (mvT hZ (hw _ (List.mem_of_getElem? (i := 74) rfl))) (mvT hZ (hw _ (List.mem_of_getElem? (i := 75) rfl))) (mvT hZ (hw _ (List.mem_of_getElem? (i := 76) rfl))) (mvT hZ (hw _ (List.mem_of_getElem? (i := 77) rfl))) (mvT hZ (hw _ (List.mem_of_getElem? (i := 78) rfl))) (mvT hZ (hw _ (List.mem_of_getElem? (i := 65) rfl))) (by decide) (StrChars.Road.chN (W := 2) hZ (fun d hd => hw d (own_wordsChN d hd)) (kI := 4) (hw _ (List.mem_of_getElem? (i := 29) rfl)) Pf0 Pf2 Pf1 Pf3 hcd2 hbd2 (O2.ext Pf4.2) P5 (O4.ext Pf4.2) rG3 (Nat.le_of_ble_eq_true rfl) (i := 15) (Nat.le_of_ble_eq_true rfl) (j := 15) rfl (by decide) (by decide)) q50a q50b q50c (g := (mkF m 31 #[.val (.ref so), .val (.long v42xxxxxxxxxxxxxx), .second, .val (.int (15 : Int32))] [(.int (15 : Int32)), (.ref so), (.long (v42xxxxxxxxxxxxxx <<< ((4 : Int32) &&& 0x3f).toInt64))])) rfl (by rw [hml]; rfl) (Steps.refl _) (argsL := [(.int (15 : Int32))]) (rest := [(.long (v42xxxxxxxxxxxxxx <<< ((4 : Int32) &&& 0x3f).toInt64))]) (lenOf pd_2 rfl) rfl (by show 2 * 0 + _ ≤ _; exact Nat.le_of_eq rfl) (hb hby d_parse_31) (fun _ _ => ⟨rfl, e48, (by decide : 0 + 0 ≤ _), (by decide : 0 + 0 ≤ _)⟩)
  dsimp only [Pt.U, Pt.locs, Pt.cells, Pt.slots] at X50 l50 y50 z50 st50 hQ50
  rw [l50, y50, z50] at X50
  obtain ⟨rfl, rfl, e50⟩ := hQ50
  have N50 := Fr.app N48 (Fr.nil n0)
  refine Go.st (fun _ k => st50.trans k) ?_
  show Go p.tables e below _ (T50.setTop (mkF m 36 #[.val (.ref so), .val (.long v42xxxxxxxxxxxxxx), .second, .val (.int (15 : Int32))] [(.int (dch m15)), (.long (v42xxxxxxxxxxxxxx <<< ((4 : Int32) &&& 0x3f).toInt64))]))
  refine Go.st (fun _ k => XS.aloadN X50.here hx rfl (hb hby d_parse_36) rfl rfl k) ?_
  show Go p.tables e below _ (T50.setTop (mkF m 37 #[.val (.ref so), .val (.long v42xxxxxxxxxxxxxx), .second, .val (.int (15 : Int32))] [(.ref so), (.int (dch m15)), (.long (v42xxxxxxxxxxxxxx <<< ((4 : Int32) &&& 0x3f).toInt64))]))
  obtain ⟨_, _, ⟨T51, L51, k51, n51⟩, -, X51, ⟨Lc51, hQ51, l51, y51, z51⟩, st51⟩ := Jvm.LawKit.callS X50 hx (y := (⟨"com/example/tallyroot/tallyroot/overlay/NodeId", "hexDigit", "(CLjava/lang/CharSequence;)I"⟩ : MethodName)) hown (mvT hZ (hw _ (List.mem_of_getElem? (i := 97) rfl))) (mvT hZ (hw _ (List.mem_of_getElem? (i := 98) rfl))) (mvT hZ (hw _ (List.mem_of_getElem? (i := 3) rfl))) (mvT hZ (hw _ (List.mem_of_getElem? (i := 99) rfl))) (by decide) (backOf (W := 2) (rm_hexd l Z a0 hw [] (dch m15) so m15 h0 n0 Z0 (by show (dch m15) = dch m15; exact rfl) (by show 0 ≤ m15.toInt ∧ m15.toInt < 16; exact (hm m15 (List.mem_of_getElem? (i := 15) rfl)))) hZ (hw _ (List.mem_of_getElem? (i := 99) rfl)) (hw _ (List.mem_of_getElem? (i := 3) rfl)) (by decide) (by decide)) (g := (mkF m 37 #[.val (.ref so), .val (.long v42xxxxxxxxxxxxxx), .second, .val (.int (15 : Int32))] [(.ref so), (.int (dch m15)), (.long (v42xxxxxxxxxxxxxx <<< ((4 : Int32) &&& 0x3f).toInt64))])) rfl (by rw [hml]; rfl) (argsL := [(.int (dch m15)), (.ref so)]) (rest := [(.long (v42xxxxxxxxxxxxxx <<< ((4 : Int32) &&& 0x3f).toInt64))]) (lenOf pd_3 rfl) rfl (by show 2 * 0 + _ ≤ _; exact Nat.le_of_eq rfl) (hb hby d_parse_37) (fun _ _ => ⟨rfl, e50, (by decide : 0 + 0 ≤ _), (by decide : 0 + 0 ≤ _)⟩)
  dsimp only [Pt.U, Pt.locs, Pt.cells, Pt.slots] at X51 l51 y51 z51 st51 hQ51
  rw [l51, y51, z51] at X51
  obtain ⟨rfl, N51q, e51⟩ := hQ51
  have N51 := Fr.app N50 N51q
  refine Go.st st51 ?_
  show Go p.tables e below _ (T51.setTop (mkF m 40 #[.val (.ref so), .val (.long v42xxxxxxxxxxxxxx), .second, .val (.int (15 : Int32))] [(.int m15), (.long (v42xxxxxxxxxxxxxx <<< ((4 : Int32) &&& 0x3f).toInt64))]))
  refine Go.st (fun _ k => XS.i2l X51.here hx rfl (hb hby d_parse_40) rfl k) ?_
  show Go p.tables e below _ (T51.setTop (mkF m 41 #[.val (.ref so), .val (.long v42xxxxxxxxxxxxxx), .second, .val (.int (15 : Int32))] [(.long (m15.toInt64)), (.long (v42xxxxxxxxxxxxxx <<< ((4 : Int32) &&& 0x3f).toInt64))]))
  refine Go.st (fun _ k => XS.lor X51.here hx rfl (hb hby d_parse_41) rfl k) ?_
  show Go p.tables e below _ (T51.setTop (mkF m 42 #[.val (.ref so), .val (.long v42xxxxxxxxxxxxxx), .second, .val (.int (15 : Int32))] [(.long (stepF v42xxxxxxxxxxxxxx m15))]))
  refine Go.st (fun _ k => XS.lstoreN X51.here hx rfl (hb hby d_parse_42) rfl (l' := #[.val (.ref so), .val (.long (stepF v42xxxxxxxxxxxxxx m15)), .second, .val (.int (15 : Int32))]) rfl k) ?_
  show Go p.tables e below _ (T51.setTop (mkF m 43 #[.val (.ref so), .val (.long (stepF v42xxxxxxxxxxxxxx m15)), .second, .val (.int (15 : Int32))] []))
  generalize hqv42xxxxxxxxxxxxxxx : (stepF v42xxxxxxxxxxxxxx m15) = v42xxxxxxxxxxxxxxx
  show Go p.tables e below _ (T51.setTop (mkF m 43 #[.val (.ref so), .val (.long v42xxxxxxxxxxxxxxx), .second, .val (.int (15 : Int32))] []))
  refine Go.st (fun _ k => XS.iinc X51.here hx rfl (hb hby d_parse_43) rfl (l' := #[.val (.ref so), .val (.long v42xxxxxxxxxxxxxxx), .second, .val (.int ((15 : Int32) + (1 : Int32)))]) rfl k) ?_
  show Go p.tables e below _ (T51.setTop (mkF m 46 #[.val (.ref so), .val (.long v42xxxxxxxxxxxxxxx), .second, .val (.int ((15 : Int32) + (1 : Int32)))] []))
  rw [show ((15 : Int32) + (1 : Int32)) = (16 : Int32) from by decide]
  show Go p.tables e below _ (T51.setTop (mkF m 46 #[.val (.ref so), .val (.long v42xxxxxxxxxxxxxxx), .second, .val (.int (16 : Int32))] []))
  refine Go.st (fun _ k => XS.goto X51.here hx rfl (pc0 := 46) (pc' := 20) rfl (hb hby d_parse_46) (by decide) (by decide) k) ?_
  show Go p.tables e below _ (T51.setTop (mkF m 20 #[.val (.ref so), .val (.long v42xxxxxxxxxxxxxxx), .second, .val (.int (16 : Int32))] []))
  refine Go.st (fun _ k => XS.iloadN X51.here hx rfl (hb hby d_parse_20) rfl k) ?_
  show Go p.tables e below _ (T51.setTop (mkF m 21 #[.val (.ref so), .val (.long v42xxxxxxxxxxxxxxx), .second, .val (.int (16 : Int32))] [(.int (16 : Int32))]))
  refine Go.st (fun _ k => XS.bipush X51.here hx rfl (hb hby d_parse_21) k) ?_
  show Go p.tables e below _ (T51.setTop (mkF m 23 #[.val (.ref so), .val (.long v42xxxxxxxxxxxxxxx), .second, .val (.int (16 : Int32))] [(.int (16 : Int32)), (.int (16 : Int32))]))
  have hl52 : ¬ ((16 : Int32) < (16 : Int32)) := by decide
  refine Go.st (fun _ k => XS.icmpYes X51.here hx rfl (pc0 := 23) (pc' := 49) rfl (hb hby d_parse_23) rfl (Jvm.Free.XT.ii_ge_t hl52) (by decide) (by decide) k) ?_
  show Go p.tables e below _ (T51.setTop (mkF m 49 #[.val (.ref so), .val (.long v42xxxxxxxxxxxxxxx), .second, .val (.int (16 : Int32))] []))
  obtain ⟨T53, h53, X53, e53, E53, A53, D53, -, st53⟩ := newO X51 hx hZ hown (hw _ (List.mem_of_getElem? (i := 100) rfl)) (hw _ (List.mem_of_getElem? (i := 2) rfl)) (hw _ (List.mem_of_getElem? (i := 3) rfl)) e51 (g := (mkF m 49 #[.val (.ref so), .val (.long v42xxxxxxxxxxxxxxx), .second, .val (.int (16 : Int32))] [])) rfl (hb hby d_parse_49) (by decide) (by decide)
  obtain ⟨b53, g53⟩ : ∃ z, z = h0.size := ⟨_, rfl⟩
  rw [← g53] at A53 D53 st53
  refine Go.st st53 ?_
  have ne54 : so ≠ b53 := Nat.ne_of_lt (Nat.lt_of_lt_of_le Pf0.lt (Nat.le_of_eq g53.symm))
  have ne55 : tb ≠ b53 := Nat.ne_of_lt (Nat.lt_of_lt_of_le Pf3.lt (Nat.le_of_eq g53.symm))
  have ge56 : n0 ≤ b53 := Nat.le_trans Z0 (Nat.le_of_eq g53.symm)
  have sz57 : h0.size ≤ b53 := Nat.le_trans K0.1 (Nat.le_of_eq g53.symm)
  have Z58 : n0 ≤ h53.size := Nat.le_trans Z0 E53.1
  have K59 : Keep h0 h53 [] := K0.ext E53
  have F60 : Exa Z h53 so "java/lang/String" := Pf0.ext E53
  have F61 : Fld Z h53 so "java/lang/String" "coder" "B" (.int (0 : Int32)) := Pf1.ext E53
  have F62 : Fld Z h53 so "java/lang/String" "value" "[B" (.ref tb) := Pf2.ext E53
  have F63 : Arv Z h53 tb kb .byte (16 : Int32) ((([dch m0, dch m1, dch m2, dch m3, dch m4, dch m5, dch m6, dch m7, dch m8, dch m9, dch m10, dch m11, dch m12, dch m13, dch m14, dch m15] : List Int32).map (fun c => c.toInt8.toInt32)).map Value.int) (.int (0 : Int32)) := Pf3.ext E53
  have F64 : Old Z n0 h53 := Pf4.ext E53
  have F65 : Fld Z h53 b53 "com/example/tallyroot/tallyroot/overlay/NodeId" "bits" "J" (.long (0 : Int64)) := D53 (Or.inr (hw _ (List.mem_of_getElem? (i := 16) rfl))) (ty := .long) (by decide)
  show Go p.tables e below _ (T53.setTop (mkF m 52 #[.val (.ref so), .val (.long v42xxxxxxxxxxxxxxx), .second, .val (.int (16 : Int32))] [(.ref b53)]))
  refine Go.st (fun _ k => XS.dup X53.here hx rfl (hb hby d_parse_52) rfl rfl k) ?_
  show Go p.tables e below _ (T53.setTop (mkF m 53 #[.val (.ref so), .val (.long v42xxxxxxxxxxxxxxx), .second, .val (.int (16 : Int32))] [(.ref b53), (.ref b53)]))
  refine Go.st (fun _ k => XS.lloadN X53.here hx rfl (hb hby d_parse_53) rfl k) ?_
  show Go p.tables e below _ (T53.setTop (mkF m 54 #[.val (.ref so), .val (.long v42xxxxxxxxxxxxxxx), .second, .val (.int (16 : Int32))] [(.long v42xxxxxxxxxxxxxxx), (.ref b53), (.ref b53)]))
  obtain ⟨_, _, ⟨T66, L66, k66, n66⟩, -, X66, ⟨Lc66, hQ66, l66, y66, z66⟩, st66⟩ := X53.specialBack hx (y := (⟨"com/example/tallyroot/tallyroot/overlay/NodeId", "<init>", "(J)V"⟩ : MethodName)) rfl hown (mvT hZ (hw _ (List.mem_of_getElem? (i := 101) rfl))) (mvT hZ (hw _ (List.mem_of_getElem? (i := 5) rfl))) (mvT hZ (hw _ (List.mem_of_getElem? (i := 6) rfl))) (by decide) (backOf (W := 1) (rm_ninit l Z a0 hw [] b53 v42xxxxxxxxxxxxxxx h53 n0 Z58 A53 F65 ge56) hZ (hw _ (List.mem_of_getElem? (i := 6) rfl)) (hw _ (List.mem_of_getElem? (i := 3) rfl)) (by decide) (by decide)) (g := (mkF m 54 #[.val (.ref so), .val (.long v42xxxxxxxxxxxxxxx), .second, .val (.int (16 : Int32))] [(.long v42xxxxxxxxxxxxxxx), (.ref b53), (.ref b53)])) rfl (by rw [hml]; rfl) (Steps.refl _) (a := b53) (argsL := [(.long v42xxxxxxxxxxxxxxx)]) (rest := [(.ref b53)]) (lenOf pd_4 rfl) rfl (by show 2 * 0 + _ ≤ _; exact Nat.le_of_eq rfl) (hb hby d_parse_54) (fun _ _ => ⟨rfl, e53, (by decide : 1 + 0 ≤ _), (by decide : 1 + 0 ≤ _)⟩)
  dsimp only [Pt.U, Pt.locs, Pt.cells, Pt.slots] at X66 l66 y66 z66 st66 hQ66
  rw [l66, y66, z66] at X66
  obtain ⟨rfl, N66q, K66q, Fq66_0, Fq66_1⟩ := hQ66
  have N66 := Fr.app N51 N66q
  refine Go.st (fun _ k => st66.trans k) ?_
  have Z67 : n0 ≤ T66.heap.size := Nat.le_trans Z58 K66q.1
  have K68 : Keep h0 T66.heap [] := K59.trans K66q (fun z hz => (List.mem_cons.mp hz).elim (fun q => by rw [q]; exact Or.inr sz57) (fun hz => absurd hz List.not_mem_nil))
  have F69 : Exa Z T66.heap so "java/lang/String" := F60.keep K66q
  have F70 : Fld Z T66.heap so "java/lang/String" "coder" "B" (.int (0 : Int32)) := F61.keep K66q (fun z => (List.mem_cons.mp z).elim ne54 (fun z => absurd z List.not_mem_nil))
  have F71 : Fld Z T66.heap so "java/lang/String" "value" "[B" (.ref tb) := F62.keep K66q (fun z => (List.mem_cons.mp z).elim ne54 (fun z => absurd z List.not_mem_nil))
  have F72 : Arv Z T66.heap tb kb .byte (16 : Int32) ((([dch m0, dch m1, dch m2, dch m3, dch m4, dch m5, dch m6, dch m7, dch m8, dch m9, dch m10, dch m11, dch m12, dch m13, dch m14, dch m15] : List Int32).map (fun c => c.toInt8.toInt32)).map Value.int) (.int (0 : Int32)) := F63.keep K66q (fun z => (List.mem_cons.mp z).elim ne55 (fun z => absurd z List.not_mem_nil))
  have F73 : Old Z n0 T66.heap := F64.keep K66q (allS ge56 all0)
  have F74 : Exa Z T66.heap b53 "com/example/tallyroot/tallyroot/overlay/NodeId" := A53.keep K66q
  show Go p.tables e below _ (T66.setTop (mkF m 57 #[.val (.ref so), .val (.long v42xxxxxxxxxxxxxxx), .second, .val (.int (16 : Int32))] [(.ref b53)]))
  subst hG
  obtain ⟨fs, hr, hrun, hended, hW, hsame⟩ := X66.leave (v := some (.ref b53)) (fun h => by rw [Bd.returns] at h; cases h)
  refine ⟨_, _, ?_, hrun, hended, _, _, rfl, ?_, ⟨_, rfl⟩, hW, hsame.mono (by decide) (by decide)⟩
  · exact retOut X66 hx Bd.returns rfl (Or.inr (Or.inr (Or.inr (Or.inr ⟨rfl, rfl, rfl⟩)))) (hb hby d_parse_57) hr
  · show Q_parse Z so tb kb G1 G3 m0 m1 m2 m3 m4 m5 m6 m7 m8 m9 m10 m11 m12 m13 m14 m15 h0 n0 _ T66.heap _
    exact ⟨b53, v42xxxxxxxxxxxxxxx, v42, v42x, v42xx, v42xxx, v42xxxx, v42xxxxx, v42xxxxxx, v42xxxxxxx, v42xxxxxxxx, v42xxxxxxxxx, v42xxxxxxxxxx, v42xxxxxxxxxxx, v42xxxxxxxxxxxx, v42xxxxxxxxxxxxx, v42xxxxxxxxxxxxxx, rfl, N66, K68, ge56, sz57, Fq66_0, Fq66_1, hqv42, hqv42x, hqv42xx, hqv42xxx, hqv42xxxx, hqv42xxxxx, hqv42xxxxxx, hqv42xxxxxxx, hqv42xxxxxxxx, hqv42xxxxxxxxx, hqv42xxxxxxxxxx, hqv42xxxxxxxxxxx, hqv42xxxxxxxxxxxx, hqv42xxxxxxxxxxxxx, hqv42xxxxxxxxxxxxxx, hqv42xxxxxxxxxxxxxxx⟩
theorem own_nibs {qb : Int64} : ∀ z ∈ ([(nibS qb (60 : Int32)), (nibS qb (56 : Int32)), (nibS qb (52 : Int32)), (nibS qb (48 : Int32)), (nibS qb (44 : Int32)), (nibS qb (40 : Int32)), (nibS qb (36 : Int32)), (nibS qb (32 : Int32)), (nibS qb (28 : Int32)), (nibS qb (24 : Int32)), (nibS qb (20 : Int32)), (nibS qb (16 : Int32)), (nibS qb (12 : Int32)), (nibS qb (8 : Int32)), (nibS qb (4 : Int32)), (nibS qb (0 : Int32))] : List Int32), 0 ≤ z.toInt ∧ z.toInt < 16 := by
  intro z hz
  simp only [List.mem_cons, List.not_mem_nil, or_false] at hz
  rcases hz with rfl | rfl | rfl | rfl | rfl | rfl | rfl | rfl | rfl | rfl | rfl | rfl | rfl | rfl | rfl | rfl <;> exact own_nib _ _
theorem pd_5 : parseMethodDescriptor "([C)V" = some ⟨[(.array .char)], none⟩ := by decide +kernel
theorem pd_6 : parseMethodDescriptor "(C)Z" = some ⟨[.char], some .boolean⟩ := by decide +kernel
theorem pd_7 : parseMethodDescriptor "(Ljava/lang/CharSequence;)Lcom/example/tallyroot/tallyroot/overlay/NodeId;" = some ⟨[(.object "java/lang/CharSequence")], some (.object "com/example/tallyroot/tallyroot/overlay/NodeId")⟩ := by decide +kernel
theorem pd_8 : parseMethodDescriptor "()J" = some ⟨[], some .long⟩ := by decide +kernel
theorem ef_law (m : MethodId) (qb : Int64) (pt : Int32) : entryFrame m #[(.long qb), (.int pt)] maxLocals = mkF m 0 #[.val (.long qb), .second, .val (.int pt), .unset, .unset, .unset, .unset, .unset] [] := by first | (simp [entryFrame, mkF, argsToLocals, Value.category, maxLocals]; done) | rfl
def Q_law (Z : State) (qb : Int64) (pt : Int32) (G1 : Int32) (G3 : Value) (dgs : Addr) (kd : ClassId) (h0 : Heap) (n0 : Nat) (v : Option Value) (h : Heap) (L : List Loc) : Prop := v = some (.int (1 : Int32)) ∧ Fr n0 L ∧ Keep h0 h []
set_option maxRecDepth 65536 in
set_option maxHeartbeats 40000000 in
theorem rm_law (l : Launch) (Z : State) (a0 : Array Value) (hw : ∀ d ∈ tables_1, d.before a0 Z = true) (ws : List Jvm.Cond) (qb : Int64) (pt : Int32) (G1 : Int32) (G3 : Value) (dgs : Addr) (kd : ClassId) (h0 : Heap) (n0 : Nat) (Z0 : n0 ≤ h0.size) (Pf0 : Old Z n0 h0) (O2 : Sta Z Z.heap "java/lang/String" "COMPACT_STRINGS" "Z" (.int G1)) (P5 : ¬ (G1 = (0 : Int32))) (O4 : Sta Z Z.heap "jdk/internal/util/Preconditions" "SIOOBE_FORMATTER" "Ljava/util/function/BiFunction;" G3) (rG3 : G3.isRef = true) (Pf5 : Sta Z h0 "com/example/tallyroot/tallyroot/overlay/NodeId" "DIGITS" "[C" (.ref dgs)) (Pf6 : Arv Z h0 dgs kd .char (16 : Int32) [(.int (48 : Int32)), (.int (49 : Int32)), (.int (50 : Int32)), (.int (51 : Int32)), (.int (52 : Int32)), (.int (53 : Int32)), (.int (54 : Int32)), (.int (55 : Int32)), (.int (56 : Int32)), (.int (57 : Int32)), (.int (97 : Int32)), (.int (98 : Int32)), (.int (99 : Int32)), (.int (100 : Int32)), (.int (101 : Int32)), (.int (102 : Int32))] (.int (0 : Int32))) :
    MetFree l x (head1 (Jvm.Cond.code x code maxLocals ret :: ws) room_1) (fun a U => a = #[(.long qb), (.int pt)] ∧ Z.Warmed39 U.vm ∧ U.heap = h0) (fun _ _ _ _ _ => True) (fun _ U o U' => ∃ v L, o = .returned v ∧ Q_law Z qb pt G1 G3 dgs kd h0 n0 v U'.heap L ∧ FrameEnd U o U' L room_1.cells room_1.slots) := by
  refine MetFree.of_bodySF (plainFor_of_name pn_2) hisR ?_
  intro p e s m args below meth c s₁ Bd hml0 hP hK
  obtain ⟨rfl, hZ, hh⟩ := hP
  have hx := Bd.exec
  have hby := Bd.bytes
  have hml : c.maxLocals = 8 := hml0
  have hown : s.vm.findClass "com/example/tallyroot/tallyroot/overlay/NodeIdWriteToPinLaw" = some m.cls := findClass_of_methodNamed Bd.named
  have hnm := (name_of_methodNamed Bd.named Bd.method).1
  have X0 : Stand p l e room_1 s m #[(.long qb), (.int pt)] below meth c s₁ [] 0 0 := Stand.of_body Bd
  have e0 : s₁.heap = h0 := by rw [← hh, Bd.state]; rfl
  have N0 := Fr.nil n0
  have K0 : Keep h0 h0 [] := Keep.refl h0 []
  show Go p.tables e below _ (s₁.setTop (entryFrame m #[(.long qb), (.int pt)] maxLocals))
  refine Go.start ?_
  intro G hG
  refine Go.st (fun t k => castTop (ef_law m qb pt) k) ?_
  show Go p.tables e below _ (s₁.setTop (mkF m 0 #[.val (.long qb), .second, .val (.int pt), .unset, .unset, .unset, .unset, .unset] []))
  refine Go.st (fun _ k => XS.iloadN X0.here hx rfl (hb hby at_0) rfl k) ?_
  show Go p.tables e below _ (s₁.setTop (mkF m 1 #[.val (.long qb), .second, .val (.int pt), .unset, .unset, .unset, .unset, .unset] [(.int pt)]))
  refine Go.st (fun _ k => XS.sipush X0.here hx rfl (hb hby at_1) k) ?_
  show Go p.tables e below _ (s₁.setTop (mkF m 4 #[.val (.long qb), .second, .val (.int pt), .unset, .unset, .unset, .unset, .unset] [(.int (255 : Int32)), (.int pt)]))
  refine Go.st (fun _ k => XS.iand X0.here hx rfl (hb hby at_4) rfl k) ?_
  show Go p.tables e below _ (s₁.setTop (mkF m 5 #[.val (.long qb), .second, .val (.int pt), .unset, .unset, .unset, .unset, .unset] [(.int (pt &&& (255 : Int32)))]))
  refine Go.st (fun _ k => XS.i2c X0.here hx rfl (hb hby at_5) rfl k) ?_
  show Go p.tables e below _ (s₁.setTop (mkF m 6 #[.val (.long qb), .second, .val (.int pt), .unset, .unset, .unset, .unset, .unset] [(.int ((pt &&& (255 : Int32)).toUInt32.toUInt16.toUInt32.toInt32))]))
  refine Go.st (fun _ k => XS.istoreN X0.here hx rfl (hb hby at_6) rfl (l' := #[.val (.long qb), .second, .val (.int pt), .val (.int ((pt &&& (255 : Int32)).toUInt32.toUInt16.toUInt32.toInt32)), .unset, .unset, .unset, .unset]) rfl k) ?_
  show Go p.tables e below _ (s₁.setTop (mkF m 7 #[.val (.long qb), .second, .val (.int pt), .val (.int ((pt &&& (255 : Int32)).toUInt32.toUInt16.toUInt32.toInt32)), .unset, .unset, .unset, .unset] []))
  generalize hqv6 : ((pt &&& (255 : Int32)).toUInt32.toUInt16.toUInt32.toInt32) = v6
  show Go p.tables e below _ (s₁.setTop (mkF m 7 #[.val (.long qb), .second, .val (.int pt), .val (.int v6), .unset, .unset, .unset, .unset] []))
  refine Go.st (fun _ k => XS.iloadN X0.here hx rfl (hb hby at_7) rfl k) ?_
  show Go p.tables e below _ (s₁.setTop (mkF m 8 #[.val (.long qb), .second, .val (.int pt), .val (.int v6), .unset, .unset, .unset, .unset] [(.int pt)]))
  refine Go.st (fun _ k => XS.bipush X0.here hx rfl (hb hby at_8) k) ?_
  show Go p.tables e below _ (s₁.setTop (mkF m 10 #[.val (.long qb), .second, .val (.int pt), .val (.int v6), .unset, .unset, .unset, .unset] [(.int (8 : Int32)), (.int pt)]))
  refine Go.st (fun _ k => XS.iushr X0.here hx rfl (hb hby at_10) rfl k) ?_
  show Go p.tables e below _ (s₁.setTop (mkF m 11 #[.val (.long qb), .second, .val (.int pt), .val (.int v6), .unset, .unset, .unset, .unset] [(.int ((pt.toUInt32 >>> ((8 : Int32) &&& 31).toUInt32).toInt32))]))
  refine Go.st (fun _ k => XS.sipush X0.here hx rfl (hb hby at_11) k) ?_
  show Go p.tables e below _ (s₁.setTop (mkF m 14 #[.val (.long qb), .second, .val (.int pt), .val (.int v6), .unset, .unset, .unset, .unset] [(.int (255 : Int32)), (.int ((pt.toUInt32 >>> ((8 : Int32) &&& 31).toUInt32).toInt32))]))
  refine Go.st (fun _ k => XS.iand X0.here hx rfl (hb hby at_14) rfl k) ?_
  show Go p.tables e below _ (s₁.setTop (mkF m 15 #[.val (.long qb), .second, .val (.int pt), .val (.int v6), .unset, .unset, .unset, .unset] [(.int (((pt.toUInt32 >>> ((8 : Int32) &&& 31).toUInt32).toInt32) &&& (255 : Int32)))]))
  refine Go.st (fun _ k => XS.i2c X0.here hx rfl (hb hby at_15) rfl k) ?_
  show Go p.tables e below _ (s₁.setTop (mkF m 16 #[.val (.long qb), .second, .val (.int pt), .val (.int v6), .unset, .unset, .unset, .unset] [(.int ((((pt.toUInt32 >>> ((8 : Int32) &&& 31).toUInt32).toInt32) &&& (255 : Int32)).toUInt32.toUInt16.toUInt32.toInt32))]))
  refine Go.st (fun _ k => XS.istore X0.here hx rfl (hb hby at_16) rfl (l' := #[.val (.long qb), .second, .val (.int pt), .val (.int v6), .val (.int ((((pt.toUInt32 >>> ((8 : Int32) &&& 31).toUInt32).toInt32) &&& (255 : Int32)).toUInt32.toUInt16.toUInt32.toInt32)), .unset, .unset, .unset]) rfl k) ?_
  show Go p.tables e below _ (s₁.setTop (mkF m 18 #[.val (.long qb), .second, .val (.int pt), .val (.int v6), .val (.int ((((pt.toUInt32 >>> ((8 : Int32) &&& 31).toUInt32).toInt32) &&& (255 : Int32)).toUInt32.toUInt16.toUInt32.toInt32)), .unset, .unset, .unset] []))
  generalize hqv16 : ((((pt.toUInt32 >>> ((8 : Int32) &&& 31).toUInt32).toInt32) &&& (255 : Int32)).toUInt32.toUInt16.toUInt32.toInt32) = v16
  show Go p.tables e below _ (s₁.setTop (mkF m 18 #[.val (.long qb), .second, .val (.int pt), .val (.int v6), .val (.int v16), .unset, .unset, .unset] []))
  refine Go.st (fun _ k => XS.bipush X0.here hx rfl (hb hby at_18) k) ?_
  show Go p.tables e below _ (s₁.setTop (mkF m 20 #[.val (.long qb), .second, .val (.int pt), .val (.int v6), .val (.int v16), .unset, .unset, .unset] [(.int (18 : Int32))]))
  obtain ⟨T1, h1, k1, X1, e1, E1, A1, C1, st1⟩ := newPE X0 hx hZ (hw _ (List.mem_of_getElem? (i := 0) rfl)) e0 (g := (mkF m 20 #[.val (.long qb), .second, .val (.int pt), .val (.int v6), .val (.int v16), .unset, .unset, .unset] [(.int (18 : Int32))])) rfl (hb hby at_20) rfl (by decide) (cap := 18) (by decide) (by decide) (by decide) (by decide) (ad := "[C") (by decide)
  obtain ⟨b1, g1⟩ : ∃ z, z = h0.size := ⟨_, rfl⟩
  rw [← g1] at A1 C1 st1
  refine Go.st st1 ?_
  have ne2 : dgs ≠ b1 := Nat.ne_of_lt (Nat.lt_of_lt_of_le Pf6.lt (Nat.le_of_eq g1.symm))
  have ge3 : n0 ≤ b1 := Nat.le_trans Z0 (Nat.le_of_eq g1.symm)
  have sz4 : h0.size ≤ b1 := Nat.le_trans K0.1 (Nat.le_of_eq g1.symm)
  have Z5 : n0 ≤ h1.size := Nat.le_trans Z0 E1.1
  have K6 : Keep h0 h1 [] := K0.ext E1
  have F7 : Old Z n0 h1 := Pf0.ext E1
  have F8 : Sta Z h1 "com/example/tallyroot/tallyroot/overlay/NodeId" "DIGITS" "[C" (.ref dgs) := Pf5.ext E1
  have F9 : Arv Z h1 dgs kd .char (16 : Int32) [(.int (48 : Int32)), (.int (49 : Int32)), (.int (50 : Int32)), (.int (51 : Int32)), (.int (52 : Int32)), (.int (53 : Int32)), (.int (54 : Int32)), (.int (55 : Int32)), (.int (56 : Int32)), (.int (57 : Int32)), (.int (97 : Int32)), (.int (98 : Int32)), (.int (99 : Int32)), (.int (100 : Int32)), (.int (101 : Int32)), (.int (102 : Int32))] (.int (0 : Int32)) := Pf6.ext E1
  have F10 : Arv Z h1 b1 k1 .char (18 : Int32) [(.int (0 : Int32)), (.int (0 : Int32)), (.int (0 : Int32)), (.int (0 : Int32)), (.int (0 : Int32)), (.int (0 : Int32)), (.int (0 : Int32)), (.int (0 : Int32)), (.int (0 : Int32)), (.int (0 : Int32)), (.int (0 : Int32)), (.int (0 : Int32)), (.int (0 : Int32)), (.int (0 : Int32)), (.int (0 : Int32)), (.int (0 : Int32)), (.int (0 : Int32)), (.int (0 : Int32))] (.int (0 : Int32)) := (Arv.new A1 (by decide)).pad (pad_rep [] (.int (0 : Int32)) 18)
  show Go p.tables e below _ (T1.setTop (mkF m 22 #[.val (.long qb), .second, .val (.int pt), .val (.int v6), .val (.int v16), .unset, .unset, .unset] [(.ref b1)]))
  refine Go.st (fun _ k => XS.astore X1.here hx rfl (hb hby at_22) rfl rfl (l' := #[.val (.long qb), .second, .val (.int pt), .val (.int v6), .val (.int v16), .val (.ref b1), .unset, .unset]) rfl k) ?_
  show Go p.tables e below _ (T1.setTop (mkF m 24 #[.val (.long qb), .second, .val (.int pt), .val (.int v6), .val (.int v16), .val (.ref b1), .unset, .unset] []))
  show Go p.tables e below _ (T1.setTop (mkF m 24 #[.val (.long qb), .second, .val (.int pt), .val (.int v6), .val (.int v16), .val (.ref b1), .unset, .unset] []))
  refine Go.st (fun _ k => XS.aload X1.here hx rfl (hb hby at_24) rfl rfl k) ?_
  show Go p.tables e below _ (T1.setTop (mkF m 26 #[.val (.long qb), .second, .val (.int pt), .val (.int v6), .val (.int v16), .val (.ref b1), .unset, .unset] [(.ref b1)]))
  refine Go.st (fun _ k => XS.bipush X1.here hx rfl (hb hby at_26) k) ?_
  show Go p.tables e below _ (T1.setTop (mkF m 28 #[.val (.long qb), .second, .val (.int pt), .val (.int v6), .val (.int v16), .val (.ref b1), .unset, .unset] [(.int (16 : Int32)), (.ref b1)]))
  refine Go.st (fun _ k => XS.iloadN X1.here hx rfl (hb hby at_28) rfl k) ?_
  show Go p.tables e below _ (T1.setTop (mkF m 29 #[.val (.long qb), .second, .val (.int pt), .val (.int v6), .val (.int v16), .val (.ref b1), .unset, .unset] [(.int v6), (.int (16 : Int32)), (.ref b1)]))
  obtain ⟨cl11, Ar11, q11, S11, M11, H11, G11⟩ := id F10
  have hin11 : ¬ ((16 : Int32) < 0 ∨ cl11.slots.size ≤ ((16 : Int32)).toNatClampNeg) := inb_of S11 ⟨by decide, by decide⟩
  obtain ⟨T11, h11, X11, e11, W11, st11⟩ := stC X1 hx hZ e1 Ar11 (j := (16 : Int32)) hin11 (g := (mkF m 29 #[.val (.long qb), .second, .val (.int pt), .val (.int v6), .val (.int v16), .val (.ref b1), .unset, .unset] [(.int v6), (.int (16 : Int32)), (.ref b1)])) rfl rfl (hb hby at_29)
  rw [(show nar .char v6 = v6 from (by rw [← hqv6]; exact own_narc _))] at W11
  refine Go.st st11 ?_
  have F12 : Old Z n0 h11 := F7.wr W11 ge3
  have F13 : Sta Z h11 "com/example/tallyroot/tallyroot/overlay/NodeId" "DIGITS" "[C" (.ref dgs) := F8.wr W11
  have F14 : Arv Z h11 dgs kd .char (16 : Int32) [(.int (48 : Int32)), (.int (49 : Int32)), (.int (50 : Int32)), (.int (51 : Int32)), (.int (52 : Int32)), (.int (53 : Int32)), (.int (54 : Int32)), (.int (55 : Int32)), (.int (56 : Int32)), (.int (57 : Int32)), (.int (97 : Int32)), (.int (98 : Int32)), (.int (99 : Int32)), (.int (100 : Int32)), (.int (101 : Int32)), (.int (102 : Int32))] (.int (0 : Int32)) := F9.other W11 ne2
  have F15 : Arv Z h11 b1 k1 .char (18 : Int32) [(.int (0 : Int32)), (.int (0 : Int32)), (.int (0 : Int32)), (.int (0 : Int32)), (.int (0 : Int32)), (.int (0 : Int32)), (.int (0 : Int32)), (.int (0 : Int32)), (.int (0 : Int32)), (.int (0 : Int32)), (.int (0 : Int32)), (.int (0 : Int32)), (.int (0 : Int32)), (.int (0 : Int32)), (.int (0 : Int32)), (.int (0 : Int32)), (.int v6), (.int (0 : Int32))] (.int (0 : Int32)) := Arv.set Ar11 q11 S11 M11 H11 G11 (by have h_ := fits_nar_char v6; rw [show nar .char v6 = v6 from (show nar .char v6 = v6 from (by rw [← hqv6]; exact own_narc _))] at h_; exact h_) W11 16 rfl (Nat.le_of_ble_eq_true rfl)
  have F16 : Exa Z h11 b1 "[C" := C1.wr W11
  have K17 : Keep h0 h11 [] := K6.wr W11 (Or.inr sz4)
  have Z18 : n0 ≤ h11.size := Nat.le_trans Z5 (Nat.le_of_eq W11.size.symm)
  have N19 := Fr.snoc X11 N0 ge3
  show Go p.tables e below _ (T11.setTop (mkF m 30 #[.val (.long qb), .second, .val (.int pt), .val (.int v6), .val (.int v16), .val (.ref b1), .unset, .unset] []))
  refine Go.st (fun _ k => XS.aload X11.here hx rfl (hb hby at_30) rfl rfl k) ?_
  show Go p.tables e below _ (T11.setTop (mkF m 32 #[.val (.long qb), .second, .val (.int pt), .val (.int v6), .val (.int v16), .val (.ref b1), .unset, .unset] [(.ref b1)]))
  refine Go.st (fun _ k => XS.bipush X11.here hx rfl (hb hby at_32) k) ?_
  show Go p.tables e below _ (T11.setTop (mkF m 34 #[.val (.long qb), .second, .val (.int pt), .val (.int v6), .val (.int v16), .val (.ref b1), .unset, .unset] [(.int (17 : Int32)), (.ref b1)]))
  refine Go.st (fun _ k => XS.iload X11.here hx rfl (hb hby at_34) rfl k) ?_
  show Go p.tables e below _ (T11.setTop (mkF m 36 #[.val (.long qb), .second, .val (.int pt), .val (.int v6), .val (.int v16), .val (.ref b1), .unset, .unset] [(.int v16), (.int (17 : Int32)), (.ref b1)]))
  obtain ⟨cl20, Ar20, q20, S20, M20, H20, G20⟩ := id F15
  have hin20 : ¬ ((17 : Int32) < 0 ∨ cl20.slots.size ≤ ((17 : Int32)).toNatClampNeg) := inb_of S20 ⟨by decide, by decide⟩
  obtain ⟨T20, h20, X20, e20, W20, st20⟩ := stC X11 hx hZ e11 Ar20 (j := (17 : Int32)) hin20 (g := (mkF m 36 #[.val (.long qb), .second, .val (.int pt), .val (.int v6), .val (.int v16), .val (.ref b1), .unset, .unset] [(.int v16), (.int (17 : Int32)), (.ref b1)])) rfl rfl (hb hby at_36)
  rw [(show nar .char v16 = v16 from (by rw [← hqv16]; exact own_narc _))] at W20
  refine Go.st st20 ?_
  have F21 : Old Z n0 h20 := F12.wr W20 ge3
  have F22 : Sta Z h20 "com/example/tallyroot/tallyroot/overlay/NodeId" "DIGITS" "[C" (.ref dgs) := F13.wr W20
  have F23 : Arv Z h20 dgs kd .char (16 : Int32) [(.int (48 : Int32)), (.int (49 : Int32)), (.int (50 : Int32)), (.int (51 : Int32)), (.int (52 : Int32)), (.int (53 : Int32)), (.int (54 : Int32)), (.int (55 : Int32)), (.int (56 : Int32)), (.int (57 : Int32)), (.int (97 : Int32)), (.int (98 : Int32)), (.int (99 : Int32)), (.int (100 : Int32)), (.int (101 : Int32)), (.int (102 : Int32))] (.int (0 : Int32)) := F14.other W20 ne2
  have F24 : Arv Z h20 b1 k1 .char (18 : Int32) [(.int (0 : Int32)), (.int (0 : Int32)), (.int (0 : Int32)), (.int (0 : Int32)), (.int (0 : Int32)), (.int (0 : Int32)), (.int (0 : Int32)), (.int (0 : Int32)), (.int (0 : Int32)), (.int (0 : Int32)), (.int (0 : Int32)), (.int (0 : Int32)), (.int (0 : Int32)), (.int (0 : Int32)), (.int (0 : Int32)), (.int (0 : Int32)), (.int v6), (.int v16)] (.int (0 : Int32)) := Arv.set Ar20 q20 S20 M20 H20 G20 (by have h_ := fits_nar_char v16; rw [show nar .char v16 = v16 from (show nar .char v16 = v16 from (by rw [← hqv16]; exact own_narc _))] at h_; exact h_) W20 17 rfl (Nat.le_of_ble_eq_true rfl)
  have F25 : Exa Z h20 b1 "[C" := F16.wr W20
  have K26 : Keep h0 h20 [] := K17.wr W20 (Or.inr sz4)
  have Z27 : n0 ≤ h20.size := Nat.le_trans Z18 (Nat.le_of_eq W20.size.symm)
  have N28 := Fr.snoc X20 N19 ge3
  show Go p.tables e below _ (T20.setTop (mkF m 37 #[.val (.long qb), .second, .val (.int pt), .val (.int v6), .val (.int v16), .val (.ref b1), .unset, .unset] []))
  obtain ⟨T29, h29, X29, e29, E29, A29, D29, -, st29⟩ := newO X20 hx hZ hown (hw _ (List.mem_of_getElem? (i := 1) rfl)) (hw _ (List.mem_of_getElem? (i := 2) rfl)) (hw _ (List.mem_of_getElem? (i := 3) rfl)) e20 (g := (mkF m 37 #[.val (.long qb), .second, .val (.int pt), .val (.int v6), .val (.int v16), .val (.ref b1), .unset, .unset] [])) rfl (hb hby at_37) (by decide) (by decide)
  obtain ⟨b29, g29⟩ : ∃ z, z = h20.size := ⟨_, rfl⟩
  rw [← g29] at A29 D29 st29
  refine Go.st st29 ?_
  have ne30 : dgs ≠ b29 := Nat.ne_of_lt (Nat.lt_of_lt_of_le F23.lt (Nat.le_of_eq g29.symm))
  have ne31 : b1 ≠ b29 := Nat.ne_of_lt (Nat.lt_of_lt_of_le F24.lt (Nat.le_of_eq g29.symm))
  have ge32 : n0 ≤ b29 := Nat.le_trans Z27 (Nat.le_of_eq g29.symm)
  have sz33 : h0.size ≤ b29 := Nat.le_trans K26.1 (Nat.le_of_eq g29.symm)
  have Z34 : n0 ≤ h29.size := Nat.le_trans Z27 E29.1
  have K35 : Keep h0 h29 [] := K26.ext E29
  have F36 : Old Z n0 h29 := F21.ext E29
  have F37 : Sta Z h29 "com/example/tallyroot/tallyroot/overlay/NodeId" "DIGITS" "[C" (.ref dgs) := F22.ext E29
  have F38 : Arv Z h29 dgs kd .char (16 : Int32) [(.int (48 : Int32)), (.int (49 : Int32)), (.int (50 : Int32)), (.int (51 : Int32)), (.int (52 : Int32)), (.int (53 : Int32)), (.int (54 : Int32)), (.int (55 : Int32)), (.int (56 : Int32)), (.int (57 : Int32)), (.int (97 : Int32)), (.int (98 : Int32)), (.int (99 : Int32)), (.int (100 : Int32)), (.int (101 : Int32)), (.int (102 : Int32))] (.int (0 : Int32)) := F23.ext E29
  have F39 : Arv Z h29 b1 k1 .char (18 : Int32) [(.int (0 : Int32)), (.int (0 : Int32)), (.int (0 : Int32)), (.int (0 : Int32)), (.int (0 : Int32)), (.int (0 : Int32)), (.int (0 : Int32)), (.int (0 : Int32)), (.int (0 : Int32)), (.int (0 : Int32)), (.int (0 : Int32)), (.int (0 : Int32)), (.int (0 : Int32)), (.int (0 : Int32)), (.int (0 : Int32)), (.int (0 : Int32)), (.int v6), (.int v16)] (.int (0 : Int32)) := F24.ext E29
  have F40 : Exa Z h29 b1 "[C" := F25.ext E29
  have F41 : Fld Z h29 b29 "com/example/tallyroot/tallyroot/overlay/NodeId" "bits" "J" (.long (0 : Int64)) := D29 (Or.inr (hw _ (List.mem_of_getElem? (i := 16) rfl))) (ty := .long) (by decide)
  show Go p.tables e below _ (T29.setTop (mkF m 40 #[.val (.long qb), .second, .val (.int pt), .val (.int v6), .val (.int v16), .val (.ref b1), .unset, .unset] [(.ref b29)]))
  refine Go.st (fun _ k => XS.dup X29.here hx rfl (hb hby at_40) rfl rfl k) ?_
  show Go p.tables e below _ (T29.setTop (mkF m 41 #[.val (.long qb), .second, .val (.int pt), .val (.int v6), .val (.int v16), .val (.ref b1), .unset, .unset] [(.ref b29), (.ref b29)]))
  refine Go.st (fun _ k => XS.lloadN X29.here hx rfl (hb hby at_41) rfl k) ?_
  show Go p.tables e below _ (T29.setTop (mkF m 42 #[.val (.long qb), .second, .val (.int pt), .val (.int v6), .val (.int v16), .val (.ref b1), .unset, .unset] [(.long qb), (.ref b29), (.ref b29)]))
  obtain ⟨_, _, ⟨T42, L42, k42, n42⟩, -, X42, ⟨Lc42, hQ42, l42, y42, z42⟩, st42⟩ := X29.specialBack hx (y := (⟨"com/example/tallyroot/tallyroot/overlay/NodeId", "<init>", "(J)V"⟩ : MethodName)) rfl hown (mvT hZ (hw _ (List.mem_of_getElem? (i := 4) rfl))) (mvT hZ (hw _ (List.mem_of_getElem? (i := 5) rfl))) (mvT hZ (hw _ (List.mem_of_getElem? (i := 6) rfl))) (by decide) (backOf (W := 1) (rm_ninit l Z a0 hw [] b29 qb h29 n0 Z34 A29 F41 ge32) hZ (hw _ (List.mem_of_getElem? (i := 6) rfl)) (hw _ (List.mem_of_getElem? (i := 3) rfl)) (by decide) (by decide)) (g := (mkF m 42 #[.val (.long qb), .second, .val (.int pt), .val (.int v6), .val (.int v16), .val (.ref b1), .unset, .unset] [(.long qb), (.ref b29), (.ref b29)])) rfl (by rw [hml]; rfl) (Steps.refl _) (a := b29) (argsL := [(.long qb)]) (rest := [(.ref b29)]) (lenOf pd_4 rfl) rfl (by show 2 * 0 + _ ≤ _; exact Nat.le_of_eq rfl) (hb hby at_42) (fun _ _ => ⟨rfl, e29, (by decide : 2 + 0 ≤ _), (by decide : 19 + 0 ≤ _)⟩)
  dsimp only [Pt.U, Pt.locs, Pt.cells, Pt.slots] at X42 l42 y42 z42 st42 hQ42
  rw [l42, y42, z42] at X42
  obtain ⟨rfl, N42q, K42q, Fq42_0, Fq42_1⟩ := hQ42
  have N42 := Fr.app N28 N42q
  refine Go.st (fun _ k => st42.trans k) ?_
  have Z43 : n0 ≤ T42.heap.size := Nat.le_trans Z34 K42q.1
  have K44 : Keep h0 T42.heap [] := K35.trans K42q (fun z hz => (List.mem_cons.mp hz).elim (fun q => by rw [q]; exact Or.inr sz33) (fun hz => absurd hz List.not_mem_nil))
  have F45 : Old Z n0 T42.heap := F36.keep K42q (allS ge32 all0)
  have F46 : Sta Z T42.heap "com/example/tallyroot/tallyroot/overlay/NodeId" "DIGITS" "[C" (.ref dgs) := own_stakeepW F37 K42q (allS (P := fun x => ∀ c : Cell, h29[x]? = some c → c.vm.isStatics = false) (old_plain F41) all0)
  have F47 : Arv Z T42.heap dgs kd .char (16 : Int32) [(.int (48 : Int32)), (.int (49 : Int32)), (.int (50 : Int32)), (.int (51 : Int32)), (.int (52 : Int32)), (.int (53 : Int32)), (.int (54 : Int32)), (.int (55 : Int32)), (.int (56 : Int32)), (.int (57 : Int32)), (.int (97 : Int32)), (.int (98 : Int32)), (.int (99 : Int32)), (.int (100 : Int32)), (.int (101 : Int32)), (.int (102 : Int32))] (.int (0 : Int32)) := F38.keep K42q (fun z => (List.mem_cons.mp z).elim ne30 (fun z => absurd z List.not_mem_nil))
  have F48 : Arv Z T42.heap b1 k1 .char (18 : Int32) [(.int (0 : Int32)), (.int (0 : Int32)), (.int (0 : Int32)), (.int (0 : Int32)), (.int (0 : Int32)), (.int (0 : Int32)), (.int (0 : Int32)), (.int (0 : Int32)), (.int (0 : Int32)), (.int (0 : Int32)), (.int (0 : Int32)), (.int (0 : Int32)), (.int (0 : Int32)), (.int (0 : Int32)), (.int (0 : Int32)), (.int (0 : Int32)), (.int v6), (.int v16)] (.int (0 : Int32)) := F39.keep K42q (fun z => (List.mem_cons.mp z).elim ne31 (fun z => absurd z List.not_mem_nil))
  have F49 : Exa Z T42.heap b1 "[C" := F40.keep K42q
  have F50 : Exa Z T42.heap b29 "com/example/tallyroot/tallyroot/overlay/NodeId" := A29.keep K42q
  show Go p.tables e below _ (T42.setTop (mkF m 45 #[.val (.long qb), .second, .val (.int pt), .val (.int v6), .val (.int v16), .val (.ref b1), .unset, .unset] [(.ref b29)]))
  refine Go.st (fun _ k => XS.astore X42.here hx rfl (hb hby at_45) rfl rfl (l' := #[.val (.long qb), .second, .val (.int pt), .val (.int v6), .val (.int v16), .val (.ref b1), .val (.ref b29), .unset]) rfl k) ?_
  show Go p.tables e below _ (T42.setTop (mkF m 47 #[.val (.long qb), .second, .val (.int pt), .val (.int v6), .val (.int v16), .val (.ref b1), .val (.ref b29), .unset] []))
  show Go p.tables e below _ (T42.setTop (mkF m 47 #[.val (.long qb), .second, .val (.int pt), .val (.int v6), .val (.int v16), .val (.ref b1), .val (.ref b29), .unset] []))
  refine Go.st (fun _ k => XS.aload X42.here hx rfl (hb hby at_47) rfl rfl k) ?_
  show Go p.tables e below _ (T42.setTop (mkF m 49 #[.val (.long qb), .second, .val (.int pt), .val (.int v6), .val (.int v16), .val (.ref b1), .val (.ref b29), .unset] [(.ref b29)]))
  refine Go.st (fun _ k => XS.aload X42.here hx rfl (hb hby at_49) rfl rfl k) ?_
  show Go p.tables e below _ (T42.setTop (mkF m 51 #[.val (.long qb), .second, .val (.int pt), .val (.int v6), .val (.int v16), .val (.ref b1), .val (.ref b29), .unset] [(.ref b1), (.ref b29)]))
  obtain ⟨cq51, kq51, q51a, q51b, q51c⟩ := isOf hZ (rfl : T42.heap = T42.heap) Fq42_0
  obtain ⟨_, _, ⟨T51, L51, k51, n51⟩, -, X51, ⟨Lc51, hQ51, l51, y51, z51⟩, st51⟩ := X42.virtualBack hx (y := (⟨"com/example/tallyroot/tallyroot/overlay/NodeId", "writeTo", "([C)V"⟩ : MethodName)) (z := (⟨"com/example/tallyroot/tallyroot/overlay/NodeId", "writeTo", "([C)V"⟩ : MethodName)) hown (mvT hZ (hw _ (List.mem_of_getElem? (i := 17) rfl))) (mvT hZ (hw _ (List.mem_of_getElem? (i := 18) rfl))) (notFace_of_selects (args := #[]) (mvT hZ (hw _ (List.mem_of_getElem? (i := 20) rfl)))) (mvT hZ (hw _ (List.mem_of_getElem? (i := 20) rfl))) (mvT hZ (hw _ (List.mem_of_getElem? (i := 19) rfl))) (by decide) (backOf (W := 0) (rm_wr l Z a0 hw [] b29 b1 qb k1 dgs kd (0 : Int32) (0 : Int32) (0 : Int32) (0 : Int32) (0 : Int32) (0 : Int32) (0 : Int32) (0 : Int32) (0 : Int32) (0 : Int32) (0 : Int32) (0 : Int32) (0 : Int32) (0 : Int32) (0 : Int32) (0 : Int32) v6 v16 T42.heap n0 Z43 Fq42_1 F48 ge3 F46 F47 (Ne.symm ne31) ne2) hZ (hw _ (List.mem_of_getElem? (i := 21) rfl)) (hw _ (List.mem_of_getElem? (i := 3) rfl)) (by decide) (by decide)) q51a q51c (g := (mkF m 51 #[.val (.long qb), .second, .val (.int pt), .val (.int v6), .val (.int v16), .val (.ref b1), .val (.ref b29), .unset] [(.ref b1), (.ref b29)])) rfl (by rw [hml]; rfl) (Steps.refl _) (argsL := [(.ref b1)]) (rest := []) (lenOf pd_5 rfl) rfl (by show 2 * 0 + _ ≤ _; exact Nat.le_of_eq rfl) (hb hby at_51) (fun _ _ => ⟨rfl, (rfl : T42.heap = T42.heap), (by decide : 2 + 0 ≤ _), (by decide : 19 + 0 ≤ _)⟩)
  dsimp only [Pt.U, Pt.locs, Pt.cells, Pt.slots] at X51 l51 y51 z51 st51 hQ51
  rw [l51, y51, z51] at X51
  obtain ⟨rfl, N51q, K51q, Fq51_0⟩ := hQ51
  have N51 := Fr.app N42 N51q
  refine Go.st (fun _ k => st51.trans k) ?_
  have Z52 : n0 ≤ T51.heap.size := Nat.le_trans Z43 K51q.1
  have K53 : Keep h0 T51.heap [] := K44.trans K51q (fun z hz => (List.mem_cons.mp hz).elim (fun q => by rw [q]; exact Or.inr sz4) (fun hz => absurd hz List.not_mem_nil))
  have F54 : Old Z n0 T51.heap := F45.keep K51q (allS ge3 all0)
  have F55 : Sta Z T51.heap "com/example/tallyroot/tallyroot/overlay/NodeId" "DIGITS" "[C" (.ref dgs) := own_stakeepW F46 K51q (allS (P := fun x => ∀ c : Cell, T42.heap[x]? = some c → c.vm.isStatics = false) F48.nostat all0)
  have F56 : Arv Z T51.heap dgs kd .char (16 : Int32) [(.int (48 : Int32)), (.int (49 : Int32)), (.int (50 : Int32)), (.int (51 : Int32)), (.int (52 : Int32)), (.int (53 : Int32)), (.int (54 : Int32)), (.int (55 : Int32)), (.int (56 : Int32)), (.int (57 : Int32)), (.int (97 : Int32)), (.int (98 : Int32)), (.int (99 : Int32)), (.int (100 : Int32)), (.int (101 : Int32)), (.int (102 : Int32))] (.int (0 : Int32)) := F47.keep K51q (fun z => (List.mem_cons.mp z).elim ne2 (fun z => absurd z List.not_mem_nil))
  have F57 : Exa Z T51.heap b1 "[C" := F49.keep K51q
  have F58 : Exa Z T51.heap b29 "com/example/tallyroot/tallyroot/overlay/NodeId" := Fq42_0.keep K51q
  have F59 : Fld Z T51.heap b29 "com/example/tallyroot/tallyroot/overlay/NodeId" "bits" "J" (.long qb) := Fq42_1.keep K51q (fun z => (List.mem_cons.mp z).elim (Ne.symm ne31) (fun z => absurd z List.not_mem_nil))
  show Go p.tables e below _ (T51.setTop (mkF m 54 #[.val (.long qb), .second, .val (.int pt), .val (.int v6), .val (.int v16), .val (.ref b1), .val (.ref b29), .unset] []))
  refine Go.st (fun _ k => XS.aload X51.here hx rfl (hb hby at_54) rfl rfl k) ?_
  show Go p.tables e below _ (T51.setTop (mkF m 56 #[.val (.long qb), .second, .val (.int pt), .val (.int v6), .val (.int v16), .val (.ref b1), .val (.ref b29), .unset] [(.ref b1)]))
  refine Go.st (fun _ k => XS.bipush X51.here hx rfl (hb hby at_56) k) ?_
  show Go p.tables e below _ (T51.setTop (mkF m 58 #[.val (.long qb), .second, .val (.int pt), .val (.int v6), .val (.int v16), .val (.ref b1), .val (.ref b29), .unset] [(.int (16 : Int32)), (.ref b1)]))
  obtain ⟨cl60, Ar60, q60, S60, M60, H60, G60⟩ := id Fq51_0
  have hin60 : ¬ ((16 : Int32) < 0 ∨ cl60.slots.size ≤ ((16 : Int32)).toNatClampNeg) := inb_of S60 ⟨by decide, by decide⟩
  have hat60 : cl60.slots[((16 : Int32)).toNatClampNeg]? = some (.int v6) := Has.at H60 hin60 (rfl)
  refine Go.st (fun _ k => X51.caload hx (j := (16 : Int32)) (v := (.int v6)) (by rw [(rfl : T51.heap = T51.heap)]; exact Ar60.1) (State.isArrayOf_alike hZ.alike Ar60.2.1) Ar60.2.2 hin60 hat60 (g := (mkF m 58 #[.val (.long qb), .second, .val (.int pt), .val (.int v6), .val (.int v16), .val (.ref b1), .val (.ref b29), .unset] [(.int (16 : Int32)), (.ref b1)])) rfl rfl (hb hby at_58) _ k) ?_
  show Go p.tables e below _ (T51.setTop (mkF m 59 #[.val (.long qb), .second, .val (.int pt), .val (.int v6), .val (.int v16), .val (.ref b1), .val (.ref b29), .unset] [(.int v6)]))
  refine Go.st (fun _ k => XS.iloadN X51.here hx rfl (hb hby at_59) rfl k) ?_
  show Go p.tables e below _ (T51.setTop (mkF m 60 #[.val (.long qb), .second, .val (.int pt), .val (.int v6), .val (.int v16), .val (.ref b1), .val (.ref b29), .unset] [(.int v6), (.int v6)]))
  have hc60 : v6 = v6 := rfl
  refine Go.st (fun _ k => XS.icmpNo X51.here hx rfl (hb hby at_60) rfl (Jvm.Free.XT.ii_ne_f hc60) k) ?_
  show Go p.tables e below _ (T51.setTop (mkF m 63 #[.val (.long qb), .second, .val (.int pt), .val (.int v6), .val (.int v16), .val (.ref b1), .val (.ref b29), .unset] []))
  refine Go.st (fun _ k => XS.aload X51.here hx rfl (hb hby at_63) rfl rfl k) ?_
  show Go p.tables e below _ (T51.setTop (mkF m 65 #[.val (.long qb), .second, .val (.int pt), .val (.int v6), .val (.int v16), .val (.ref b1), .val (.ref b29), .unset] [(.ref b1)]))
  refine Go.st (fun _ k => XS.bipush X51.here hx rfl (hb hby at_65) k) ?_
  show Go p.tables e below _ (T51.setTop (mkF m 67 #[.val (.long qb), .second, .val (.int pt), .val (.int v6), .val (.int v16), .val (.ref b1), .val (.ref b29), .unset] [(.int (17 : Int32)), (.ref b1)]))
  obtain ⟨cl61, Ar61, q61, S61, M61, H61, G61⟩ := id Fq51_0
  have hin61 : ¬ ((17 : Int32) < 0 ∨ cl61.slots.size ≤ ((17 : Int32)).toNatClampNeg) := inb_of S61 ⟨by decide, by decide⟩
  have hat61 : cl61.slots[((17 : Int32)).toNatClampNeg]? = some (.int v16) := Has.at H61 hin61 (rfl)
  refine Go.st (fun _ k => X51.caload hx (j := (17 : Int32)) (v := (.int v16)) (by rw [(rfl : T51.heap = T51.heap)]; exact Ar61.1) (State.isArrayOf_alike hZ.alike Ar61.2.1) Ar61.2.2 hin61 hat61 (g := (mkF m 67 #[.val (.long qb), .second, .val (.int pt), .val (.int v6), .val (.int v16), .val (.ref b1), .val (.ref b29), .unset] [(.int (17 : Int32)), (.ref b1)])) rfl rfl (hb hby at_67) _ k) ?_
  show Go p.tables e below _ (T51.setTop (mkF m 68 #[.val (.long qb), .second, .val (.int pt), .val (.int v6), .val (.int v16), .val (.ref b1), .val (.ref b29), .unset] [(.int v16)]))
  refine Go.st (fun _ k => XS.iload X51.here hx rfl (hb hby at_68) rfl k) ?_
  show Go p.tables e below _ (T51.setTop (mkF m 70 #[.val (.long qb), .second, .val (.int pt), .val (.int v6), .val (.int v16), .val (.ref b1), .val (.ref b29), .unset] [(.int v16), (.int v16)]))
  have hc70 : v16 = v16 := rfl
  refine Go.st (fun _ k => XS.icmpYes X51.here hx rfl (pc0 := 70) (pc' := 75) rfl (hb hby at_70) rfl (Jvm.Free.XT.ii_eq_t hc70) (by decide) (by decide) k) ?_
  show Go p.tables e below _ (T51.setTop (mkF m 75 #[.val (.long qb), .second, .val (.int pt), .val (.int v6), .val (.int v16), .val (.ref b1), .val (.ref b29), .unset] []))
  refine Go.st (fun _ k => XS.aload X51.here hx rfl (hb hby at_75) rfl rfl k) ?_
  show Go p.tables e below _ (T51.setTop (mkF m 77 #[.val (.long qb), .second, .val (.int pt), .val (.int v6), .val (.int v16), .val (.ref b1), .val (.ref b29), .unset] [(.ref b1)]))
  refine Go.st (fun _ k => XS.iconst X51.here hx rfl (hb hby at_77) k) ?_
  show Go p.tables e below _ (T51.setTop (mkF m 78 #[.val (.long qb), .second, .val (.int pt), .val (.int v6), .val (.int v16), .val (.ref b1), .val (.ref b29), .unset] [(.int (0 : Int32)), (.ref b1)]))
  obtain ⟨cl62, Ar62, q62, S62, M62, H62, G62⟩ := id Fq51_0
  have hin62 : ¬ ((0 : Int32) < 0 ∨ cl62.slots.size ≤ ((0 : Int32)).toNatClampNeg) := inb_of S62 ⟨by decide, by decide⟩
  have hat62 : cl62.slots[((0 : Int32)).toNatClampNeg]? = some (.int (dch (nibS qb (60 : Int32)))) := Has.at H62 hin62 (rfl)
  refine Go.st (fun _ k => X51.caload hx (j := (0 : Int32)) (v := (.int (dch (nibS qb (60 : Int32))))) (by rw [(rfl : T51.heap = T51.heap)]; exact Ar62.1) (State.isArrayOf_alike hZ.alike Ar62.2.1) Ar62.2.2 hin62 hat62 (g := (mkF m 78 #[.val (.long qb), .second, .val (.int pt), .val (.int v6), .val (.int v16), .val (.ref b1), .val (.ref b29), .unset] [(.int (0 : Int32)), (.ref b1)])) rfl rfl (hb hby at_78) _ k) ?_
  show Go p.tables e below _ (T51.setTop (mkF m 79 #[.val (.long qb), .second, .val (.int pt), .val (.int v6), .val (.int v16), .val (.ref b1), .val (.ref b29), .unset] [(.int (dch (nibS qb (60 : Int32))))]))
  obtain ⟨_, _, ⟨T63, L63, k63, n63⟩, -, X63, ⟨Lc63, hQ63, l63, y63, z63⟩, st63⟩ := Jvm.LawKit.callS X51 hx (y := (⟨"com/example/tallyroot/tallyroot/overlay/NodeIdWriteToPinLaw", "hex", "(C)Z"⟩ : MethodName)) hown (mvT hZ (hw _ (List.mem_of_getElem? (i := 24) rfl))) (mvT hZ (hw _ (List.mem_of_getElem? (i := 25) rfl))) (mvT hZ (hw _ (List.mem_of_getElem? (i := 26) rfl))) (mvT hZ (hw _ (List.mem_of_getElem? (i := 27) rfl))) (by decide) (backOf (W := 0) (rm_hex l Z a0 hw [] (dch (nibS qb (60 : Int32))) T51.heap n0 Z52 ) hZ (hw _ (List.mem_of_getElem? (i := 27) rfl)) (hw _ (List.mem_of_getElem? (i := 26) rfl)) (by decide) (by decide)) (g := (mkF m 79 #[.val (.long qb), .second, .val (.int pt), .val (.int v6), .val (.int v16), .val (.ref b1), .val (.ref b29), .unset] [(.int (dch (nibS qb (60 : Int32))))])) rfl (by rw [hml]; rfl) (argsL := [(.int (dch (nibS qb (60 : Int32))))]) (rest := []) (lenOf pd_6 rfl) rfl (by show 2 * 0 + _ ≤ _; exact Nat.le_of_eq rfl) (hb hby at_79) (fun _ _ => ⟨rfl, (rfl : T51.heap = T51.heap), (by decide : 2 + 0 ≤ _), (by decide : 19 + 0 ≤ _)⟩)
  dsimp only [Pt.U, Pt.locs, Pt.cells, Pt.slots] at X63 l63 y63 z63 st63 hQ63
  rw [l63, y63, z63] at X63
  obtain ⟨rfl, N63q, e63⟩ := hQ63
  have N63 := Fr.app N51 N63q
  refine Go.st st63 ?_
  show Go p.tables e below _ (T63.setTop (mkF m 82 #[.val (.long qb), .second, .val (.int pt), .val (.int v6), .val (.int v16), .val (.ref b1), .val (.ref b29), .unset] [(.int (hxF (dch (nibS qb (60 : Int32)))))]))
  have hc82 : ¬ ((hxF (dch (nibS qb (60 : Int32)))) = (0 : Int32)) := (by rw [own_hx (own_nib _ _)]; decide)
  refine Go.st (fun _ k => XS.ifNo X63.here hx rfl (hb hby at_82) rfl (Jvm.Free.XT.i0_eq_f hc82) k) ?_
  show Go p.tables e below _ (T63.setTop (mkF m 85 #[.val (.long qb), .second, .val (.int pt), .val (.int v6), .val (.int v16), .val (.ref b1), .val (.ref b29), .unset] []))
  refine Go.st (fun _ k => XS.aload X63.here hx rfl (hb hby at_85) rfl rfl k) ?_
  show Go p.tables e below _ (T63.setTop (mkF m 87 #[.val (.long qb), .second, .val (.int pt), .val (.int v6), .val (.int v16), .val (.ref b1), .val (.ref b29), .unset] [(.ref b1)]))
  refine Go.st (fun _ k => XS.iconst X63.here hx rfl (hb hby at_87) k) ?_
  show Go p.tables e below _ (T63.setTop (mkF m 88 #[.val (.long qb), .second, .val (.int pt), .val (.int v6), .val (.int v16), .val (.ref b1), .val (.ref b29), .unset] [(.int (1 : Int32)), (.ref b1)]))
  obtain ⟨cl64, Ar64, q64, S64, M64, H64, G64⟩ := id Fq51_0
  have hin64 : ¬ ((1 : Int32) < 0 ∨ cl64.slots.size ≤ ((1 : Int32)).toNatClampNeg) := inb_of S64 ⟨by decide, by decide⟩
  have hat64 : cl64.slots[((1 : Int32)).toNatClampNeg]? = some (.int (dch (nibS qb (56 : Int32)))) := Has.at H64 hin64 (rfl)
  refine Go.st (fun _ k => X63.caload hx (j := (1 : Int32)) (v := (.int (dch (nibS qb (56 : Int32))))) (by rw [e63]; exact Ar64.1) (State.isArrayOf_alike hZ.alike Ar64.2.1) Ar64.2.2 hin64 hat64 (g := (mkF m 88 #[.val (.long qb), .second, .val (.int pt), .val (.int v6), .val (.int v16), .val (.ref b1), .val (.ref b29), .unset] [(.int (1 : Int32)), (.ref b1)])) rfl rfl (hb hby at_88) _ k) ?_
  show Go p.tables e below _ (T63.setTop (mkF m 89 #[.val (.long qb), .second, .val (.int pt), .val (.int v6), .val (.int v16), .val (.ref b1), .val (.ref b29), .unset] [(.int (dch (nibS qb (56 : Int32))))]))
  obtain ⟨_, _, ⟨T65, L65, k65, n65⟩, -, X65, ⟨Lc65, hQ65, l65, y65, z65⟩, st65⟩ := Jvm.LawKit.callS X63 hx (y := (⟨"com/example/tallyroot/tallyroot/overlay/NodeIdWriteToPinLaw", "hex", "(C)Z"⟩ : MethodName)) hown (mvT hZ (hw _ (List.mem_of_getElem? (i := 24) rfl))) (mvT hZ (hw _ (List.mem_of_getElem? (i := 25) rfl))) (mvT hZ (hw _ (List.mem_of_getElem? (i := 26) rfl))) (mvT hZ (hw _ (List.mem_of_getElem? (i := 27) rfl))) (by decide) (backOf (W := 0) (rm_hex l Z a0 hw [] (dch (nibS qb (56 : Int32))) T51.heap n0 Z52 ) hZ (hw _ (List.mem_of_getElem? (i := 27) rfl)) (hw _ (List.mem_of_getElem? (i := 26) rfl)) (by decide) (by decide)) (g := (mkF m 89 #[.val (.long qb), .second, .val (.int pt), .val (.int v6), .val (.int v16), .val (.ref b1), .val (.ref b29), .unset] [(.int (dch (nibS qb (56 : Int32))))])) rfl (by rw [hml]; rfl) (argsL := [(.int (dch (nibS qb (56 : Int32))))]) (rest := []) (lenOf pd_6 rfl) rfl (by show 2 * 0 + _ ≤ _; exact Nat.le_of_eq rfl) (hb hby at_89) (fun _ _ => ⟨rfl, e63, (by decide : 2 + 0 ≤ _), (by decide : 19 + 0 ≤ _)⟩)
  dsimp only [Pt.U, Pt.locs, Pt.cells, Pt.slots] at X65 l65 y65 z65 st65 hQ65
  rw [l65, y65, z65] at X65
  obtain ⟨rfl, N65q, e65⟩ := hQ65
  have N65 := Fr.app N63 N65q
  refine Go.st st65 ?_
  show Go p.tables e below _ (T65.setTop (mkF m 92 #[.val (.long qb), .second, .val (.int pt), .val (.int v6), .val (.int v16), .val (.ref b1), .val (.ref b29), .unset] [(.int (hxF (dch (nibS qb (56 : Int32)))))]))
  have hc92 : ¬ ((hxF (dch (nibS qb (56 : Int32)))) = (0 : Int32)) := (by rw [own_hx (own_nib _ _)]; decide)
  refine Go.st (fun _ k => XS.ifNo X65.here hx rfl (hb hby at_92) rfl (Jvm.Free.XT.i0_eq_f hc92) k) ?_
  show Go p.tables e below _ (T65.setTop (mkF m 95 #[.val (.long qb), .second, .val (.int pt), .val (.int v6), .val (.int v16), .val (.ref b1), .val (.ref b29), .unset] []))
  refine Go.st (fun _ k => XS.aload X65.here hx rfl (hb hby at_95) rfl rfl k) ?_
  show Go p.tables e below _ (T65.setTop (mkF m 97 #[.val (.long qb), .second, .val (.int pt), .val (.int v6), .val (.int v16), .val (.ref b1), .val (.ref b29), .unset] [(.ref b1)]))
  refine Go.st (fun _ k => XS.iconst X65.here hx rfl (hb hby at_97) k) ?_
  show Go p.tables e below _ (T65.setTop (mkF m 98 #[.val (.long qb), .second, .val (.int pt), .val (.int v6), .val (.int v16), .val (.ref b1), .val (.ref b29), .unset] [(.int (2 : Int32)), (.ref b1)]))
  obtain ⟨cl66, Ar66, q66, S66, M66, H66, G66⟩ := id Fq51_0
  have hin66 : ¬ ((2 : Int32) < 0 ∨ cl66.slots.size ≤ ((2 : Int32)).toNatClampNeg) := inb_of S66 ⟨by decide, by decide⟩
  have hat66 : cl66.slots[((2 : Int32)).toNatClampNeg]? = some (.int (dch (nibS qb (52 : Int32)))) := Has.at H66 hin66 (rfl)
  refine Go.st (fun _ k => X65.caload hx (j := (2 : Int32)) (v := (.int (dch (nibS qb (52 : Int32))))) (by rw [e65]; exact Ar66.1) (State.isArrayOf_alike hZ.alike Ar66.2.1) Ar66.2.2 hin66 hat66 (g := (mkF m 98 #[.val (.long qb), .second, .val (.int pt), .val (.int v6), .val (.int v16), .val (.ref b1), .val (.ref b29), .unset] [(.int (2 : Int32)), (.ref b1)])) rfl rfl (hb hby at_98) _ k) ?_
  show Go p.tables e below _ (T65.setTop (mkF m 99 #[.val (.long qb), .second, .val (.int pt), .val (.int v6), .val (.int v16), .val (.ref b1), .val (.ref b29), .unset] [(.int (dch (nibS qb (52 : Int32))))]))
  obtain ⟨_, _, ⟨T67, L67, k67, n67⟩, -, X67, ⟨Lc67, hQ67, l67, y67, z67⟩, st67⟩ := Jvm.LawKit.callS X65 hx (y := (⟨"com/example/tallyroot/tallyroot/overlay/NodeIdWriteToPinLaw", "hex", "(C)Z"⟩ : MethodName)) hown (mvT hZ (hw _ (List.mem_of_getElem? (i := 24) rfl))) (mvT hZ (hw _ (List.mem_of_getElem? (i := 25) rfl))) (mvT hZ (hw _ (List.mem_of_getElem? (i := 26) rfl))) (mvT hZ (hw _ (List.mem_of_getElem? (i := 27) rfl))) (by decide) (backOf (W := 0) (rm_hex l Z a0 hw [] (dch (nibS qb (52 : Int32))) T51.heap n0 Z52 ) hZ (hw _ (List.mem_of_getElem? (i := 27) rfl)) (hw _ (List.mem_of_getElem? (i := 26) rfl)) (by decide) (by decide)) (g := (mkF m 99 #[.val (.long qb), .second, .val (.int pt), .val (.int v6), .val (.int v16), .val (.ref b1), .val (.ref b29), .unset] [(.int (dch (nibS qb (52 : Int32))))])) rfl (by rw [hml]; rfl) (argsL := [(.int (dch (nibS qb (52 : Int32))))]) (rest := []) (lenOf pd_6 rfl) rfl (by show 2 * 0 + _ ≤ _; exact Nat.le_of_eq rfl) (hb hby at_99) (fun _ _ => ⟨rfl, e65, (by decide : 2 + 0 ≤ _), (by decide : 19 + 0 ≤ _)⟩)
  dsimp only [Pt.U, Pt.locs, Pt.cells, Pt.slots] at X67 l67 y67 z67 st67 hQ67
  rw [l67, y67, z67] at X67
  obtain ⟨rfl, N67q, e67⟩ := hQ67
  have N67 := Fr.app N65 N67q
  refine Go.st st67 ?_
  show Go p.tables e below _ (T67.setTop (mkF m 102 #[.val (.long qb), .second, .val (.int pt), .val (.int v6), .val (.int v16), .val (.ref b1), .val (.ref b29), .unset] [(.int (hxF (dch (nibS qb (52 : Int32)))))]))
  have hc102 : ¬ ((hxF (dch (nibS qb (52 : Int32)))) = (0 : Int32)) := (by rw [own_hx (own_nib _ _)]; decide)
  refine Go.st (fun _ k => XS.ifNo X67.here hx rfl (hb hby at_102) rfl (Jvm.Free.XT.i0_eq_f hc102) k) ?_
  show Go p.tables e below _ (T67.setTop (mkF m 105 #[.val (.long qb), .second, .val (.int pt), .val (.int v6), .val (.int v16), .val (.ref b1), .val (.ref b29), .unset] []))
  refine Go.st (fun _ k => XS.aload X67.here hx rfl (hb hby at_105) rfl rfl k) ?_
  show Go p.tables e below _ (T67.setTop (mkF m 107 #[.val (.long qb), .second, .val (.int pt), .val (.int v6), .val (.int v16), .val (.ref b1), .val (.ref b29), .unset] [(.ref b1)]))
  refine Go.st (fun _ k => XS.iconst X67.here hx rfl (hb hby at_107) k) ?_
  show Go p.tables e below _ (T67.setTop (mkF m 108 #[.val (.long qb), .second, .val (.int pt), .val (.int v6), .val (.int v16), .val (.ref b1), .val (.ref b29), .unset] [(.int (3 : Int32)), (.ref b1)]))
  obtain ⟨cl68, Ar68, q68, S68, M68, H68, G68⟩ := id Fq51_0
  have hin68 : ¬ ((3 : Int32) < 0 ∨ cl68.slots.size ≤ ((3 : Int32)).toNatClampNeg) := inb_of S68 ⟨by decide, by decide⟩
  have hat68 : cl68.slots[((3 : Int32)).toNatClampNeg]? = some (.int (dch (nibS qb (48 : Int32)))) := Has.at H68 hin68 (rfl)
  refine Go.st (fun _ k => X67.caload hx (j := (3 : Int32)) (v := (.int (dch (nibS qb (48 : Int32))))) (by rw [e67]; exact Ar68.1) (State.isArrayOf_alike hZ.alike Ar68.2.1) Ar68.2.2 hin68 hat68 (g := (mkF m 108 #[.val (.long qb), .second, .val (.int pt), .val (.int v6), .val (.int v16), .val (.ref b1), .val (.ref b29), .unset] [(.int (3 : Int32)), (.ref b1)])) rfl rfl (hb hby at_108) _ k) ?_
  show Go p.tables e below _ (T67.setTop (mkF m 109 #[.val (.long qb), .second, .val (.int pt), .val (.int v6), .val (.int v16), .val (.ref b1), .val (.ref b29), .unset] [(.int (dch (nibS qb (48 : Int32))))]))
  obtain ⟨_, _, ⟨T69, L69, k69, n69⟩, -, X69, ⟨Lc69, hQ69, l69, y69, z69⟩, st69⟩ := Jvm.LawKit.callS X67 hx (y := (⟨"com/example/tallyroot/tallyroot/overlay/NodeIdWriteToPinLaw", "hex", "(C)Z"⟩ : MethodName)) hown (mvT hZ (hw _ (List.mem_of_getElem? (i := 24) rfl))) (mvT hZ (hw _ (List.mem_of_getElem? (i := 25) rfl))) (mvT hZ (hw _ (List.mem_of_getElem? (i := 26) rfl))) (mvT hZ (hw _ (List.mem_of_getElem? (i := 27) rfl))) (by decide) (backOf (W := 0) (rm_hex l Z a0 hw [] (dch (nibS qb (48 : Int32))) T51.heap n0 Z52 ) hZ (hw _ (List.mem_of_getElem? (i := 27) rfl)) (hw _ (List.mem_of_getElem? (i := 26) rfl)) (by decide) (by decide)) (g := (mkF m 109 #[.val (.long qb), .second, .val (.int pt), .val (.int v6), .val (.int v16), .val (.ref b1), .val (.ref b29), .unset] [(.int (dch (nibS qb (48 : Int32))))])) rfl (by rw [hml]; rfl) (argsL := [(.int (dch (nibS qb (48 : Int32))))]) (rest := []) (lenOf pd_6 rfl) rfl (by show 2 * 0 + _ ≤ _; exact Nat.le_of_eq rfl) (hb hby at_109) (fun _ _ => ⟨rfl, e67, (by decide : 2 + 0 ≤ _), (by decide : 19 + 0 ≤ _)⟩)
  dsimp only [Pt.U, Pt.locs, Pt.cells, Pt.slots] at X69 l69 y69 z69 st69 hQ69
  rw [l69, y69, z69] at X69
  obtain ⟨rfl, N69q, e69⟩ := hQ69
  have N69 := Fr.app N67 N69q
  refine Go.st st69 ?_
  show Go p.tables e below _ (T69.setTop (mkF m 112 #[.val (.long qb), .second, .val (.int pt), .val (.int v6), .val (.int v16), .val (.ref b1), .val (.ref b29), .unset] [(.int (hxF (dch (nibS qb (48 : Int32)))))]))
  have hc112 : ¬ ((hxF (dch (nibS qb (48 : Int32)))) = (0 : Int32)) := (by rw [own_hx (own_nib _ _)]; decide)
  refine Go.st (fun _ k => XS.ifYes X69.here hx rfl (pc0 := 112) (pc' := 117) rfl (hb hby at_112) rfl (Jvm.Free.XT.i0_ne_t hc112) (by decide) (by decide) k) ?_
  show Go p.tables e below _ (T69.setTop (mkF m 117 #[.val (.long qb), .second, .val (.int pt), .val (.int v6), .val (.int v16), .val (.ref b1), .val (.ref b29), .unset] []))
  refine Go.st (fun _ k => XS.aload X69.here hx rfl (hb hby at_117) rfl rfl k) ?_
  show Go p.tables e below _ (T69.setTop (mkF m 119 #[.val (.long qb), .second, .val (.int pt), .val (.int v6), .val (.int v16), .val (.ref b1), .val (.ref b29), .unset] [(.ref b1)]))
  refine Go.st (fun _ k => XS.iconst X69.here hx rfl (hb hby at_119) k) ?_
  show Go p.tables e below _ (T69.setTop (mkF m 120 #[.val (.long qb), .second, .val (.int pt), .val (.int v6), .val (.int v16), .val (.ref b1), .val (.ref b29), .unset] [(.int (4 : Int32)), (.ref b1)]))
  obtain ⟨cl70, Ar70, q70, S70, M70, H70, G70⟩ := id Fq51_0
  have hin70 : ¬ ((4 : Int32) < 0 ∨ cl70.slots.size ≤ ((4 : Int32)).toNatClampNeg) := inb_of S70 ⟨by decide, by decide⟩
  have hat70 : cl70.slots[((4 : Int32)).toNatClampNeg]? = some (.int (dch (nibS qb (44 : Int32)))) := Has.at H70 hin70 (rfl)
  refine Go.st (fun _ k => X69.caload hx (j := (4 : Int32)) (v := (.int (dch (nibS qb (44 : Int32))))) (by rw [e69]; exact Ar70.1) (State.isArrayOf_alike hZ.alike Ar70.2.1) Ar70.2.2 hin70 hat70 (g := (mkF m 120 #[.val (.long qb), .second, .val (.int pt), .val (.int v6), .val (.int v16), .val (.ref b1), .val (.ref b29), .unset] [(.int (4 : Int32)), (.ref b1)])) rfl rfl (hb hby at_120) _ k) ?_
  show Go p.tables e below _ (T69.setTop (mkF m 121 #[.val (.long qb), .second, .val (.int pt), .val (.int v6), .val (.int v16), .val (.ref b1), .val (.ref b29), .unset] [(.int (dch (nibS qb (44 : Int32))))]))
  obtain ⟨_, _, ⟨T71, L71, k71, n71⟩, -, X71, ⟨Lc71, hQ71, l71, y71, z71⟩, st71⟩ := Jvm.LawKit.callS X69 hx (y := (⟨"com/example/tallyroot/tallyroot/overlay/NodeIdWriteToPinLaw", "hex", "(C)Z"⟩ : MethodName)) hown (mvT hZ (hw _ (List.mem_of_getElem? (i := 24) rfl))) (mvT hZ (hw _ (List.mem_of_getElem? (i := 25) rfl))) (mvT hZ (hw _ (List.mem_of_getElem? (i := 26) rfl))) (mvT hZ (hw _ (List.mem_of_getElem? (i := 27) rfl))) (by decide) (backOf (W := 0) (rm_hex l Z a0 hw [] (dch (nibS qb (44 : Int32))) T51.heap n0 Z52 ) hZ (hw _ (List.mem_of_getElem? (i := 27) rfl)) (hw _ (List.mem_of_getElem? (i := 26) rfl)) (by decide) (by decide)) (g := (mkF m 121 #[.val (.long qb), .second, .val (.int pt), .val (.int v6), .val (.int v16), .val (.ref b1), .val (.ref b29), .unset] [(.int (dch (nibS qb (44 : Int32))))])) rfl (by rw [hml]; rfl) (argsL := [(.int (dch (nibS qb (44 : Int32))))]) (rest := []) (lenOf pd_6 rfl) rfl (by show 2 * 0 + _ ≤ _; exact Nat.le_of_eq rfl) (hb hby at_121) (fun _ _ => ⟨rfl, e69, (by decide : 2 + 0 ≤ _), (by decide : 19 + 0 ≤ _)⟩)
  dsimp only [Pt.U, Pt.locs, Pt.cells, Pt.slots] at X71 l71 y71 z71 st71 hQ71
  rw [l71, y71, z71] at X71
  obtain ⟨rfl, N71q, e71⟩ := hQ71
  have N71 := Fr.app N69 N71q
  refine Go.st st71 ?_
  show Go p.tables e below _ (T71.setTop (mkF m 124 #[.val (.long qb), .second, .val (.int pt), .val (.int v6), .val (.int v16), .val (.ref b1), .val (.ref b29), .unset] [(.int (hxF (dch (nibS qb (44 : Int32)))))]))
  have hc124 : ¬ ((hxF (dch (nibS qb (44 : Int32)))) = (0 : Int32)) := (by rw [own_hx (own_nib _ _)]; decide)
  refine Go.st (fun _ k => XS.ifNo X71.here hx rfl (hb hby at_124) rfl (Jvm.Free.XT.i0_eq_f hc124) k) ?_
  show Go p.tables e below _ (T71.setTop (mkF m 127 #[.val (.long qb), .second, .val (.int pt), .val (.int v6), .val (.int v16), .val (.ref b1), .val (.ref b29), .unset] []))
  refine Go.st (fun _ k => XS.aload X71.here hx rfl (hb hby at_127) rfl rfl k) ?_
  show Go p.tables e below _ (T71.setTop (mkF m 129 #[.val (.long qb), .second, .val (.int pt), .val (.int v6), .val (.int v16), .val (.ref b1), .val (.ref b29), .unset] [(.ref b1)]))
  refine Go.st (fun _ k => XS.iconst X71.here hx rfl (hb hby at_129) k) ?_
  show Go p.tables e below _ (T71.setTop (mkF m 130 #[.val (.long qb), .second, .val (.int pt), .val (.int v6), .val (.int v16), .val (.ref b1), .val (.ref b29), .unset] [(.int (5 : Int32)), (.ref b1)]))
  obtain ⟨cl72, Ar72, q72, S72, M72, H72, G72⟩ := id Fq51_0
  have hin72 : ¬ ((5 : Int32) < 0 ∨ cl72.slots.size ≤ ((5 : Int32)).toNatClampNeg) := inb_of S72 ⟨by decide, by decide⟩
  have hat72 : cl72.slots[((5 : Int32)).toNatClampNeg]? = some (.int (dch (nibS qb (40 : Int32)))) := Has.at H72 hin72 (rfl)
  refine Go.st (fun _ k => X71.caload hx (j := (5 : Int32)) (v := (.int (dch (nibS qb (40 : Int32))))) (by rw [e71]; exact Ar72.1) (State.isArrayOf_alike hZ.alike Ar72.2.1) Ar72.2.2 hin72 hat72 (g := (mkF m 130 #[.val (.long qb), .second, .val (.int pt), .val (.int v6), .val (.int v16), .val (.ref b1), .val (.ref b29), .unset] [(.int (5 : Int32)), (.ref b1)])) rfl rfl (hb hby at_130) _ k) ?_
  show Go p.tables e below _ (T71.setTop (mkF m 131 #[.val (.long qb), .second, .val (.int pt), .val (.int v6), .val (.int v16), .val (.ref b1), .val (.ref b29), .unset] [(.int (dch (nibS qb (40 : Int32))))]))
  obtain ⟨_, _, ⟨T73, L73, k73, n73⟩, -, X73, ⟨Lc73, hQ73, l73, y73, z73⟩, st73⟩ := Jvm.LawKit.callS X71 hx (y := (⟨"com/example/tallyroot/tallyroot/overlay/NodeIdWriteToPinLaw", "hex", "(C)Z"⟩ : MethodName)) hown (mvT hZ (hw _ (List.mem_of_getElem? (i := 24) rfl))) (mvT hZ (hw _ (List.mem_of_getElem? (i := 25) rfl))) (mvT hZ (hw _ (List.mem_of_getElem? (i := 26) rfl))) (mvT hZ (hw _ (List.mem_of_getElem? (i := 27) rfl))) (by decide) (backOf (W := 0) (rm_hex l Z a0 hw [] (dch (nibS qb (40 : Int32))) T51.heap n0 Z52 ) hZ (hw _ (List.mem_of_getElem? (i := 27) rfl)) (hw _ (List.mem_of_getElem? (i := 26) rfl)) (by decide) (by decide)) (g := (mkF m 131 #[.val (.long qb), .second, .val (.int pt), .val (.int v6), .val (.int v16), .val (.ref b1), .val (.ref b29), .unset] [(.int (dch (nibS qb (40 : Int32))))])) rfl (by rw [hml]; rfl) (argsL := [(.int (dch (nibS qb (40 : Int32))))]) (rest := []) (lenOf pd_6 rfl) rfl (by show 2 * 0 + _ ≤ _; exact Nat.le_of_eq rfl) (hb hby at_131) (fun _ _ => ⟨rfl, e71, (by decide : 2 + 0 ≤ _), (by decide : 19 + 0 ≤ _)⟩)
  dsimp only [Pt.U, Pt.locs, Pt.cells, Pt.slots] at X73 l73 y73 z73 st73 hQ73
  rw [l73, y73, z73] at X73
  obtain ⟨rfl, N73q, e73⟩ := hQ73
  have N73 := Fr.app N71 N73q
  refine Go.st st73 ?_
  show Go p.tables e below _ (T73.setTop (mkF m 134 #[.val (.long qb), .second, .val (.int pt), .val (.int v6), .val (.int v16), .val (.ref b1), .val (.ref b29), .unset] [(.int (hxF (dch (nibS qb (40 : Int32)))))]))
  have hc134 : ¬ ((hxF (dch (nibS qb (40 : Int32)))) = (0 : Int32)) := (by rw [own_hx (own_nib _ _)]; decide)
  refine Go.st (fun _ k => XS.ifNo X73.here hx rfl (hb hby at_134) rfl (Jvm.Free.XT.i0_eq_f hc134) k) ?_
  show Go p.tables e below _ (T73.setTop (mkF m 137 #[.val (.long qb), .second, .val (.int pt), .val (.int v6), .val (.int v16), .val (.ref b1), .val (.ref b29), .unset] []))
  refine Go.st (fun _ k => XS.aload X73.here hx rfl (hb hby at_137) rfl rfl k) ?_
  show Go p.tables e below _ (T73.setTop (mkF m 139 #[.val (.long qb), .second, .val (.int pt), .val (.int v6), .val (.int v16), .val (.ref b1), .val (.ref b29), .unset] [(.ref b1)]))
  refine Go.st (fun _ k => XS.bipush X73.here hx rfl (hb hby at_139) k) ?_
  show Go p.tables e below _ (T73.setTop (mkF m 141 #[.val (.long qb), .second, .val (.int pt), .val (.int v6), .val (.int v16), .val (.ref b1), .val (.ref b29), .unset] [(.int (6 : Int32)), (.ref b1)]))
  obtain ⟨cl74, Ar74, q74, S74, M74, H74, G74⟩ := id Fq51_0
  have hin74 : ¬ ((6 : Int32) < 0 ∨ cl74.slots.size ≤ ((6 : Int32)).toNatClampNeg) := inb_of S74 ⟨by decide, by decide⟩
  have hat74 : cl74.slots[((6 : Int32)).toNatClampNeg]? = some (.int (dch (nibS qb (36 : Int32)))) := Has.at H74 hin74 (rfl)
  refine Go.st (fun _ k => X73.caload hx (j := (6 : Int32)) (v := (.int (dch (nibS qb (36 : Int32))))) (by rw [e73]; exact Ar74.1) (State.isArrayOf_alike hZ.alike Ar74.2.1) Ar74.2.2 hin74 hat74 (g := (mkF m 141 #[.val (.long qb), .second, .val (.int pt), .val (.int v6), .val (.int v16), .val (.ref b1), .val (.ref b29), .unset] [(.int (6 : Int32)), (.ref b1)])) rfl rfl (hb hby at_141) _ k) ?_
  show Go p.tables e below _ (T73.setTop (mkF m 142 #[.val (.long qb), .second, .val (.int pt), .val (.int v6), .val (.int v16), .val (.ref b1), .val (.ref b29), .unset] [(.int (dch (nibS qb (36 : Int32))))]))
  obtain ⟨_, _, ⟨T75, L75, k75, n75⟩, -, X75, ⟨Lc75, hQ75, l75, y75, z75⟩, st75⟩ := Jvm.LawKit.callS X73 hx (y := (⟨"com/example/tallyroot/tallyroot/overlay/NodeIdWriteToPinLaw", "hex", "(C)Z"⟩ : MethodName)) hown (mvT hZ (hw _ (List.mem_of_getElem? (i := 24) rfl))) (mvT hZ (hw _ (List.mem_of_getElem? (i := 25) rfl))) (mvT hZ (hw _ (List.mem_of_getElem? (i := 26) rfl))) (mvT hZ (hw _ (List.mem_of_getElem? (i := 27) rfl))) (by decide) (backOf (W := 0) (rm_hex l Z a0 hw [] (dch (nibS qb (36 : Int32))) T51.heap n0 Z52 ) hZ (hw _ (List.mem_of_getElem? (i := 27) rfl)) (hw _ (List.mem_of_getElem? (i := 26) rfl)) (by decide) (by decide)) (g := (mkF m 142 #[.val (.long qb), .second, .val (.int pt), .val (.int v6), .val (.int v16), .val (.ref b1), .val (.ref b29), .unset] [(.int (dch (nibS qb (36 : Int32))))])) rfl (by rw [hml]; rfl) (argsL := [(.int (dch (nibS qb (36 : Int32))))]) (rest := []) (lenOf pd_6 rfl) rfl (by show 2 * 0 + _ ≤ _; exact Nat.le_of_eq rfl) (hb hby at_142) (fun _ _ => ⟨rfl, e73, (by decide : 2 + 0 ≤ _), (by decide : 19 + 0 ≤ _)⟩)
  dsimp only [Pt.U, Pt.locs, Pt.cells, Pt.slots] at X75 l75 y75 z75 st75 hQ75
  rw [l75, y75, z75] at X75
  obtain ⟨rfl, N75q, e75⟩ := hQ75
  have N75 := Fr.app N73 N75q
  refine Go.st st75 ?_
  show Go p.tables e below _ (T75.setTop (mkF m 145 #[.val (.long qb), .second, .val (.int pt), .val (.int v6), .val (.int v16), .val (.ref b1), .val (.ref b29), .unset] [(.int (hxF (dch (nibS qb (36 : Int32)))))]))
  have hc145 : ¬ ((hxF (dch (nibS qb (36 : Int32)))) = (0 : Int32)) := (by rw [own_hx (own_nib _ _)]; decide)
  refine Go.st (fun _ k => XS.ifNo X75.here hx rfl (hb hby at_145) rfl (Jvm.Free.XT.i0_eq_f hc145) k) ?_
  show Go p.tables e below _ (T75.setTop (mkF m 148 #[.val (.long qb), .second, .val (.int pt), .val (.int v6), .val (.int v16), .val (.ref b1), .val (.ref b29), .unset] []))
  refine Go.st (fun _ k => XS.aload X75.here hx rfl (hb hby at_148) rfl rfl k) ?_
  show Go p.tables e below _ (T75.setTop (mkF m 150 #[.val (.long qb), .second, .val (.int pt), .val (.int v6), .val (.int v16), .val (.ref b1), .val (.ref b29), .unset] [(.ref b1)]))
  refine Go.st (fun _ k => XS.bipush X75.here hx rfl (hb hby at_150) k) ?_
  show Go p.tables e below _ (T75.setTop (mkF m 152 #[.val (.long qb), .second, .val (.int pt), .val (.int v6), .val (.int v16), .val (.ref b1), .val (.ref b29), .unset] [(.int (7 : Int32)), (.ref b1)]))
  obtain ⟨cl76, Ar76, q76, S76, M76, H76, G76⟩ := id Fq51_0
  have hin76 : ¬ ((7 : Int32) < 0 ∨ cl76.slots.size ≤ ((7 : Int32)).toNatClampNeg) := inb_of S76 ⟨by decide, by decide⟩
  have hat76 : cl76.slots[((7 : Int32)).toNatClampNeg]? = some (.int (dch (nibS qb (32 : Int32)))) := Has.at H76 hin76 (rfl)
  refine Go.st (fun _ k => X75.caload hx (j := (7 : Int32)) (v := (.int (dch (nibS qb (32 : Int32))))) (by rw [e75]; exact Ar76.1) (State.isArrayOf_alike hZ.alike Ar76.2.1) Ar76.2.2 hin76 hat76 (g := (mkF m 152 #[.val (.long qb), .second, .val (.int pt), .val (.int v6), .val (.int v16), .val (.ref b1), .val (.ref b29), .unset] [(.int (7 : Int32)), (.ref b1)])) rfl rfl (hb hby at_152) _ k) ?_
  show Go p.tables e below _ (T75.setTop (mkF m 153 #[.val (.long qb), .second, .val (.int pt), .val (.int v6), .val (.int v16), .val (.ref b1), .val (.ref b29), .unset] [(.int (dch (nibS qb (32 : Int32))))]))
  obtain ⟨_, _, ⟨T77, L77, k77, n77⟩, -, X77, ⟨Lc77, hQ77, l77, y77, z77⟩, st77⟩ := Jvm.LawKit.callS X75 hx (y := (⟨"com/example/tallyroot/tallyroot/overlay/NodeIdWriteToPinLaw", "hex", "(C)Z"⟩ : MethodName)) hown (mvT hZ (hw _ (List.mem_of_getElem? (i := 24) rfl))) (mvT hZ (hw _ (List.mem_of_getElem? (i := 25) rfl))) (mvT hZ (hw _ (List.mem_of_getElem? (i := 26) rfl))) (mvT hZ (hw _ (List.mem_of_getElem? (i := 27) rfl))) (by decide) (backOf (W := 0) (rm_hex l Z a0 hw [] (dch (nibS qb (32 : Int32))) T51.heap n0 Z52 ) hZ (hw _ (List.mem_of_getElem? (i := 27) rfl)) (hw _ (List.mem_of_getElem? (i := 26) rfl)) (by decide) (by decide)) (g := (mkF m 153 #[.val (.long qb), .second, .val (.int pt), .val (.int v6), .val (.int v16), .val (.ref b1), .val (.ref b29), .unset] [(.int (dch (nibS qb (32 : Int32))))])) rfl (by rw [hml]; rfl) (argsL := [(.int (dch (nibS qb (32 : Int32))))]) (rest := []) (lenOf pd_6 rfl) rfl (by show 2 * 0 + _ ≤ _; exact Nat.le_of_eq rfl) (hb hby at_153) (fun _ _ => ⟨rfl, e75, (by decide : 2 + 0 ≤ _), (by decide : 19 + 0 ≤ _)⟩)
  dsimp only [Pt.U, Pt.locs, Pt.cells, Pt.slots] at X77 l77 y77 z77 st77 hQ77
  rw [l77, y77, z77] at X77
  obtain ⟨rfl, N77q, e77⟩ := hQ77
  have N77 := Fr.app N75 N77q
  refine Go.st st77 ?_
  show Go p.tables e below _ (T77.setTop (mkF m 156 #[.val (.long qb), .second, .val (.int pt), .val (.int v6), .val (.int v16), .val (.ref b1), .val (.ref b29), .unset] [(.int (hxF (dch (nibS qb (32 : Int32)))))]))
  have hc156 : ¬ ((hxF (dch (nibS qb (32 : Int32)))) = (0 : Int32)) := (by rw [own_hx (own_nib _ _)]; decide)
  refine Go.st (fun _ k => XS.ifYes X77.here hx rfl (pc0 := 156) (pc' := 161) rfl (hb hby at_156) rfl (Jvm.Free.XT.i0_ne_t hc156) (by decide) (by decide) k) ?_
  show Go p.tables e below _ (T77.setTop (mkF m 161 #[.val (.long qb), .second, .val (.int pt), .val (.int v6), .val (.int v16), .val (.ref b1), .val (.ref b29), .unset] []))
  refine Go.st (fun _ k => XS.aload X77.here hx rfl (hb hby at_161) rfl rfl k) ?_
  show Go p.tables e below _ (T77.setTop (mkF m 163 #[.val (.long qb), .second, .val (.int pt), .val (.int v6), .val (.int v16), .val (.ref b1), .val (.ref b29), .unset] [(.ref b1)]))
  refine Go.st (fun _ k => XS.bipush X77.here hx rfl (hb hby at_163) k) ?_
  show Go p.tables e below _ (T77.setTop (mkF m 165 #[.val (.long qb), .second, .val (.int pt), .val (.int v6), .val (.int v16), .val (.ref b1), .val (.ref b29), .unset] [(.int (8 : Int32)), (.ref b1)]))
  obtain ⟨cl78, Ar78, q78, S78, M78, H78, G78⟩ := id Fq51_0
  have hin78 : ¬ ((8 : Int32) < 0 ∨ cl78.slots.size ≤ ((8 : Int32)).toNatClampNeg) := inb_of S78 ⟨by decide, by decide⟩
  have hat78 : cl78.slots[((8 : Int32)).toNatClampNeg]? = some (.int (dch (nibS qb (28 : Int32)))) := Has.at H78 hin78 (rfl)
  refine Go.st (fun _ k => X77.caload hx (j := (8 : Int32)) (v := (.int (dch (nibS qb (28 : Int32))))) (by rw [e77]; exact Ar78.1) (State.isArrayOf_alike hZ.alike Ar78.2.1) Ar78.2.2 hin78 hat78 (g := (mkF m 165 #[.val (.long qb), .second, .val (.int pt), .val (.int v6), .val (.int v16), .val (.ref b1), .val (.ref b29), .unset] [(.int (8 : Int32)), (.ref b1)])) rfl rfl (hb hby at_165) _ k) ?_
  show Go p.tables e below _ (T77.setTop (mkF m 166 #[.val (.long qb), .second, .val (.int pt), .val (.int v6), .val (.int v16), .val (.ref b1), .val (.ref b29), .unset] [(.int (dch (nibS qb (28 : Int32))))]))
  obtain ⟨_, _, ⟨T79, L79, k79, n79⟩, -, X79, ⟨Lc79, hQ79, l79, y79, z79⟩, st79⟩ := Jvm.LawKit.callS X77 hx (y := (⟨"com/example/tallyroot/tallyroot/overlay/NodeIdWriteToPinLaw", "hex", "(C)Z"⟩ : MethodName)) hown (mvT hZ (hw _ (List.mem_of_getElem? (i := 24) rfl))) (mvT hZ (hw _ (List.mem_of_getElem? (i := 25) rfl))) (mvT hZ (hw _ (List.mem_of_getElem? (i := 26) rfl))) (mvT hZ (hw _ (List.mem_of_getElem? (i := 27) rfl))) (by decide) (backOf (W := 0) (rm_hex l Z a0 hw [] (dch (nibS qb (28 : Int32))) T51.heap n0 Z52 ) hZ (hw _ (List.mem_of_getElem? (i := 27) rfl)) (hw _ (List.mem_of_getElem? (i := 26) rfl)) (by decide) (by decide)) (g := (mkF m 166 #[.val (.long qb), .second, .val (.int pt), .val (.int v6), .val (.int v16), .val (.ref b1), .val (.ref b29), .unset] [(.int (dch (nibS qb (28 : Int32))))])) rfl (by rw [hml]; rfl) (argsL := [(.int (dch (nibS qb (28 : Int32))))]) (rest := []) (lenOf pd_6 rfl) rfl (by show 2 * 0 + _ ≤ _; exact Nat.le_of_eq rfl) (hb hby at_166) (fun _ _ => ⟨rfl, e77, (by decide : 2 + 0 ≤ _), (by decide : 19 + 0 ≤ _)⟩)
  dsimp only [Pt.U, Pt.locs, Pt.cells, Pt.slots] at X79 l79 y79 z79 st79 hQ79
  rw [l79, y79, z79] at X79
  obtain ⟨rfl, N79q, e79⟩ := hQ79
  have N79 := Fr.app N77 N79q
  refine Go.st st79 ?_
  show Go p.tables e below _ (T79.setTop (mkF m 169 #[.val (.long qb), .second, .val (.int pt), .val (.int v6), .val (.int v16), .val (.ref b1), .val (.ref b29), .unset] [(.int (hxF (dch (nibS qb (28 : Int32)))))]))
  have hc169 : ¬ ((hxF (dch (nibS qb (28 : Int32)))) = (0 : Int32)) := (by rw [own_hx (own_nib _ _)]; decide)
  refine Go.st (fun _ k => XS.ifNo X79.here hx rfl (hb hby at_169) rfl (Jvm.Free.XT.i0_eq_f hc169) k) ?_
  show Go p.tables e below _ (T79.setTop (mkF m 172 #[.val (.long qb), .second, .val (.int pt), .val (.int v6), .val (.int v16), .val (.ref b1), .val (.ref b29), .unset] []))
  refine Go.st (fun _ k => XS.aload X79.here hx rfl (hb hby at_172) rfl rfl k) ?_
  show Go p.tables e below _ (T79.setTop (mkF m 174 #[.val (.long qb), .second, .val (.int pt), .val (.int v6), .val (.int v16), .val (.ref b1), .val (.ref b29), .unset] [(.ref b1)]))
  refine Go.st (fun _ k => XS.bipush X79.here hx rfl (hb hby at_174) k) ?_
  show Go p.tables e below _ (T79.setTop (mkF m 176 #[.val (.long qb), .second, .val (.int pt), .val (.int v6), .val (.int v16), .val (.ref b1), .val (.ref b29), .unset] [(.int (9 : Int32)), (.ref b1)]))
  obtain ⟨cl80, Ar80, q80, S80, M80, H80, G80⟩ := id Fq51_0
  have hin80 : ¬ ((9 : Int32) < 0 ∨ cl80.slots.size ≤ ((9 : Int32)).toNatClampNeg) := inb_of S80 ⟨by decide, by decide⟩
  have hat80 : cl80.slots[((9 : Int32)).toNatClampNeg]? = some (.int (dch (nibS qb (24 : Int32)))) := Has.at H80 hin80 (rfl)
  refine Go.st (fun _ k => X79.caload hx (j := (9 : Int32)) (v := (.int (dch (nibS qb (24 : Int32))))) (by rw [e79]; exact Ar80.1) (State.isArrayOf_alike hZ.alike Ar80.2.1) Ar80.2.2 hin80 hat80 (g := (mkF m 176 #[.val (.long qb), .second, .val (.int pt), .val (.int v6), .val (.int v16), .val (.ref b1), .val (.ref b29), .unset] [(.int (9 : Int32)), (.ref b1)])) rfl rfl (hb hby at_176) _ k) ?_
  show Go p.tables e below _ (T79.setTop (mkF m 177 #[.val (.long qb), .second, .val (.int pt), .val (.int v6), .val (.int v16), .val (.ref b1), .val (.ref b29), .unset] [(.int (dch (nibS qb (24 : Int32))))]))
  obtain ⟨_, _, ⟨T81, L81, k81, n81⟩, -, X81, ⟨Lc81, hQ81, l81, y81, z81⟩, st81⟩ := Jvm.LawKit.callS X79 hx (y := (⟨"com/example/tallyroot/tallyroot/overlay/NodeIdWriteToPinLaw", "hex", "(C)Z"⟩ : MethodName)) hown (mvT hZ (hw _ (List.mem_of_getElem? (i := 24) rfl))) (mvT hZ (hw _ (List.mem_of_getElem? (i := 25) rfl))) (mvT hZ (hw _ (List.mem_of_getElem? (i := 26) rfl))) (mvT hZ (hw _ (List.mem_of_getElem? (i := 27) rfl))) (by decide) (backOf (W := 0) (rm_hex l Z a0 hw [] (dch (nibS qb (24 : Int32))) T51.heap n0 Z52 ) hZ (hw _ (List.mem_of_getElem? (i := 27) rfl)) (hw _ (List.mem_of_getElem? (i := 26) rfl)) (by decide) (by decide)) (g := (mkF m 177 #[.val (.long qb), .second, .val (.int pt), .val (.int v6), .val (.int v16), .val (.ref b1), .val (.ref b29), .unset] [(.int (dch (nibS qb (24 : Int32))))])) rfl (by rw [hml]; rfl) (argsL := [(.int (dch (nibS qb (24 : Int32))))]) (rest := []) (lenOf pd_6 rfl) rfl (by show 2 * 0 + _ ≤ _; exact Nat.le_of_eq rfl) (hb hby at_177) (fun _ _ => ⟨rfl, e79, (by decide : 2 + 0 ≤ _), (by decide : 19 + 0 ≤ _)⟩)
  dsimp only [Pt.U, Pt.locs, Pt.cells, Pt.slots] at X81 l81 y81 z81 st81 hQ81
  rw [l81, y81, z81] at X81
  obtain ⟨rfl, N81q, e81⟩ := hQ81
  have N81 := Fr.app N79 N81q
  refine Go.st st81 ?_
  show Go p.tables e below _ (T81.setTop (mkF m 180 #[.val (.long qb), .second, .val (.int pt), .val (.int v6), .val (.int v16), .val (.ref b1), .val (.ref b29), .unset] [(.int (hxF (dch (nibS qb (24 : Int32)))))]))
  have hc180 : ¬ ((hxF (dch (nibS qb (24 : Int32)))) = (0 : Int32)) := (by rw [own_hx (own_nib _ _)]; decide)
  refine Go.st (fun _ k => XS.ifNo X81.here hx rfl (hb hby at_180) rfl (Jvm.Free.XT.i0_eq_f hc180) k) ?_
  show Go p.tables e below _ (T81.setTop (mkF m 183 #[.val (.long qb), .second, .val (.int pt), .val (.int v6), .val (.int v16), .val (.ref b1), .val (.ref b29), .unset] []))
  refine Go.st (fun _ k => XS.aload X81.here hx rfl (hb hby at_183) rfl rfl k) ?_
  show Go p.tables e below _ (T81.setTop (mkF m 185 #[.val (.long qb), .second, .val (.int pt), .val (.int v6), .val (.int v16), .val (.ref b1), .val (.ref b29), .unset] [(.ref b1)]))
  refine Go.st (fun _ k => XS.bipush X81.here hx rfl (hb hby at_185) k) ?_
  show Go p.tables e below _ (T81.setTop (mkF m 187 #[.val (.long qb), .second, .val (.int pt), .val (.int v6), .val (.int v16), .val (.ref b1), .val (.ref b29), .unset] [(.int (10 : Int32)), (.ref b1)]))
  obtain ⟨cl82, Ar82, q82, S82, M82, H82, G82⟩ := id Fq51_0
  have hin82 : ¬ ((10 : Int32) < 0 ∨ cl82.slots.size ≤ ((10 : Int32)).toNatClampNeg) := inb_of S82 ⟨by decide, by decide⟩
  have hat82 : cl82.slots[((10 : Int32)).toNatClampNeg]? = some (.int (dch (nibS qb (20 : Int32)))) := Has.at H82 hin82 (rfl)
  refine Go.st (fun _ k => X81.caload hx (j := (10 : Int32)) (v := (.int (dch (nibS qb (20 : Int32))))) (by rw [e81]; exact Ar82.1) (State.isArrayOf_alike hZ.alike Ar82.2.1) Ar82.2.2 hin82 hat82 (g := (mkF m 187 #[.val (.long qb), .second, .val (.int pt), .val (.int v6), .val (.int v16), .val (.ref b1), .val (.ref b29), .unset] [(.int (10 : Int32)), (.ref b1)])) rfl rfl (hb hby at_187) _ k) ?_
  show Go p.tables e below _ (T81.setTop (mkF m 188 #[.val (.long qb), .second, .val (.int pt), .val (.int v6), .val (.int v16), .val (.ref b1), .val (.ref b29), .unset] [(.int (dch (nibS qb (20 : Int32))))]))
  obtain ⟨_, _, ⟨T83, L83, k83, n83⟩, -, X83, ⟨Lc83, hQ83, l83, y83, z83⟩, st83⟩ := Jvm.LawKit.callS X81 hx (y := (⟨"com/example/tallyroot/tallyroot/overlay/NodeIdWriteToPinLaw", "hex", "(C)Z"⟩ : MethodName)) hown (mvT hZ (hw _ (List.mem_of_getElem? (i := 24) rfl))) (mvT hZ (hw _ (List.mem_of_getElem? (i := 25) rfl))) (mvT hZ (hw _ (List.mem_of_getElem? (i := 26) rfl))) (mvT hZ (hw _ (List.mem_of_getElem? (i := 27) rfl))) (by decide) (backOf (W := 0) (rm_hex l Z a0 hw [] (dch (nibS qb (20 : Int32))) T51.heap n0 Z52 ) hZ (hw _ (List.mem_of_getElem? (i := 27) rfl)) (hw _ (List.mem_of_getElem? (i := 26) rfl)) (by decide) (by decide)) (g := (mkF m 188 #[.val (.long qb), .second, .val (.int pt), .val (.int v6), .val (.int v16), .val (.ref b1), .val (.ref b29), .unset] [(.int (dch (nibS qb (20 : Int32))))])) rfl (by rw [hml]; rfl) (argsL := [(.int (dch (nibS qb (20 : Int32))))]) (rest := []) (lenOf pd_6 rfl) rfl (by show 2 * 0 + _ ≤ _; exact Nat.le_of_eq rfl) (hb hby at_188) (fun _ _ => ⟨rfl, e81, (by decide : 2 + 0 ≤ _), (by decide : 19 + 0 ≤ _)⟩)
  dsimp only [Pt.U, Pt.locs, Pt.cells, Pt.slots] at X83 l83 y83 z83 st83 hQ83
  rw [l83, y83, z83] at X83
  obtain ⟨rfl, N83q, e83⟩ := hQ83
  have N83 := Fr.app N81 N83q
  refine Go.st st83 ?_
  show Go p.tables e below _ (T83.setTop (mkF m 191 #[.val (.long qb), .second, .val (.int pt), .val (.int v6), .val (.int v16), .val (.ref b1), .val (.ref b29), .unset] [(.int (hxF (dch (nibS qb (20 : Int32)))))]))
  have hc191 : ¬ ((hxF (dch (nibS qb (20 : Int32)))) = (0 : Int32)) := (by rw [own_hx (own_nib _ _)]; decide)
  refine Go.st (fun _ k => XS.ifNo X83.here hx rfl (hb hby at_191) rfl (Jvm.Free.XT.i0_eq_f hc191) k) ?_
  show Go p.tables e below _ (T83.setTop (mkF m 194 #[.val (.long qb), .second, .val (.int pt), .val (.int v6), .val (.int v16), .val (.ref b1), .val (.ref b29), .unset] []))
  refine Go.st (fun _ k => XS.aload X83.here hx rfl (hb hby at_194) rfl rfl k) ?_
  show Go p.tables e below _ (T83.setTop (mkF m 196 #[.val (.long qb), .second, .val (.int pt), .val (.int v6), .val (.int v16), .val (.ref b1), .val (.ref b29), .unset] [(.ref b1)]))
  refine Go.st (fun _ k => XS.bipush X83.here hx rfl (hb hby at_196) k) ?_
  show Go p.tables e below _ (T83.setTop (mkF m 198 #[.val (.long qb), .second, .val (.int pt), .val (.int v6), .val (.int v16), .val (.ref b1), .val (.ref b29), .unset] [(.int (11 : Int32)), (.ref b1)]))
  obtain ⟨cl84, Ar84, q84, S84, M84, H84, G84⟩ := id Fq51_0
  have hin84 : ¬ ((11 : Int32) < 0 ∨ cl84.slots.size ≤ ((11 : Int32)).toNatClampNeg) := inb_of S84 ⟨by decide, by decide⟩
  have hat84 : cl84.slots[((11 : Int32)).toNatClampNeg]? = some (.int (dch (nibS qb (16 : Int32)))) := Has.at H84 hin84 (rfl)
  refine Go.st (fun _ k => X83.caload hx (j := (11 : Int32)) (v := (.int (dch (nibS qb (16 : Int32))))) (by rw [e83]; exact Ar84.1) (State.isArrayOf_alike hZ.alike Ar84.2.1) Ar84.2.2 hin84 hat84 (g := (mkF m 198 #[.val (.long qb), .second, .val (.int pt), .val (.int v6), .val (.int v16), .val (.ref b1), .val (.ref b29), .unset] [(.int (11 : Int32)), (.ref b1)])) rfl rfl (hb hby at_198) _ k) ?_
  show Go p.tables e below _ (T83.setTop (mkF m 199 #[.val (.long qb), .second, .val (.int pt), .val (.int v6), .val (.int v16), .val (.ref b1), .val (.ref b29), .unset] [(.int (dch (nibS qb (16 : Int32))))]))
  obtain ⟨_, _, ⟨T85, L85, k85, n85⟩, -, X85, ⟨Lc85, hQ85, l85, y85, z85⟩, st85⟩ := Jvm.LawKit.callS X83 hx (y := (⟨"com/example/tallyroot/tallyroot/overlay/NodeIdWriteToPinLaw", "hex", "(C)Z"⟩ : MethodName)) hown (mvT hZ (hw _ (List.mem_of_getElem? (i := 24) rfl))) (mvT hZ (hw _ (List.mem_of_getElem? (i := 25) rfl))) (mvT hZ (hw _ (List.mem_of_getElem? (i := 26) rfl))) (mvT hZ (hw _ (List.mem_of_getElem? (i := 27) rfl))) (by decide) (backOf (W := 0) (rm_hex l Z a0 hw [] (dch (nibS qb (16 : Int32))) T51.heap n0 Z52 ) hZ (hw _ (List.mem_of_getElem? (i := 27) rfl)) (hw _ (List.mem_of_getElem? (i := 26) rfl)) (by decide) (by decide)) (g := (mkF m 199 #[.val (.long qb), .second, .val (.int pt), .val (.int v6), .val (.int v16), .val (.ref b1), .val (.ref b29), .unset] [(.int (dch (nibS qb (16 : Int32))))])) rfl (by rw [hml]; rfl) (argsL := [(.int (dch (nibS qb (16 : Int32))))]) (rest := []) (lenOf pd_6 rfl) rfl (by show 2 * 0 + _ ≤ _; exact Nat.le_of_eq rfl) (hb hby at_199) (fun _ _ => ⟨rfl, e83, (by decide : 2 + 0 ≤ _), (by decide : 19 + 0 ≤ _)⟩)
  dsimp only [Pt.U, Pt.locs, Pt.cells, Pt.slots] at X85 l85 y85 z85 st85 hQ85
  rw [l85, y85, z85] at X85
  obtain ⟨rfl, N85q, e85⟩ := hQ85
  have N85 := Fr.app N83 N85q
  refine Go.st st85 ?_
  show Go p.tables e below _ (T85.setTop (mkF m 202 #[.val (.long qb), .second, .val (.int pt), .val (.int v6), .val (.int v16), .val (.ref b1), .val (.ref b29), .unset] [(.int (hxF (dch (nibS qb (16 : Int32)))))]))
  have hc202 : ¬ ((hxF (dch (nibS qb (16 : Int32)))) = (0 : Int32)) := (by rw [own_hx (own_nib _ _)]; decide)
  refine Go.st (fun _ k => XS.ifYes X85.here hx rfl (pc0 := 202) (pc' := 207) rfl (hb hby at_202) rfl (Jvm.Free.XT.i0_ne_t hc202) (by decide) (by decide) k) ?_
  show Go p.tables e below _ (T85.setTop (mkF m 207 #[.val (.long qb), .second, .val (.int pt), .val (.int v6), .val (.int v16), .val (.ref b1), .val (.ref b29), .unset] []))
  refine Go.st (fun _ k => XS.aload X85.here hx rfl (hb hby at_207) rfl rfl k) ?_
  show Go p.tables e below _ (T85.setTop (mkF m 209 #[.val (.long qb), .second, .val (.int pt), .val (.int v6), .val (.int v16), .val (.ref b1), .val (.ref b29), .unset] [(.ref b1)]))
  refine Go.st (fun _ k => XS.bipush X85.here hx rfl (hb hby at_209) k) ?_
  show Go p.tables e below _ (T85.setTop (mkF m 211 #[.val (.long qb), .second, .val (.int pt), .val (.int v6), .val (.int v16), .val (.ref b1), .val (.ref b29), .unset] [(.int (12 : Int32)), (.ref b1)]))
  obtain ⟨cl86, Ar86, q86, S86, M86, H86, G86⟩ := id Fq51_0
  have hin86 : ¬ ((12 : Int32) < 0 ∨ cl86.slots.size ≤ ((12 : Int32)).toNatClampNeg) := inb_of S86 ⟨by decide, by decide⟩
  have hat86 : cl86.slots[((12 : Int32)).toNatClampNeg]? = some (.int (dch (nibS qb (12 : Int32)))) := Has.at H86 hin86 (rfl)
  refine Go.st (fun _ k => X85.caload hx (j := (12 : Int32)) (v := (.int (dch (nibS qb (12 : Int32))))) (by rw [e85]; exact Ar86.1) (State.isArrayOf_alike hZ.alike Ar86.2.1) Ar86.2.2 hin86 hat86 (g := (mkF m 211 #[.val (.long qb), .second, .val (.int pt), .val (.int v6), .val (.int v16), .val (.ref b1), .val (.ref b29), .unset] [(.int (12 : Int32)), (.ref b1)])) rfl rfl (hb hby at_211) _ k) ?_
  show Go p.tables e below _ (T85.setTop (mkF m 212 #[.val (.long qb), .second, .val (.int pt), .val (.int v6), .val (.int v16), .val (.ref b1), .val (.ref b29), .unset] [(.int (dch (nibS qb (12 : Int32))))]))
  obtain ⟨_, _, ⟨T87, L87, k87, n87⟩, -, X87, ⟨Lc87, hQ87, l87, y87, z87⟩, st87⟩ := Jvm.LawKit.callS X85 hx (y := (⟨"com/example/tallyroot/tallyroot/overlay/NodeIdWriteToPinLaw", "hex", "(C)Z"⟩ : MethodName)) hown (mvT hZ (hw _ (List.mem_of_getElem? (i := 24) rfl))) (mvT hZ (hw _ (List.mem_of_getElem? (i := 25) rfl))) (mvT hZ (hw _ (List.mem_of_getElem? (i := 26) rfl))) (mvT hZ (hw _ (List.mem_of_getElem? (i := 27) rfl))) (by decide) (backOf (W := 0) (rm_hex l Z a0 hw [] (dch (nibS qb (12 : Int32))) T51.heap n0 Z52 ) hZ (hw _ (List.mem_of_getElem? (i := 27) rfl)) (hw _ (List.mem_of_getElem? (i := 26) rfl)) (by decide) (by decide)) (g := (mkF m 212 #[.val (.long qb), .second, .val (.int pt), .val (.int v6), .val (.int v16), .val (.ref b1), .val (.ref b29), .unset] [(.int (dch (nibS qb (12 : Int32))))])) rfl (by rw [hml]; rfl) (argsL := [(.int (dch (nibS qb (12 : Int32))))]) (rest := []) (lenOf pd_6 rfl) rfl (by show 2 * 0 + _ ≤ _; exact Nat.le_of_eq rfl) (hb hby at_212) (fun _ _ => ⟨rfl, e85, (by decide : 2 + 0 ≤ _), (by decide : 19 + 0 ≤ _)⟩)
  dsimp only [Pt.U, Pt.locs, Pt.cells, Pt.slots] at X87 l87 y87 z87 st87 hQ87
  rw [l87, y87, z87] at X87
  obtain ⟨rfl, N87q, e87⟩ := hQ87
  have N87 := Fr.app N85 N87q
  refine Go.st st87 ?_
  show Go p.tables e below _ (T87.setTop (mkF m 215 #[.val (.long qb), .second, .val (.int pt), .val (.int v6), .val (.int v16), .val (.ref b1), .val (.ref b29), .unset] [(.int (hxF (dch (nibS qb (12 : Int32)))))]))
  have hc215 : ¬ ((hxF (dch (nibS qb (12 : Int32)))) = (0 : Int32)) := (by rw [own_hx (own_nib _ _)]; decide)
  refine Go.st (fun _ k => XS.ifNo X87.here hx rfl (hb hby at_215) rfl (Jvm.Free.XT.i0_eq_f hc215) k) ?_
  show Go p.tables e below _ (T87.setTop (mkF m 218 #[.val (.long qb), .second, .val (.int pt), .val (.int v6), .val (.int v16), .val (.ref b1), .val (.ref b29), .unset] []))
  refine Go.st (fun _ k => XS.aload X87.here hx rfl (hb hby at_218) rfl rfl k) ?_
  show Go p.tables e below _ (T87.setTop (mkF m 220 #[.val (.long qb), .second, .val (.int pt), .val (.int v6), .val (.int v16), .val (.ref b1), .val (.ref b29), .unset] [(.ref b1)]))
  refine Go.st (fun _ k => XS.bipush X87.here hx rfl (hb hby at_220) k) ?_
  show Go p.tables e below _ (T87.setTop (mkF m 222 #[.val (.long qb), .second, .val (.int pt), .val (.int v6), .val (.int v16), .val (.ref b1), .val (.ref b29), .unset] [(.int (13 : Int32)), (.ref b1)]))
  obtain ⟨cl88, Ar88, q88, S88, M88, H88, G88⟩ := id Fq51_0
  have hin88 : ¬ ((13 : Int32) < 0 ∨ cl88.slots.size ≤ ((13 : Int32)).toNatClampNeg) := inb_of S88 ⟨by decide, by decide⟩
  have hat88 : cl88.slots[((13 : Int32)).toNatClampNeg]? = some (.int (dch (nibS qb (8 : Int32)))) := Has.at H88 hin88 (rfl)
  refine Go.st (fun _ k => X87.caload hx (j := (13 : Int32)) (v := (.int (dch (nibS qb (8 : Int32))))) (by rw [e87]; exact Ar88.1) (State.isArrayOf_alike hZ.alike Ar88.2.1) Ar88.2.2 hin88 hat88 (g := (mkF m 222 #[.val (.long qb), .second, .val (.int pt), .val (.int v6), .val (.int v16), .val (.ref b1), .val (.ref b29), .unset] [(.int (13 : Int32)), (.ref b1)])) rfl rfl (hb hby at_222) _ k) ?_
  show Go p.tables e below _ (T87.setTop (mkF m 223 #[.val (.long qb), .second, .val (.int pt), .val (.int v6), .val (.int v16), .val (.ref b1), .val (.ref b29), .unset] [(.int (dch (nibS qb (8 : Int32))))]))
  obtain ⟨_, _, ⟨T89, L89, k89, n89⟩, -, X89, ⟨Lc89, hQ89, l89, y89, z89⟩, st89⟩ := Jvm.LawKit.callS X87 hx (y := (⟨"com/example/tallyroot/tallyroot/overlay/NodeIdWriteToPinLaw", "hex", "(C)Z"⟩ : MethodName)) hown (mvT hZ (hw _ (List.mem_of_getElem? (i := 24) rfl))) (mvT hZ (hw _ (List.mem_of_getElem? (i := 25) rfl))) (mvT hZ (hw _ (List.mem_of_getElem? (i := 26) rfl))) (mvT hZ (hw _ (List.mem_of_getElem? (i := 27) rfl))) (by decide) (backOf (W := 0) (rm_hex l Z a0 hw [] (dch (nibS qb (8 : Int32))) T51.heap n0 Z52 ) hZ (hw _ (List.mem_of_getElem? (i := 27) rfl)) (hw _ (List.mem_of_getElem? (i := 26) rfl)) (by decide) (by decide)) (g := (mkF m 223 #[.val (.long qb), .second, .val (.int pt), .val (.int v6), .val (.int v16), .val (.ref b1), .val (.ref b29), .unset] [(.int (dch (nibS qb (8 : Int32))))])) rfl (by rw [hml]; rfl) (argsL := [(.int (dch (nibS qb (8 : Int32))))]) (rest := []) (lenOf pd_6 rfl) rfl (by show 2 * 0 + _ ≤ _; exact Nat.le_of_eq rfl) (hb hby at_223) (fun _ _ => ⟨rfl, e87, (by decide : 2 + 0 ≤ _), (by decide : 19 + 0 ≤ _)⟩)
  dsimp only [Pt.U, Pt.locs, Pt.cells, Pt.slots] at X89 l89 y89 z89 st89 hQ89
  rw [l89, y89, z89] at X89
  obtain ⟨rfl, N89q, e89⟩ := hQ89
  have N89 := Fr.app N87 N89q
  refine Go.st st89 ?_
  show Go p.tables e below _ (T89.setTop (mkF m 226 #[.val (.long qb), .second, .val (.int pt), .val (.int v6), .val (.int v16), .val (.ref b1), .val (.ref b29), .unset] [(.int (hxF (dch (nibS qb (8 : Int32)))))]))
  have hc226 : ¬ ((hxF (dch (nibS qb (8 : Int32)))) = (0 : Int32)) := (by rw [own_hx (own_nib _ _)]; decide)
  refine Go.st (fun _ k => XS.ifNo X89.here hx rfl (hb hby at_226) rfl (Jvm.Free.XT.i0_eq_f hc226) k) ?_
  show Go p.tables e below _ (T89.setTop (mkF m 229 #[.val (.long qb), .second, .val (.int pt), .val (.int v6), .val (.int v16), .val (.ref b1), .val (.ref b29), .unset] []))
  refine Go.st (fun _ k => XS.aload X89.here hx rfl (hb hby at_229) rfl rfl k) ?_
  show Go p.tables e below _ (T89.setTop (mkF m 231 #[.val (.long qb), .second, .val (.int pt), .val (.int v6), .val (.int v16), .val (.ref b1), .val (.ref b29), .unset] [(.ref b1)]))
  refine Go.st (fun _ k => XS.bipush X89.here hx rfl (hb hby at_231) k) ?_
  show Go p.tables e below _ (T89.setTop (mkF m 233 #[.val (.long qb), .second, .val (.int pt), .val (.int v6), .val (.int v16), .val (.ref b1), .val (.ref b29), .unset] [(.int (14 : Int32)), (.ref b1)]))
  obtain ⟨cl90, Ar90, q90, S90, M90, H90, G90⟩ := id Fq51_0
  have hin90 : ¬ ((14 : Int32) < 0 ∨ cl90.slots.size ≤ ((14 : Int32)).toNatClampNeg) := inb_of S90 ⟨by decide, by decide⟩
  have hat90 : cl90.slots[((14 : Int32)).toNatClampNeg]? = some (.int (dch (nibS qb (4 : Int32)))) := Has.at H90 hin90 (rfl)
  refine Go.st (fun _ k => X89.caload hx (j := (14 : Int32)) (v := (.int (dch (nibS qb (4 : Int32))))) (by rw [e89]; exact Ar90.1) (State.isArrayOf_alike hZ.alike Ar90.2.1) Ar90.2.2 hin90 hat90 (g := (mkF m 233 #[.val (.long qb), .second, .val (.int pt), .val (.int v6), .val (.int v16), .val (.ref b1), .val (.ref b29), .unset] [(.int (14 : Int32)), (.ref b1)])) rfl rfl (hb hby at_233) _ k) ?_
  show Go p.tables e below _ (T89.setTop (mkF m 234 #[.val (.long qb), .second, .val (.int pt), .val (.int v6), .val (.int v16), .val (.ref b1), .val (.ref b29), .unset] [(.int (dch (nibS qb (4 : Int32))))]))
  obtain ⟨_, _, ⟨T91, L91, k91, n91⟩, -, X91, ⟨Lc91, hQ91, l91, y91, z91⟩, st91⟩ := Jvm.LawKit.callS X89 hx (y := (⟨"com/example/tallyroot/tallyroot/overlay/NodeIdWriteToPinLaw", "hex", "(C)Z"⟩ : MethodName)) hown (mvT hZ (hw _ (List.mem_of_getElem? (i := 24) rfl))) (mvT hZ (hw _ (List.mem_of_getElem? (i := 25) rfl))) (mvT hZ (hw _ (List.mem_of_getElem? (i := 26) rfl))) (mvT hZ (hw _ (List.mem_of_getElem? (i := 27) rfl))) (by decide) (backOf (W := 0) (rm_hex l Z a0 hw [] (dch (nibS qb (4 : Int32))) T51.heap n0 Z52 ) hZ (hw _ (List.mem_of_getElem? (i := 27) rfl)) (hw _ (List.mem_of_getElem? (i := 26) rfl)) (by decide) (by decide)) (g := (mkF m 234 #[.val (.long qb), .second, .val (.int pt), .val (.int v6), .val (.int v16), .val (.ref b1), .val (.ref b29), .unset] [(.int (dch (nibS qb (4 : Int32))))])) rfl (by rw [hml]; rfl) (argsL := [(.int (dch (nibS qb (4 : Int32))))]) (rest := []) (lenOf pd_6 rfl) rfl (by show 2 * 0 + _ ≤ _; exact Nat.le_of_eq rfl) (hb hby at_234) (fun _ _ => ⟨rfl, e89, (by decide : 2 + 0 ≤ _), (by decide : 19 + 0 ≤ _)⟩)
  dsimp only [Pt.U, Pt.locs, Pt.cells, Pt.slots] at X91 l91 y91 z91 st91 hQ91
  rw [l91, y91, z91] at X91
  obtain ⟨rfl, N91q, e91⟩ := hQ91
  have N91 := Fr.app N89 N91q
  refine Go.st st91 ?_
  show Go p.tables e below _ (T91.setTop (mkF m 237 #[.val (.long qb), .second, .val (.int pt), .val (.int v6), .val (.int v16), .val (.ref b1), .val (.ref b29), .unset] [(.int (hxF (dch (nibS qb (4 : Int32)))))]))
  have hc237 : ¬ ((hxF (dch (nibS qb (4 : Int32)))) = (0 : Int32)) := (by rw [own_hx (own_nib _ _)]; decide)
  refine Go.st (fun _ k => XS.ifNo X91.here hx rfl (hb hby at_237) rfl (Jvm.Free.XT.i0_eq_f hc237) k) ?_
  show Go p.tables e below _ (T91.setTop (mkF m 240 #[.val (.long qb), .second, .val (.int pt), .val (.int v6), .val (.int v16), .val (.ref b1), .val (.ref b29), .unset] []))
  refine Go.st (fun _ k => XS.aload X91.here hx rfl (hb hby at_240) rfl rfl k) ?_
  show Go p.tables e below _ (T91.setTop (mkF m 242 #[.val (.long qb), .second, .val (.int pt), .val (.int v6), .val (.int v16), .val (.ref b1), .val (.ref b29), .unset] [(.ref b1)]))
  refine Go.st (fun _ k => XS.bipush X91.here hx rfl (hb hby at_242) k) ?_
  show Go p.tables e below _ (T91.setTop (mkF m 244 #[.val (.long qb), .second, .val (.int pt), .val (.int v6), .val (.int v16), .val (.ref b1), .val (.ref b29), .unset] [(.int (15 : Int32)), (.ref b1)]))
  obtain ⟨cl92, Ar92, q92, S92, M92, H92, G92⟩ := id Fq51_0
  have hin92 : ¬ ((15 : Int32) < 0 ∨ cl92.slots.size ≤ ((15 : Int32)).toNatClampNeg) := inb_of S92 ⟨by decide, by decide⟩
  have hat92 : cl92.slots[((15 : Int32)).toNatClampNeg]? = some (.int (dch (nibS qb (0 : Int32)))) := Has.at H92 hin92 (rfl)
  refine Go.st (fun _ k => X91.caload hx (j := (15 : Int32)) (v := (.int (dch (nibS qb (0 : Int32))))) (by rw [e91]; exact Ar92.1) (State.isArrayOf_alike hZ.alike Ar92.2.1) Ar92.2.2 hin92 hat92 (g := (mkF m 244 #[.val (.long qb), .second, .val (.int pt), .val (.int v6), .val (.int v16), .val (.ref b1), .val (.ref b29), .unset] [(.int (15 : Int32)), (.ref b1)])) rfl rfl (hb hby at_244) _ k) ?_
  show Go p.tables e below _ (T91.setTop (mkF m 245 #[.val (.long qb), .second, .val (.int pt), .val (.int v6), .val (.int v16), .val (.ref b1), .val (.ref b29), .unset] [(.int (dch (nibS qb (0 : Int32))))]))
  obtain ⟨_, _, ⟨T93, L93, k93, n93⟩, -, X93, ⟨Lc93, hQ93, l93, y93, z93⟩, st93⟩ := Jvm.LawKit.callS X91 hx (y := (⟨"com/example/tallyroot/tallyroot/overlay/NodeIdWriteToPinLaw", "hex", "(C)Z"⟩ : MethodName)) hown (mvT hZ (hw _ (List.mem_of_getElem? (i := 24) rfl))) (mvT hZ (hw _ (List.mem_of_getElem? (i := 25) rfl))) (mvT hZ (hw _ (List.mem_of_getElem? (i := 26) rfl))) (mvT hZ (hw _ (List.mem_of_getElem? (i := 27) rfl))) (by decide) (backOf (W := 0) (rm_hex l Z a0 hw [] (dch (nibS qb (0 : Int32))) T51.heap n0 Z52 ) hZ (hw _ (List.mem_of_getElem? (i := 27) rfl)) (hw _ (List.mem_of_getElem? (i := 26) rfl)) (by decide) (by decide)) (g := (mkF m 245 #[.val (.long qb), .second, .val (.int pt), .val (.int v6), .val (.int v16), .val (.ref b1), .val (.ref b29), .unset] [(.int (dch (nibS qb (0 : Int32))))])) rfl (by rw [hml]; rfl) (argsL := [(.int (dch (nibS qb (0 : Int32))))]) (rest := []) (lenOf pd_6 rfl) rfl (by show 2 * 0 + _ ≤ _; exact Nat.le_of_eq rfl) (hb hby at_245) (fun _ _ => ⟨rfl, e91, (by decide : 2 + 0 ≤ _), (by decide : 19 + 0 ≤ _)⟩)
  dsimp only [Pt.U, Pt.locs, Pt.cells, Pt.slots] at X93 l93 y93 z93 st93 hQ93
  rw [l93, y93, z93] at X93
  obtain ⟨rfl, N93q, e93⟩ := hQ93
  have N93 := Fr.app N91 N93q
  refine Go.st st93 ?_
  show Go p.tables e below _ (T93.setTop (mkF m 248 #[.val (.long qb), .second, .val (.int pt), .val (.int v6), .val (.int v16), .val (.ref b1), .val (.ref b29), .unset] [(.int (hxF (dch (nibS qb (0 : Int32)))))]))
  have hc248 : ¬ ((hxF (dch (nibS qb (0 : Int32)))) = (0 : Int32)) := (by rw [own_hx (own_nib _ _)]; decide)
  refine Go.st (fun _ k => XS.ifYes X93.here hx rfl (pc0 := 248) (pc' := 253) rfl (hb hby at_248) rfl (Jvm.Free.XT.i0_ne_t hc248) (by decide) (by decide) k) ?_
  show Go p.tables e below _ (T93.setTop (mkF m 253 #[.val (.long qb), .second, .val (.int pt), .val (.int v6), .val (.int v16), .val (.ref b1), .val (.ref b29), .unset] []))
  refine Go.st (fun _ k => XS.bipush X93.here hx rfl (hb hby at_253) k) ?_
  show Go p.tables e below _ (T93.setTop (mkF m 255 #[.val (.long qb), .second, .val (.int pt), .val (.int v6), .val (.int v16), .val (.ref b1), .val (.ref b29), .unset] [(.int (16 : Int32))]))
  obtain ⟨T94, h94, k94, X94, e94, E94, A94, C94, st94⟩ := newPE X93 hx hZ (hw _ (List.mem_of_getElem? (i := 0) rfl)) e93 (g := (mkF m 255 #[.val (.long qb), .second, .val (.int pt), .val (.int v6), .val (.int v16), .val (.ref b1), .val (.ref b29), .unset] [(.int (16 : Int32))])) rfl (hb hby at_255) rfl (by decide) (cap := 16) (by decide) (by decide) (by decide) (by decide) (ad := "[C") (by decide)
  obtain ⟨b94, g94⟩ : ∃ z, z = T51.heap.size := ⟨_, rfl⟩
  rw [← g94] at A94 C94 st94
  refine Go.st st94 ?_
  have ne95 : dgs ≠ b94 := Nat.ne_of_lt (Nat.lt_of_lt_of_le F56.lt (Nat.le_of_eq g94.symm))
  have ne96 : b1 ≠ b94 := Nat.ne_of_lt (Nat.lt_of_lt_of_le F57.lt (Nat.le_of_eq g94.symm))
  have ne97 : b29 ≠ b94 := Nat.ne_of_lt (Nat.lt_of_lt_of_le F58.lt (Nat.le_of_eq g94.symm))
  have ge98 : n0 ≤ b94 := Nat.le_trans Z52 (Nat.le_of_eq g94.symm)
  have sz99 : h0.size ≤ b94 := Nat.le_trans K53.1 (Nat.le_of_eq g94.symm)
  have Z100 : n0 ≤ h94.size := Nat.le_trans Z52 E94.1
  have K101 : Keep h0 h94 [] := K53.ext E94
  have F102 : Old Z n0 h94 := F54.ext E94
  have F103 : Sta Z h94 "com/example/tallyroot/tallyroot/overlay/NodeId" "DIGITS" "[C" (.ref dgs) := F55.ext E94
  have F104 : Arv Z h94 dgs kd .char (16 : Int32) [(.int (48 : Int32)), (.int (49 : Int32)), (.int (50 : Int32)), (.int (51 : Int32)), (.int (52 : Int32)), (.int (53 : Int32)), (.int (54 : Int32)), (.int (55 : Int32)), (.int (56 : Int32)), (.int (57 : Int32)), (.int (97 : Int32)), (.int (98 : Int32)), (.int (99 : Int32)), (.int (100 : Int32)), (.int (101 : Int32)), (.int (102 : Int32))] (.int (0 : Int32)) := F56.ext E94
  have F105 : Exa Z h94 b1 "[C" := F57.ext E94
  have F106 : Exa Z h94 b29 "com/example/tallyroot/tallyroot/overlay/NodeId" := F58.ext E94
  have F107 : Fld Z h94 b29 "com/example/tallyroot/tallyroot/overlay/NodeId" "bits" "J" (.long qb) := F59.ext E94
  have F108 : Arv Z h94 b1 k1 .char (18 : Int32) [(.int (dch (nibS qb (60 : Int32)))), (.int (dch (nibS qb (56 : Int32)))), (.int (dch (nibS qb (52 : Int32)))), (.int (dch (nibS qb (48 : Int32)))), (.int (dch (nibS qb (44 : Int32)))), (.int (dch (nibS qb (40 : Int32)))), (.int (dch (nibS qb (36 : Int32)))), (.int (dch (nibS qb (32 : Int32)))), (.int (dch (nibS qb (28 : Int32)))), (.int (dch (nibS qb (24 : Int32)))), (.int (dch (nibS qb (20 : Int32)))), (.int (dch (nibS qb (16 : Int32)))), (.int (dch (nibS qb (12 : Int32)))), (.int (dch (nibS qb (8 : Int32)))), (.int (dch (nibS qb (4 : Int32)))), (.int (dch (nibS qb (0 : Int32)))), (.int v6), (.int v16)] (.int (0 : Int32)) := Fq51_0.ext E94
  have F109 : Arv Z h94 b94 k94 .char (16 : Int32) [(.int (0 : Int32)), (.int (0 : Int32)), (.int (0 : Int32)), (.int (0 : Int32)), (.int (0 : Int32)), (.int (0 : Int32)), (.int (0 : Int32)), (.int (0 : Int32)), (.int (0 : Int32)), (.int (0 : Int32)), (.int (0 : Int32)), (.int (0 : Int32)), (.int (0 : Int32)), (.int (0 : Int32)), (.int (0 : Int32)), (.int (0 : Int32))] (.int (0 : Int32)) := (Arv.new A94 (by decide)).pad (pad_rep [] (.int (0 : Int32)) 16)
  show Go p.tables e below _ (T94.setTop (mkF m 257 #[.val (.long qb), .second, .val (.int pt), .val (.int v6), .val (.int v16), .val (.ref b1), .val (.ref b29), .unset] [(.ref b94)]))
  refine Go.st (fun _ k => XS.dup X94.here hx rfl (hb hby at_257) rfl rfl k) ?_
  show Go p.tables e below _ (T94.setTop (mkF m 258 #[.val (.long qb), .second, .val (.int pt), .val (.int v6), .val (.int v16), .val (.ref b1), .val (.ref b29), .unset] [(.ref b94), (.ref b94)]))
  refine Go.st (fun _ k => XS.iconst X94.here hx rfl (hb hby at_258) k) ?_
  show Go p.tables e below _ (T94.setTop (mkF m 259 #[.val (.long qb), .second, .val (.int pt), .val (.int v6), .val (.int v16), .val (.ref b1), .val (.ref b29), .unset] [(.int (0 : Int32)), (.ref b94), (.ref b94)]))
  refine Go.st (fun _ k => XS.aload X94.here hx rfl (hb hby at_259) rfl rfl k) ?_
  show Go p.tables e below _ (T94.setTop (mkF m 261 #[.val (.long qb), .second, .val (.int pt), .val (.int v6), .val (.int v16), .val (.ref b1), .val (.ref b29), .unset] [(.ref b1), (.int (0 : Int32)), (.ref b94), (.ref b94)]))
  refine Go.st (fun _ k => XS.iconst X94.here hx rfl (hb hby at_261) k) ?_
  show Go p.tables e below _ (T94.setTop (mkF m 262 #[.val (.long qb), .second, .val (.int pt), .val (.int v6), .val (.int v16), .val (.ref b1), .val (.ref b29), .unset] [(.int (0 : Int32)), (.ref b1), (.int (0 : Int32)), (.ref b94), (.ref b94)]))
  obtain ⟨cl110, Ar110, q110, S110, M110, H110, G110⟩ := id F108
  have hin110 : ¬ ((0 : Int32) < 0 ∨ cl110.slots.size ≤ ((0 : Int32)).toNatClampNeg) := inb_of S110 ⟨by decide, by decide⟩
  have hat110 : cl110.slots[((0 : Int32)).toNatClampNeg]? = some (.int (dch (nibS qb (60 : Int32)))) := Has.at H110 hin110 (rfl)
  refine Go.st (fun _ k => X94.caload hx (j := (0 : Int32)) (v := (.int (dch (nibS qb (60 : Int32))))) (by rw [e94]; exact Ar110.1) (State.isArrayOf_alike hZ.alike Ar110.2.1) Ar110.2.2 hin110 hat110 (g := (mkF m 262 #[.val (.long qb), .second, .val (.int pt), .val (.int v6), .val (.int v16), .val (.ref b1), .val (.ref b29), .unset] [(.int (0 : Int32)), (.ref b1), (.int (0 : Int32)), (.ref b94), (.ref b94)])) rfl rfl (hb hby at_262) _ k) ?_
  show Go p.tables e below _ (T94.setTop (mkF m 263 #[.val (.long qb), .second, .val (.int pt), .val (.int v6), .val (.int v16), .val (.ref b1), .val (.ref b29), .unset] [(.int (dch (nibS qb (60 : Int32)))), (.int (0 : Int32)), (.ref b94), (.ref b94)]))
  obtain ⟨cl111, Ar111, q111, S111, M111, H111, G111⟩ := id F109
  have hin111 : ¬ ((0 : Int32) < 0 ∨ cl111.slots.size ≤ ((0 : Int32)).toNatClampNeg) := inb_of S111 ⟨by decide, by decide⟩
  obtain ⟨T111, h111, X111, e111, W111, st111⟩ := stC X94 hx hZ e94 Ar111 (j := (0 : Int32)) hin111 (g := (mkF m 263 #[.val (.long qb), .second, .val (.int pt), .val (.int v6), .val (.int v16), .val (.ref b1), .val (.ref b29), .unset] [(.int (dch (nibS qb (60 : Int32)))), (.int (0 : Int32)), (.ref b94), (.ref b94)])) rfl rfl (hb hby at_263)
  rw [(own_dchn (own_nib _ _))] at W111
  refine Go.st st111 ?_
  have F112 : Old Z n0 h111 := F102.wr W111 ge98
  have F113 : Sta Z h111 "com/example/tallyroot/tallyroot/overlay/NodeId" "DIGITS" "[C" (.ref dgs) := F103.wr W111
  have F114 : Arv Z h111 dgs kd .char (16 : Int32) [(.int (48 : Int32)), (.int (49 : Int32)), (.int (50 : Int32)), (.int (51 : Int32)), (.int (52 : Int32)), (.int (53 : Int32)), (.int (54 : Int32)), (.int (55 : Int32)), (.int (56 : Int32)), (.int (57 : Int32)), (.int (97 : Int32)), (.int (98 : Int32)), (.int (99 : Int32)), (.int (100 : Int32)), (.int (101 : Int32)), (.int (102 : Int32))] (.int (0 : Int32)) := F104.other W111 ne95
  have F115 : Exa Z h111 b1 "[C" := F105.wr W111
  have F116 : Exa Z h111 b29 "com/example/tallyroot/tallyroot/overlay/NodeId" := F106.wr W111
  have F117 : Fld Z h111 b29 "com/example/tallyroot/tallyroot/overlay/NodeId" "bits" "J" (.long qb) := F107.other W111 (Or.inl ne97)
  have F118 : Arv Z h111 b1 k1 .char (18 : Int32) [(.int (dch (nibS qb (60 : Int32)))), (.int (dch (nibS qb (56 : Int32)))), (.int (dch (nibS qb (52 : Int32)))), (.int (dch (nibS qb (48 : Int32)))), (.int (dch (nibS qb (44 : Int32)))), (.int (dch (nibS qb (40 : Int32)))), (.int (dch (nibS qb (36 : Int32)))), (.int (dch (nibS qb (32 : Int32)))), (.int (dch (nibS qb (28 : Int32)))), (.int (dch (nibS qb (24 : Int32)))), (.int (dch (nibS qb (20 : Int32)))), (.int (dch (nibS qb (16 : Int32)))), (.int (dch (nibS qb (12 : Int32)))), (.int (dch (nibS qb (8 : Int32)))), (.int (dch (nibS qb (4 : Int32)))), (.int (dch (nibS qb (0 : Int32)))), (.int v6), (.int v16)] (.int (0 : Int32)) := F108.other W111 ne96
  have F119 : Arv Z h111 b94 k94 .char (16 : Int32) [(.int (dch (nibS qb (60 : Int32)))), (.int (0 : Int32)), (.int (0 : Int32)), (.int (0 : Int32)), (.int (0 : Int32)), (.int (0 : Int32)), (.int (0 : Int32)), (.int (0 : Int32)), (.int (0 : Int32)), (.int (0 : Int32)), (.int (0 : Int32)), (.int (0 : Int32)), (.int (0 : Int32)), (.int (0 : Int32)), (.int (0 : Int32)), (.int (0 : Int32))] (.int (0 : Int32)) := Arv.set Ar111 q111 S111 M111 H111 G111 (by have h_ := fits_nar_char (dch (nibS qb (60 : Int32))); rw [show nar .char (dch (nibS qb (60 : Int32))) = (dch (nibS qb (60 : Int32))) from (own_dchn (own_nib _ _))] at h_; exact h_) W111 0 rfl (Nat.le_of_ble_eq_true rfl)
  have F120 : Exa Z h111 b94 "[C" := C94.wr W111
  have K121 : Keep h0 h111 [] := K101.wr W111 (Or.inr sz99)
  have Z122 : n0 ≤ h111.size := Nat.le_trans Z100 (Nat.le_of_eq W111.size.symm)
  have N123 := Fr.snoc X111 N93 ge98
  show Go p.tables e below _ (T111.setTop (mkF m 264 #[.val (.long qb), .second, .val (.int pt), .val (.int v6), .val (.int v16), .val (.ref b1), .val (.ref b29), .unset] [(.ref b94)]))
  refine Go.st (fun _ k => XS.dup X111.here hx rfl (hb hby at_264) rfl rfl k) ?_
  show Go p.tables e below _ (T111.setTop (mkF m 265 #[.val (.long qb), .second, .val (.int pt), .val (.int v6), .val (.int v16), .val (.ref b1), .val (.ref b29), .unset] [(.ref b94), (.ref b94)]))
  refine Go.st (fun _ k => XS.iconst X111.here hx rfl (hb hby at_265) k) ?_
  show Go p.tables e below _ (T111.setTop (mkF m 266 #[.val (.long qb), .second, .val (.int pt), .val (.int v6), .val (.int v16), .val (.ref b1), .val (.ref b29), .unset] [(.int (1 : Int32)), (.ref b94), (.ref b94)]))
  refine Go.st (fun _ k => XS.aload X111.here hx rfl (hb hby at_266) rfl rfl k) ?_
  show Go p.tables e below _ (T111.setTop (mkF m 268 #[.val (.long qb), .second, .val (.int pt), .val (.int v6), .val (.int v16), .val (.ref b1), .val (.ref b29), .unset] [(.ref b1), (.int (1 : Int32)), (.ref b94), (.ref b94)]))
  refine Go.st (fun _ k => XS.iconst X111.here hx rfl (hb hby at_268) k) ?_
  show Go p.tables e below _ (T111.setTop (mkF m 269 #[.val (.long qb), .second, .val (.int pt), .val (.int v6), .val (.int v16), .val (.ref b1), .val (.ref b29), .unset] [(.int (1 : Int32)), (.ref b1), (.int (1 : Int32)), (.ref b94), (.ref b94)]))
  obtain ⟨cl124, Ar124, q124, S124, M124, H124, G124⟩ := id F118
  have hin124 : ¬ ((1 : Int32) < 0 ∨ cl124.slots.size ≤ ((1 : Int32)).toNatClampNeg) := inb_of S124 ⟨by decide, by decide⟩
  have hat124 : cl124.slots[((1 : Int32)).toNatClampNeg]? = some (.int (dch (nibS qb (56 : Int32)))) := Has.at H124 hin124 (rfl)
  refine Go.st (fun _ k => X111.caload hx (j := (1 : Int32)) (v := (.int (dch (nibS qb (56 : Int32))))) (by rw [e111]; exact Ar124.1) (State.isArrayOf_alike hZ.alike Ar124.2.1) Ar124.2.2 hin124 hat124 (g := (mkF m 269 #[.val (.long qb), .second, .val (.int pt), .val (.int v6), .val (.int v16), .val (.ref b1), .val (.ref b29), .unset] [(.int (1 : Int32)), (.ref b1), (.int (1 : Int32)), (.ref b94), (.ref b94)])) rfl rfl (hb hby at_269) _ k) ?_
  show Go p.tables e below _ (T111.setTop (mkF m 270 #[.val (.long qb), .second, .val (.int pt), .val (.int v6), .val (.int v16), .val (.ref b1), .val (.ref b29), .unset] [(.int (dch (nibS qb (56 : Int32)))), (.int (1 : Int32)), (.ref b94), (.ref b94)]))
  obtain ⟨cl125, Ar125, q125, S125, M125, H125, G125⟩ := id F119
  have hin125 : ¬ ((1 : Int32) < 0 ∨ cl125.slots.size ≤ ((1 : Int32)).toNatClampNeg) := inb_of S125 ⟨by decide, by decide⟩
  obtain ⟨T125, h125, X125, e125, W125, st125⟩ := stC X111 hx hZ e111 Ar125 (j := (1 : Int32)) hin125 (g := (mkF m 270 #[.val (.long qb), .second, .val (.int pt), .val (.int v6), .val (.int v16), .val (.ref b1), .val (.ref b29), .unset] [(.int (dch (nibS qb (56 : Int32)))), (.int (1 : Int32)), (.ref b94), (.ref b94)])) rfl rfl (hb hby at_270)
  rw [(own_dchn (own_nib _ _))] at W125
  refine Go.st st125 ?_
  have F126 : Old Z n0 h125 := F112.wr W125 ge98
  have F127 : Sta Z h125 "com/example/tallyroot/tallyroot/overlay/NodeId" "DIGITS" "[C" (.ref dgs) := F113.wr W125
  have F128 : Arv Z h125 dgs kd .char (16 : Int32) [(.int (48 : Int32)), (.int (49 : Int32)), (.int (50 : Int32)), (.int (51 : Int32)), (.int (52 : Int32)), (.int (53 : Int32)), (.int (54 : Int32)), (.int (55 : Int32)), (.int (56 : Int32)), (.int (57 : Int32)), (.int (97 : Int32)), (.int (98 : Int32)), (.int (99 : Int32)), (.int (100 : Int32)), (.int (101 : Int32)), (.int (102 : Int32))] (.int (0 : Int32)) := F114.other W125 ne95
  have F129 : Exa Z h125 b1 "[C" := F115.wr W125
  have F130 : Exa Z h125 b29 "com/example/tallyroot/tallyroot/overlay/NodeId" := F116.wr W125
  have F131 : Fld Z h125 b29 "com/example/tallyroot/tallyroot/overlay/NodeId" "bits" "J" (.long qb) := F117.other W125 (Or.inl ne97)
  have F132 : Arv Z h125 b1 k1 .char (18 : Int32) [(.int (dch (nibS qb (60 : Int32)))), (.int (dch (nibS qb (56 : Int32)))), (.int (dch (nibS qb (52 : Int32)))), (.int (dch (nibS qb (48 : Int32)))), (.int (dch (nibS qb (44 : Int32)))), (.int (dch (nibS qb (40 : Int32)))), (.int (dch (nibS qb (36 : Int32)))), (.int (dch (nibS qb (32 : Int32)))), (.int (dch (nibS qb (28 : Int32)))), (.int (dch (nibS qb (24 : Int32)))), (.int (dch (nibS qb (20 : Int32)))), (.int (dch (nibS qb (16 : Int32)))), (.int (dch (nibS qb (12 : Int32)))), (.int (dch (nibS qb (8 : Int32)))), (.int (dch (nibS qb (4 : Int32)))), (.int (dch (nibS qb (0 : Int32)))), (.int v6), (.int v16)] (.int (0 : Int32)) := F118.other W125 ne96
  have F133 : Arv Z h125 b94 k94 .char (16 : Int32) [(.int (dch (nibS qb (60 : Int32)))), (.int (dch (nibS qb (56 : Int32)))), (.int (0 : Int32)), (.int (0 : Int32)), (.int (0 : Int32)), (.int (0 : Int32)), (.int (0 : Int32)), (.int (0 : Int32)), (.int (0 : Int32)), (.int (0 : Int32)), (.int (0 : Int32)), (.int (0 : Int32)), (.int (0 : Int32)), (.int (0 : Int32)), (.int (0 : Int32)), (.int (0 : Int32))] (.int (0 : Int32)) := Arv.set Ar125 q125 S125 M125 H125 G125 (by have h_ := fits_nar_char (dch (nibS qb (56 : Int32))); rw [show nar .char (dch (nibS qb (56 : Int32))) = (dch (nibS qb (56 : Int32))) from (own_dchn (own_nib _ _))] at h_; exact h_) W125 1 rfl (Nat.le_of_ble_eq_true rfl)
  have F134 : Exa Z h125 b94 "[C" := F120.wr W125
  have K135 : Keep h0 h125 [] := K121.wr W125 (Or.inr sz99)
  have Z136 : n0 ≤ h125.size := Nat.le_trans Z122 (Nat.le_of_eq W125.size.symm)
  have N137 := Fr.snoc X125 N123 ge98
  show Go p.tables e below _ (T125.setTop (mkF m 271 #[.val (.long qb), .second, .val (.int pt), .val (.int v6), .val (.int v16), .val (.ref b1), .val (.ref b29), .unset] [(.ref b94)]))
  refine Go.st (fun _ k => XS.dup X125.here hx rfl (hb hby at_271) rfl rfl k) ?_
  show Go p.tables e below _ (T125.setTop (mkF m 272 #[.val (.long qb), .second, .val (.int pt), .val (.int v6), .val (.int v16), .val (.ref b1), .val (.ref b29), .unset] [(.ref b94), (.ref b94)]))
  refine Go.st (fun _ k => XS.iconst X125.here hx rfl (hb hby at_272) k) ?_
  show Go p.tables e below _ (T125.setTop (mkF m 273 #[.val (.long qb), .second, .val (.int pt), .val (.int v6), .val (.int v16), .val (.ref b1), .val (.ref b29), .unset] [(.int (2 : Int32)), (.ref b94), (.ref b94)]))
  refine Go.st (fun _ k => XS.aload X125.here hx rfl (hb hby at_273) rfl rfl k) ?_
  show Go p.tables e below _ (T125.setTop (mkF m 275 #[.val (.long qb), .second, .val (.int pt), .val (.int v6), .val (.int v16), .val (.ref b1), .val (.ref b29), .unset] [(.ref b1), (.int (2 : Int32)), (.ref b94), (.ref b94)]))
  refine Go.st (fun _ k => XS.iconst X125.here hx rfl (hb hby at_275) k) ?_
  show Go p.tables e below _ (T125.setTop (mkF m 276 #[.val (.long qb), .second, .val (.int pt), .val (.int v6), .val (.int v16), .val (.ref b1), .val (.ref b29), .unset] [(.int (2 : Int32)), (.ref b1), (.int (2 : Int32)), (.ref b94), (.ref b94)]))
  obtain ⟨cl138, Ar138, q138, S138, M138, H138, G138⟩ := id F132
  have hin138 : ¬ ((2 : Int32) < 0 ∨ cl138.slots.size ≤ ((2 : Int32)).toNatClampNeg) := inb_of S138 ⟨by decide, by decide⟩
  have hat138 : cl138.slots[((2 : Int32)).toNatClampNeg]? = some (.int (dch (nibS qb (52 : Int32)))) := Has.at H138 hin138 (rfl)
  refine Go.st (fun _ k => X125.caload hx (j := (2 : Int32)) (v := (.int (dch (nibS qb (52 : Int32))))) (by rw [e125]; exact Ar138.1) (State.isArrayOf_alike hZ.alike Ar138.2.1) Ar138.2.2 hin138 hat138 (g := (mkF m 276 #[.val (.long qb), .second, .val (.int pt), .val (.int v6), .val (.int v16), .val (.ref b1), .val (.ref b29), .unset] [(.int (2 : Int32)), (.ref b1), (.int (2 : Int32)), (.ref b94), (.ref b94)])) rfl rfl (hb hby at_276) _ k) ?_
  show Go p.tables e below _ (T125.setTop (mkF m 277 #[.val (.long qb), .second, .val (.int pt), .val (.int v6), .val (.int v16), .val (.ref b1), .val (.ref b29), .unset] [(.int (dch (nibS qb (52 : Int32)))), (.int (2 : Int32)), (.ref b94), (.ref b94)]))
  obtain ⟨cl139, Ar139, q139, S139, M139, H139, G139⟩ := id F133
  have hin139 : ¬ ((2 : Int32) < 0 ∨ cl139.slots.size ≤ ((2 : Int32)).toNatClampNeg) := inb_of S139 ⟨by decide, by decide⟩
  obtain ⟨T139, h139, X139, e139, W139, st139⟩ := stC X125 hx hZ e125 Ar139 (j := (2 : Int32)) hin139 (g := (mkF m 277 #[.val (.long qb), .second, .val (.int pt), .val (.int v6), .val (.int v16), .val (.ref b1), .val (.ref b29), .unset] [(.int (dch (nibS qb (52 : Int32)))), (.int (2 : Int32)), (.ref b94), (.ref b94)])) rfl rfl (hb hby at_277)
  rw [(own_dchn (own_nib _ _))] at W139
  refine Go.st st139 ?_
  have F140 : Old Z n0 h139 := F126.wr W139 ge98
  have F141 : Sta Z h139 "com/example/tallyroot/tallyroot/overlay/NodeId" "DIGITS" "[C" (.ref dgs) := F127.wr W139
  have F142 : Arv Z h139 dgs kd .char (16 : Int32) [(.int (48 : Int32)), (.int (49 : Int32)), (.int (50 : Int32)), (.int (51 : Int32)), (.int (52 : Int32)), (.int (53 : Int32)), (.int (54 : Int32)), (.int (55 : Int32)), (.int (56 : Int32)), (.int (57 : Int32)), (.int (97 : Int32)), (.int (98 : Int32)), (.int (99 : Int32)), (.int (100 : Int32)), (.int (101 : Int32)), (.int (102 : Int32))] (.int (0 : Int32)) := F128.other W139 ne95
  have F143 : Exa Z h139 b1 "[C" := F129.wr W139
  have F144 : Exa Z h139 b29 "com/example/tallyroot/tallyroot/overlay/NodeId" := F130.wr W139
  have F145 : Fld Z h139 b29 "com/example/tallyroot/tallyroot/overlay/NodeId" "bits" "J" (.long qb) := F131.other W139 (Or.inl ne97)
  have F146 : Arv Z h139 b1 k1 .char (18 : Int32) [(.int (dch (nibS qb (60 : Int32)))), (.int (dch (nibS qb (56 : Int32)))), (.int (dch (nibS qb (52 : Int32)))), (.int (dch (nibS qb (48 : Int32)))), (.int (dch (nibS qb (44 : Int32)))), (.int (dch (nibS qb (40 : Int32)))), (.int (dch (nibS qb (36 : Int32)))), (.int (dch (nibS qb (32 : Int32)))), (.int (dch (nibS qb (28 : Int32)))), (.int (dch (nibS qb (24 : Int32)))), (.int (dch (nibS qb (20 : Int32)))), (.int (dch (nibS qb (16 : Int32)))), (.int (dch (nibS qb (12 : Int32)))), (.int (dch (nibS qb (8 : Int32)))), (.int (dch (nibS qb (4 : Int32)))), (.int (dch (nibS qb (0 : Int32)))), (.int v6), (.int v16)] (.int (0 : Int32)) := F132.other W139 ne96
  have F147 : Arv Z h139 b94 k94 .char (16 : Int32) [(.int (dch (nibS qb (60 : Int32)))), (.int (dch (nibS qb (56 : Int32)))), (.int (dch (nibS qb (52 : Int32)))), (.int (0 : Int32)), (.int (0 : Int32)), (.int (0 : Int32)), (.int (0 : Int32)), (.int (0 : Int32)), (.int (0 : Int32)), (.int (0 : Int32)), (.int (0 : Int32)), (.int (0 : Int32)), (.int (0 : Int32)), (.int (0 : Int32)), (.int (0 : Int32)), (.int (0 : Int32))] (.int (0 : Int32)) := Arv.set Ar139 q139 S139 M139 H139 G139 (by have h_ := fits_nar_char (dch (nibS qb (52 : Int32))); rw [show nar .char (dch (nibS qb (52 : Int32))) = (dch (nibS qb (52 : Int32))) from (own_dchn (own_nib _ _))] at h_; exact h_) W139 2 rfl (Nat.le_of_ble_eq_true rfl)
  have F148 : Exa Z h139 b94 "[C" := F134.wr W139
  have K149 : Keep h0 h139 [] := K135.wr W139 (Or.inr sz99)
  have Z150 : n0 ≤ h139.size := Nat.le_trans Z136 (Nat.le_of_eq W139.size.symm)
  have N151 := Fr.snoc X139 N137 ge98
  show Go p.tables e below _ (T139.setTop (mkF m 278 #[.val (.long qb), .second, .val (.int pt), .val (.int v6), .val (.int v16), .val (.ref b1), .val (.ref b29), .unset] [(.ref b94)]))
  refine Go.st (fun _ k => XS.dup X139.here hx rfl (hb hby at_278) rfl rfl k) ?_
  show Go p.tables e below _ (T139.setTop (mkF m 279 #[.val (.long qb), .second, .val (.int pt), .val (.int v6), .val (.int v16), .val (.ref b1), .val (.ref b29), .unset] [(.ref b94), (.ref b94)]))
  refine Go.st (fun _ k => XS.iconst X139.here hx rfl (hb hby at_279) k) ?_
  show Go p.tables e below _ (T139.setTop (mkF m 280 #[.val (.long qb), .second, .val (.int pt), .val (.int v6), .val (.int v16), .val (.ref b1), .val (.ref b29), .unset] [(.int (3 : Int32)), (.ref b94), (.ref b94)]))
  refine Go.st (fun _ k => XS.aload X139.here hx rfl (hb hby at_280) rfl rfl k) ?_
  show Go p.tables e below _ (T139.setTop (mkF m 282 #[.val (.long qb), .second, .val (.int pt), .val (.int v6), .val (.int v16), .val (.ref b1), .val (.ref b29), .unset] [(.ref b1), (.int (3 : Int32)), (.ref b94), (.ref b94)]))
  refine Go.st (fun _ k => XS.iconst X139.here hx rfl (hb hby at_282) k) ?_
  show Go p.tables e below _ (T139.setTop (mkF m 283 #[.val (.long qb), .second, .val (.int pt), .val (.int v6), .val (.int v16), .val (.ref b1), .val (.ref b29), .unset] [(.int (3 : Int32)), (.ref b1), (.int (3 : Int32)), (.ref b94), (.ref b94)]))
  obtain ⟨cl152, Ar152, q152, S152, M152, H152, G152⟩ := id F146
  have hin152 : ¬ ((3 : Int32) < 0 ∨ cl152.slots.size ≤ ((3 : Int32)).toNatClampNeg) := inb_of S152 ⟨by decide, by decide⟩
  have hat152 : cl152.slots[((3 : Int32)).toNatClampNeg]? = some (.int (dch (nibS qb (48 : Int32)))) := Has.at H152 hin152 (rfl)
  refine Go.st (fun _ k => X139.caload hx (j := (3 : Int32)) (v := (.int (dch (nibS qb (48 : Int32))))) (by rw [e139]; exact Ar152.1) (State.isArrayOf_alike hZ.alike Ar152.2.1) Ar152.2.2 hin152 hat152 (g := (mkF m 283 #[.val (.long qb), .second, .val (.int pt), .val (.int v6), .val (.int v16), .val (.ref b1), .val (.ref b29), .unset] [(.int (3 : Int32)), (.ref b1), (.int (3 : Int32)), (.ref b94), (.ref b94)])) rfl rfl (hb hby at_283) _ k) ?_
  show Go p.tables e below _ (T139.setTop (mkF m 284 #[.val (.long qb), .second, .val (.int pt), .val (.int v6), .val (.int v16), .val (.ref b1), .val (.ref b29), .unset] [(.int (dch (nibS qb (48 : Int32)))), (.int (3 : Int32)), (.ref b94), (.ref b94)]))
  obtain ⟨cl153, Ar153, q153, S153, M153, H153, G153⟩ := id F147
  have hin153 : ¬ ((3 : Int32) < 0 ∨ cl153.slots.size ≤ ((3 : Int32)).toNatClampNeg) := inb_of S153 ⟨by decide, by decide⟩
  obtain ⟨T153, h153, X153, e153, W153, st153⟩ := stC X139 hx hZ e139 Ar153 (j := (3 : Int32)) hin153 (g := (mkF m 284 #[.val (.long qb), .second, .val (.int pt), .val (.int v6), .val (.int v16), .val (.ref b1), .val (.ref b29), .unset] [(.int (dch (nibS qb (48 : Int32)))), (.int (3 : Int32)), (.ref b94), (.ref b94)])) rfl rfl (hb hby at_284)
  rw [(own_dchn (own_nib _ _))] at W153
  refine Go.st st153 ?_
  have F154 : Old Z n0 h153 := F140.wr W153 ge98
  have F155 : Sta Z h153 "com/example/tallyroot/tallyroot/overlay/NodeId" "DIGITS" "[C" (.ref dgs) := F141.wr W153
  have F156 : Arv Z h153 dgs kd .char (16 : Int32) [(.int (48 : Int32)), (.int (49 : Int32)), (.int (50 : Int32)), (.int (51 : Int32)), (.int (52 : Int32)), (.int (53 : Int32)), (.int (54 : Int32)), (.int (55 : Int32)), (.int (56 : Int32)), (.int (57 : Int32)), (.int (97 : Int32)), (.int (98 : Int32)), (.int (99 : Int32)), (.int (100 : Int32)), (.int (101 : Int32)), (.int (102 : Int32))] (.int (0 : Int32)) := F142.other W153 ne95
  have F157 : Exa Z h153 b1 "[C" := F143.wr W153
  have F158 : Exa Z h153 b29 "com/example/tallyroot/tallyroot/overlay/NodeId" := F144.wr W153
  have F159 : Fld Z h153 b29 "com/example/tallyroot/tallyroot/overlay/NodeId" "bits" "J" (.long qb) := F145.other W153 (Or.inl ne97)
  have F160 : Arv Z h153 b1 k1 .char (18 : Int32) [(.int (dch (nibS qb (60 : Int32)))), (.int (dch (nibS qb (56 : Int32)))), (.int (dch (nibS qb (52 : Int32)))), (.int (dch (nibS qb (48 : Int32)))), (.int (dch (nibS qb (44 : Int32)))), (.int (dch (nibS qb (40 : Int32)))), (.int (dch (nibS qb (36 : Int32)))), (.int (dch (nibS qb (32 : Int32)))), (.int (dch (nibS qb (28 : Int32)))), (.int (dch (nibS qb (24 : Int32)))), (.int (dch (nibS qb (20 : Int32)))), (.int (dch (nibS qb (16 : Int32)))), (.int (dch (nibS qb (12 : Int32)))), (.int (dch (nibS qb (8 : Int32)))), (.int (dch (nibS qb (4 : Int32)))), (.int (dch (nibS qb (0 : Int32)))), (.int v6), (.int v16)] (.int (0 : Int32)) := F146.other W153 ne96
  have F161 : Arv Z h153 b94 k94 .char (16 : Int32) [(.int (dch (nibS qb (60 : Int32)))), (.int (dch (nibS qb (56 : Int32)))), (.int (dch (nibS qb (52 : Int32)))), (.int (dch (nibS qb (48 : Int32)))), (.int (0 : Int32)), (.int (0 : Int32)), (.int (0 : Int32)), (.int (0 : Int32)), (.int (0 : Int32)), (.int (0 : Int32)), (.int (0 : Int32)), (.int (0 : Int32)), (.int (0 : Int32)), (.int (0 : Int32)), (.int (0 : Int32)), (.int (0 : Int32))] (.int (0 : Int32)) := Arv.set Ar153 q153 S153 M153 H153 G153 (by have h_ := fits_nar_char (dch (nibS qb (48 : Int32))); rw [show nar .char (dch (nibS qb (48 : Int32))) = (dch (nibS qb (48 : Int32))) from (own_dchn (own_nib _ _))] at h_; exact h_) W153 3 rfl (Nat.le_of_ble_eq_true rfl)
  have F162 : Exa Z h153 b94 "[C" := F148.wr W153
  have K163 : Keep h0 h153 [] := K149.wr W153 (Or.inr sz99)
  have Z164 : n0 ≤ h153.size := Nat.le_trans Z150 (Nat.le_of_eq W153.size.symm)
  have N165 := Fr.snoc X153 N151 ge98
  show Go p.tables e below _ (T153.setTop (mkF m 285 #[.val (.long qb), .second, .val (.int pt), .val (.int v6), .val (.int v16), .val (.ref b1), .val (.ref b29), .unset] [(.ref b94)]))
  refine Go.st (fun _ k => XS.dup X153.here hx rfl (hb hby at_285) rfl rfl k) ?_
  show Go p.tables e below _ (T153.setTop (mkF m 286 #[.val (.long qb), .second, .val (.int pt), .val (.int v6), .val (.int v16), .val (.ref b1), .val (.ref b29), .unset] [(.ref b94), (.ref b94)]))
  refine Go.st (fun _ k => XS.iconst X153.here hx rfl (hb hby at_286) k) ?_
  show Go p.tables e below _ (T153.setTop (mkF m 287 #[.val (.long qb), .second, .val (.int pt), .val (.int v6), .val (.int v16), .val (.ref b1), .val (.ref b29), .unset] [(.int (4 : Int32)), (.ref b94), (.ref b94)]))
  refine Go.st (fun _ k => XS.aload X153.here hx rfl (hb hby at_287) rfl rfl k) ?_
  show Go p.tables e below _ (T153.setTop (mkF m 289 #[.val (.long qb), .second, .val (.int pt), .val (.int v6), .val (.int v16), .val (.ref b1), .val (.ref b29), .unset] [(.ref b1), (.int (4 : Int32)), (.ref b94), (.ref b94)]))
  refine Go.st (fun _ k => XS.iconst X153.here hx rfl (hb hby at_289) k) ?_
  show Go p.tables e below _ (T153.setTop (mkF m 290 #[.val (.long qb), .second, .val (.int pt), .val (.int v6), .val (.int v16), .val (.ref b1), .val (.ref b29), .unset] [(.int (4 : Int32)), (.ref b1), (.int (4 : Int32)), (.ref b94), (.ref b94)]))
  obtain ⟨cl166, Ar166, q166, S166, M166, H166, G166⟩ := id F160
  have hin166 : ¬ ((4 : Int32) < 0 ∨ cl166.slots.size ≤ ((4 : Int32)).toNatClampNeg) := inb_of S166 ⟨by decide, by decide⟩
  have hat166 : cl166.slots[((4 : Int32)).toNatClampNeg]? = some (.int (dch (nibS qb (44 : Int32)))) := Has.at H166 hin166 (rfl)
  refine Go.st (fun _ k => X153.caload hx (j := (4 : Int32)) (v := (.int (dch (nibS qb (44 : Int32))))) (by rw [e153]; exact Ar166.1) (State.isArrayOf_alike hZ.alike Ar166.2.1) Ar166.2.2 hin166 hat166 (g := (mkF m 290 #[.val (.long qb), .second, .val (.int pt), .val (.int v6), .val (.int v16), .val (.ref b1), .val (.ref b29), .unset] [(.int (4 : Int32)), (.ref b1), (.int (4 : Int32)), (.ref b94), (.ref b94)])) rfl rfl (hb hby at_290) _ k) ?_
  show Go p.tables e below _ (T153.setTop (mkF m 291 #[.val (.long qb), .second, .val (.int pt), .val (.int v6), .val (.int v16), .val (.ref b1), .val (.ref b29), .unset] [(.int (dch (nibS qb (44 : Int32)))), (.int (4 : Int32)), (.ref b94), (.ref b94)]))
  obtain ⟨cl167, Ar167, q167, S167, M167, H167, G167⟩ := id F161
  have hin167 : ¬ ((4 : Int32) < 0 ∨ cl167.slots.size ≤ ((4 : Int32)).toNatClampNeg) := inb_of S167 ⟨by decide, by decide⟩
  obtain ⟨T167, h167, X167, e167, W167, st167⟩ := stC X153 hx hZ e153 Ar167 (j := (4 : Int32)) hin167 (g := (mkF m 291 #[.val (.long qb), .second, .val (.int pt), .val (.int v6), .val (.int v16), .val (.ref b1), .val (.ref b29), .unset] [(.int (dch (nibS qb (44 : Int32)))), (.int (4 : Int32)), (.ref b94), (.ref b94)])) rfl rfl (hb hby at_291)
  rw [(own_dchn (own_nib _ _))] at W167
  refine Go.st st167 ?_
  have F168 : Old Z n0 h167 := F154.wr W167 ge98
  have F169 : Sta Z h167 "com/example/tallyroot/tallyroot/overlay/NodeId" "DIGITS" "[C" (.ref dgs) := F155.wr W167
  have F170 : Arv Z h167 dgs kd .char (16 : Int32) [(.int (48 : Int32)), (.int (49 : Int32)), (.int (50 : Int32)), (.int (51 : Int32)), (.int (52 : Int32)), (.int (53 : Int32)), (.int (54 : Int32)), (.int (55 : Int32)), (.int (56 : Int32)), (.int (57 : Int32)), (.int (97 : Int32)), (.int (98 : Int32)), (.int (99 : Int32)), (.int (100 : Int32)), (.int (101 : Int32)), (.int (102 : Int32))] (.int (0 : Int32)) := F156.other W167 ne95
  have F171 : Exa Z h167 b1 "[C" := F157.wr W167
  have F172 : Exa Z h167 b29 "com/example/tallyroot/tallyroot/overlay/NodeId" := F158.wr W167
  have F173 : Fld Z h167 b29 "com/example/tallyroot/tallyroot/overlay/NodeId" "bits" "J" (.long qb) := F159.other W167 (Or.inl ne97)
  have F174 : Arv Z h167 b1 k1 .char (18 : Int32) [(.int (dch (nibS qb (60 : Int32)))), (.int (dch (nibS qb (56 : Int32)))), (.int (dch (nibS qb (52 : Int32)))), (.int (dch (nibS qb (48 : Int32)))), (.int (dch (nibS qb (44 : Int32)))), (.int (dch (nibS qb (40 : Int32)))), (.int (dch (nibS qb (36 : Int32)))), (.int (dch (nibS qb (32 : Int32)))), (.int (dch (nibS qb (28 : Int32)))), (.int (dch (nibS qb (24 : Int32)))), (.int (dch (nibS qb (20 : Int32)))), (.int (dch (nibS qb (16 : Int32)))), (.int (dch (nibS qb (12 : Int32)))), (.int (dch (nibS qb (8 : Int32)))), (.int (dch (nibS qb (4 : Int32)))), (.int (dch (nibS qb (0 : Int32)))), (.int v6), (.int v16)] (.int (0 : Int32)) := F160.other W167 ne96
  have F175 : Arv Z h167 b94 k94 .char (16 : Int32) [(.int (dch (nibS qb (60 : Int32)))), (.int (dch (nibS qb (56 : Int32)))), (.int (dch (nibS qb (52 : Int32)))), (.int (dch (nibS qb (48 : Int32)))), (.int (dch (nibS qb (44 : Int32)))), (.int (0 : Int32)), (.int (0 : Int32)), (.int (0 : Int32)), (.int (0 : Int32)), (.int (0 : Int32)), (.int (0 : Int32)), (.int (0 : Int32)), (.int (0 : Int32)), (.int (0 : Int32)), (.int (0 : Int32)), (.int (0 : Int32))] (.int (0 : Int32)) := Arv.set Ar167 q167 S167 M167 H167 G167 (by have h_ := fits_nar_char (dch (nibS qb (44 : Int32))); rw [show nar .char (dch (nibS qb (44 : Int32))) = (dch (nibS qb (44 : Int32))) from (own_dchn (own_nib _ _))] at h_; exact h_) W167 4 rfl (Nat.le_of_ble_eq_true rfl)
  have F176 : Exa Z h167 b94 "[C" := F162.wr W167
  have K177 : Keep h0 h167 [] := K163.wr W167 (Or.inr sz99)
  have Z178 : n0 ≤ h167.size := Nat.le_trans Z164 (Nat.le_of_eq W167.size.symm)
  have N179 := Fr.snoc X167 N165 ge98
  show Go p.tables e below _ (T167.setTop (mkF m 292 #[.val (.long qb), .second, .val (.int pt), .val (.int v6), .val (.int v16), .val (.ref b1), .val (.ref b29), .unset] [(.ref b94)]))
  refine Go.st (fun _ k => XS.dup X167.here hx rfl (hb hby at_292) rfl rfl k) ?_
  show Go p.tables e below _ (T167.setTop (mkF m 293 #[.val (.long qb), .second, .val (.int pt), .val (.int v6), .val (.int v16), .val (.ref b1), .val (.ref b29), .unset] [(.ref b94), (.ref b94)]))
  refine Go.st (fun _ k => XS.iconst X167.here hx rfl (hb hby at_293) k) ?_
  show Go p.tables e below _ (T167.setTop (mkF m 294 #[.val (.long qb), .second, .val (.int pt), .val (.int v6), .val (.int v16), .val (.ref b1), .val (.ref b29), .unset] [(.int (5 : Int32)), (.ref b94), (.ref b94)]))
  refine Go.st (fun _ k => XS.aload X167.here hx rfl (hb hby at_294) rfl rfl k) ?_
  show Go p.tables e below _ (T167.setTop (mkF m 296 #[.val (.long qb), .second, .val (.int pt), .val (.int v6), .val (.int v16), .val (.ref b1), .val (.ref b29), .unset] [(.ref b1), (.int (5 : Int32)), (.ref b94), (.ref b94)]))
  refine Go.st (fun _ k => XS.iconst X167.here hx rfl (hb hby at_296) k) ?_
  show Go p.tables e below _ (T167.setTop (mkF m 297 #[.val (.long qb), .second, .val (.int pt), .val (.int v6), .val (.int v16), .val (.ref b1), .val (.ref b29), .unset] [(.int (5 : Int32)), (.ref b1), (.int (5 : Int32)), (.ref b94), (.ref b94)]))
  obtain ⟨cl180, Ar180, q180, S180, M180, H180, G180⟩ := id F174
  have hin180 : ¬ ((5 : Int32) < 0 ∨ cl180.slots.size ≤ ((5 : Int32)).toNatClampNeg) := inb_of S180 ⟨by decide, by decide⟩
  have hat180 : cl180.slots[((5 : Int32)).toNatClampNeg]? = some (.int (dch (nibS qb (40 : Int32)))) := Has.at H180 hin180 (rfl)
  refine Go.st (fun _ k => X167.caload hx (j := (5 : Int32)) (v := (.int (dch (nibS qb (40 : Int32))))) (by rw [e167]; exact Ar180.1) (State.isArrayOf_alike hZ.alike Ar180.2.1) Ar180.2.2 hin180 hat180 (g := (mkF m 297 #[.val (.long qb), .second, .val (.int pt), .val (.int v6), .val (.int v16), .val (.ref b1), .val (.ref b29), .unset] [(.int (5 : Int32)), (.ref b1), (.int (5 : Int32)), (.ref b94), (.ref b94)])) rfl rfl (hb hby at_297) _ k) ?_
  show Go p.tables e below _ (T167.setTop (mkF m 298 #[.val (.long qb), .second, .val (.int pt), .val (.int v6), .val (.int v16), .val (.ref b1), .val (.ref b29), .unset] [(.int (dch (nibS qb (40 : Int32)))), (.int (5 : Int32)), (.ref b94), (.ref b94)]))
  obtain ⟨cl181, Ar181, q181, S181, M181, H181, G181⟩ := id F175
  have hin181 : ¬ ((5 : Int32) < 0 ∨ cl181.slots.size ≤ ((5 : Int32)).toNatClampNeg) := inb_of S181 ⟨by decide, by decide⟩
  obtain ⟨T181, h181, X181, e181, W181, st181⟩ := stC X167 hx hZ e167 Ar181 (j := (5 : Int32)) hin181 (g := (mkF m 298 #[.val (.long qb), .second, .val (.int pt), .val (.int v6), .val (.int v16), .val (.ref b1), .val (.ref b29), .unset] [(.int (dch (nibS qb (40 : Int32)))), (.int (5 : Int32)), (.ref b94), (.ref b94)])) rfl rfl (hb hby at_298)
  rw [(own_dchn (own_nib _ _))] at W181
  refine Go.st st181 ?_
  have F182 : Old Z n0 h181 := F168.wr W181 ge98
  have F183 : Sta Z h181 "com/example/tallyroot/tallyroot/overlay/NodeId" "DIGITS" "[C" (.ref dgs) := F169.wr W181
  have F184 : Arv Z h181 dgs kd .char (16 : Int32) [(.int (48 : Int32)), (.int (49 : Int32)), (.int (50 : Int32)), (.int (51 : Int32)), (.int (52 : Int32)), (.int (53 : Int32)), (.int (54 : Int32)), (.int (55 : Int32)), (.int (56 : Int32)), (.int (57 : Int32)), (.int (97 : Int32)), (.int (98 : Int32)), (.int (99 : Int32)), (.int (100 : Int32)), (.int (101 : Int32)), (.int (102 : Int32))] (.int (0 : Int32)) := F170.other W181 ne95
  have F185 : Exa Z h181 b1 "[C" := F171.wr W181
  have F186 : Exa Z h181 b29 "com/example/tallyroot/tallyroot/overlay/NodeId" := F172.wr W181
  have F187 : Fld Z h181 b29 "com/example/tallyroot/tallyroot/overlay/NodeId" "bits" "J" (.long qb) := F173.other W181 (Or.inl ne97)
  have F188 : Arv Z h181 b1 k1 .char (18 : Int32) [(.int (dch (nibS qb (60 : Int32)))), (.int (dch (nibS qb (56 : Int32)))), (.int (dch (nibS qb (52 : Int32)))), (.int (dch (nibS qb (48 : Int32)))), (.int (dch (nibS qb (44 : Int32)))), (.int (dch (nibS qb (40 : Int32)))), (.int (dch (nibS qb (36 : Int32)))), (.int (dch (nibS qb (32 : Int32)))), (.int (dch (nibS qb (28 : Int32)))), (.int (dch (nibS qb (24 : Int32)))), (.int (dch (nibS qb (20 : Int32)))), (.int (dch (nibS qb (16 : Int32)))), (.int (dch (nibS qb (12 : Int32)))), (.int (dch (nibS qb (8 : Int32)))), (.int (dch (nibS qb (4 : Int32)))), (.int (dch (nibS qb (0 : Int32)))), (.int v6), (.int v16)] (.int (0 : Int32)) := F174.other W181 ne96
  have F189 : Arv Z h181 b94 k94 .char (16 : Int32) [(.int (dch (nibS qb (60 : Int32)))), (.int (dch (nibS qb (56 : Int32)))), (.int (dch (nibS qb (52 : Int32)))), (.int (dch (nibS qb (48 : Int32)))), (.int (dch (nibS qb (44 : Int32)))), (.int (dch (nibS qb (40 : Int32)))), (.int (0 : Int32)), (.int (0 : Int32)), (.int (0 : Int32)), (.int (0 : Int32)), (.int (0 : Int32)), (.int (0 : Int32)), (.int (0 : Int32)), (.int (0 : Int32)), (.int (0 : Int32)), (.int (0 : Int32))] (.int (0 : Int32)) := Arv.set Ar181 q181 S181 M181 H181 G181 (by have h_ := fits_nar_char (dch (nibS qb (40 : Int32))); rw [show nar .char (dch (nibS qb (40 : Int32))) = (dch (nibS qb (40 : Int32))) from (own_dchn (own_nib _ _))] at h_; exact h_) W181 5 rfl (Nat.le_of_ble_eq_true rfl)
  have F190 : Exa Z h181 b94 "[C" := F176.wr W181
  have K191 : Keep h0 h181 [] := K177.wr W181 (Or.inr sz99)
  have Z192 : n0 ≤ h181.size := Nat.le_trans Z178 (Nat.le_of_eq W181.size.symm)
  have N193 := Fr.snoc X181 N179 ge98
  show Go p.tables e below _ (T181.setTop (mkF m 299 #[.val (.long qb), .second, .val (.int pt), .val (.int v6), .val (.int v16), .val (.ref b1), .val (.ref b29), .unset] [(.ref b94)]))
  refine Go.st (fun _ k => XS.dup X181.here hx rfl (hb hby at_299) rfl rfl k) ?_
  show Go p.tables e below _ (T181.setTop (mkF m 300 #[.val (.long qb), .second, .val (.int pt), .val (.int v6), .val (.int v16), .val (.ref b1), .val (.ref b29), .unset] [(.ref b94), (.ref b94)]))
  refine Go.st (fun _ k => XS.bipush X181.here hx rfl (hb hby at_300) k) ?_
  show Go p.tables e below _ (T181.setTop (mkF m 302 #[.val (.long qb), .second, .val (.int pt), .val (.int v6), .val (.int v16), .val (.ref b1), .val (.ref b29), .unset] [(.int (6 : Int32)), (.ref b94), (.ref b94)]))
  refine Go.st (fun _ k => XS.aload X181.here hx rfl (hb hby at_302) rfl rfl k) ?_
  show Go p.tables e below _ (T181.setTop (mkF m 304 #[.val (.long qb), .second, .val (.int pt), .val (.int v6), .val (.int v16), .val (.ref b1), .val (.ref b29), .unset] [(.ref b1), (.int (6 : Int32)), (.ref b94), (.ref b94)]))
  refine Go.st (fun _ k => XS.bipush X181.here hx rfl (hb hby at_304) k) ?_
  show Go p.tables e below _ (T181.setTop (mkF m 306 #[.val (.long qb), .second, .val (.int pt), .val (.int v6), .val (.int v16), .val (.ref b1), .val (.ref b29), .unset] [(.int (6 : Int32)), (.ref b1), (.int (6 : Int32)), (.ref b94), (.ref b94)]))
  obtain ⟨cl194, Ar194, q194, S194, M194, H194, G194⟩ := id F188
  have hin194 : ¬ ((6 : Int32) < 0 ∨ cl194.slots.size ≤ ((6 : Int32)).toNatClampNeg) := inb_of S194 ⟨by decide, by decide⟩
  have hat194 : cl194.slots[((6 : Int32)).toNatClampNeg]? = some (.int (dch (nibS qb (36 : Int32)))) := Has.at H194 hin194 (rfl)
  refine Go.st (fun _ k => X181.caload hx (j := (6 : Int32)) (v := (.int (dch (nibS qb (36 : Int32))))) (by rw [e181]; exact Ar194.1) (State.isArrayOf_alike hZ.alike Ar194.2.1) Ar194.2.2 hin194 hat194 (g := (mkF m 306 #[.val (.long qb), .second, .val (.int pt), .val (.int v6), .val (.int v16), .val (.ref b1), .val (.ref b29), .unset] [(.int (6 : Int32)), (.ref b1), (.int (6 : Int32)), (.ref b94), (.ref b94)])) rfl rfl (hb hby at_306) _ k) ?_
  show Go p.tables e below _ (T181.setTop (mkF m 307 #[.val (.long qb), .second, .val (.int pt), .val (.int v6), .val (.int v16), .val (.ref b1), .val (.ref b29), .unset] [(.int (dch (nibS qb (36 : Int32)))), (.int (6 : Int32)), (.ref b94), (.ref b94)]))
  obtain ⟨cl195, Ar195, q195, S195, M195, H195, G195⟩ := id F189
  have hin195 : ¬ ((6 : Int32) < 0 ∨ cl195.slots.size ≤ ((6 : Int32)).toNatClampNeg) := inb_of S195 ⟨by decide, by decide⟩
  obtain ⟨T195, h195, X195, e195, W195, st195⟩ := stC X181 hx hZ e181 Ar195 (j := (6 : Int32)) hin195 (g := (mkF m 307 #[.val (.long qb), .second, .val (.int pt), .val (.int v6), .val (.int v16), .val (.ref b1), .val (.ref b29), .unset] [(.int (dch (nibS qb (36 : Int32)))), (.int (6 : Int32)), (.ref b94), (.ref b94)])) rfl rfl (hb hby at_307)
  rw [(own_dchn (own_nib _ _))] at W195
  refine Go.st st195 ?_
  have F196 : Old Z n0 h195 := F182.wr W195 ge98
  have F197 : Sta Z h195 "com/example/tallyroot/tallyroot/overlay/NodeId" "DIGITS" "[C" (.ref dgs) := F183.wr W195
  have F198 : Arv Z h195 dgs kd .char (16 : Int32) [(.int (48 : Int32)), (.int (49 : Int32)), (.int (50 : Int32)), (.int (51 : Int32)), (.int (52 : Int32)), (.int (53 : Int32)), (.int (54 : Int32)), (.int (55 : Int32)), (.int (56 : Int32)), (.int (57 : Int32)), (.int (97 : Int32)), (.int (98 : Int32)), (.int (99 : Int32)), (.int (100 : Int32)), (.int (101 : Int32)), (.int (102 : Int32))] (.int (0 : Int32)) := F184.other W195 ne95
  have F199 : Exa Z h195 b1 "[C" := F185.wr W195
  have F200 : Exa Z h195 b29 "com/example/tallyroot/tallyroot/overlay/NodeId" := F186.wr W195
  have F201 : Fld Z h195 b29 "com/example/tallyroot/tallyroot/overlay/NodeId" "bits" "J" (.long qb) := F187.other W195 (Or.inl ne97)
  have F202 : Arv Z h195 b1 k1 .char (18 : Int32) [(.int (dch (nibS qb (60 : Int32)))), (.int (dch (nibS qb (56 : Int32)))), (.int (dch (nibS qb (52 : Int32)))), (.int (dch (nibS qb (48 : Int32)))), (.int (dch (nibS qb (44 : Int32)))), (.int (dch (nibS qb (40 : Int32)))), (.int (dch (nibS qb (36 : Int32)))), (.int (dch (nibS qb (32 : Int32)))), (.int (dch (nibS qb (28 : Int32)))), (.int (dch (nibS qb (24 : Int32)))), (.int (dch (nibS qb (20 : Int32)))), (.int (dch (nibS qb (16 : Int32)))), (.int (dch (nibS qb (12 : Int32)))), (.int (dch (nibS qb (8 : Int32)))), (.int (dch (nibS qb (4 : Int32)))), (.int (dch (nibS qb (0 : Int32)))), (.int v6), (.int v16)] (.int (0 : Int32)) := F188.other W195 ne96
  have F203 : Arv Z h195 b94 k94 .char (16 : Int32) [(.int (dch (nibS qb (60 : Int32)))), (.int (dch (nibS qb (56 : Int32)))), (.int (dch (nibS qb (52 : Int32)))), (.int (dch (nibS qb (48 : Int32)))), (.int (dch (nibS qb (44 : Int32)))), (.int (dch (nibS qb (40 : Int32)))), (.int (dch (nibS qb (36 : Int32)))), (.int (0 : Int32)), (.int (0 : Int32)), (.int (0 : Int32)), (.int (0 : Int32)), (.int (0 : Int32)), (.int (0 : Int32)), (.int (0 : Int32)), (.int (0 : Int32)), (.int (0 : Int32))] (.int (0 : Int32)) := Arv.set Ar195 q195 S195 M195 H195 G195 (by have h_ := fits_nar_char (dch (nibS qb (36 : Int32))); rw [show nar .char (dch (nibS qb (36 : Int32))) = (dch (nibS qb (36 : Int32))) from (own_dchn (own_nib _ _))] at h_; exact h_) W195 6 rfl (Nat.le_of_ble_eq_true rfl)
  have F204 : Exa Z h195 b94 "[C" := F190.wr W195
  have K205 : Keep h0 h195 [] := K191.wr W195 (Or.inr sz99)
  have Z206 : n0 ≤ h195.size := Nat.le_trans Z192 (Nat.le_of_eq W195.size.symm)
  have N207 := Fr.snoc X195 N193 ge98
  show Go p.tables e below _ (T195.setTop (mkF m 308 #[.val (.long qb), .second, .val (.int pt), .val (.int v6), .val (.int v16), .val (.ref b1), .val (.ref b29), .unset] [(.ref b94)]))
  refine Go.st (fun _ k => XS.dup X195.here hx rfl (hb hby at_308) rfl rfl k) ?_
  show Go p.tables e below _ (T195.setTop (mkF m 309 #[.val (.long qb), .second, .val (.int pt), .val (.int v6), .val (.int v16), .val (.ref b1), .val (.ref b29), .unset] [(.ref b94), (.ref b94)]))
  refine Go.st (fun _ k => XS.bipush X195.here hx rfl (hb hby at_309) k) ?_
  show Go p.tables e below _ (T195.setTop (mkF m 311 #[.val (.long qb), .second, .val (.int pt), .val (.int v6), .val (.int v16), .val (.ref b1), .val (.ref b29), .unset] [(.int (7 : Int32)), (.ref b94), (.ref b94)]))
  refine Go.st (fun _ k => XS.aload X195.here hx rfl (hb hby at_311) rfl rfl k) ?_
  show Go p.tables e below _ (T195.setTop (mkF m 313 #[.val (.long qb), .second, .val (.int pt), .val (.int v6), .val (.int v16), .val (.ref b1), .val (.ref b29), .unset] [(.ref b1), (.int (7 : Int32)), (.ref b94), (.ref b94)]))
  refine Go.st (fun _ k => XS.bipush X195.here hx rfl (hb hby at_313) k) ?_
  show Go p.tables e below _ (T195.setTop (mkF m 315 #[.val (.long qb), .second, .val (.int pt), .val (.int v6), .val (.int v16), .val (.ref b1), .val (.ref b29), .unset] [(.int (7 : Int32)), (.ref b1), (.int (7 : Int32)), (.ref b94), (.ref b94)]))
  obtain ⟨cl208, Ar208, q208, S208, M208, H208, G208⟩ := id F202
  have hin208 : ¬ ((7 : Int32) < 0 ∨ cl208.slots.size ≤ ((7 : Int32)).toNatClampNeg) := inb_of S208 ⟨by decide, by decide⟩
  have hat208 : cl208.slots[((7 : Int32)).toNatClampNeg]? = some (.int (dch (nibS qb (32 : Int32)))) := Has.at H208 hin208 (rfl)
  refine Go.st (fun _ k => X195.caload hx (j := (7 : Int32)) (v := (.int (dch (nibS qb (32 : Int32))))) (by rw [e195]; exact Ar208.1) (State.isArrayOf_alike hZ.alike Ar208.2.1) Ar208.2.2 hin208 hat208 (g := (mkF m 315 #[.val (.long qb), .second, .val (.int pt), .val (.int v6), .val (.int v16), .val (.ref b1), .val (.ref b29), .unset] [(.int (7 : Int32)), (.ref b1), (.int (7 : Int32)), (.ref b94), (.ref b94)])) rfl rfl (hb hby at_315) _ k) ?_
  show Go p.tables e below _ (T195.setTop (mkF m 316 #[.val (.long qb), .second, .val (.int pt), .val (.int v6), .val (.int v16), .val (.ref b1), .val (.ref b29), .unset] [(.int (dch (nibS qb (32 : Int32)))), (.int (7 : Int32)), (.ref b94), (.ref b94)]))
  obtain ⟨cl209, Ar209, q209, S209, M209, H209, G209⟩ := id F203
  have hin209 : ¬ ((7 : Int32) < 0 ∨ cl209.slots.size ≤ ((7 : Int32)).toNatClampNeg) := inb_of S209 ⟨by decide, by decide⟩
  obtain ⟨T209, h209, X209, e209, W209, st209⟩ := stC X195 hx hZ e195 Ar209 (j := (7 : Int32)) hin209 (g := (mkF m 316 #[.val (.long qb), .second, .val (.int pt), .val (.int v6), .val (.int v16), .val (.ref b1), .val (.ref b29), .unset] [(.int (dch (nibS qb (32 : Int32)))), (.int (7 : Int32)), (.ref b94), (.ref b94)])) rfl rfl (hb hby at_316)
  rw [(own_dchn (own_nib _ _))] at W209
  refine Go.st st209 ?_
  have F210 : Old Z n0 h209 := F196.wr W209 ge98
  have F211 : Sta Z h209 "com/example/tallyroot/tallyroot/overlay/NodeId" "DIGITS" "[C" (.ref dgs) := F197.wr W209
  have F212 : Arv Z h209 dgs kd .char (16 : Int32) [(.int (48 : Int32)), (.int (49 : Int32)), (.int (50 : Int32)), (.int (51 : Int32)), (.int (52 : Int32)), (.int (53 : Int32)), (.int (54 : Int32)), (.int (55 : Int32)), (.int (56 : Int32)), (.int (57 : Int32)), (.int (97 : Int32)), (.int (98 : Int32)), (.int (99 : Int32)), (.int (100 : Int32)), (.int (101 : Int32)), (.int (102 : Int32))] (.int (0 : Int32)) := F198.other W209 ne95
  have F213 : Exa Z h209 b1 "[C" := F199.wr W209
  have F214 : Exa Z h209 b29 "com/example/tallyroot/tallyroot/overlay/NodeId" := F200.wr W209
  have F215 : Fld Z h209 b29 "com/example/tallyroot/tallyroot/overlay/NodeId" "bits" "J" (.long qb) := F201.other W209 (Or.inl ne97)
  have F216 : Arv Z h209 b1 k1 .char (18 : Int32) [(.int (dch (nibS qb (60 : Int32)))), (.int (dch (nibS qb (56 : Int32)))), (.int (dch (nibS qb (52 : Int32)))), (.int (dch (nibS qb (48 : Int32)))), (.int (dch (nibS qb (44 : Int32)))), (.int (dch (nibS qb (40 : Int32)))), (.int (dch (nibS qb (36 : Int32)))), (.int (dch (nibS qb (32 : Int32)))), (.int (dch (nibS qb (28 : Int32)))), (.int (dch (nibS qb (24 : Int32)))), (.int (dch (nibS qb (20 : Int32)))), (.int (dch (nibS qb (16 : Int32)))), (.int (dch (nibS qb (12 : Int32)))), (.int (dch (nibS qb (8 : Int32)))), (.int (dch (nibS qb (4 : Int32)))), (.int (dch (nibS qb (0 : Int32)))), (.int v6), (.int v16)] (.int (0 : Int32)) := F202.other W209 ne96
  have F217 : Arv Z h209 b94 k94 .char (16 : Int32) [(.int (dch (nibS qb (60 : Int32)))), (.int (dch (nibS qb (56 : Int32)))), (.int (dch (nibS qb (52 : Int32)))), (.int (dch (nibS qb (48 : Int32)))), (.int (dch (nibS qb (44 : Int32)))), (.int (dch (nibS qb (40 : Int32)))), (.int (dch (nibS qb (36 : Int32)))), (.int (dch (nibS qb (32 : Int32)))), (.int (0 : Int32)), (.int (0 : Int32)), (.int (0 : Int32)), (.int (0 : Int32)), (.int (0 : Int32)), (.int (0 : Int32)), (.int (0 : Int32)), (.int (0 : Int32))] (.int (0 : Int32)) := Arv.set Ar209 q209 S209 M209 H209 G209 (by have h_ := fits_nar_char (dch (nibS qb (32 : Int32))); rw [show nar .char (dch (nibS qb (32 : Int32))) = (dch (nibS qb (32 : Int32))) from (own_dchn (own_nib _ _))] at h_; exact h_) W209 7 rfl (Nat.le_of_ble_eq_true rfl)
  have F218 : Exa Z h209 b94 "[C" := F204.wr W209
  have K219 : Keep h0 h209 [] := K205.wr W209 (Or.inr sz99)
  have Z220 : n0 ≤ h209.size := Nat.le_trans Z206 (Nat.le_of_eq W209.size.symm)
  have N221 := Fr.snoc X209 N207 ge98
  show Go p.tables e below _ (T209.setTop (mkF m 317 #[.val (.long qb), .second, .val (.int pt), .val (.int v6), .val (.int v16), .val (.ref b1), .val (.ref b29), .unset] [(.ref b94)]))
  refine Go.st (fun _ k => XS.dup X209.here hx rfl (hb hby at_317) rfl rfl k) ?_
  show Go p.tables e below _ (T209.setTop (mkF m 318 #[.val (.long qb), .second, .val (.int pt), .val (.int v6), .val (.int v16), .val (.ref b1), .val (.ref b29), .unset] [(.ref b94), (.ref b94)]))
  refine Go.st (fun _ k => XS.bipush X209.here hx rfl (hb hby at_318) k) ?_
  show Go p.tables e below _ (T209.setTop (mkF m 320 #[.val (.long qb), .second, .val (.int pt), .val (.int v6), .val (.int v16), .val (.ref b1), .val (.ref b29), .unset] [(.int (8 : Int32)), (.ref b94), (.ref b94)]))
  refine Go.st (fun _ k => XS.aload X209.here hx rfl (hb hby at_320) rfl rfl k) ?_
  show Go p.tables e below _ (T209.setTop (mkF m 322 #[.val (.long qb), .second, .val (.int pt), .val (.int v6), .val (.int v16), .val (.ref b1), .val (.ref b29), .unset] [(.ref b1), (.int (8 : Int32)), (.ref b94), (.ref b94)]))
  refine Go.st (fun _ k => XS.bipush X209.here hx rfl (hb hby at_322) k) ?_
  show Go p.tables e below _ (T209.setTop (mkF m 324 #[.val (.long qb), .second, .val (.int pt), .val (.int v6), .val (.int v16), .val (.ref b1), .val (.ref b29), .unset] [(.int (8 : Int32)), (.ref b1), (.int (8 : Int32)), (.ref b94), (.ref b94)]))
  obtain ⟨cl222, Ar222, q222, S222, M222, H222, G222⟩ := id F216
  have hin222 : ¬ ((8 : Int32) < 0 ∨ cl222.slots.size ≤ ((8 : Int32)).toNatClampNeg) := inb_of S222 ⟨by decide, by decide⟩
  have hat222 : cl222.slots[((8 : Int32)).toNatClampNeg]? = some (.int (dch (nibS qb (28 : Int32)))) := Has.at H222 hin222 (rfl)
  refine Go.st (fun _ k => X209.caload hx (j := (8 : Int32)) (v := (.int (dch (nibS qb (28 : Int32))))) (by rw [e209]; exact Ar222.1) (State.isArrayOf_alike hZ.alike Ar222.2.1) Ar222.2.2 hin222 hat222 (g := (mkF m 324 #[.val (.long qb), .second, .val (.int pt), .val (.int v6), .val (.int v16), .val (.ref b1), .val (.ref b29), .unset] [(.int (8 : Int32)), (.ref b1), (.int (8 : Int32)), (.ref b94), (.ref b94)])) rfl rfl (hb hby at_324) _ k) ?_
  show Go p.tables e below _ (T209.setTop (mkF m 325 #[.val (.long qb), .second, .val (.int pt), .val (.int v6), .val (.int v16), .val (.ref b1), .val (.ref b29), .unset] [(.int (dch (nibS qb (28 : Int32)))), (.int (8 : Int32)), (.ref b94), (.ref b94)]))
  obtain ⟨cl223, Ar223, q223, S223, M223, H223, G223⟩ := id F217
  have hin223 : ¬ ((8 : Int32) < 0 ∨ cl223.slots.size ≤ ((8 : Int32)).toNatClampNeg) := inb_of S223 ⟨by decide, by decide⟩
  obtain ⟨T223, h223, X223, e223, W223, st223⟩ := stC X209 hx hZ e209 Ar223 (j := (8 : Int32)) hin223 (g := (mkF m 325 #[.val (.long qb), .second, .val (.int pt), .val (.int v6), .val (.int v16), .val (.ref b1), .val (.ref b29), .unset] [(.int (dch (nibS qb (28 : Int32)))), (.int (8 : Int32)), (.ref b94), (.ref b94)])) rfl rfl (hb hby at_325)
  rw [(own_dchn (own_nib _ _))] at W223
  refine Go.st st223 ?_
  have F224 : Old Z n0 h223 := F210.wr W223 ge98
  have F225 : Sta Z h223 "com/example/tallyroot/tallyroot/overlay/NodeId" "DIGITS" "[C" (.ref dgs) := F211.wr W223
  have F226 : Arv Z h223 dgs kd .char (16 : Int32) [(.int (48 : Int32)), (.int (49 : Int32)), (.int (50 : Int32)), (.int (51 : Int32)), (.int (52 : Int32)), (.int (53 : Int32)), (.int (54 : Int32)), (.int (55 : Int32)), (.int (56 : Int32)), (.int (57 : Int32)), (.int (97 : Int32)), (.int (98 : Int32)), (.int (99 : Int32)), (.int (100 : Int32)), (.int (101 : Int32)), (.int (102 : Int32))] (.int (0 : Int32)) := F212.other W223 ne95
  have F227 : Exa Z h223 b1 "[C" := F213.wr W223
  have F228 : Exa Z h223 b29 "com/example/tallyroot/tallyroot/overlay/NodeId" := F214.wr W223
  have F229 : Fld Z h223 b29 "com/example/tallyroot/tallyroot/overlay/NodeId" "bits" "J" (.long qb) := F215.other W223 (Or.inl ne97)
  have F230 : Arv Z h223 b1 k1 .char (18 : Int32) [(.int (dch (nibS qb (60 : Int32)))), (.int (dch (nibS qb (56 : Int32)))), (.int (dch (nibS qb (52 : Int32)))), (.int (dch (nibS qb (48 : Int32)))), (.int (dch (nibS qb (44 : Int32)))), (.int (dch (nibS qb (40 : Int32)))), (.int (dch (nibS qb (36 : Int32)))), (.int (dch (nibS qb (32 : Int32)))), (.int (dch (nibS qb (28 : Int32)))), (.int (dch (nibS qb (24 : Int32)))), (.int (dch (nibS qb (20 : Int32)))), (.int (dch (nibS qb (16 : Int32)))), (.int (dch (nibS qb (12 : Int32)))), (.int (dch (nibS qb (8 : Int32)))), (.int (dch (nibS qb (4 : Int32)))), (.int (dch (nibS qb (0 : Int32)))), (.int v6), (.int v16)] (.int (0 : Int32)) := F216.other W223 ne96
  have F231 : Arv Z h223 b94 k94 .char (16 : Int32) [(.int (dch (nibS qb (60 : Int32)))), (.int (dch (nibS qb (56 : Int32)))), (.int (dch (nibS qb (52 : Int32)))), (.int (dch (nibS qb (48 : Int32)))), (.int (dch (nibS qb (44 : Int32)))), (.int (dch (nibS qb (40 : Int32)))), (.int (dch (nibS qb (36 : Int32)))), (.int (dch (nibS qb (32 : Int32)))), (.int (dch (nibS qb (28 : Int32)))), (.int (0 : Int32)), (.int (0 : Int32)), (.int (0 : Int32)), (.int (0 : Int32)), (.int (0 : Int32)), (.int (0 : Int32)), (.int (0 : Int32))] (.int (0 : Int32)) := Arv.set Ar223 q223 S223 M223 H223 G223 (by have h_ := fits_nar_char (dch (nibS qb (28 : Int32))); rw [show nar .char (dch (nibS qb (28 : Int32))) = (dch (nibS qb (28 : Int32))) from (own_dchn (own_nib _ _))] at h_; exact h_) W223 8 rfl (Nat.le_of_ble_eq_true rfl)
  have F232 : Exa Z h223 b94 "[C" := F218.wr W223
  have K233 : Keep h0 h223 [] := K219.wr W223 (Or.inr sz99)
  have Z234 : n0 ≤ h223.size := Nat.le_trans Z220 (Nat.le_of_eq W223.size.symm)
  have N235 := Fr.snoc X223 N221 ge98
  show Go p.tables e below _ (T223.setTop (mkF m 326 #[.val (.long qb), .second, .val (.int pt), .val (.int v6), .val (.int v16), .val (.ref b1), .val (.ref b29), .unset] [(.ref b94)]))
  refine Go.st (fun _ k => XS.dup X223.here hx rfl (hb hby at_326) rfl rfl k) ?_
  show Go p.tables e below _ (T223.setTop (mkF m 327 #[.val (.long qb), .second, .val (.int pt), .val (.int v6), .val (.int v16), .val (.ref b1), .val (.ref b29), .unset] [(.ref b94), (.ref b94)]))
  refine Go.st (fun _ k => XS.bipush X223.here hx rfl (hb hby at_327) k) ?_
  show Go p.tables e below _ (T223.setTop (mkF m 329 #[.val (.long qb), .second, .val (.int pt), .val (.int v6), .val (.int v16), .val (.ref b1), .val (.ref b29), .unset] [(.int (9 : Int32)), (.ref b94), (.ref b94)]))
  refine Go.st (fun _ k => XS.aload X223.here hx rfl (hb hby at_329) rfl rfl k) ?_
  show Go p.tables e below _ (T223.setTop (mkF m 331 #[.val (.long qb), .second, .val (.int pt), .val (.int v6), .val (.int v16), .val (.ref b1), .val (.ref b29), .unset] [(.ref b1), (.int (9 : Int32)), (.ref b94), (.ref b94)]))
  refine Go.st (fun _ k => XS.bipush X223.here hx rfl (hb hby at_331) k) ?_
  show Go p.tables e below _ (T223.setTop (mkF m 333 #[.val (.long qb), .second, .val (.int pt), .val (.int v6), .val (.int v16), .val (.ref b1), .val (.ref b29), .unset] [(.int (9 : Int32)), (.ref b1), (.int (9 : Int32)), (.ref b94), (.ref b94)]))
  obtain ⟨cl236, Ar236, q236, S236, M236, H236, G236⟩ := id F230
  have hin236 : ¬ ((9 : Int32) < 0 ∨ cl236.slots.size ≤ ((9 : Int32)).toNatClampNeg) := inb_of S236 ⟨by decide, by decide⟩
  have hat236 : cl236.slots[((9 : Int32)).toNatClampNeg]? = some (.int (dch (nibS qb (24 : Int32)))) := Has.at H236 hin236 (rfl)
  refine Go.st (fun _ k => X223.caload hx (j := (9 : Int32)) (v := (.int (dch (nibS qb (24 : Int32))))) (by rw [e223]; exact Ar236.1) (State.isArrayOf_alike hZ.alike Ar236.2.1) Ar236.2.2 hin236 hat236 (g := (mkF m 333 #[.val (.long qb), .second, .val (.int pt), .val (.int v6), .val (.int v16), .val (.ref b1), .val (.ref b29), .unset] [(.int (9 : Int32)), (.ref b1), (.int (9 : Int32)), (.ref b94), (.ref b94)])) rfl rfl (hb hby at_333) _ k) ?_
  show Go p.tables e below _ (T223.setTop (mkF m 334 #[.val (.long qb), .second, .val (.int pt), .val (.int v6), .val (.int v16), .val (.ref b1), .val (.ref b29), .unset] [(.int (dch (nibS qb (24 : Int32)))), (.int (9 : Int32)), (.ref b94), (.ref b94)]))
  obtain ⟨cl237, Ar237, q237, S237, M237, H237, G237⟩ := id F231
  have hin237 : ¬ ((9 : Int32) < 0 ∨ cl237.slots.size ≤ ((9 : Int32)).toNatClampNeg) := inb_of S237 ⟨by decide, by decide⟩
  obtain ⟨T237, h237, X237, e237, W237, st237⟩ := stC X223 hx hZ e223 Ar237 (j := (9 : Int32)) hin237 (g := (mkF m 334 #[.val (.long qb), .second, .val (.int pt), .val (.int v6), .val (.int v16), .val (.ref b1), .val (.ref b29), .unset] [(.int (dch (nibS qb (24 : Int32)))), (.int (9 : Int32)), (.ref b94), (.ref b94)])) rfl rfl (hb hby at_334)
  rw [(own_dchn (own_nib _ _))] at W237
  refine Go.st st237 ?_
  have F238 : Old Z n0 h237 := F224.wr W237 ge98
  have F239 : Sta Z h237 "com/example/tallyroot/tallyroot/overlay/NodeId" "DIGITS" "[C" (.ref dgs) := F225.wr W237
  have F240 : Arv Z h237 dgs kd .char (16 : Int32) [(.int (48 : Int32)), (.int (49 : Int32)), (.int (50 : Int32)), (.int (51 : Int32)), (.int (52 : Int32)), (.int (53 : Int32)), (.int (54 : Int32)), (.int (55 : Int32)), (.int (56 : Int32)), (.int (57 : Int32)), (.int (97 : Int32)), (.int (98 : Int32)), (.int (99 : Int32)), (.int (100 : Int32)), (.int (101 : Int32)), (.int (102 : Int32))] (.int (0 : Int32)) := F226.other W237 ne95
  have F241 : Exa Z h237 b1 "[C" := F227.wr W237
  have F242 : Exa Z h237 b29 "com/example/tallyroot/tallyroot/overlay/NodeId" := F228.wr W237
  have F243 : Fld Z h237 b29 "com/example/tallyroot/tallyroot/overlay/NodeId" "bits" "J" (.long qb) := F229.other W237 (Or.inl ne97)
  have F244 : Arv Z h237 b1 k1 .char (18 : Int32) [(.int (dch (nibS qb (60 : Int32)))), (.int (dch (nibS qb (56 : Int32)))), (.int (dch (nibS qb (52 : Int32)))), (.int (dch (nibS qb (48 : Int32)))), (.int (dch (nibS qb (44 : Int32)))), (.int (dch (nibS qb (40 : Int32)))), (.int (dch (nibS qb (36 : Int32)))), (.int (dch (nibS qb (32 : Int32)))), (.int (dch (nibS qb (28 : Int32)))), (.int (dch (nibS qb (24 : Int32)))), (.int (dch (nibS qb (20 : Int32)))), (.int (dch (nibS qb (16 : Int32)))), (.int (dch (nibS qb (12 : Int32)))), (.int (dch (nibS qb (8 : Int32)))), (.int (dch (nibS qb (4 : Int32)))), (.int (dch (nibS qb (0 : Int32)))), (.int v6), (.int v16)] (.int (0 : Int32)) := F230.other W237 ne96
  have F245 : Arv Z h237 b94 k94 .char (16 : Int32) [(.int (dch (nibS qb (60 : Int32)))), (.int (dch (nibS qb (56 : Int32)))), (.int (dch (nibS qb (52 : Int32)))), (.int (dch (nibS qb (48 : Int32)))), (.int (dch (nibS qb (44 : Int32)))), (.int (dch (nibS qb (40 : Int32)))), (.int (dch (nibS qb (36 : Int32)))), (.int (dch (nibS qb (32 : Int32)))), (.int (dch (nibS qb (28 : Int32)))), (.int (dch (nibS qb (24 : Int32)))), (.int (0 : Int32)), (.int (0 : Int32)), (.int (0 : Int32)), (.int (0 : Int32)), (.int (0 : Int32)), (.int (0 : Int32))] (.int (0 : Int32)) := Arv.set Ar237 q237 S237 M237 H237 G237 (by have h_ := fits_nar_char (dch (nibS qb (24 : Int32))); rw [show nar .char (dch (nibS qb (24 : Int32))) = (dch (nibS qb (24 : Int32))) from (own_dchn (own_nib _ _))] at h_; exact h_) W237 9 rfl (Nat.le_of_ble_eq_true rfl)
  have F246 : Exa Z h237 b94 "[C" := F232.wr W237
  have K247 : Keep h0 h237 [] := K233.wr W237 (Or.inr sz99)
  have Z248 : n0 ≤ h237.size := Nat.le_trans Z234 (Nat.le_of_eq W237.size.symm)
  have N249 := Fr.snoc X237 N235 ge98
  show Go p.tables e below _ (T237.setTop (mkF m 335 #[.val (.long qb), .second, .val (.int pt), .val (.int v6), .val (.int v16), .val (.ref b1), .val (.ref b29), .unset] [(.ref b94)]))
  refine Go.st (fun _ k => XS.dup X237.here hx rfl (hb hby at_335) rfl rfl k) ?_
  show Go p.tables e below _ (T237.setTop (mkF m 336 #[.val (.long qb), .second, .val (.int pt), .val (.int v6), .val (.int v16), .val (.ref b1), .val (.ref b29), .unset] [(.ref b94), (.ref b94)]))
  refine Go.st (fun _ k => XS.bipush X237.here hx rfl (hb hby at_336) k) ?_
  show Go p.tables e below _ (T237.setTop (mkF m 338 #[.val (.long qb), .second, .val (.int pt), .val (.int v6), .val (.int v16), .val (.ref b1), .val (.ref b29), .unset] [(.int (10 : Int32)), (.ref b94), (.ref b94)]))
  refine Go.st (fun _ k => XS.aload X237.here hx rfl (hb hby at_338) rfl rfl k) ?_
  show Go p.tables e below _ (T237.setTop (mkF m 340 #[.val (.long qb), .second, .val (.int pt), .val (.int v6), .val (.int v16), .val (.ref b1), .val (.ref b29), .unset] [(.ref b1), (.int (10 : Int32)), (.ref b94), (.ref b94)]))
  refine Go.st (fun _ k => XS.bipush X237.here hx rfl (hb hby at_340) k) ?_
  show Go p.tables e below _ (T237.setTop (mkF m 342 #[.val (.long qb), .second, .val (.int pt), .val (.int v6), .val (.int v16), .val (.ref b1), .val (.ref b29), .unset] [(.int (10 : Int32)), (.ref b1), (.int (10 : Int32)), (.ref b94), (.ref b94)]))
  obtain ⟨cl250, Ar250, q250, S250, M250, H250, G250⟩ := id F244
  have hin250 : ¬ ((10 : Int32) < 0 ∨ cl250.slots.size ≤ ((10 : Int32)).toNatClampNeg) := inb_of S250 ⟨by decide, by decide⟩
  have hat250 : cl250.slots[((10 : Int32)).toNatClampNeg]? = some (.int (dch (nibS qb (20 : Int32)))) := Has.at H250 hin250 (rfl)
  refine Go.st (fun _ k => X237.caload hx (j := (10 : Int32)) (v := (.int (dch (nibS qb (20 : Int32))))) (by rw [e237]; exact Ar250.1) (State.isArrayOf_alike hZ.alike Ar250.2.1) Ar250.2.2 hin250 hat250 (g := (mkF m 342 #[.val (.long qb), .second, .val (.int pt), .val (.int v6), .val (.int v16), .val (.ref b1), .val (.ref b29), .unset] [(.int (10 : Int32)), (.ref b1), (.int (10 : Int32)), (.ref b94), (.ref b94)])) rfl rfl (hb hby at_342) _ k) ?_
  show Go p.tables e below _ (T237.setTop (mkF m 343 #[.val (.long qb), .second, .val (.int pt), .val (.int v6), .val (.int v16), .val (.ref b1), .val (.ref b29), .unset] [(.int (dch (nibS qb (20 : Int32)))), (.int (10 : Int32)), (.ref b94), (.ref b94)]))
  obtain ⟨cl251, Ar251, q251, S251, M251, H251, G251⟩ := id F245
  have hin251 : ¬ ((10 : Int32) < 0 ∨ cl251.slots.size ≤ ((10 : Int32)).toNatClampNeg) := inb_of S251 ⟨by decide, by decide⟩
  obtain ⟨T251, h251, X251, e251, W251, st251⟩ := stC X237 hx hZ e237 Ar251 (j := (10 : Int32)) hin251 (g := (mkF m 343 #[.val (.long qb), .second, .val (.int pt), .val (.int v6), .val (.int v16), .val (.ref b1), .val (.ref b29), .unset] [(.int (dch (nibS qb (20 : Int32)))), (.int (10 : Int32)), (.ref b94), (.ref b94)])) rfl rfl (hb hby at_343)
  rw [(own_dchn (own_nib _ _))] at W251
  refine Go.st st251 ?_
  have F252 : Old Z n0 h251 := F238.wr W251 ge98
  have F253 : Sta Z h251 "com/example/tallyroot/tallyroot/overlay/NodeId" "DIGITS" "[C" (.ref dgs) := F239.wr W251
  have F254 : Arv Z h251 dgs kd .char (16 : Int32) [(.int (48 : Int32)), (.int (49 : Int32)), (.int (50 : Int32)), (.int (51 : Int32)), (.int (52 : Int32)), (.int (53 : Int32)), (.int (54 : Int32)), (.int (55 : Int32)), (.int (56 : Int32)), (.int (57 : Int32)), (.int (97 : Int32)), (.int (98 : Int32)), (.int (99 : Int32)), (.int (100 : Int32)), (.int (101 : Int32)), (.int (102 : Int32))] (.int (0 : Int32)) := F240.other W251 ne95
  have F255 : Exa Z h251 b1 "[C" := F241.wr W251
  have F256 : Exa Z h251 b29 "com/example/tallyroot/tallyroot/overlay/NodeId" := F242.wr W251
  have F257 : Fld Z h251 b29 "com/example/tallyroot/tallyroot/overlay/NodeId" "bits" "J" (.long qb) := F243.other W251 (Or.inl ne97)
  have F258 : Arv Z h251 b1 k1 .char (18 : Int32) [(.int (dch (nibS qb (60 : Int32)))), (.int (dch (nibS qb (56 : Int32)))), (.int (dch (nibS qb (52 : Int32)))), (.int (dch (nibS qb (48 : Int32)))), (.int (dch (nibS qb (44 : Int32)))), (.int (dch (nibS qb (40 : Int32)))), (.int (dch (nibS qb (36 : Int32)))), (.int (dch (nibS qb (32 : Int32)))), (.int (dch (nibS qb (28 : Int32)))), (.int (dch (nibS qb (24 : Int32)))), (.int (dch (nibS qb (20 : Int32)))), (.int (dch (nibS qb (16 : Int32)))), (.int (dch (nibS qb (12 : Int32)))), (.int (dch (nibS qb (8 : Int32)))), (.int (dch (nibS qb (4 : Int32)))), (.int (dch (nibS qb (0 : Int32)))), (.int v6), (.int v16)] (.int (0 : Int32)) := F244.other W251 ne96
  have F259 : Arv Z h251 b94 k94 .char (16 : Int32) [(.int (dch (nibS qb (60 : Int32)))), (.int (dch (nibS qb (56 : Int32)))), (.int (dch (nibS qb (52 : Int32)))), (.int (dch (nibS qb (48 : Int32)))), (.int (dch (nibS qb (44 : Int32)))), (.int (dch (nibS qb (40 : Int32)))), (.int (dch (nibS qb (36 : Int32)))), (.int (dch (nibS qb (32 : Int32)))), (.int (dch (nibS qb (28 : Int32)))), (.int (dch (nibS qb (24 : Int32)))), (.int (dch (nibS qb (20 : Int32)))), (.int (0 : Int32)), (.int (0 : Int32)), (.int (0 : Int32)), (.int (0 : Int32)), (.int (0 : Int32))] (.int (0 : Int32)) := Arv.set Ar251 q251 S251 M251 H251 G251 (by have h_ := fits_nar_char (dch (nibS qb (20 : Int32))); rw [show nar .char (dch (nibS qb (20 : Int32))) = (dch (nibS qb (20 : Int32))) from (own_dchn (own_nib _ _))] at h_; exact h_) W251 10 rfl (Nat.le_of_ble_eq_true rfl)
  have F260 : Exa Z h251 b94 "[C" := F246.wr W251
  have K261 : Keep h0 h251 [] := K247.wr W251 (Or.inr sz99)
  have Z262 : n0 ≤ h251.size := Nat.le_trans Z248 (Nat.le_of_eq W251.size.symm)
  have N263 := Fr.snoc X251 N249 ge98
  show Go p.tables e below _ (T251.setTop (mkF m 344 #[.val (.long qb), .second, .val (.int pt), .val (.int v6), .val (.int v16), .val (.ref b1), .val (.ref b29), .unset] [(.ref b94)]))
  refine Go.st (fun _ k => XS.dup X251.here hx rfl (hb hby at_344) rfl rfl k) ?_
  show Go p.tables e below _ (T251.setTop (mkF m 345 #[.val (.long qb), .second, .val (.int pt), .val (.int v6), .val (.int v16), .val (.ref b1), .val (.ref b29), .unset] [(.ref b94), (.ref b94)]))
  refine Go.st (fun _ k => XS.bipush X251.here hx rfl (hb hby at_345) k) ?_
  show Go p.tables e below _ (T251.setTop (mkF m 347 #[.val (.long qb), .second, .val (.int pt), .val (.int v6), .val (.int v16), .val (.ref b1), .val (.ref b29), .unset] [(.int (11 : Int32)), (.ref b94), (.ref b94)]))
  refine Go.st (fun _ k => XS.aload X251.here hx rfl (hb hby at_347) rfl rfl k) ?_
  show Go p.tables e below _ (T251.setTop (mkF m 349 #[.val (.long qb), .second, .val (.int pt), .val (.int v6), .val (.int v16), .val (.ref b1), .val (.ref b29), .unset] [(.ref b1), (.int (11 : Int32)), (.ref b94), (.ref b94)]))
  refine Go.st (fun _ k => XS.bipush X251.here hx rfl (hb hby at_349) k) ?_
  show Go p.tables e below _ (T251.setTop (mkF m 351 #[.val (.long qb), .second, .val (.int pt), .val (.int v6), .val (.int v16), .val (.ref b1), .val (.ref b29), .unset] [(.int (11 : Int32)), (.ref b1), (.int (11 : Int32)), (.ref b94), (.ref b94)]))
  obtain ⟨cl264, Ar264, q264, S264, M264, H264, G264⟩ := id F258
  have hin264 : ¬ ((11 : Int32) < 0 ∨ cl264.slots.size ≤ ((11 : Int32)).toNatClampNeg) := inb_of S264 ⟨by decide, by decide⟩
  have hat264 : cl264.slots[((11 : Int32)).toNatClampNeg]? = some (.int (dch (nibS qb (16 : Int32)))) := Has.at H264 hin264 (rfl)
  refine Go.st (fun _ k => X251.caload hx (j := (11 : Int32)) (v := (.int (dch (nibS qb (16 : Int32))))) (by rw [e251]; exact Ar264.1) (State.isArrayOf_alike hZ.alike Ar264.2.1) Ar264.2.2 hin264 hat264 (g := (mkF m 351 #[.val (.long qb), .second, .val (.int pt), .val (.int v6), .val (.int v16), .val (.ref b1), .val (.ref b29), .unset] [(.int (11 : Int32)), (.ref b1), (.int (11 : Int32)), (.ref b94), (.ref b94)])) rfl rfl (hb hby at_351) _ k) ?_
  show Go p.tables e below _ (T251.setTop (mkF m 352 #[.val (.long qb), .second, .val (.int pt), .val (.int v6), .val (.int v16), .val (.ref b1), .val (.ref b29), .unset] [(.int (dch (nibS qb (16 : Int32)))), (.int (11 : Int32)), (.ref b94), (.ref b94)]))
  obtain ⟨cl265, Ar265, q265, S265, M265, H265, G265⟩ := id F259
  have hin265 : ¬ ((11 : Int32) < 0 ∨ cl265.slots.size ≤ ((11 : Int32)).toNatClampNeg) := inb_of S265 ⟨by decide, by decide⟩
  obtain ⟨T265, h265, X265, e265, W265, st265⟩ := stC X251 hx hZ e251 Ar265 (j := (11 : Int32)) hin265 (g := (mkF m 352 #[.val (.long qb), .second, .val (.int pt), .val (.int v6), .val (.int v16), .val (.ref b1), .val (.ref b29), .unset] [(.int (dch (nibS qb (16 : Int32)))), (.int (11 : Int32)), (.ref b94), (.ref b94)])) rfl rfl (hb hby at_352)
  rw [(own_dchn (own_nib _ _))] at W265
  refine Go.st st265 ?_
  have F266 : Old Z n0 h265 := F252.wr W265 ge98
  have F267 : Sta Z h265 "com/example/tallyroot/tallyroot/overlay/NodeId" "DIGITS" "[C" (.ref dgs) := F253.wr W265
  have F268 : Arv Z h265 dgs kd .char (16 : Int32) [(.int (48 : Int32)), (.int (49 : Int32)), (.int (50 : Int32)), (.int (51 : Int32)), (.int (52 : Int32)), (.int (53 : Int32)), (.int (54 : Int32)), (.int (55 : Int32)), (.int (56 : Int32)), (.int (57 : Int32)), (.int (97 : Int32)), (.int (98 : Int32)), (.int (99 : Int32)), (.int (100 : Int32)), (.int (101 : Int32)), (.int (102 : Int32))] (.int (0 : Int32)) := F254.other W265 ne95
  have F269 : Exa Z h265 b1 "[C" := F255.wr W265
  have F270 : Exa Z h265 b29 "com/example/tallyroot/tallyroot/overlay/NodeId" := F256.wr W265
  have F271 : Fld Z h265 b29 "com/example/tallyroot/tallyroot/overlay/NodeId" "bits" "J" (.long qb) := F257.other W265 (Or.inl ne97)
  have F272 : Arv Z h265 b1 k1 .char (18 : Int32) [(.int (dch (nibS qb (60 : Int32)))), (.int (dch (nibS qb (56 : Int32)))), (.int (dch (nibS qb (52 : Int32)))), (.int (dch (nibS qb (48 : Int32)))), (.int (dch (nibS qb (44 : Int32)))), (.int (dch (nibS qb (40 : Int32)))), (.int (dch (nibS qb (36 : Int32)))), (.int (dch (nibS qb (32 : Int32)))), (.int (dch (nibS qb (28 : Int32)))), (.int (dch (nibS qb (24 : Int32)))), (.int (dch (nibS qb (20 : Int32)))), (.int (dch (nibS qb (16 : Int32)))), (.int (dch (nibS qb (12 : Int32)))), (.int (dch (nibS qb (8 : Int32)))), (.int (dch (nibS qb (4 : Int32)))), (.int (dch (nibS qb (0 : Int32)))), (.int v6), (.int v16)] (.int (0 : Int32)) := F258.other W265 ne96
  have F273 : Arv Z h265 b94 k94 .char (16 : Int32) [(.int (dch (nibS qb (60 : Int32)))), (.int (dch (nibS qb (56 : Int32)))), (.int (dch (nibS qb (52 : Int32)))), (.int (dch (nibS qb (48 : Int32)))), (.int (dch (nibS qb (44 : Int32)))), (.int (dch (nibS qb (40 : Int32)))), (.int (dch (nibS qb (36 : Int32)))), (.int (dch (nibS qb (32 : Int32)))), (.int (dch (nibS qb (28 : Int32)))), (.int (dch (nibS qb (24 : Int32)))), (.int (dch (nibS qb (20 : Int32)))), (.int (dch (nibS qb (16 : Int32)))), (.int (0 : Int32)), (.int (0 : Int32)), (.int (0 : Int32)), (.int (0 : Int32))] (.int (0 : Int32)) := Arv.set Ar265 q265 S265 M265 H265 G265 (by have h_ := fits_nar_char (dch (nibS qb (16 : Int32))); rw [show nar .char (dch (nibS qb (16 : Int32))) = (dch (nibS qb (16 : Int32))) from (own_dchn (own_nib _ _))] at h_; exact h_) W265 11 rfl (Nat.le_of_ble_eq_true rfl)
  have F274 : Exa Z h265 b94 "[C" := F260.wr W265
  have K275 : Keep h0 h265 [] := K261.wr W265 (Or.inr sz99)
  have Z276 : n0 ≤ h265.size := Nat.le_trans Z262 (Nat.le_of_eq W265.size.symm)
  have N277 := Fr.snoc X265 N263 ge98
  show Go p.tables e below _ (T265.setTop (mkF m 353 #[.val (.long qb), .second, .val (.int pt), .val (.int v6), .val (.int v16), .val (.ref b1), .val (.ref b29), .unset] [(.ref b94)]))
  refine Go.st (fun _ k => XS.dup X265.here hx rfl (hb hby at_353) rfl rfl k) ?_
  show Go p.tables e below _ (T265.setTop (mkF m 354 #[.val (.long qb), .second, .val (.int pt), .val (.int v6), .val (.int v16), .val (.ref b1), .val (.ref b29), .unset] [(.ref b94), (.ref b94)]))
  refine Go.st (fun _ k => XS.bipush X265.here hx rfl (hb hby at_354) k) ?_
  show Go p.tables e below _ (T265.setTop (mkF m 356 #[.val (.long qb), .second, .val (.int pt), .val (.int v6), .val (.int v16), .val (.ref b1), .val (.ref b29), .unset] [(.int (12 : Int32)), (.ref b94), (.ref b94)]))
  refine Go.st (fun _ k => XS.aload X265.here hx rfl (hb hby at_356) rfl rfl k) ?_
  show Go p.tables e below _ (T265.setTop (mkF m 358 #[.val (.long qb), .second, .val (.int pt), .val (.int v6), .val (.int v16), .val (.ref b1), .val (.ref b29), .unset] [(.ref b1), (.int (12 : Int32)), (.ref b94), (.ref b94)]))
  refine Go.st (fun _ k => XS.bipush X265.here hx rfl (hb hby at_358) k) ?_
  show Go p.tables e below _ (T265.setTop (mkF m 360 #[.val (.long qb), .second, .val (.int pt), .val (.int v6), .val (.int v16), .val (.ref b1), .val (.ref b29), .unset] [(.int (12 : Int32)), (.ref b1), (.int (12 : Int32)), (.ref b94), (.ref b94)]))
  obtain ⟨cl278, Ar278, q278, S278, M278, H278, G278⟩ := id F272
  have hin278 : ¬ ((12 : Int32) < 0 ∨ cl278.slots.size ≤ ((12 : Int32)).toNatClampNeg) := inb_of S278 ⟨by decide, by decide⟩
  have hat278 : cl278.slots[((12 : Int32)).toNatClampNeg]? = some (.int (dch (nibS qb (12 : Int32)))) := Has.at H278 hin278 (rfl)
  refine Go.st (fun _ k => X265.caload hx (j := (12 : Int32)) (v := (.int (dch (nibS qb (12 : Int32))))) (by rw [e265]; exact Ar278.1) (State.isArrayOf_alike hZ.alike Ar278.2.1) Ar278.2.2 hin278 hat278 (g := (mkF m 360 #[.val (.long qb), .second, .val (.int pt), .val (.int v6), .val (.int v16), .val (.ref b1), .val (.ref b29), .unset] [(.int (12 : Int32)), (.ref b1), (.int (12 : Int32)), (.ref b94), (.ref b94)])) rfl rfl (hb hby at_360) _ k) ?_
  show Go p.tables e below _ (T265.setTop (mkF m 361 #[.val (.long qb), .second, .val (.int pt), .val (.int v6), .val (.int v16), .val (.ref b1), .val (.ref b29), .unset] [(.int (dch (nibS qb (12 : Int32)))), (.int (12 : Int32)), (.ref b94), (.ref b94)]))
  obtain ⟨cl279, Ar279, q279, S279, M279, H279, G279⟩ := id F273
  have hin279 : ¬ ((12 : Int32) < 0 ∨ cl279.slots.size ≤ ((12 : Int32)).toNatClampNeg) := inb_of S279 ⟨by decide, by decide⟩
  obtain ⟨T279, h279, X279, e279, W279, st279⟩ := stC X265 hx hZ e265 Ar279 (j := (12 : Int32)) hin279 (g := (mkF m 361 #[.val (.long qb), .second, .val (.int pt), .val (.int v6), .val (.int v16), .val (.ref b1), .val (.ref b29), .unset] [(.int (dch (nibS qb (12 : Int32)))), (.int (12 : Int32)), (.ref b94), (.ref b94)])) rfl rfl (hb hby at_361)
  rw [(own_dchn (own_nib _ _))] at W279
  refine Go.st st279 ?_
  have F280 : Old Z n0 h279 := F266.wr W279 ge98
  have F281 : Sta Z h279 "com/example/tallyroot/tallyroot/overlay/NodeId" "DIGITS" "[C" (.ref dgs) := F267.wr W279
  have F282 : Arv Z h279 dgs kd .char (16 : Int32) [(.int (48 : Int32)), (.int (49 : Int32)), (.int (50 : Int32)), (.int (51 : Int32)), (.int (52 : Int32)), (.int (53 : Int32)), (.int (54 : Int32)), (.int (55 : Int32)), (.int (56 : Int32)), (.int (57 : Int32)), (.int (97 : Int32)), (.int (98 : Int32)), (.int (99 : Int32)), (.int (100 : Int32)), (.int (101 : Int32)), (.int (102 : Int32))] (.int (0 : Int32)) := F268.other W279 ne95
  have F283 : Exa Z h279 b1 "[C" := F269.wr W279
  have F284 : Exa Z h279 b29 "com/example/tallyroot/tallyroot/overlay/NodeId" := F270.wr W279
  have F285 : Fld Z h279 b29 "com/example/tallyroot/tallyroot/overlay/NodeId" "bits" "J" (.long qb) := F271.other W279 (Or.inl ne97)
  have F286 : Arv Z h279 b1 k1 .char (18 : Int32) [(.int (dch (nibS qb (60 : Int32)))), (.int (dch (nibS qb (56 : Int32)))), (.int (dch (nibS qb (52 : Int32)))), (.int (dch (nibS qb (48 : Int32)))), (.int (dch (nibS qb (44 : Int32)))), (.int (dch (nibS qb (40 : Int32)))), (.int (dch (nibS qb (36 : Int32)))), (.int (dch (nibS qb (32 : Int32)))), (.int (dch (nibS qb (28 : Int32)))), (.int (dch (nibS qb (24 : Int32)))), (.int (dch (nibS qb (20 : Int32)))), (.int (dch (nibS qb (16 : Int32)))), (.int (dch (nibS qb (12 : Int32)))), (.int (dch (nibS qb (8 : Int32)))), (.int (dch (nibS qb (4 : Int32)))), (.int (dch (nibS qb (0 : Int32)))), (.int v6), (.int v16)] (.int (0 : Int32)) := F272.other W279 ne96
  have F287 : Arv Z h279 b94 k94 .char (16 : Int32) [(.int (dch (nibS qb (60 : Int32)))), (.int (dch (nibS qb (56 : Int32)))), (.int (dch (nibS qb (52 : Int32)))), (.int (dch (nibS qb (48 : Int32)))), (.int (dch (nibS qb (44 : Int32)))), (.int (dch (nibS qb (40 : Int32)))), (.int (dch (nibS qb (36 : Int32)))), (.int (dch (nibS qb (32 : Int32)))), (.int (dch (nibS qb (28 : Int32)))), (.int (dch (nibS qb (24 : Int32)))), (.int (dch (nibS qb (20 : Int32)))), (.int (dch (nibS qb (16 : Int32)))), (.int (dch (nibS qb (12 : Int32)))), (.int (0 : Int32)), (.int (0 : Int32)), (.int (0 : Int32))] (.int (0 : Int32)) := Arv.set Ar279 q279 S279 M279 H279 G279 (by have h_ := fits_nar_char (dch (nibS qb (12 : Int32))); rw [show nar .char (dch (nibS qb (12 : Int32))) = (dch (nibS qb (12 : Int32))) from (own_dchn (own_nib _ _))] at h_; exact h_) W279 12 rfl (Nat.le_of_ble_eq_true rfl)
  have F288 : Exa Z h279 b94 "[C" := F274.wr W279
  have K289 : Keep h0 h279 [] := K275.wr W279 (Or.inr sz99)
  have Z290 : n0 ≤ h279.size := Nat.le_trans Z276 (Nat.le_of_eq W279.size.symm)
  have N291 := Fr.snoc X279 N277 ge98
  show Go p.tables e below _ (T279.setTop (mkF m 362 #[.val (.long qb), .second, .val (.int pt), .val (.int v6), .val (.int v16), .val (.ref b1), .val (.ref b29), .unset] [(.ref b94)]))
  refine Go.st (fun _ k => XS.dup X279.here hx rfl (hb hby at_362) rfl rfl k) ?_
  show Go p.tables e below _ (T279.setTop (mkF m 363 #[.val (.long qb), .second, .val (.int pt), .val (.int v6), .val (.int v16), .val (.ref b1), .val (.ref b29), .unset] [(.ref b94), (.ref b94)]))
  refine Go.st (fun _ k => XS.bipush X279.here hx rfl (hb hby at_363) k) ?_
  show Go p.tables e below _ (T279.setTop (mkF m 365 #[.val (.long qb), .second, .val (.int pt), .val (.int v6), .val (.int v16), .val (.ref b1), .val (.ref b29), .unset] [(.int (13 : Int32)), (.ref b94), (.ref b94)]))
  refine Go.st (fun _ k => XS.aload X279.here hx rfl (hb hby at_365) rfl rfl k) ?_
  show Go p.tables e below _ (T279.setTop (mkF m 367 #[.val (.long qb), .second, .val (.int pt), .val (.int v6), .val (.int v16), .val (.ref b1), .val (.ref b29), .unset] [(.ref b1), (.int (13 : Int32)), (.ref b94), (.ref b94)]))
  refine Go.st (fun _ k => XS.bipush X279.here hx rfl (hb hby at_367) k) ?_
  show Go p.tables e below _ (T279.setTop (mkF m 369 #[.val (.long qb), .second, .val (.int pt), .val (.int v6), .val (.int v16), .val (.ref b1), .val (.ref b29), .unset] [(.int (13 : Int32)), (.ref b1), (.int (13 : Int32)), (.ref b94), (.ref b94)]))
  obtain ⟨cl292, Ar292, q292, S292, M292, H292, G292⟩ := id F286
  have hin292 : ¬ ((13 : Int32) < 0 ∨ cl292.slots.size ≤ ((13 : Int32)).toNatClampNeg) := inb_of S292 ⟨by decide, by decide⟩
  have hat292 : cl292.slots[((13 : Int32)).toNatClampNeg]? = some (.int (dch (nibS qb (8 : Int32)))) := Has.at H292 hin292 (rfl)
  refine Go.st (fun _ k => X279.caload hx (j := (13 : Int32)) (v := (.int (dch (nibS qb (8 : Int32))))) (by rw [e279]; exact Ar292.1) (State.isArrayOf_alike hZ.alike Ar292.2.1) Ar292.2.2 hin292 hat292 (g := (mkF m 369 #[.val (.long qb), .second, .val (.int pt), .val (.int v6), .val (.int v16), .val (.ref b1), .val (.ref b29), .unset] [(.int (13 : Int32)), (.ref b1), (.int (13 : Int32)), (.ref b94), (.ref b94)])) rfl rfl (hb hby at_369) _ k) ?_
  show Go p.tables e below _ (T279.setTop (mkF m 370 #[.val (.long qb), .second, .val (.int pt), .val (.int v6), .val (.int v16), .val (.ref b1), .val (.ref b29), .unset] [(.int (dch (nibS qb (8 : Int32)))), (.int (13 : Int32)), (.ref b94), (.ref b94)]))
  obtain ⟨cl293, Ar293, q293, S293, M293, H293, G293⟩ := id F287
  have hin293 : ¬ ((13 : Int32) < 0 ∨ cl293.slots.size ≤ ((13 : Int32)).toNatClampNeg) := inb_of S293 ⟨by decide, by decide⟩
  obtain ⟨T293, h293, X293, e293, W293, st293⟩ := stC X279 hx hZ e279 Ar293 (j := (13 : Int32)) hin293 (g := (mkF m 370 #[.val (.long qb), .second, .val (.int pt), .val (.int v6), .val (.int v16), .val (.ref b1), .val (.ref b29), .unset] [(.int (dch (nibS qb (8 : Int32)))), (.int (13 : Int32)), (.ref b94), (.ref b94)])) rfl rfl (hb hby at_370)
  rw [(own_dchn (own_nib _ _))] at W293
  refine Go.st st293 ?_
  have F294 : Old Z n0 h293 := F280.wr W293 ge98
  have F295 : Sta Z h293 "com/example/tallyroot/tallyroot/overlay/NodeId" "DIGITS" "[C" (.ref dgs) := F281.wr W293
  have F296 : Arv Z h293 dgs kd .char (16 : Int32) [(.int (48 : Int32)), (.int (49 : Int32)), (.int (50 : Int32)), (.int (51 : Int32)), (.int (52 : Int32)), (.int (53 : Int32)), (.int (54 : Int32)), (.int (55 : Int32)), (.int (56 : Int32)), (.int (57 : Int32)), (.int (97 : Int32)), (.int (98 : Int32)), (.int (99 : Int32)), (.int (100 : Int32)), (.int (101 : Int32)), (.int (102 : Int32))] (.int (0 : Int32)) := F282.other W293 ne95
  have F297 : Exa Z h293 b1 "[C" := F283.wr W293
  have F298 : Exa Z h293 b29 "com/example/tallyroot/tallyroot/overlay/NodeId" := F284.wr W293
  have F299 : Fld Z h293 b29 "com/example/tallyroot/tallyroot/overlay/NodeId" "bits" "J" (.long qb) := F285.other W293 (Or.inl ne97)
  have F300 : Arv Z h293 b1 k1 .char (18 : Int32) [(.int (dch (nibS qb (60 : Int32)))), (.int (dch (nibS qb (56 : Int32)))), (.int (dch (nibS qb (52 : Int32)))), (.int (dch (nibS qb (48 : Int32)))), (.int (dch (nibS qb (44 : Int32)))), (.int (dch (nibS qb (40 : Int32)))), (.int (dch (nibS qb (36 : Int32)))), (.int (dch (nibS qb (32 : Int32)))), (.int (dch (nibS qb (28 : Int32)))), (.int (dch (nibS qb (24 : Int32)))), (.int (dch (nibS qb (20 : Int32)))), (.int (dch (nibS qb (16 : Int32)))), (.int (dch (nibS qb (12 : Int32)))), (.int (dch (nibS qb (8 : Int32)))), (.int (dch (nibS qb (4 : Int32)))), (.int (dch (nibS qb (0 : Int32)))), (.int v6), (.int v16)] (.int (0 : Int32)) := F286.other W293 ne96
  have F301 : Arv Z h293 b94 k94 .char (16 : Int32) [(.int (dch (nibS qb (60 : Int32)))), (.int (dch (nibS qb (56 : Int32)))), (.int (dch (nibS qb (52 : Int32)))), (.int (dch (nibS qb (48 : Int32)))), (.int (dch (nibS qb (44 : Int32)))), (.int (dch (nibS qb (40 : Int32)))), (.int (dch (nibS qb (36 : Int32)))), (.int (dch (nibS qb (32 : Int32)))), (.int (dch (nibS qb (28 : Int32)))), (.int (dch (nibS qb (24 : Int32)))), (.int (dch (nibS qb (20 : Int32)))), (.int (dch (nibS qb (16 : Int32)))), (.int (dch (nibS qb (12 : Int32)))), (.int (dch (nibS qb (8 : Int32)))), (.int (0 : Int32)), (.int (0 : Int32))] (.int (0 : Int32)) := Arv.set Ar293 q293 S293 M293 H293 G293 (by have h_ := fits_nar_char (dch (nibS qb (8 : Int32))); rw [show nar .char (dch (nibS qb (8 : Int32))) = (dch (nibS qb (8 : Int32))) from (own_dchn (own_nib _ _))] at h_; exact h_) W293 13 rfl (Nat.le_of_ble_eq_true rfl)
  have F302 : Exa Z h293 b94 "[C" := F288.wr W293
  have K303 : Keep h0 h293 [] := K289.wr W293 (Or.inr sz99)
  have Z304 : n0 ≤ h293.size := Nat.le_trans Z290 (Nat.le_of_eq W293.size.symm)
  have N305 := Fr.snoc X293 N291 ge98
  show Go p.tables e below _ (T293.setTop (mkF m 371 #[.val (.long qb), .second, .val (.int pt), .val (.int v6), .val (.int v16), .val (.ref b1), .val (.ref b29), .unset] [(.ref b94)]))
  refine Go.st (fun _ k => XS.dup X293.here hx rfl (hb hby at_371) rfl rfl k) ?_
  show Go p.tables e below _ (T293.setTop (mkF m 372 #[.val (.long qb), .second, .val (.int pt), .val (.int v6), .val (.int v16), .val (.ref b1), .val (.ref b29), .unset] [(.ref b94), (.ref b94)]))
  refine Go.st (fun _ k => XS.bipush X293.here hx rfl (hb hby at_372) k) ?_
  show Go p.tables e below _ (T293.setTop (mkF m 374 #[.val (.long qb), .second, .val (.int pt), .val (.int v6), .val (.int v16), .val (.ref b1), .val (.ref b29), .unset] [(.int (14 : Int32)), (.ref b94), (.ref b94)]))
  refine Go.st (fun _ k => XS.aload X293.here hx rfl (hb hby at_374) rfl rfl k) ?_
  show Go p.tables e below _ (T293.setTop (mkF m 376 #[.val (.long qb), .second, .val (.int pt), .val (.int v6), .val (.int v16), .val (.ref b1), .val (.ref b29), .unset] [(.ref b1), (.int (14 : Int32)), (.ref b94), (.ref b94)]))
  refine Go.st (fun _ k => XS.bipush X293.here hx rfl (hb hby at_376) k) ?_
  show Go p.tables e below _ (T293.setTop (mkF m 378 #[.val (.long qb), .second, .val (.int pt), .val (.int v6), .val (.int v16), .val (.ref b1), .val (.ref b29), .unset] [(.int (14 : Int32)), (.ref b1), (.int (14 : Int32)), (.ref b94), (.ref b94)]))
  obtain ⟨cl306, Ar306, q306, S306, M306, H306, G306⟩ := id F300
  have hin306 : ¬ ((14 : Int32) < 0 ∨ cl306.slots.size ≤ ((14 : Int32)).toNatClampNeg) := inb_of S306 ⟨by decide, by decide⟩
  have hat306 : cl306.slots[((14 : Int32)).toNatClampNeg]? = some (.int (dch (nibS qb (4 : Int32)))) := Has.at H306 hin306 (rfl)
  refine Go.st (fun _ k => X293.caload hx (j := (14 : Int32)) (v := (.int (dch (nibS qb (4 : Int32))))) (by rw [e293]; exact Ar306.1) (State.isArrayOf_alike hZ.alike Ar306.2.1) Ar306.2.2 hin306 hat306 (g := (mkF m 378 #[.val (.long qb), .second, .val (.int pt), .val (.int v6), .val (.int v16), .val (.ref b1), .val (.ref b29), .unset] [(.int (14 : Int32)), (.ref b1), (.int (14 : Int32)), (.ref b94), (.ref b94)])) rfl rfl (hb hby at_378) _ k) ?_
  show Go p.tables e below _ (T293.setTop (mkF m 379 #[.val (.long qb), .second, .val (.int pt), .val (.int v6), .val (.int v16), .val (.ref b1), .val (.ref b29), .unset] [(.int (dch (nibS qb (4 : Int32)))), (.int (14 : Int32)), (.ref b94), (.ref b94)]))
  obtain ⟨cl307, Ar307, q307, S307, M307, H307, G307⟩ := id F301
  have hin307 : ¬ ((14 : Int32) < 0 ∨ cl307.slots.size ≤ ((14 : Int32)).toNatClampNeg) := inb_of S307 ⟨by decide, by decide⟩
  obtain ⟨T307, h307, X307, e307, W307, st307⟩ := stC X293 hx hZ e293 Ar307 (j := (14 : Int32)) hin307 (g := (mkF m 379 #[.val (.long qb), .second, .val (.int pt), .val (.int v6), .val (.int v16), .val (.ref b1), .val (.ref b29), .unset] [(.int (dch (nibS qb (4 : Int32)))), (.int (14 : Int32)), (.ref b94), (.ref b94)])) rfl rfl (hb hby at_379)
  rw [(own_dchn (own_nib _ _))] at W307
  refine Go.st st307 ?_
  have F308 : Old Z n0 h307 := F294.wr W307 ge98
  have F309 : Sta Z h307 "com/example/tallyroot/tallyroot/overlay/NodeId" "DIGITS" "[C" (.ref dgs) := F295.wr W307
  have F310 : Arv Z h307 dgs kd .char (16 : Int32) [(.int (48 : Int32)), (.int (49 : Int32)), (.int (50 : Int32)), (.int (51 : Int32)), (.int (52 : Int32)), (.int (53 : Int32)), (.int (54 : Int32)), (.int (55 : Int32)), (.int (56 : Int32)), (.int (57 : Int32)), (.int (97 : Int32)), (.int (98 : Int32)), (.int (99 : Int32)), (.int (100 : Int32)), (.int (101 : Int32)), (.int (102 : Int32))] (.int (0 : Int32)) := F296.other W307 ne95
  have F311 : Exa Z h307 b1 "[C" := F297.wr W307
  have F312 : Exa Z h307 b29 "com/example/tallyroot/tallyroot/overlay/NodeId" := F298.wr W307
  have F313 : Fld Z h307 b29 "com/example/tallyroot/tallyroot/overlay/NodeId" "bits" "J" (.long qb) := F299.other W307 (Or.inl ne97)
  have F314 : Arv Z h307 b1 k1 .char (18 : Int32) [(.int (dch (nibS qb (60 : Int32)))), (.int (dch (nibS qb (56 : Int32)))), (.int (dch (nibS qb (52 : Int32)))), (.int (dch (nibS qb (48 : Int32)))), (.int (dch (nibS qb (44 : Int32)))), (.int (dch (nibS qb (40 : Int32)))), (.int (dch (nibS qb (36 : Int32)))), (.int (dch (nibS qb (32 : Int32)))), (.int (dch (nibS qb (28 : Int32)))), (.int (dch (nibS qb (24 : Int32)))), (.int (dch (nibS qb (20 : Int32)))), (.int (dch (nibS qb (16 : Int32)))), (.int (dch (nibS qb (12 : Int32)))), (.int (dch (nibS qb (8 : Int32)))), (.int (dch (nibS qb (4 : Int32)))), (.int (dch (nibS qb (0 : Int32)))), (.int v6), (.int v16)] (.int (0 : Int32)) := F300.other W307 ne96
  have F315 : Arv Z h307 b94 k94 .char (16 : Int32) [(.int (dch (nibS qb (60 : Int32)))), (.int (dch (nibS qb (56 : Int32)))), (.int (dch (nibS qb (52 : Int32)))), (.int (dch (nibS qb (48 : Int32)))), (.int (dch (nibS qb (44 : Int32)))), (.int (dch (nibS qb (40 : Int32)))), (.int (dch (nibS qb (36 : Int32)))), (.int (dch (nibS qb (32 : Int32)))), (.int (dch (nibS qb (28 : Int32)))), (.int (dch (nibS qb (24 : Int32)))), (.int (dch (nibS qb (20 : Int32)))), (.int (dch (nibS qb (16 : Int32)))), (.int (dch (nibS qb (12 : Int32)))), (.int (dch (nibS qb (8 : Int32)))), (.int (dch (nibS qb (4 : Int32)))), (.int (0 : Int32))] (.int (0 : Int32)) := Arv.set Ar307 q307 S307 M307 H307 G307 (by have h_ := fits_nar_char (dch (nibS qb (4 : Int32))); rw [show nar .char (dch (nibS qb (4 : Int32))) = (dch (nibS qb (4 : Int32))) from (own_dchn (own_nib _ _))] at h_; exact h_) W307 14 rfl (Nat.le_of_ble_eq_true rfl)
  have F316 : Exa Z h307 b94 "[C" := F302.wr W307
  have K317 : Keep h0 h307 [] := K303.wr W307 (Or.inr sz99)
  have Z318 : n0 ≤ h307.size := Nat.le_trans Z304 (Nat.le_of_eq W307.size.symm)
  have N319 := Fr.snoc X307 N305 ge98
  show Go p.tables e below _ (T307.setTop (mkF m 380 #[.val (.long qb), .second, .val (.int pt), .val (.int v6), .val (.int v16), .val (.ref b1), .val (.ref b29), .unset] [(.ref b94)]))
  refine Go.st (fun _ k => XS.dup X307.here hx rfl (hb hby at_380) rfl rfl k) ?_
  show Go p.tables e below _ (T307.setTop (mkF m 381 #[.val (.long qb), .second, .val (.int pt), .val (.int v6), .val (.int v16), .val (.ref b1), .val (.ref b29), .unset] [(.ref b94), (.ref b94)]))
  refine Go.st (fun _ k => XS.bipush X307.here hx rfl (hb hby at_381) k) ?_
  show Go p.tables e below _ (T307.setTop (mkF m 383 #[.val (.long qb), .second, .val (.int pt), .val (.int v6), .val (.int v16), .val (.ref b1), .val (.ref b29), .unset] [(.int (15 : Int32)), (.ref b94), (.ref b94)]))
  refine Go.st (fun _ k => XS.aload X307.here hx rfl (hb hby at_383) rfl rfl k) ?_
  show Go p.tables e below _ (T307.setTop (mkF m 385 #[.val (.long qb), .second, .val (.int pt), .val (.int v6), .val (.int v16), .val (.ref b1), .val (.ref b29), .unset] [(.ref b1), (.int (15 : Int32)), (.ref b94), (.ref b94)]))
  refine Go.st (fun _ k => XS.bipush X307.here hx rfl (hb hby at_385) k) ?_
  show Go p.tables e below _ (T307.setTop (mkF m 387 #[.val (.long qb), .second, .val (.int pt), .val (.int v6), .val (.int v16), .val (.ref b1), .val (.ref b29), .unset] [(.int (15 : Int32)), (.ref b1), (.int (15 : Int32)), (.ref b94), (.ref b94)]))
  obtain ⟨cl320, Ar320, q320, S320, M320, H320, G320⟩ := id F314
  have hin320 : ¬ ((15 : Int32) < 0 ∨ cl320.slots.size ≤ ((15 : Int32)).toNatClampNeg) := inb_of S320 ⟨by decide, by decide⟩
  have hat320 : cl320.slots[((15 : Int32)).toNatClampNeg]? = some (.int (dch (nibS qb (0 : Int32)))) := Has.at H320 hin320 (rfl)
  refine Go.st (fun _ k => X307.caload hx (j := (15 : Int32)) (v := (.int (dch (nibS qb (0 : Int32))))) (by rw [e307]; exact Ar320.1) (State.isArrayOf_alike hZ.alike Ar320.2.1) Ar320.2.2 hin320 hat320 (g := (mkF m 387 #[.val (.long qb), .second, .val (.int pt), .val (.int v6), .val (.int v16), .val (.ref b1), .val (.ref b29), .unset] [(.int (15 : Int32)), (.ref b1), (.int (15 : Int32)), (.ref b94), (.ref b94)])) rfl rfl (hb hby at_387) _ k) ?_
  show Go p.tables e below _ (T307.setTop (mkF m 388 #[.val (.long qb), .second, .val (.int pt), .val (.int v6), .val (.int v16), .val (.ref b1), .val (.ref b29), .unset] [(.int (dch (nibS qb (0 : Int32)))), (.int (15 : Int32)), (.ref b94), (.ref b94)]))
  obtain ⟨cl321, Ar321, q321, S321, M321, H321, G321⟩ := id F315
  have hin321 : ¬ ((15 : Int32) < 0 ∨ cl321.slots.size ≤ ((15 : Int32)).toNatClampNeg) := inb_of S321 ⟨by decide, by decide⟩
  obtain ⟨T321, h321, X321, e321, W321, st321⟩ := stC X307 hx hZ e307 Ar321 (j := (15 : Int32)) hin321 (g := (mkF m 388 #[.val (.long qb), .second, .val (.int pt), .val (.int v6), .val (.int v16), .val (.ref b1), .val (.ref b29), .unset] [(.int (dch (nibS qb (0 : Int32)))), (.int (15 : Int32)), (.ref b94), (.ref b94)])) rfl rfl (hb hby at_388)
  rw [(own_dchn (own_nib _ _))] at W321
  refine Go.st st321 ?_
  have F322 : Old Z n0 h321 := F308.wr W321 ge98
  have F323 : Sta Z h321 "com/example/tallyroot/tallyroot/overlay/NodeId" "DIGITS" "[C" (.ref dgs) := F309.wr W321
  have F324 : Arv Z h321 dgs kd .char (16 : Int32) [(.int (48 : Int32)), (.int (49 : Int32)), (.int (50 : Int32)), (.int (51 : Int32)), (.int (52 : Int32)), (.int (53 : Int32)), (.int (54 : Int32)), (.int (55 : Int32)), (.int (56 : Int32)), (.int (57 : Int32)), (.int (97 : Int32)), (.int (98 : Int32)), (.int (99 : Int32)), (.int (100 : Int32)), (.int (101 : Int32)), (.int (102 : Int32))] (.int (0 : Int32)) := F310.other W321 ne95
  have F325 : Exa Z h321 b1 "[C" := F311.wr W321
  have F326 : Exa Z h321 b29 "com/example/tallyroot/tallyroot/overlay/NodeId" := F312.wr W321
  have F327 : Fld Z h321 b29 "com/example/tallyroot/tallyroot/overlay/NodeId" "bits" "J" (.long qb) := F313.other W321 (Or.inl ne97)
  have F328 : Arv Z h321 b1 k1 .char (18 : Int32) [(.int (dch (nibS qb (60 : Int32)))), (.int (dch (nibS qb (56 : Int32)))), (.int (dch (nibS qb (52 : Int32)))), (.int (dch (nibS qb (48 : Int32)))), (.int (dch (nibS qb (44 : Int32)))), (.int (dch (nibS qb (40 : Int32)))), (.int (dch (nibS qb (36 : Int32)))), (.int (dch (nibS qb (32 : Int32)))), (.int (dch (nibS qb (28 : Int32)))), (.int (dch (nibS qb (24 : Int32)))), (.int (dch (nibS qb (20 : Int32)))), (.int (dch (nibS qb (16 : Int32)))), (.int (dch (nibS qb (12 : Int32)))), (.int (dch (nibS qb (8 : Int32)))), (.int (dch (nibS qb (4 : Int32)))), (.int (dch (nibS qb (0 : Int32)))), (.int v6), (.int v16)] (.int (0 : Int32)) := F314.other W321 ne96
  have F329 : Arv Z h321 b94 k94 .char (16 : Int32) [(.int (dch (nibS qb (60 : Int32)))), (.int (dch (nibS qb (56 : Int32)))), (.int (dch (nibS qb (52 : Int32)))), (.int (dch (nibS qb (48 : Int32)))), (.int (dch (nibS qb (44 : Int32)))), (.int (dch (nibS qb (40 : Int32)))), (.int (dch (nibS qb (36 : Int32)))), (.int (dch (nibS qb (32 : Int32)))), (.int (dch (nibS qb (28 : Int32)))), (.int (dch (nibS qb (24 : Int32)))), (.int (dch (nibS qb (20 : Int32)))), (.int (dch (nibS qb (16 : Int32)))), (.int (dch (nibS qb (12 : Int32)))), (.int (dch (nibS qb (8 : Int32)))), (.int (dch (nibS qb (4 : Int32)))), (.int (dch (nibS qb (0 : Int32))))] (.int (0 : Int32)) := Arv.set Ar321 q321 S321 M321 H321 G321 (by have h_ := fits_nar_char (dch (nibS qb (0 : Int32))); rw [show nar .char (dch (nibS qb (0 : Int32))) = (dch (nibS qb (0 : Int32))) from (own_dchn (own_nib _ _))] at h_; exact h_) W321 15 rfl (Nat.le_of_ble_eq_true rfl)
  have F330 : Exa Z h321 b94 "[C" := F316.wr W321
  have K331 : Keep h0 h321 [] := K317.wr W321 (Or.inr sz99)
  have Z332 : n0 ≤ h321.size := Nat.le_trans Z318 (Nat.le_of_eq W321.size.symm)
  have N333 := Fr.snoc X321 N319 ge98
  show Go p.tables e below _ (T321.setTop (mkF m 389 #[.val (.long qb), .second, .val (.int pt), .val (.int v6), .val (.int v16), .val (.ref b1), .val (.ref b29), .unset] [(.ref b94)]))
  refine Go.st (fun _ k => XS.astore X321.here hx rfl (hb hby at_389) rfl rfl (l' := #[.val (.long qb), .second, .val (.int pt), .val (.int v6), .val (.int v16), .val (.ref b1), .val (.ref b29), .val (.ref b94)]) rfl k) ?_
  show Go p.tables e below _ (T321.setTop (mkF m 391 #[.val (.long qb), .second, .val (.int pt), .val (.int v6), .val (.int v16), .val (.ref b1), .val (.ref b29), .val (.ref b94)] []))
  show Go p.tables e below _ (T321.setTop (mkF m 391 #[.val (.long qb), .second, .val (.int pt), .val (.int v6), .val (.int v16), .val (.ref b1), .val (.ref b29), .val (.ref b94)] []))
  obtain ⟨T334, h334, X334, e334, E334, A334, D334, -, st334⟩ := newO X321 hx hZ hown (hw _ (List.mem_of_getElem? (i := 28) rfl)) (hw _ (List.mem_of_getElem? (i := 29) rfl)) (hw _ (List.mem_of_getElem? (i := 30) rfl)) e321 (g := (mkF m 391 #[.val (.long qb), .second, .val (.int pt), .val (.int v6), .val (.int v16), .val (.ref b1), .val (.ref b29), .val (.ref b94)] [])) rfl (hb hby at_391) (by decide) (by decide)
  obtain ⟨b334, g334⟩ : ∃ z, z = h321.size := ⟨_, rfl⟩
  rw [← g334] at A334 D334 st334
  refine Go.st st334 ?_
  have ne335 : dgs ≠ b334 := Nat.ne_of_lt (Nat.lt_of_lt_of_le F324.lt (Nat.le_of_eq g334.symm))
  have ne336 : b1 ≠ b334 := Nat.ne_of_lt (Nat.lt_of_lt_of_le F325.lt (Nat.le_of_eq g334.symm))
  have ne337 : b29 ≠ b334 := Nat.ne_of_lt (Nat.lt_of_lt_of_le F326.lt (Nat.le_of_eq g334.symm))
  have ne338 : b94 ≠ b334 := Nat.ne_of_lt (Nat.lt_of_lt_of_le F329.lt (Nat.le_of_eq g334.symm))
  have ge339 : n0 ≤ b334 := Nat.le_trans Z332 (Nat.le_of_eq g334.symm)
  have sz340 : h0.size ≤ b334 := Nat.le_trans K331.1 (Nat.le_of_eq g334.symm)
  have Z341 : n0 ≤ h334.size := Nat.le_trans Z332 E334.1
  have K342 : Keep h0 h334 [] := K331.ext E334
  have F343 : Old Z n0 h334 := F322.ext E334
  have F344 : Sta Z h334 "com/example/tallyroot/tallyroot/overlay/NodeId" "DIGITS" "[C" (.ref dgs) := F323.ext E334
  have F345 : Arv Z h334 dgs kd .char (16 : Int32) [(.int (48 : Int32)), (.int (49 : Int32)), (.int (50 : Int32)), (.int (51 : Int32)), (.int (52 : Int32)), (.int (53 : Int32)), (.int (54 : Int32)), (.int (55 : Int32)), (.int (56 : Int32)), (.int (57 : Int32)), (.int (97 : Int32)), (.int (98 : Int32)), (.int (99 : Int32)), (.int (100 : Int32)), (.int (101 : Int32)), (.int (102 : Int32))] (.int (0 : Int32)) := F324.ext E334
  have F346 : Exa Z h334 b1 "[C" := F325.ext E334
  have F347 : Exa Z h334 b29 "com/example/tallyroot/tallyroot/overlay/NodeId" := F326.ext E334
  have F348 : Fld Z h334 b29 "com/example/tallyroot/tallyroot/overlay/NodeId" "bits" "J" (.long qb) := F327.ext E334
  have F349 : Arv Z h334 b1 k1 .char (18 : Int32) [(.int (dch (nibS qb (60 : Int32)))), (.int (dch (nibS qb (56 : Int32)))), (.int (dch (nibS qb (52 : Int32)))), (.int (dch (nibS qb (48 : Int32)))), (.int (dch (nibS qb (44 : Int32)))), (.int (dch (nibS qb (40 : Int32)))), (.int (dch (nibS qb (36 : Int32)))), (.int (dch (nibS qb (32 : Int32)))), (.int (dch (nibS qb (28 : Int32)))), (.int (dch (nibS qb (24 : Int32)))), (.int (dch (nibS qb (20 : Int32)))), (.int (dch (nibS qb (16 : Int32)))), (.int (dch (nibS qb (12 : Int32)))), (.int (dch (nibS qb (8 : Int32)))), (.int (dch (nibS qb (4 : Int32)))), (.int (dch (nibS qb (0 : Int32)))), (.int v6), (.int v16)] (.int (0 : Int32)) := F328.ext E334
  have F350 : Arv Z h334 b94 k94 .char (16 : Int32) [(.int (dch (nibS qb (60 : Int32)))), (.int (dch (nibS qb (56 : Int32)))), (.int (dch (nibS qb (52 : Int32)))), (.int (dch (nibS qb (48 : Int32)))), (.int (dch (nibS qb (44 : Int32)))), (.int (dch (nibS qb (40 : Int32)))), (.int (dch (nibS qb (36 : Int32)))), (.int (dch (nibS qb (32 : Int32)))), (.int (dch (nibS qb (28 : Int32)))), (.int (dch (nibS qb (24 : Int32)))), (.int (dch (nibS qb (20 : Int32)))), (.int (dch (nibS qb (16 : Int32)))), (.int (dch (nibS qb (12 : Int32)))), (.int (dch (nibS qb (8 : Int32)))), (.int (dch (nibS qb (4 : Int32)))), (.int (dch (nibS qb (0 : Int32))))] (.int (0 : Int32)) := F329.ext E334
  have F351 : Exa Z h334 b94 "[C" := F330.ext E334
  have F352 : Fld Z h334 b334 "java/lang/String" "coder" "B" (.int (0 : Int32)) := D334 (Or.inr (hw _ (List.mem_of_getElem? (i := 52) rfl))) (ty := .byte) (by decide)
  have F353 : Fld Z h334 b334 "java/lang/String" "value" "[B" .null := D334 (Or.inr (hw _ (List.mem_of_getElem? (i := 54) rfl))) (ty := (.array .byte)) (by decide)
  show Go p.tables e below _ (T334.setTop (mkF m 394 #[.val (.long qb), .second, .val (.int pt), .val (.int v6), .val (.int v16), .val (.ref b1), .val (.ref b29), .val (.ref b94)] [(.ref b334)]))
  refine Go.st (fun _ k => XS.dup X334.here hx rfl (hb hby at_394) rfl rfl k) ?_
  show Go p.tables e below _ (T334.setTop (mkF m 395 #[.val (.long qb), .second, .val (.int pt), .val (.int v6), .val (.int v16), .val (.ref b1), .val (.ref b29), .val (.ref b94)] [(.ref b334), (.ref b334)]))
  refine Go.st (fun _ k => XS.aload X334.here hx rfl (hb hby at_395) rfl rfl k) ?_
  show Go p.tables e below _ (T334.setTop (mkF m 397 #[.val (.long qb), .second, .val (.int pt), .val (.int v6), .val (.int v16), .val (.ref b1), .val (.ref b29), .val (.ref b94)] [(.ref b94), (.ref b334), (.ref b334)]))
  have hp354 : ∀ c ∈ ([(dch (nibS qb (60 : Int32))), (dch (nibS qb (56 : Int32))), (dch (nibS qb (52 : Int32))), (dch (nibS qb (48 : Int32))), (dch (nibS qb (44 : Int32))), (dch (nibS qb (40 : Int32))), (dch (nibS qb (36 : Int32))), (dch (nibS qb (32 : Int32))), (dch (nibS qb (28 : Int32))), (dch (nibS qb (24 : Int32))), (dch (nibS qb (20 : Int32))), (dch (nibS qb (16 : Int32))), (dch (nibS qb (12 : Int32))), (dch (nibS qb (8 : Int32))), (dch (nibS qb (4 : Int32))), (dch (nibS qb (0 : Int32)))] : List Int32), ¬ c < 0 ∧ ¬ (255 : Int32) < c := own_hps (ms := [(nibS qb (60 : Int32)), (nibS qb (56 : Int32)), (nibS qb (52 : Int32)), (nibS qb (48 : Int32)), (nibS qb (44 : Int32)), (nibS qb (40 : Int32)), (nibS qb (36 : Int32)), (nibS qb (32 : Int32)), (nibS qb (28 : Int32)), (nibS qb (24 : Int32)), (nibS qb (20 : Int32)), (nibS qb (16 : Int32)), (nibS qb (12 : Int32)), (nibS qb (8 : Int32)), (nibS qb (4 : Int32)), (nibS qb (0 : Int32))]) own_nibs
  obtain ⟨_, _, ⟨T354, L354, k354, n354⟩, -, X354, ⟨Lc354, hQ354, l354, y354, z354⟩, st354⟩ := X334.specialBack hx (y := (⟨"java/lang/String", "<init>", "([C)V"⟩ : MethodName)) rfl hown (mvT hZ (hw _ (List.mem_of_getElem? (i := 31) rfl))) (mvT hZ (hw _ (List.mem_of_getElem? (i := 32) rfl))) (mvT hZ (hw _ (List.mem_of_getElem? (i := 33) rfl))) (by decide) (StrChars.Road.backV (W := 1) hZ (fun d hd => hw d (own_words d hd)) (kI := 4) (hw _ (List.mem_of_getElem? (i := 29) rfl)) (cs := ([(dch (nibS qb (60 : Int32))), (dch (nibS qb (56 : Int32))), (dch (nibS qb (52 : Int32))), (dch (nibS qb (48 : Int32))), (dch (nibS qb (44 : Int32))), (dch (nibS qb (40 : Int32))), (dch (nibS qb (36 : Int32))), (dch (nibS qb (32 : Int32))), (dch (nibS qb (28 : Int32))), (dch (nibS qb (24 : Int32))), (dch (nibS qb (20 : Int32))), (dch (nibS qb (16 : Int32))), (dch (nibS qb (12 : Int32))), (dch (nibS qb (8 : Int32))), (dch (nibS qb (4 : Int32))), (dch (nibS qb (0 : Int32)))] : List Int32)) (bs := (([(dch (nibS qb (60 : Int32))), (dch (nibS qb (56 : Int32))), (dch (nibS qb (52 : Int32))), (dch (nibS qb (48 : Int32))), (dch (nibS qb (44 : Int32))), (dch (nibS qb (40 : Int32))), (dch (nibS qb (36 : Int32))), (dch (nibS qb (32 : Int32))), (dch (nibS qb (28 : Int32))), (dch (nibS qb (24 : Int32))), (dch (nibS qb (20 : Int32))), (dch (nibS qb (16 : Int32))), (dch (nibS qb (12 : Int32))), (dch (nibS qb (8 : Int32))), (dch (nibS qb (4 : Int32))), (dch (nibS qb (0 : Int32)))] : List Int32)).map (fun c => c.toInt8.toInt32)) (n := 16) ge339 Z341 A334 F353 F352 F350 (O2.ext F343.2) P5 rfl rfl (by decide) (by decide) hp354 rfl (by decide) (by decide)) (g := (mkF m 397 #[.val (.long qb), .second, .val (.int pt), .val (.int v6), .val (.int v16), .val (.ref b1), .val (.ref b29), .val (.ref b94)] [(.ref b94), (.ref b334), (.ref b334)])) rfl (by rw [hml]; rfl) (Steps.refl _) (a := b334) (argsL := [(.ref b94)]) (rest := [(.ref b334)]) (lenOf pd_5 rfl) rfl (by show 2 * 0 + _ ≤ _; exact Nat.le_of_eq rfl) (hb hby at_397) (fun _ _ => ⟨rfl, e334, (by decide : 4 + 1 ≤ _), (by decide : 39 + 16 ≤ _)⟩)
  dsimp only [Pt.U, Pt.locs, Pt.cells, Pt.slots] at X354 l354 y354 z354 st354 hQ354
  rw [l354, y354, z354] at X354
  obtain ⟨rfl, N354q, K354q, Fq354_0, Fq354_1, b354t, kb354, g354_t, s354_t, ne354_t, Fq354_2, Fq354_3⟩ := hQ354
  have N354 := Fr.app N333 N354q
  refine Go.st (fun _ k => st354.trans k) ?_
  have ne355 : dgs ≠ b354t := Nat.ne_of_lt (Nat.lt_of_lt_of_le F345.lt s354_t)
  have ne356 : b1 ≠ b354t := Nat.ne_of_lt (Nat.lt_of_lt_of_le F346.lt s354_t)
  have ne357 : b29 ≠ b354t := Nat.ne_of_lt (Nat.lt_of_lt_of_le F347.lt s354_t)
  have ne358 : b94 ≠ b354t := Nat.ne_of_lt (Nat.lt_of_lt_of_le F350.lt s354_t)
  have ne359 : b334 ≠ b354t := Nat.ne_of_lt (Nat.lt_of_lt_of_le A334.lt s354_t)
  have sz360 : h0.size ≤ b354t := Nat.le_trans K342.1 s354_t
  have Z361 : n0 ≤ T354.heap.size := Nat.le_trans Z341 K354q.1
  have K362 : Keep h0 T354.heap [] := K342.trans K354q (fun z hz => (List.mem_cons.mp hz).elim (fun q => by rw [q]; exact Or.inr sz340) (fun hz => absurd hz List.not_mem_nil))
  have F363 : Old Z n0 T354.heap := F343.keep K354q (allS ge339 all0)
  have F364 : Sta Z T354.heap "com/example/tallyroot/tallyroot/overlay/NodeId" "DIGITS" "[C" (.ref dgs) := own_stakeepW F344 K354q (allS (P := fun x => ∀ c : Cell, h334[x]? = some c → c.vm.isStatics = false) (old_plain F353) all0)
  have F365 : Arv Z T354.heap dgs kd .char (16 : Int32) [(.int (48 : Int32)), (.int (49 : Int32)), (.int (50 : Int32)), (.int (51 : Int32)), (.int (52 : Int32)), (.int (53 : Int32)), (.int (54 : Int32)), (.int (55 : Int32)), (.int (56 : Int32)), (.int (57 : Int32)), (.int (97 : Int32)), (.int (98 : Int32)), (.int (99 : Int32)), (.int (100 : Int32)), (.int (101 : Int32)), (.int (102 : Int32))] (.int (0 : Int32)) := F345.keep K354q (fun z => (List.mem_cons.mp z).elim ne335 (fun z => absurd z List.not_mem_nil))
  have F366 : Exa Z T354.heap b1 "[C" := F346.keep K354q
  have F367 : Exa Z T354.heap b29 "com/example/tallyroot/tallyroot/overlay/NodeId" := F347.keep K354q
  have F368 : Fld Z T354.heap b29 "com/example/tallyroot/tallyroot/overlay/NodeId" "bits" "J" (.long qb) := F348.keep K354q (fun z => (List.mem_cons.mp z).elim ne337 (fun z => absurd z List.not_mem_nil))
  have F369 : Arv Z T354.heap b1 k1 .char (18 : Int32) [(.int (dch (nibS qb (60 : Int32)))), (.int (dch (nibS qb (56 : Int32)))), (.int (dch (nibS qb (52 : Int32)))), (.int (dch (nibS qb (48 : Int32)))), (.int (dch (nibS qb (44 : Int32)))), (.int (dch (nibS qb (40 : Int32)))), (.int (dch (nibS qb (36 : Int32)))), (.int (dch (nibS qb (32 : Int32)))), (.int (dch (nibS qb (28 : Int32)))), (.int (dch (nibS qb (24 : Int32)))), (.int (dch (nibS qb (20 : Int32)))), (.int (dch (nibS qb (16 : Int32)))), (.int (dch (nibS qb (12 : Int32)))), (.int (dch (nibS qb (8 : Int32)))), (.int (dch (nibS qb (4 : Int32)))), (.int (dch (nibS qb (0 : Int32)))), (.int v6), (.int v16)] (.int (0 : Int32)) := F349.keep K354q (fun z => (List.mem_cons.mp z).elim ne336 (fun z => absurd z List.not_mem_nil))
  have F370 : Arv Z T354.heap b94 k94 .char (16 : Int32) [(.int (dch (nibS qb (60 : Int32)))), (.int (dch (nibS qb (56 : Int32)))), (.int (dch (nibS qb (52 : Int32)))), (.int (dch (nibS qb (48 : Int32)))), (.int (dch (nibS qb (44 : Int32)))), (.int (dch (nibS qb (40 : Int32)))), (.int (dch (nibS qb (36 : Int32)))), (.int (dch (nibS qb (32 : Int32)))), (.int (dch (nibS qb (28 : Int32)))), (.int (dch (nibS qb (24 : Int32)))), (.int (dch (nibS qb (20 : Int32)))), (.int (dch (nibS qb (16 : Int32)))), (.int (dch (nibS qb (12 : Int32)))), (.int (dch (nibS qb (8 : Int32)))), (.int (dch (nibS qb (4 : Int32)))), (.int (dch (nibS qb (0 : Int32))))] (.int (0 : Int32)) := F350.keep K354q (fun z => (List.mem_cons.mp z).elim ne338 (fun z => absurd z List.not_mem_nil))
  have F371 : Exa Z T354.heap b94 "[C" := F351.keep K354q
  have F372 : Exa Z T354.heap b334 "java/lang/String" := A334.keep K354q
  show Go p.tables e below _ (T354.setTop (mkF m 400 #[.val (.long qb), .second, .val (.int pt), .val (.int v6), .val (.int v16), .val (.ref b1), .val (.ref b29), .val (.ref b94)] [(.ref b334)]))
  obtain ⟨_, _, ⟨T373, L373, k373, n373⟩, -, X373, ⟨Lc373, hQ373, l373, y373, z373⟩, st373⟩ := Jvm.LawKit.callS X354 hx (y := (⟨"com/example/tallyroot/tallyroot/overlay/NodeId", "parse", "(Ljava/lang/CharSequence;)Lcom/example/tallyroot/tallyroot/overlay/NodeId;"⟩ : MethodName)) hown (mvT hZ (hw _ (List.mem_of_getElem? (i := 55) rfl))) (mvT hZ (hw _ (List.mem_of_getElem? (i := 56) rfl))) (mvT hZ (hw _ (List.mem_of_getElem? (i := 3) rfl))) (mvT hZ (hw _ (List.mem_of_getElem? (i := 57) rfl))) (by decide) (backOf (W := 0) (rm_parse l Z a0 hw [] b334 b354t kb354 G1 G3 (nibS qb (60 : Int32)) (nibS qb (56 : Int32)) (nibS qb (52 : Int32)) (nibS qb (48 : Int32)) (nibS qb (44 : Int32)) (nibS qb (40 : Int32)) (nibS qb (36 : Int32)) (nibS qb (32 : Int32)) (nibS qb (28 : Int32)) (nibS qb (24 : Int32)) (nibS qb (20 : Int32)) (nibS qb (16 : Int32)) (nibS qb (12 : Int32)) (nibS qb (8 : Int32)) (nibS qb (4 : Int32)) (nibS qb (0 : Int32)) T354.heap n0 Z361 Fq354_0 Fq354_1 Fq354_2 Fq354_3 F363 (by show Sta Z Z.heap "java/lang/String" "COMPACT_STRINGS" "Z" (.int G1); exact O2) (by show ¬ (G1 = (0 : Int32)); exact P5) (by show Sta Z Z.heap "jdk/internal/util/Preconditions" "SIOOBE_FORMATTER" "Ljava/util/function/BiFunction;" G3; exact O4) (by show G3.isRef = true; exact rG3) (by show ∀ z ∈ ([(nibS qb (60 : Int32)), (nibS qb (56 : Int32)), (nibS qb (52 : Int32)), (nibS qb (48 : Int32)), (nibS qb (44 : Int32)), (nibS qb (40 : Int32)), (nibS qb (36 : Int32)), (nibS qb (32 : Int32)), (nibS qb (28 : Int32)), (nibS qb (24 : Int32)), (nibS qb (20 : Int32)), (nibS qb (16 : Int32)), (nibS qb (12 : Int32)), (nibS qb (8 : Int32)), (nibS qb (4 : Int32)), (nibS qb (0 : Int32))] : List Int32), 0 ≤ z.toInt ∧ z.toInt < 16; exact own_nibs)) hZ (hw _ (List.mem_of_getElem? (i := 57) rfl)) (hw _ (List.mem_of_getElem? (i := 3) rfl)) (by decide) (by decide)) (g := (mkF m 400 #[.val (.long qb), .second, .val (.int pt), .val (.int v6), .val (.int v16), .val (.ref b1), .val (.ref b29), .val (.ref b94)] [(.ref b334)])) rfl (by rw [hml]; rfl) (argsL := [(.ref b334)]) (rest := []) (lenOf pd_7 rfl) rfl (by show 2 * 0 + _ ≤ _; exact Nat.le_of_eq rfl) (hb hby at_400) (fun _ _ => ⟨rfl, (rfl : T354.heap = T354.heap), (by decide : 5 + 1 ≤ _), (by decide : 55 + 1 ≤ _)⟩)
  dsimp only [Pt.U, Pt.locs, Pt.cells, Pt.slots] at X373 l373 y373 z373 st373 hQ373
  rw [l373, y373, z373] at X373
  obtain ⟨b373_fr, x373_rr, x373_a0, x373_a1, x373_a2, x373_a3, x373_a4, x373_a5, x373_a6, x373_a7, x373_a8, x373_a9, x373_a10, x373_a11, x373_a12, x373_a13, x373_a14, rfl, N373q, K373q, g373_fr, s373_fr, Fq373_0, Fq373_1, pr373_s0, pr373_s1, pr373_s2, pr373_s3, pr373_s4, pr373_s5, pr373_s6, pr373_s7, pr373_s8, pr373_s9, pr373_s10, pr373_s11, pr373_s12, pr373_s13, pr373_s14, pr373_s15⟩ := hQ373
  have N373 := Fr.app N354 N373q
  refine Go.st st373 ?_
  have ne374 : dgs ≠ b373_fr := Nat.ne_of_lt (Nat.lt_of_lt_of_le F365.lt s373_fr)
  have ne375 : b1 ≠ b373_fr := Nat.ne_of_lt (Nat.lt_of_lt_of_le F366.lt s373_fr)
  have ne376 : b29 ≠ b373_fr := Nat.ne_of_lt (Nat.lt_of_lt_of_le F367.lt s373_fr)
  have ne377 : b94 ≠ b373_fr := Nat.ne_of_lt (Nat.lt_of_lt_of_le F370.lt s373_fr)
  have ne378 : b334 ≠ b373_fr := Nat.ne_of_lt (Nat.lt_of_lt_of_le Fq354_0.lt s373_fr)
  have ne379 : b354t ≠ b373_fr := Nat.ne_of_lt (Nat.lt_of_lt_of_le Fq354_3.lt s373_fr)
  have sz380 : h0.size ≤ b373_fr := Nat.le_trans K362.1 s373_fr
  have Z381 : n0 ≤ T373.heap.size := Nat.le_trans Z361 K373q.1
  have K382 : Keep h0 T373.heap [] := K362.trans K373q (fun z hz => absurd hz List.not_mem_nil)
  have F383 : Old Z n0 T373.heap := F363.keep K373q all0
  have F384 : Sta Z T373.heap "com/example/tallyroot/tallyroot/overlay/NodeId" "DIGITS" "[C" (.ref dgs) := own_stakeep F364 K373q
  have F385 : Arv Z T373.heap dgs kd .char (16 : Int32) [(.int (48 : Int32)), (.int (49 : Int32)), (.int (50 : Int32)), (.int (51 : Int32)), (.int (52 : Int32)), (.int (53 : Int32)), (.int (54 : Int32)), (.int (55 : Int32)), (.int (56 : Int32)), (.int (57 : Int32)), (.int (97 : Int32)), (.int (98 : Int32)), (.int (99 : Int32)), (.int (100 : Int32)), (.int (101 : Int32)), (.int (102 : Int32))] (.int (0 : Int32)) := F365.keep K373q List.not_mem_nil
  have F386 : Exa Z T373.heap b1 "[C" := F366.keep K373q
  have F387 : Exa Z T373.heap b29 "com/example/tallyroot/tallyroot/overlay/NodeId" := F367.keep K373q
  have F388 : Fld Z T373.heap b29 "com/example/tallyroot/tallyroot/overlay/NodeId" "bits" "J" (.long qb) := F368.keep K373q List.not_mem_nil
  have F389 : Arv Z T373.heap b1 k1 .char (18 : Int32) [(.int (dch (nibS qb (60 : Int32)))), (.int (dch (nibS qb (56 : Int32)))), (.int (dch (nibS qb (52 : Int32)))), (.int (dch (nibS qb (48 : Int32)))), (.int (dch (nibS qb (44 : Int32)))), (.int (dch (nibS qb (40 : Int32)))), (.int (dch (nibS qb (36 : Int32)))), (.int (dch (nibS qb (32 : Int32)))), (.int (dch (nibS qb (28 : Int32)))), (.int (dch (nibS qb (24 : Int32)))), (.int (dch (nibS qb (20 : Int32)))), (.int (dch (nibS qb (16 : Int32)))), (.int (dch (nibS qb (12 : Int32)))), (.int (dch (nibS qb (8 : Int32)))), (.int (dch (nibS qb (4 : Int32)))), (.int (dch (nibS qb (0 : Int32)))), (.int v6), (.int v16)] (.int (0 : Int32)) := F369.keep K373q List.not_mem_nil
  have F390 : Arv Z T373.heap b94 k94 .char (16 : Int32) [(.int (dch (nibS qb (60 : Int32)))), (.int (dch (nibS qb (56 : Int32)))), (.int (dch (nibS qb (52 : Int32)))), (.int (dch (nibS qb (48 : Int32)))), (.int (dch (nibS qb (44 : Int32)))), (.int (dch (nibS qb (40 : Int32)))), (.int (dch (nibS qb (36 : Int32)))), (.int (dch (nibS qb (32 : Int32)))), (.int (dch (nibS qb (28 : Int32)))), (.int (dch (nibS qb (24 : Int32)))), (.int (dch (nibS qb (20 : Int32)))), (.int (dch (nibS qb (16 : Int32)))), (.int (dch (nibS qb (12 : Int32)))), (.int (dch (nibS qb (8 : Int32)))), (.int (dch (nibS qb (4 : Int32)))), (.int (dch (nibS qb (0 : Int32))))] (.int (0 : Int32)) := F370.keep K373q List.not_mem_nil
  have F391 : Exa Z T373.heap b94 "[C" := F371.keep K373q
  have F392 : Exa Z T373.heap b334 "java/lang/String" := Fq354_0.keep K373q
  have F393 : Fld Z T373.heap b334 "java/lang/String" "coder" "B" (.int (0 : Int32)) := Fq354_1.keep K373q List.not_mem_nil
  have F394 : Fld Z T373.heap b334 "java/lang/String" "value" "[B" (.ref b354t) := Fq354_2.keep K373q List.not_mem_nil
  have F395 : Arv Z T373.heap b354t kb354 .byte (16 : Int32) (((([(dch (nibS qb (60 : Int32))), (dch (nibS qb (56 : Int32))), (dch (nibS qb (52 : Int32))), (dch (nibS qb (48 : Int32))), (dch (nibS qb (44 : Int32))), (dch (nibS qb (40 : Int32))), (dch (nibS qb (36 : Int32))), (dch (nibS qb (32 : Int32))), (dch (nibS qb (28 : Int32))), (dch (nibS qb (24 : Int32))), (dch (nibS qb (20 : Int32))), (dch (nibS qb (16 : Int32))), (dch (nibS qb (12 : Int32))), (dch (nibS qb (8 : Int32))), (dch (nibS qb (4 : Int32))), (dch (nibS qb (0 : Int32)))] : List Int32)).map (fun c => c.toInt8.toInt32)).map Value.int) (.int (0 : Int32)) := Fq354_3.keep K373q List.not_mem_nil
  show Go p.tables e below _ (T373.setTop (mkF m 403 #[.val (.long qb), .second, .val (.int pt), .val (.int v6), .val (.int v16), .val (.ref b1), .val (.ref b29), .val (.ref b94)] [(.ref b373_fr)]))
  show Go p.tables e below _ (T373.setTop (mkF m 403 #[.val (.long qb), .second, .val (.int pt), .val (.int v6), .val (.int v16), .val (.ref b1), .val (.ref b29), .val (.ref b94)] [(.ref b373_fr)]))
  obtain ⟨cq396, kq396, q396a, q396b, q396c⟩ := isOf hZ (rfl : T373.heap = T373.heap) Fq373_0
  obtain ⟨_, _, ⟨T396, L396, k396, n396⟩, -, X396, ⟨Lc396, hQ396, l396, y396, z396⟩, st396⟩ := X373.virtualBack hx (y := (⟨"com/example/tallyroot/tallyroot/overlay/NodeId", "bits", "()J"⟩ : MethodName)) (z := (⟨"com/example/tallyroot/tallyroot/overlay/NodeId", "bits", "()J"⟩ : MethodName)) hown (mvT hZ (hw _ (List.mem_of_getElem? (i := 102) rfl))) (mvT hZ (hw _ (List.mem_of_getElem? (i := 103) rfl))) (notFace_of_selects (args := #[]) (mvT hZ (hw _ (List.mem_of_getElem? (i := 105) rfl)))) (mvT hZ (hw _ (List.mem_of_getElem? (i := 105) rfl))) (mvT hZ (hw _ (List.mem_of_getElem? (i := 104) rfl))) (by decide) (backOf (W := 0) (rm_bits l Z a0 hw [] b373_fr x373_rr T373.heap n0 Z381 Fq373_1) hZ (hw _ (List.mem_of_getElem? (i := 106) rfl)) (hw _ (List.mem_of_getElem? (i := 3) rfl)) (by decide) (by decide)) q396a q396c (g := (mkF m 403 #[.val (.long qb), .second, .val (.int pt), .val (.int v6), .val (.int v16), .val (.ref b1), .val (.ref b29), .val (.ref b94)] [(.ref b373_fr)])) rfl (by rw [hml]; rfl) (Steps.refl _) (argsL := []) (rest := []) (lenOf pd_8 rfl) rfl (by show 2 * 0 + _ ≤ _; exact Nat.le_of_eq rfl) (hb hby at_403) (fun _ _ => ⟨rfl, (rfl : T373.heap = T373.heap), (by decide : 6 + 0 ≤ _), (by decide : 56 + 0 ≤ _)⟩)
  dsimp only [Pt.U, Pt.locs, Pt.cells, Pt.slots] at X396 l396 y396 z396 st396 hQ396
  rw [l396, y396, z396] at X396
  obtain ⟨rfl, N396q, e396⟩ := hQ396
  have N396 := Fr.app N373 N396q
  refine Go.st (fun _ k => st396.trans k) ?_
  show Go p.tables e below _ (T396.setTop (mkF m 406 #[.val (.long qb), .second, .val (.int pt), .val (.int v6), .val (.int v16), .val (.ref b1), .val (.ref b29), .val (.ref b94)] [(.long x373_rr)]))
  refine Go.st (fun _ k => XS.lloadN X396.here hx rfl (hb hby at_406) rfl k) ?_
  show Go p.tables e below _ (T396.setTop (mkF m 407 #[.val (.long qb), .second, .val (.int pt), .val (.int v6), .val (.int v16), .val (.ref b1), .val (.ref b29), .val (.ref b94)] [(.long qb), (.long x373_rr)]))
  refine Go.st (fun _ k => Jvm.Free.XT.lcmp X396.here hx rfl (hb hby at_407) rfl k) ?_
  show Go p.tables e below _ (T396.setTop (mkF m 408 #[.val (.long qb), .second, .val (.int pt), .val (.int v6), .val (.int v16), .val (.ref b1), .val (.ref b29), .val (.ref b94)] [(.int (Jvm.Free.XT.cmpL x373_rr qb))]))
  have hc408 : x373_rr = qb := own_round qb pr373_s0 pr373_s1 pr373_s2 pr373_s3 pr373_s4 pr373_s5 pr373_s6 pr373_s7 pr373_s8 pr373_s9 pr373_s10 pr373_s11 pr373_s12 pr373_s13 pr373_s14 pr373_s15
  refine Go.st (fun _ k => XS.ifNo X396.here hx rfl (hb hby at_408) rfl (Jvm.Free.XT.ll_ne_f hc408) k) ?_
  show Go p.tables e below _ (T396.setTop (mkF m 411 #[.val (.long qb), .second, .val (.int pt), .val (.int v6), .val (.int v16), .val (.ref b1), .val (.ref b29), .val (.ref b94)] []))
  refine Go.st (fun _ k => XS.iconst X396.here hx rfl (hb hby at_411) k) ?_
  show Go p.tables e below _ (T396.setTop (mkF m 412 #[.val (.long qb), .second, .val (.int pt), .val (.int v6), .val (.int v16), .val (.ref b1), .val (.ref b29), .val (.ref b94)] [(.int (1 : Int32))]))
  refine Go.st (fun _ k => XS.goto X396.here hx rfl (pc0 := 412) (pc' := 416) rfl (hb hby at_412) (by decide) (by decide) k) ?_
  show Go p.tables e below _ (T396.setTop (mkF m 416 #[.val (.long qb), .second, .val (.int pt), .val (.int v6), .val (.int v16), .val (.ref b1), .val (.ref b29), .val (.ref b94)] [(.int (1 : Int32))]))
  subst hG
  obtain ⟨fs, hr, hrun, hended, hW, hsame⟩ := X396.leave (v := some (.int (nar .boolean (1 : Int32)))) (fun h => by rw [Bd.returns] at h; cases h)
  refine ⟨_, _, ?_, hrun, hended, _, _, rfl, ?_, ⟨_, rfl⟩, hW, hsame.mono (by decide) (by decide)⟩
  · exact retN X396 hx (t := .boolean) Bd.returns (by simp) (hb hby at_416) hr
  · show Q_law Z qb pt G1 G3 dgs kd h0 n0 _ T396.heap _
    rw [e396]
    exact ⟨rfl, N396, K382⟩
theorem own_or_f {args : Array Value} {s : State} {c d : Jvm.Cond} {idx : List Nat} (h : (Jvm.Cond.or c d).value args s none s idx = some true) (hc : c.value args s none s idx = some false) : d.value args s none s idx = some true := by
  have e : (Jvm.Cond.or c d).value args s none s idx = (match c.value args s none s idx with | some false => d.value args s none s idx | x => x) := rfl
  rw [e, hc] at h
  exact h
theorem own_digits {s : State} {args : Array Value} (hfit : Fit s) (hn : narrow_1.value args s none s [] = some true)
    (hi : (Jvm.Cond.initializedFor "com/example/tallyroot/tallyroot/overlay/NodeId" "DIGITS" "[C").before args s = true ∨ ((Jvm.Cond.initialized "com/example/tallyroot/tallyroot/overlay/NodeId").before args s = true ∧ (Jvm.Cond.laysStatic "com/example/tallyroot/tallyroot/overlay/NodeId" "DIGITS" "[C").before args s = true)) :
    ∃ (dgs : Addr) (kd : ClassId), Sta s s.heap "com/example/tallyroot/tallyroot/overlay/NodeId" "DIGITS" "[C" (.ref dgs) ∧ Arv s s.heap dgs kd .char (16 : Int32) [(.int (48 : Int32)), (.int (49 : Int32)), (.int (50 : Int32)), (.int (51 : Int32)), (.int (52 : Int32)), (.int (53 : Int32)), (.int (54 : Int32)), (.int (55 : Int32)), (.int (56 : Int32)), (.int (57 : Int32)), (.int (97 : Int32)), (.int (98 : Int32)), (.int (99 : Int32)), (.int (100 : Int32)), (.int (101 : Int32)), (.int (102 : Int32))] (.int (0 : Int32)) := by
  obtain ⟨n1, hn1⟩ := and_e hn
  obtain ⟨n2, hn2⟩ := and_e hn1
  obtain ⟨n3, n4⟩ := and_e hn2
  obtain ⟨a, ev⟩ := arr_v n1
  obtain ⟨c, A⟩ := Arr.start ev n1
  have hat : s.arrayAt? a = some c := A.fin (Vm.Alike.refl _)
  have L := eqv_i (Term.int_eval 16) n2
  have hsz : c.slots.size < 2 ^ 31 ∧ c.slots.size.toInt32 = 16 := by
    have L' : (if c.slots.size < 2 ^ 31 then some (Value.int c.slots.size.toInt32) else none) = some (.int 16) := by
      rw [← L]
      have e1 : (Term.length (Term.static "com/example/tallyroot/tallyroot/overlay/NodeId" "DIGITS" "[C")).eval args s none [] s = (do
          let .ref a ← (Term.static "com/example/tallyroot/tallyroot/overlay/NodeId" "DIGITS" "[C").eval args s none [] s | none
          let n := (← s.arrayAt? a).slots.size
          if n < 2 ^ 31 then pure (.int n.toInt32) else none) := rfl
      rw [e1, ev]
      show _ = (s.arrayAt? a).bind fun z => if z.slots.size < 2 ^ 31 then some (Value.int z.slots.size.toInt32) else none
      rw [hat]
      rfl
    by_cases h : c.slots.size < 2 ^ 31
    · rw [if_pos h] at L'
      exact ⟨h, Value.int.inj (Option.some.inj L')⟩
    · rw [if_neg h] at L'
      cases L'
  have hs16 : c.slots.size = 16 := by
    have h1 := len_toInt hsz.1
    rw [hsz.2] at h1
    have h2 : (16 : Int32).toInt = 16 := by decide
    omega
  have evx : ∀ idx, (Term.static "com/example/tallyroot/tallyroot/overlay/NodeId" "DIGITS" "[C").eval args s none idx s = some (.ref a) := fun idx => ev
  have el : ∀ j : Int32, ¬ j < 0 → j.toNatClampNeg < 16 → ∀ y : Int64, (Jvm.Cond.eq (Jvm.Term.op1 Jvm.Unary.i2l (Jvm.Term.elem (Jvm.Term.static "com/example/tallyroot/tallyroot/overlay/NodeId" "DIGITS" "[C") (Jvm.Term.index 0))) (Jvm.Term.op2 Jvm.Binary.ladd (Jvm.Term.op1 Jvm.Unary.i2l (Jvm.Term.index 0)) (Jvm.Term.long y))).value args s none s [j.toNatClampNeg] = some true →
      ∀ z : Int32, z.toInt64 = j.toInt64 + y → c.slots[j.toNatClampNeg]? = some (.int z) := by
    intro j hj hlt y heq z hz
    have hr : (Jvm.Term.op2 Jvm.Binary.ladd (Jvm.Term.op1 Jvm.Unary.i2l (Jvm.Term.index 0)) (Jvm.Term.long y)).eval args s none [j.toNatClampNeg] s = some (.long (j.toInt64 + y)) := by
      rw [op2_f (i2l_at (idx_at hj)) (long_at y)]
      rfl
    have h1 := eqv_l hr heq
    obtain ⟨w, hw1, hw2⟩ := op1_v h1
    rw [elem_f (evx _) (idx_at hj) hat hj] at hw1
    cases w with
    | int x =>
      have hx : x.toInt64 = j.toInt64 + y := Value.long.inj (Option.some.inj hw2)
      have : x = z := by
        have t := congrArg Int64.toInt32 (hx.trans hz.symm)
        simpa using t
      rw [hw1, this]
    | _ => cases hw2
  have lo : ∀ j : Int32, ¬ j < 0 → j < 10 → ∀ z : Int32, z.toInt64 = j.toInt64 + 48 → c.slots[j.toNatClampNeg]? = some (.int z) := by
    intro j hj h10 z hz
    have hnat := nat_of hj
    have h10' := Int32.lt_iff_toInt_lt.mp h10
    have e10 : (10 : Int32).toInt = 10 := by decide
    have hlt : j.toNatClampNeg < 16 := by omega
    have u := Cond.all_elim ev hat n3 j.toNatClampNeg (by omega)
    have hle : (Jvm.Cond.le (Jvm.Term.int (10 : Int32)) (Jvm.Term.index 0)).value args s none s [j.toNatClampNeg] = some false := by
      rw [Cond.le_ints (Term.int_eval 10) (idx_at hj)]
      exact congrArg some (decide_eq_false (fun z => by rw [Int32.le_iff_toInt_le] at z; omega))
    have v : (Jvm.Cond.eq (Jvm.Term.op1 Jvm.Unary.i2l (Jvm.Term.elem (Jvm.Term.static "com/example/tallyroot/tallyroot/overlay/NodeId" "DIGITS" "[C") (Jvm.Term.index 0))) (Jvm.Term.op2 Jvm.Binary.ladd (Jvm.Term.op1 Jvm.Unary.i2l (Jvm.Term.index 0)) (Jvm.Term.long 48))).value args s none s [j.toNatClampNeg] = some true := own_or_f u hle
    exact el j hj hlt 48 v z hz
  have hi' : ∀ j : Int32, ¬ j < 0 → ¬ j < 10 → j < 16 → ∀ z : Int32, z.toInt64 = j.toInt64 + 87 → c.slots[j.toNatClampNeg]? = some (.int z) := by
    intro j hj h10 h16 z hz
    have hnat := nat_of hj
    have h16' := Int32.lt_iff_toInt_lt.mp h16
    have e16 : (16 : Int32).toInt = 16 := by decide
    have hlt : j.toNatClampNeg < 16 := by omega
    have u := Cond.all_elim ev hat n4 j.toNatClampNeg (by omega)
    have hle : (Jvm.Cond.lt (Jvm.Term.index 0) (Jvm.Term.int (10 : Int32))).value args s none s [j.toNatClampNeg] = some false := by
      rw [Cond.lt_ints (idx_at hj) (Term.int_eval 10)]
      exact congrArg some (decide_eq_false h10)
    exact el j hj hlt 87 (own_or_f u hle) z hz
  refine ⟨a, c.cls, Sta.start ev hi, Arv.start hfit A hsz.1 hsz.2 (by decide) rfl ?_⟩
  exact ⟨lo 0 (by decide) (by decide) _ (by decide), lo 1 (by decide) (by decide) _ (by decide), lo 2 (by decide) (by decide) _ (by decide), lo 3 (by decide) (by decide) _ (by decide), lo 4 (by decide) (by decide) _ (by decide), lo 5 (by decide) (by decide) _ (by decide), lo 6 (by decide) (by decide) _ (by decide), lo 7 (by decide) (by decide) _ (by decide), lo 8 (by decide) (by decide) _ (by decide), lo 9 (by decide) (by decide) _ (by decide),
    hi' 10 (by decide) (by decide) (by decide) _ (by decide), hi' 11 (by decide) (by decide) (by decide) _ (by decide), hi' 12 (by decide) (by decide) (by decide) _ (by decide), hi' 13 (by decide) (by decide) (by decide) _ (by decide), hi' 14 (by decide) (by decide) (by decide) _ (by decide), hi' 15 (by decide) (by decide) (by decide) _ (by decide), trivial⟩

set_option maxRecDepth 65536 in
set_option maxHeartbeats 40000000 in
theorem comes_1 {Post : Tables → Env → Array Value → State → Outcome → State → Prop} (hpost : ∀ tb e args s v u, (limb_1_1.after args s (.returned v) u = true ∧ limb_1_2.after args s (.returned v) u = true ∧ True) → FrameEnd s (.returned v) u (Jvm.fieldLocs frame_1_writes args s ++ Jvm.arrayLocs frame_1_arrays args s ++ Jvm.staticLocs frame_1_statics s) 24 192 → Post tb e args s (.returned v) u) :
    ArmFor flags0 classFile x code maxLocals ret World_1 tables_1 room_1 Calls_1 rest_1 Pre_1 Post := by
  intro l hfl _ _ p e ha hc hk s m args below hf hA hF happ hP
  obtain ⟨hcalls, hrest, hpre⟩ := hP
  obtain ⟨-, -, -, hnamed, -, -, -, hat⟩ := (Spec.applies_iff hf).mp happ
  obtain ⟨hg, hn⟩ := and_e (Cond.before_iff.mp (show (Jvm.Cond.and given_1 narrow_1).before args s = true from hpre))
  obtain ⟨hcount, hg0⟩ := and_e hg
  obtain ⟨hv0, hg1⟩ := and_e hg0
  obtain ⟨w0, w1, rfl⟩ : ∃ w0 w1 : Value, args = #[w0, w1] := by
    have hs : args.size = 2 := by simpa [Cond.value, given_1] using hcount
    obtain ⟨L⟩ := args
    match L, hs with
    | [w0, w1], _ => exact ⟨w0, w1, rfl⟩
  have hw := fun d (hd : d ∈ tables_1) => atoms_spec (ws := Jvm.Cond.code x code maxLocals ret :: tables_1) hat d (List.mem_cons_of_mem _ hd)
  have hfit : Fit s := fun {y c} hc i hi => by
    obtain ⟨ha, rfl⟩ := Array.getElem?_eq_some_iff.mp hc
    have q := List.all_eq_true.mp ((Array.all_eq_true_iff_forall_mem.mp hF) _ (Array.getElem_mem ha)) i (List.mem_range.mpr hi)
    simpa [Array.getElem?_eq_getElem hi] using q
  obtain ⟨i0, ei0⟩ := isL_v hv0
  obtain rfl : w0 = (.long i0) := Option.some.inj ei0
  obtain ⟨i1, ei1⟩ := is_v hg1
  obtain rfl : w1 = (.int i1) := Option.some.inj ei1
  obtain ⟨hsets, hown0⟩ := atoms_of _ (rest_1_c_eq ▸ (show rest_1_c.before _ s = true from hrest))
  have n5 := not_v (Cond.before_iff.mp (hsets _ (List.mem_of_getElem? (i := 2) rfl)))
  obtain ⟨G1, e10⟩ := is_v (Cond.before_iff.mp (hsets _ (List.mem_of_getElem? (i := 1) rfl)))
  have O2 : Sta s s.heap "java/lang/String" "COMPACT_STRINGS" "Z" (.int G1) := Sta.start e10 (Or.inl (hsets _ (List.mem_of_getElem? (i := 0) rfl)))
  obtain ⟨G3, e14, rG3⟩ := isR_v (Cond.before_iff.mp (hsets _ (List.mem_of_getElem? (i := 8) rfl)))
  have O4 : Sta s s.heap "jdk/internal/util/Preconditions" "SIOOBE_FORMATTER" "Ljava/util/function/BiFunction;" G3 := Sta.start e14 (Or.inl (hsets _ (List.mem_of_getElem? (i := 7) rfl)))
  have P5 : ¬ (G1 = (0 : Int32)) := gotF (Cond.eq_ints e10 (Term.int_eval (0))) n5
  obtain ⟨dgs, kd, Sd, Ad⟩ := own_digits hfit hn (Or.inr ⟨(hw _ (List.mem_of_getElem? (i := 3) rfl)), (hw _ (List.mem_of_getElem? (i := 23) rfl))⟩)
  obtain ⟨n, o, h1, h2, h3, _, L, rfl, ⟨rfl, N, -⟩, hq⟩ := rm_law l s _ hw tables_1 i0 i1 G1 G3 dgs kd s.heap s.heap.size (Nat.le_refl _) (Old.start s) O2 P5 O4 rG3 Sd Ad p e ha hc hk s m _ below hf ((Spec.applies_iff_loose hf).mp happ).1 ⟨rfl, State.Warmed39.refl s, rfl⟩ trivial
  refine ⟨n, _, h1, h2, h3, hpost _ _ _ _ _ _ ⟨Cond.after_iff.mpr rfl, Cond.after_iff.mpr (eq_i res_at (Term.int_eval (1)) rfl), trivial⟩ ⟨hq.1, hq.2.1, (hq.2.2.sift fun y hy => Or.inr (N y hy)).mono (by decide) (by decide)⟩⟩
theorem main_1_1 : Claimed_1_1 := comes_1 fun _ _ _ _ _ _ h hF => ⟨h.1, hF⟩
theorem main_1_2 : Claimed_1_2 := comes_1 fun _ _ _ _ _ _ h hF => ⟨h.2.1, hF⟩
end Jvm.Pilot.@@N@@
namespace Jvm.Pilot.@@N@@
open Jvm Jvm.ClassFile Sem Op Lib Jvm.Free Jvm.Stand Jvm.Pilot.@@N@@.Jvm.D
/-! MADE BY PROGRAM (witnessworld.py) out of the Statement's table words and the real class files: 21 classes; the members and pool entries that the words name. The judged class is class 1, her method 1. -/
namespace start1
open Jvm.ClassFile
def u (s : String) : CpInfo := .utf8 (stringToUtf16 s)
/-- a pool by its gaps: so many unusable entries, then the entry; so many at the end -/
def gap : Nat → List CpInfo → List CpInfo
  | 0, r => r
  | n + 1, r => .unusable :: gap n r
def poolList (es : List (Nat × CpInfo)) (last : Nat) : List CpInfo := es.foldr (fun e r => gap e.1 (e.2 :: r)) (gap last [])
def pool (es : List (Nat × CpInfo)) (last : Nat) : Array CpInfo := ⟨poolList es last⟩
def fileOf (pool : Array CpInfo) (this : Nat) (attrs : Array Attribute := #[]) (ms : Array MethodInfo := #[]) (fl : Nat := 33) (sup : Nat := 0) (ifs : Array Nat := #[]) (fds : Array FieldInfo := #[]) : ClassFile where
  minorVersion := 0
  majorVersion := 65
  constantPool := pool
  accessFlags := fl
  thisClass := this
  superClass := sup
  interfaces := ifs
  fields := fds
  methods := ms
  attributes := attrs
def plain (name : String) (sup : Option ClassId) : Class where
  name := name
  kind := .ordinary
  loader := none
  accessFlags := 33
  super := sup
  interfaces := #[]
  cf := none
  fields := #[]
  methods := #[]
  instanceTypes := #[]
  staticTypes := #[]
  resolved := #[]
  callSites := []
  init := .initialized
  statics := none
  mirror := none

def pool0 : Array CpInfo := pool [(5, u "<init>"), (0, u "()V"), (1, .class_ 10), (1, u "java/lang/Object")] 113

def k0c0 : Code := { maxStack := 0, maxLocals := 1, code := object_method_1_code, exceptionTable := #[], attributes := #[] }
def k0m0 : Method := { name := "<init>", desc := "()V", sig := { parameters := [], returnType := none }, accessFlags := 1, code := some k0c0 }
/-- java/lang/Object -/
def k0 : Class := { plain "java/lang/Object" none with
  accessFlags := 33
  interfaces := #[]
  cf := some (fileOf pool0 8 #[] #[{ accessFlags := 1, nameIndex := 5, descriptorIndex := 6, attributes := #[] }] 33 0 #[] #[])
  fields := #[]
  methods := #[k0m0]
  instanceTypes := #[]
  staticTypes := #[]
  resolved := Array.replicate 124 none
  statics := none }

def pool1 : Array CpInfo := pool [(2, .class_ 4), (1, u "java/lang/Object"), (0, u "<init>"), (0, u "()V"), (0, .class_ 8), (0, u "com/example/tallyroot/tallyroot/overlay/NodeId"), (0, .methodref 7 10), (0, .nameAndType 5 11), (0, u "(J)V"), (0, .methodref 7 13), (0, .nameAndType 14 15), (0, u "writeTo"), (0, u "([C)V"), (0, .methodref 17 18), (0, .class_ 19), (0, .nameAndType 20 21), (0, u "com/example/tallyroot/tallyroot/overlay/NodeIdWriteToPinLaw"), (0, u "hex"), (0, u "(C)Z"), (0, .class_ 23), (0, u "java/lang/String"), (0, .methodref 22 25), (0, .nameAndType 5 15), (0, .methodref 7 27), (0, .nameAndType 28 29), (0, u "parse"), (0, u "(Ljava/lang/CharSequence;)Lcom/example/tallyroot/tallyroot/overlay/NodeId;"), (0, .methodref 7 31), (0, .nameAndType 32 33), (0, u "bits"), (0, u "()J"), (2, u "law"), (0, u "(JI)Z")] 5

def k1m0 : Method := { name := "<init>", desc := "()V", sig := { parameters := [], returnType := none }, accessFlags := 1, code := none }
def k1c1 : Code := { maxStack := 5, maxLocals := 8, code := code, exceptionTable := #[], attributes := #[] }
def k1m1 : Method := { name := "law", desc := "(JI)Z", sig := { parameters := [.long, .int], returnType := some .boolean }, accessFlags := 9, code := some k1c1 }
def k1c2 : Code := { maxStack := 2, maxLocals := 1, code := method_3_code, exceptionTable := #[], attributes := #[] }
def k1m2 : Method := { name := "hex", desc := "(C)Z", sig := { parameters := [.char], returnType := some .boolean }, accessFlags := 10, code := some k1c2 }
/-- com/example/tallyroot/tallyroot/overlay/NodeIdWriteToPinLaw -/
def k1 : Class := { plain "com/example/tallyroot/tallyroot/overlay/NodeIdWriteToPinLaw" (some 0) with
  accessFlags := 49
  interfaces := #[]
  cf := some (fileOf pool1 17 #[] #[{ accessFlags := 1, nameIndex := 5, descriptorIndex := 6, attributes := #[] }, { accessFlags := 9, nameIndex := 36, descriptorIndex := 37, attributes := #[] }, { accessFlags := 10, nameIndex := 20, descriptorIndex := 21, attributes := #[] }] 49 2 #[] #[])
  fields := #[]
  methods := #[k1m0, k1m1, k1m2]
  instanceTypes := #[]
  staticTypes := #[]
  resolved := Array.replicate 43 none
  statics := none }

def pool2 : Array CpInfo := pool [(1, .methodref 2 3), (0, .class_ 4), (0, .nameAndType 5 6), (0, u "java/lang/Object"), (0, u "<init>"), (0, u "()V"), (0, .class_ 8), (0, u "java/lang/Record")] 13

def k2c0 : Code := { maxStack := 1, maxLocals := 1, code := jdk_30_method_1_code, exceptionTable := #[], attributes := #[] }
def k2m0 : Method := { name := "<init>", desc := "()V", sig := { parameters := [], returnType := none }, accessFlags := 4, code := some k2c0 }
/-- java/lang/Record -/
def k2 : Class := { plain "java/lang/Record" (some 0) with
  accessFlags := 1057
  interfaces := #[]
  cf := some (fileOf pool2 7 #[] #[{ accessFlags := 4, nameIndex := 5, descriptorIndex := 6, attributes := #[] }] 1057 2 #[] #[])
  fields := #[]
  methods := #[k2m0]
  instanceTypes := #[]
  staticTypes := #[]
  resolved := Array.replicate 22 none
  statics := none }

def pool3 : Array CpInfo := pool [(1, .class_ 2), (0, u "java/lang/Comparable"), (0, .class_ 4), (0, u "java/lang/Object")] 7

/-- java/lang/Comparable -/
def k3 : Class := { plain "java/lang/Comparable" (some 0) with
  accessFlags := 1537
  interfaces := #[]
  cf := some (fileOf pool3 1 #[] #[] 1537 3 #[] #[])
  fields := #[]
  methods := #[]
  instanceTypes := #[]
  staticTypes := #[]
  resolved := Array.replicate 12 none
  statics := none }

def pool4 : Array CpInfo := pool [(1, .methodref 2 3), (0, .class_ 4), (0, .nameAndType 5 6), (0, u "java/lang/Record"), (0, u "<init>"), (0, u "()V"), (0, .fieldref 8 9), (0, .class_ 10), (0, .nameAndType 11 12), (0, u "com/example/tallyroot/tallyroot/overlay/NodeId"), (0, u "bits"), (0, u "J"), (0, .interfaceMethodref 14 15), (0, .class_ 16), (0, .nameAndType 17 18), (0, u "java/lang/CharSequence"), (0, u "length"), (0, u "()I"), (4, .interfaceMethodref 14 24), (0, .nameAndType 25 26), (0, u "charAt"), (0, u "(I)C"), (0, .methodref 8 28), (0, .nameAndType 29 30), (0, u "hexDigit"), (0, u "(CLjava/lang/CharSequence;)I"), (0, .methodref 8 32), (0, .nameAndType 5 33), (0, u "(J)V"), (26, u "writeTo"), (0, u "([C)V"), (4, .fieldref 8 67), (0, .nameAndType 68 69), (0, u "DIGITS"), (0, u "[C"), (17, .class_ 88), (0, u "java/lang/Comparable"), (0, u "HEX_DIGITS"), (0, u "I"), (5, u "parse"), (0, u "(Ljava/lang/CharSequence;)Lcom/example/tallyroot/tallyroot/overlay/NodeId;"), (4, u "()J")] 31

def k4c0 : Code := { maxStack := 3, maxLocals := 3, code := prog_42_method_1_code, exceptionTable := #[], attributes := #[] }
def k4m0 : Method := { name := "<init>", desc := "(J)V", sig := { parameters := [.long], returnType := none }, accessFlags := 1, code := some k4c0 }
def k4c1 : Code := { maxStack := 4, maxLocals := 4, code := prog_42_method_2_code, exceptionTable := #[], attributes := #[] }
def k4m1 : Method := { name := "parse", desc := "(Ljava/lang/CharSequence;)Lcom/example/tallyroot/tallyroot/overlay/NodeId;", sig := { parameters := [(.object "java/lang/CharSequence")], returnType := some (.object "com/example/tallyroot/tallyroot/overlay/NodeId") }, accessFlags := 9, code := some k4c1 }
def k4c2 : Code := { maxStack := 2, maxLocals := 2, code := prog_42_method_3_code, exceptionTable := #[], attributes := #[] }
def k4m2 : Method := { name := "hexDigit", desc := "(CLjava/lang/CharSequence;)I", sig := { parameters := [.char, (.object "java/lang/CharSequence")], returnType := some .int }, accessFlags := 10, code := some k4c2 }
def k4c3 : Code := { maxStack := 5, maxLocals := 4, code := prog_42_method_8_code, exceptionTable := #[], attributes := #[] }
def k4m3 : Method := { name := "writeTo", desc := "([C)V", sig := { parameters := [(.array .char)], returnType := none }, accessFlags := 0, code := some k4c3 }
def k4c4 : Code := { maxStack := 2, maxLocals := 1, code := prog_42_method_11_code, exceptionTable := #[], attributes := #[] }
def k4m4 : Method := { name := "bits", desc := "()J", sig := { parameters := [], returnType := some .long }, accessFlags := 1, code := some k4c4 }
/-- com/example/tallyroot/tallyroot/overlay/NodeId -/
def k4 : Class := { plain "com/example/tallyroot/tallyroot/overlay/NodeId" (some 2) with
  accessFlags := 49
  interfaces := #[3]
  cf := some (fileOf pool4 8 #[] #[{ accessFlags := 1, nameIndex := 5, descriptorIndex := 33, attributes := #[] }, { accessFlags := 9, nameIndex := 96, descriptorIndex := 97, attributes := #[] }, { accessFlags := 10, nameIndex := 29, descriptorIndex := 30, attributes := #[] }, { accessFlags := 0, nameIndex := 60, descriptorIndex := 61, attributes := #[] }, { accessFlags := 1, nameIndex := 11, descriptorIndex := 102, attributes := #[] }] 49 2 #[87] #[{ accessFlags := 18, nameIndex := 11, descriptorIndex := 12, attributes := #[] }, { accessFlags := 25, nameIndex := 89, descriptorIndex := 90, attributes := #[] }, { accessFlags := 26, nameIndex := 68, descriptorIndex := 69, attributes := #[] }])
  fields := #[{ name := "bits", type := .long, accessFlags := 18, slot := 0, constantValue := 0 }, { name := "HEX_DIGITS", type := .int, accessFlags := 25, slot := 0, constantValue := 0 }, { name := "DIGITS", type := (.array .char), accessFlags := 26, slot := 1, constantValue := 0 }]
  methods := #[k4m0, k4m1, k4m2, k4m3, k4m4]
  instanceTypes := #[.long]
  staticTypes := #[.int, (.array .char)]
  resolved := Array.replicate 134 none
  statics := some 0 }

def pool5 : Array CpInfo := pool [(1, .class_ 2), (0, u "java/io/Serializable"), (0, .class_ 4), (0, u "java/lang/Object")] 2

/-- java/io/Serializable -/
def k5 : Class := { plain "java/io/Serializable" (some 0) with
  accessFlags := 1537
  interfaces := #[]
  cf := some (fileOf pool5 1 #[] #[] 1537 3 #[] #[])
  fields := #[]
  methods := #[]
  instanceTypes := #[]
  staticTypes := #[]
  resolved := Array.replicate 7 none
  statics := none }

def pool6 : Array CpInfo := pool [(2, .class_ 4), (1, u "java/lang/CharSequence"), (0, u "length"), (0, u "()I"), (38, u "charAt"), (0, u "(I)C"), (0, .class_ 48), (0, u "java/lang/CharSequence$1CodePointIterator"), (10, .class_ 60), (0, u "java/lang/CharSequence$1CharIterator"), (5, .class_ 67), (0, u "java/lang/Object")] 63

def k6m0 : Method := { name := "length", desc := "()I", sig := { parameters := [], returnType := some .int }, accessFlags := 1025, code := none }
def k6m1 : Method := { name := "charAt", desc := "(I)C", sig := { parameters := [.int], returnType := some .char }, accessFlags := 1025, code := none }
/-- java/lang/CharSequence -/
def k6 : Class := { plain "java/lang/CharSequence" (some 0) with
  accessFlags := 1537
  interfaces := #[]
  cf := some (fileOf pool6 2 #[.nestMembers #[47, 59]] #[{ accessFlags := 1025, nameIndex := 5, descriptorIndex := 6, attributes := #[] }, { accessFlags := 1025, nameIndex := 45, descriptorIndex := 46, attributes := #[] }] 1537 66 #[] #[])
  fields := #[]
  methods := #[k6m0, k6m1]
  instanceTypes := #[]
  staticTypes := #[]
  resolved := Array.replicate 131 none
  statics := none }

def pool7 : Array CpInfo := pool [(1, .class_ 2), (0, u "java/lang/constant/Constable"), (0, .class_ 4), (0, u "java/lang/Object")] 6

/-- java/lang/constant/Constable -/
def k7 : Class := { plain "java/lang/constant/Constable" (some 0) with
  accessFlags := 1537
  interfaces := #[]
  cf := some (fileOf pool7 1 #[] #[] 1537 3 #[] #[])
  fields := #[]
  methods := #[]
  instanceTypes := #[]
  staticTypes := #[]
  resolved := Array.replicate 11 none
  statics := none }

def pool8 : Array CpInfo := pool [(1, .class_ 2), (0, u "java/lang/constant/ConstantDesc"), (0, .class_ 4), (0, u "java/lang/Object")] 32

/-- java/lang/constant/ConstantDesc -/
def k8 : Class := { plain "java/lang/constant/ConstantDesc" (some 0) with
  accessFlags := 1537
  interfaces := #[]
  cf := some (fileOf pool8 1 #[] #[] 1537 3 #[] #[])
  fields := #[]
  methods := #[]
  instanceTypes := #[]
  staticTypes := #[]
  resolved := Array.replicate 37 none
  statics := none }

def pool9 : Array CpInfo := pool [(1, .methodref 2 3), (0, .class_ 4), (0, .nameAndType 5 6), (0, u "java/lang/Object"), (0, u "<init>"), (0, u "()V"), (2, .fieldref 10 11), (0, .class_ 12), (0, .nameAndType 13 14), (0, u "java/lang/String"), (0, u "value"), (0, u "[B"), (0, .fieldref 10 16), (0, .nameAndType 17 18), (0, u "coder"), (0, u "B"), (2, u "hash"), (0, u "I"), (2, u "hashIsZero"), (0, u "Z"), (0, .methodref 10 28), (0, .nameAndType 5 29), (0, u "([CIILjava/lang/Void;)V"), (8, .fieldref 10 39), (0, .nameAndType 40 26), (0, u "COMPACT_STRINGS"), (1, .class_ 44), (1, u "java/lang/StringUTF16"), (0, u "compress"), (1, .methodref 42 48), (0, .nameAndType 49 50), (0, u "coderFromArrayLen"), (0, u "([BI)B"), (56, .class_ 109), (1, u "java/lang/StringLatin1"), (32, u "()Z"), (34, .methodref 42 178), (0, .nameAndType 45 179), (0, u "([CII)[B"), (154, u "()I"), (0, .methodref 10 336), (0, .nameAndType 17 337), (0, u "()B"), (25, u "([BI)C"), (27, u "(II)V"), (35, u "(I)C"), (64, .methodref 10 493), (0, .nameAndType 494 142), (0, u "isLatin1"), (0, .methodref 107 496), (0, .nameAndType 497 363), (0, u "charAt"), (3, u "checkIndex"), (5, u "length"), (67, .class_ 576), (0, u "java/lang/CharSequence"), (22, u "CASE_INSENSITIVE_ORDER"), (0, u "Ljava/util/Comparator;"), (409, u "([C)V"), (42, .fieldref 1054 1055), (0, .class_ 1056), (0, .nameAndType 1057 1058), (0, u "jdk/internal/util/Preconditions"), (0, u "SIOOBE_FORMATTER"), (0, u "Ljava/util/function/BiFunction;"), (0, .methodref 1054 1060), (0, .nameAndType 501 1061), (0, u "(IILjava/util/function/BiFunction;)I"), (39, u "serialPersistentFields"), (0, u "[Ljava/io/ObjectStreamField;"), (0, .class_ 1104), (0, u "java/lang/String$CaseInsensitiveComparator"), (1, .class_ 1107), (0, u "java/io/Serializable"), (0, .class_ 1109), (0, u "java/lang/Comparable"), (0, .class_ 1111), (0, u "java/lang/constant/Constable"), (0, .class_ 1113), (0, u "java/lang/constant/ConstantDesc"), (2, u "serialVersionUID"), (0, u "J"), (3, u "REPL"), (0, u "C"), (2, u "LATIN1"), (1, u "UTF16")] 323

def k9m0 : Method := { name := "<init>", desc := "()V", sig := { parameters := [], returnType := none }, accessFlags := 1, code := none }
def k9c1 : Code := { maxStack := 5, maxLocals := 2, code := jdk_42_method_3_code, exceptionTable := #[], attributes := #[] }
def k9m1 : Method := { name := "<init>", desc := "([C)V", sig := { parameters := [(.array .char)], returnType := none }, accessFlags := 1, code := some k9c1 }
def k9c2 : Code := { maxStack := 2, maxLocals := 1, code := jdk_42_method_54_code, exceptionTable := #[], attributes := #[] }
def k9m2 : Method := { name := "length", desc := "()I", sig := { parameters := [], returnType := some .int }, accessFlags := 1, code := some k9c2 }
def k9c3 : Code := { maxStack := 2, maxLocals := 2, code := jdk_42_method_56_code, exceptionTable := #[], attributes := #[] }
def k9m3 : Method := { name := "charAt", desc := "(I)C", sig := { parameters := [.int], returnType := some .char }, accessFlags := 1, code := some k9c3 }
def k9c4 : Code := { maxStack := 4, maxLocals := 6, code := jdk_42_method_149_code, exceptionTable := #[], attributes := #[] }
def k9m4 : Method := { name := "<init>", desc := "([CIILjava/lang/Void;)V", sig := { parameters := [(.array .char), .int, .int, (.object "java/lang/Void")], returnType := none }, accessFlags := 2, code := some k9c4 }
def k9c5 : Code := { maxStack := 1, maxLocals := 1, code := jdk_42_method_152_code, exceptionTable := #[], attributes := #[] }
def k9m5 : Method := { name := "coder", desc := "()B", sig := { parameters := [], returnType := some .byte }, accessFlags := 0, code := some k9c5 }
def k9c6 : Code := { maxStack := 1, maxLocals := 1, code := jdk_42_method_154_code, exceptionTable := #[], attributes := #[] }
def k9m6 : Method := { name := "isLatin1", desc := "()Z", sig := { parameters := [], returnType := some .boolean }, accessFlags := 0, code := some k9c6 }
def k9c7 : Code := { maxStack := 3, maxLocals := 2, code := jdk_42_method_155_code, exceptionTable := #[], attributes := #[] }
def k9m7 : Method := { name := "checkIndex", desc := "(II)V", sig := { parameters := [.int, .int], returnType := none }, accessFlags := 8, code := some k9c7 }
/-- java/lang/String -/
def k9 : Class := { plain "java/lang/String" (some 0) with
  accessFlags := 49
  interfaces := #[5, 3, 6, 7, 8]
  cf := some (fileOf pool9 10 #[.nestMembers #[1103]] #[{ accessFlags := 1, nameIndex := 5, descriptorIndex := 6, attributes := #[] }, { accessFlags := 1, nameIndex := 5, descriptorIndex := 1010, attributes := #[] }, { accessFlags := 1, nameIndex := 507, descriptorIndex := 334, attributes := #[] }, { accessFlags := 1, nameIndex := 497, descriptorIndex := 427, attributes := #[] }, { accessFlags := 2, nameIndex := 5, descriptorIndex := 29, attributes := #[] }, { accessFlags := 0, nameIndex := 17, descriptorIndex := 337, attributes := #[] }, { accessFlags := 0, nameIndex := 494, descriptorIndex := 142, attributes := #[] }, { accessFlags := 8, nameIndex := 501, descriptorIndex := 391, attributes := #[] }] 49 2 #[1106, 1108, 575, 1110, 1112] #[{ accessFlags := 18, nameIndex := 13, descriptorIndex := 14, attributes := #[] }, { accessFlags := 18, nameIndex := 17, descriptorIndex := 18, attributes := #[] }, { accessFlags := 2, nameIndex := 21, descriptorIndex := 22, attributes := #[] }, { accessFlags := 2, nameIndex := 25, descriptorIndex := 26, attributes := #[] }, { accessFlags := 26, nameIndex := 1116, descriptorIndex := 1117, attributes := #[] }, { accessFlags := 24, nameIndex := 40, descriptorIndex := 26, attributes := #[] }, { accessFlags := 26, nameIndex := 1101, descriptorIndex := 1102, attributes := #[] }, { accessFlags := 26, nameIndex := 1121, descriptorIndex := 1122, attributes := #[] }, { accessFlags := 25, nameIndex := 599, descriptorIndex := 600, attributes := #[] }, { accessFlags := 24, nameIndex := 1125, descriptorIndex := 18, attributes := #[] }, { accessFlags := 24, nameIndex := 1127, descriptorIndex := 18, attributes := #[] }])
  fields := #[{ name := "value", type := (.array .byte), accessFlags := 18, slot := 0, constantValue := 0 }, { name := "coder", type := .byte, accessFlags := 18, slot := 1, constantValue := 0 }, { name := "hash", type := .int, accessFlags := 2, slot := 2, constantValue := 0 }, { name := "hashIsZero", type := .boolean, accessFlags := 2, slot := 3, constantValue := 0 }, { name := "serialVersionUID", type := .long, accessFlags := 26, slot := 0, constantValue := 0 }, { name := "COMPACT_STRINGS", type := .boolean, accessFlags := 24, slot := 1, constantValue := 0 }, { name := "serialPersistentFields", type := (.array (.object "java/io/ObjectStreamField")), accessFlags := 26, slot := 2, constantValue := 0 }, { name := "REPL", type := .char, accessFlags := 26, slot := 3, constantValue := 0 }, { name := "CASE_INSENSITIVE_ORDER", type := (.object "java/util/Comparator"), accessFlags := 25, slot := 4, constantValue := 0 }, { name := "LATIN1", type := .byte, accessFlags := 24, slot := 5, constantValue := 0 }, { name := "UTF16", type := .byte, accessFlags := 24, slot := 6, constantValue := 0 }]
  methods := #[k9m0, k9m1, k9m2, k9m3, k9m4, k9m5, k9m6, k9m7]
  instanceTypes := #[(.array .byte), .byte, .int, .boolean]
  staticTypes := #[.long, .boolean, (.array (.object "java/io/ObjectStreamField")), .char, (.object "java/util/Comparator"), .byte, .byte]
  resolved := Array.replicate 1451 none
  statics := some 1 }

def pool10 : Array CpInfo := pool [(6, .class_ 8), (1, u "java/lang/Object"), (0, u "<init>"), (0, u "()V"), (1, .class_ 14), (1, u "java/lang/StringUTF16"), (31, u "$assertionsDisabled"), (0, u "Z"), (13, u "HI_BYTE_SHIFT"), (0, u "I"), (2, u "LO_BYTE_SHIFT"), (49, .methodref 12 116), (0, .nameAndType 117 118), (0, u "compress"), (0, u "([CI[BII)I"), (3, u "([CII)[B"), (138, u "coderFromArrayLen"), (0, u "([BI)B"), (106, .class_ 371), (1, u "java/lang/StringUTF16$LinesSpliterator"), (58, u "MAX_LENGTH"), (196, .class_ 628), (0, u "java/lang/StringUTF16$CodePointsSpliterator"), (0, .class_ 630), (0, u "java/lang/StringUTF16$CharsSpliterator")] 4

def k10m0 : Method := { name := "<init>", desc := "()V", sig := { parameters := [], returnType := none }, accessFlags := 0, code := none }
def k10c1 : Code := { maxStack := 2, maxLocals := 2, code := jdk_52_method_15_code, exceptionTable := #[], attributes := #[] }
def k10m1 : Method := { name := "coderFromArrayLen", desc := "([BI)B", sig := { parameters := [(.array .byte), .int], returnType := some .byte }, accessFlags := 8, code := some k10c1 }
def k10c2 : Code := { maxStack := 5, maxLocals := 6, code := jdk_52_method_16_code, exceptionTable := #[], attributes := #[] }
def k10m2 : Method := { name := "compress", desc := "([CII)[B", sig := { parameters := [(.array .char), .int, .int], returnType := some (.array .byte) }, accessFlags := 9, code := some k10c2 }
def k10c3 : Code := { maxStack := 3, maxLocals := 7, code := jdk_52_method_21_code, exceptionTable := #[], attributes := #[] }
def k10m3 : Method := { name := "compress", desc := "([CI[BII)I", sig := { parameters := [(.array .char), .int, (.array .byte), .int, .int], returnType := some .int }, accessFlags := 9, code := some k10c3 }
/-- java/lang/StringUTF16 -/
def k10 : Class := { plain "java/lang/StringUTF16" (some 0) with
  accessFlags := 48
  interfaces := #[]
  cf := some (fileOf pool10 12 #[.nestMembers #[627, 629, 369]] #[{ accessFlags := 0, nameIndex := 9, descriptorIndex := 10, attributes := #[] }, { accessFlags := 8, nameIndex := 261, descriptorIndex := 262, attributes := #[] }, { accessFlags := 9, nameIndex := 117, descriptorIndex := 122, attributes := #[] }, { accessFlags := 9, nameIndex := 117, descriptorIndex := 118, attributes := #[] }] 48 6 #[] #[{ accessFlags := 26, nameIndex := 61, descriptorIndex := 62, attributes := #[] }, { accessFlags := 26, nameIndex := 65, descriptorIndex := 62, attributes := #[] }, { accessFlags := 24, nameIndex := 430, descriptorIndex := 62, attributes := #[] }, { accessFlags := 4120, nameIndex := 46, descriptorIndex := 47, attributes := #[] }])
  fields := #[{ name := "HI_BYTE_SHIFT", type := .int, accessFlags := 26, slot := 0, constantValue := 0 }, { name := "LO_BYTE_SHIFT", type := .int, accessFlags := 26, slot := 1, constantValue := 0 }, { name := "MAX_LENGTH", type := .int, accessFlags := 24, slot := 2, constantValue := 0 }, { name := "$assertionsDisabled", type := .boolean, accessFlags := 4120, slot := 3, constantValue := 0 }]
  methods := #[k10m0, k10m1, k10m2, k10m3]
  instanceTypes := #[]
  staticTypes := #[.int, .int, .int, .boolean]
  resolved := Array.replicate 635 none
  statics := none }

def pool11 : Array CpInfo := pool [(1, .class_ 2), (0, u "java/lang/String"), (1, .class_ 6), (1, u "java/lang/Object"), (0, u "<init>"), (0, u "()V"), (0, .methodref 1 10), (0, .nameAndType 11 12), (0, u "checkIndex"), (0, u "(II)V"), (1, .class_ 16), (1, u "java/lang/StringLatin1"), (36, u "([BI)C"), (67, u "$assertionsDisabled"), (0, u "Z"), (98, .class_ 223), (1, u "java/lang/StringLatin1$LinesSpliterator"), (28, u "charAt"), (137, .class_ 391), (0, u "java/lang/StringLatin1$CharsSpliterator")] 3

def k11m0 : Method := { name := "<init>", desc := "()V", sig := { parameters := [], returnType := none }, accessFlags := 0, code := none }
def k11c1 : Code := { maxStack := 2, maxLocals := 2, code := jdk_43_method_2_code, exceptionTable := #[], attributes := #[] }
def k11m1 : Method := { name := "charAt", desc := "([BI)C", sig := { parameters := [(.array .byte), .int], returnType := some .char }, accessFlags := 9, code := some k11c1 }
/-- java/lang/StringLatin1 -/
def k11 : Class := { plain "java/lang/StringLatin1" (some 0) with
  accessFlags := 48
  interfaces := #[]
  cf := some (fileOf pool11 14 #[.nestMembers #[390, 221]] #[{ accessFlags := 0, nameIndex := 7, descriptorIndex := 8, attributes := #[] }, { accessFlags := 9, nameIndex := 252, descriptorIndex := 53, attributes := #[] }] 48 4 #[] #[{ accessFlags := 4120, nameIndex := 121, descriptorIndex := 122, attributes := #[] }])
  fields := #[{ name := "$assertionsDisabled", type := .boolean, accessFlags := 4120, slot := 0, constantValue := 0 }]
  methods := #[k11m0, k11m1]
  instanceTypes := #[]
  staticTypes := #[.boolean]
  resolved := Array.replicate 395 none
  statics := none }

def pool12 : Array CpInfo := pool [(2, .class_ 4), (1, u "java/lang/Object"), (0, u "<init>"), (0, u "()V"), (17, .class_ 26), (1, u "jdk/internal/util/Preconditions"), (6, u "checkIndex"), (21, .class_ 56), (0, u "jdk/internal/util/Preconditions$4"), (57, .class_ 115), (0, u "jdk/internal/util/Preconditions$1"), (7, u "SIOOBE_FORMATTER"), (0, u "Ljava/util/function/BiFunction;"), (0, .class_ 126), (0, u "jdk/internal/util/Preconditions$2"), (3, u "AIOOBE_FORMATTER"), (0, .class_ 132), (0, u "jdk/internal/util/Preconditions$3"), (3, u "IOOBE_FORMATTER"), (41, u "(IILjava/util/function/BiFunction;)I")] 15

def k12m0 : Method := { name := "<init>", desc := "()V", sig := { parameters := [], returnType := none }, accessFlags := 1, code := none }
def k12c1 : Code := { maxStack := 3, maxLocals := 3, code := jdk_41_method_11_code, exceptionTable := #[], attributes := #[] }
def k12m1 : Method := { name := "checkIndex", desc := "(IILjava/util/function/BiFunction;)I", sig := { parameters := [.int, .int, (.object "java/util/function/BiFunction")], returnType := some .int }, accessFlags := 9, code := some k12c1 }
/-- jdk/internal/util/Preconditions -/
def k12 : Class := { plain "jdk/internal/util/Preconditions" (some 0) with
  accessFlags := 33
  interfaces := #[]
  cf := some (fileOf pool12 24 #[.nestMembers #[55, 131, 125, 114]] #[{ accessFlags := 1, nameIndex := 5, descriptorIndex := 6, attributes := #[] }, { accessFlags := 9, nameIndex := 33, descriptorIndex := 178, attributes := #[] }] 33 2 #[] #[{ accessFlags := 25, nameIndex := 123, descriptorIndex := 124, attributes := #[] }, { accessFlags := 25, nameIndex := 130, descriptorIndex := 124, attributes := #[] }, { accessFlags := 25, nameIndex := 136, descriptorIndex := 124, attributes := #[] }])
  fields := #[{ name := "SIOOBE_FORMATTER", type := (.object "java/util/function/BiFunction"), accessFlags := 25, slot := 0, constantValue := 0 }, { name := "AIOOBE_FORMATTER", type := (.object "java/util/function/BiFunction"), accessFlags := 25, slot := 1, constantValue := 0 }, { name := "IOOBE_FORMATTER", type := (.object "java/util/function/BiFunction"), accessFlags := 25, slot := 2, constantValue := 0 }]
  methods := #[k12m0, k12m1]
  instanceTypes := #[]
  staticTypes := #[(.object "java/util/function/BiFunction"), (.object "java/util/function/BiFunction"), (.object "java/util/function/BiFunction")]
  resolved := Array.replicate 194 none
  statics := some 2 }

def pool13 : Array CpInfo := pool [(9, u "<init>"), (6, .class_ 18), (1, u "java/lang/Object"), (0, u "()V"), (1, .class_ 23), (1, u "jdk/internal/util/ArraysSupport"), (0, u "LOG2_ARRAY_LONG_INDEX_SCALE"), (0, u "I"), (2, u "U"), (0, u "Ljdk/internal/misc/Unsafe;"), (8, u "BIG_ENDIAN"), (0, u "Z"), (8, u "LOG2_BYTE_BIT_SIZE"), (4, u "LOG2_ARRAY_INT_INDEX_SCALE"), (54, u "JLA"), (0, u "Ljdk/internal/access/JavaLangAccess;"), (11, u "LOG2_ARRAY_BOOLEAN_INDEX_SCALE"), (9, u "LOG2_ARRAY_BYTE_INDEX_SCALE"), (5, u "LOG2_ARRAY_CHAR_INDEX_SCALE"), (5, u "LOG2_ARRAY_SHORT_INDEX_SCALE"), (18, u "LOG2_ARRAY_FLOAT_INDEX_SCALE"), (24, u "LOG2_ARRAY_DOUBLE_INDEX_SCALE"), (89, u "T_BOOLEAN"), (2, u "T_CHAR"), (1, u "T_FLOAT"), (1, u "T_DOUBLE"), (1, u "T_BYTE"), (1, u "T_SHORT"), (1, u "T_INT"), (1, u "T_LONG"), (1, u "SOFT_MAX_ARRAY_LENGTH")] 83

def k13m0 : Method := { name := "<init>", desc := "()V", sig := { parameters := [], returnType := none }, accessFlags := 2, code := none }
/-- jdk/internal/util/ArraysSupport -/
def k13 : Class := { plain "jdk/internal/util/ArraysSupport" (some 0) with
  accessFlags := 33
  interfaces := #[]
  cf := some (fileOf pool13 21 #[] #[{ accessFlags := 2, nameIndex := 9, descriptorIndex := 19, attributes := #[] }] 33 16 #[] #[{ accessFlags := 24, nameIndex := 28, descriptorIndex := 29, attributes := #[] }, { accessFlags := 26, nameIndex := 38, descriptorIndex := 39, attributes := #[] }, { accessFlags := 25, nameIndex := 121, descriptorIndex := 25, attributes := #[] }, { accessFlags := 25, nameIndex := 131, descriptorIndex := 25, attributes := #[] }, { accessFlags := 25, nameIndex := 137, descriptorIndex := 25, attributes := #[] }, { accessFlags := 25, nameIndex := 143, descriptorIndex := 25, attributes := #[] }, { accessFlags := 25, nameIndex := 53, descriptorIndex := 25, attributes := #[] }, { accessFlags := 25, nameIndex := 24, descriptorIndex := 25, attributes := #[] }, { accessFlags := 25, nameIndex := 162, descriptorIndex := 25, attributes := #[] }, { accessFlags := 25, nameIndex := 187, descriptorIndex := 25, attributes := #[] }, { accessFlags := 26, nameIndex := 48, descriptorIndex := 25, attributes := #[] }, { accessFlags := 25, nameIndex := 277, descriptorIndex := 25, attributes := #[] }, { accessFlags := 25, nameIndex := 280, descriptorIndex := 25, attributes := #[] }, { accessFlags := 25, nameIndex := 282, descriptorIndex := 25, attributes := #[] }, { accessFlags := 25, nameIndex := 284, descriptorIndex := 25, attributes := #[] }, { accessFlags := 25, nameIndex := 286, descriptorIndex := 25, attributes := #[] }, { accessFlags := 25, nameIndex := 288, descriptorIndex := 25, attributes := #[] }, { accessFlags := 25, nameIndex := 290, descriptorIndex := 25, attributes := #[] }, { accessFlags := 25, nameIndex := 292, descriptorIndex := 25, attributes := #[] }, { accessFlags := 26, nameIndex := 108, descriptorIndex := 109, attributes := #[] }, { accessFlags := 25, nameIndex := 294, descriptorIndex := 25, attributes := #[] }])
  fields := #[{ name := "U", type := (.object "jdk/internal/misc/Unsafe"), accessFlags := 24, slot := 0, constantValue := 0 }, { name := "BIG_ENDIAN", type := .boolean, accessFlags := 26, slot := 1, constantValue := 0 }, { name := "LOG2_ARRAY_BOOLEAN_INDEX_SCALE", type := .int, accessFlags := 25, slot := 2, constantValue := 0 }, { name := "LOG2_ARRAY_BYTE_INDEX_SCALE", type := .int, accessFlags := 25, slot := 3, constantValue := 0 }, { name := "LOG2_ARRAY_CHAR_INDEX_SCALE", type := .int, accessFlags := 25, slot := 4, constantValue := 0 }, { name := "LOG2_ARRAY_SHORT_INDEX_SCALE", type := .int, accessFlags := 25, slot := 5, constantValue := 0 }, { name := "LOG2_ARRAY_INT_INDEX_SCALE", type := .int, accessFlags := 25, slot := 6, constantValue := 0 }, { name := "LOG2_ARRAY_LONG_INDEX_SCALE", type := .int, accessFlags := 25, slot := 7, constantValue := 0 }, { name := "LOG2_ARRAY_FLOAT_INDEX_SCALE", type := .int, accessFlags := 25, slot := 8, constantValue := 0 }, { name := "LOG2_ARRAY_DOUBLE_INDEX_SCALE", type := .int, accessFlags := 25, slot := 9, constantValue := 0 }, { name := "LOG2_BYTE_BIT_SIZE", type := .int, accessFlags := 26, slot := 10, constantValue := 0 }, { name := "T_BOOLEAN", type := .int, accessFlags := 25, slot := 11, constantValue := 0 }, { name := "T_CHAR", type := .int, accessFlags := 25, slot := 12, constantValue := 0 }, { name := "T_FLOAT", type := .int, accessFlags := 25, slot := 13, constantValue := 0 }, { name := "T_DOUBLE", type := .int, accessFlags := 25, slot := 14, constantValue := 0 }, { name := "T_BYTE", type := .int, accessFlags := 25, slot := 15, constantValue := 0 }, { name := "T_SHORT", type := .int, accessFlags := 25, slot := 16, constantValue := 0 }, { name := "T_INT", type := .int, accessFlags := 25, slot := 17, constantValue := 0 }, { name := "T_LONG", type := .int, accessFlags := 25, slot := 18, constantValue := 0 }, { name := "JLA", type := (.object "jdk/internal/access/JavaLangAccess"), accessFlags := 26, slot := 19, constantValue := 0 }, { name := "SOFT_MAX_ARRAY_LENGTH", type := .int, accessFlags := 25, slot := 20, constantValue := 0 }]
  methods := #[k13m0]
  instanceTypes := #[]
  staticTypes := #[(.object "jdk/internal/misc/Unsafe"), .boolean, .int, .int, .int, .int, .int, .int, .int, .int, .int, .int, .int, .int, .int, .int, .int, .int, .int, (.object "jdk/internal/access/JavaLangAccess"), .int]
  resolved := Array.replicate 378 none
  statics := none }

def pool14 : Array CpInfo := pool [(1, u "java/lang/Cloneable"), (0, .class_ 1), (0, u "java/lang/Object"), (0, .class_ 3)] 3

/-- java/lang/Cloneable -/
def k14 : Class := { plain "java/lang/Cloneable" (some 0) with
  accessFlags := 1537
  interfaces := #[]
  cf := some (fileOf pool14 2 #[] #[] 1537 4 #[] #[])
  fields := #[]
  methods := #[]
  instanceTypes := #[]
  staticTypes := #[]
  resolved := Array.replicate 8 none
  statics := none }

/-- the primitive byte -/
def k15 : Class := { plain "byte" none with kind := .primitive 'B', accessFlags := 0x411 }
/-- [B -/
def k16 : Class := { plain "[B" (some 0) with kind := .array 15 .byte, interfaces := #[14, 5], accessFlags := 1041 }

/-- the primitive char -/
def k17 : Class := { plain "char" none with kind := .primitive 'C', accessFlags := 0x411 }
/-- [C -/
def k18 : Class := { plain "[C" (some 0) with kind := .array 17 .char, interfaces := #[14, 5], accessFlags := 1041 }

/-- the primitive int -/
def k19 : Class := { plain "int" none with kind := .primitive 'I', accessFlags := 0x411 }
/-- [I -/
def k20 : Class := { plain "[I" (some 0) with kind := .array 19 .int, interfaces := #[14, 5], accessFlags := 1041 }

def heap : Heap := #[{ cls := 4, slots := #[.int 0, .ref 3], vm := .statics 4 },
  { cls := 9, slots := #[.long 0, .int 1, .null, .int 0, .null, .int 0, .int 0], vm := .statics 9 },
  { cls := 12, slots := #[.null, .null, .null], vm := .statics 12 },
  { cls := 18, slots := #[.int 48, .int 49, .int 50, .int 51, .int 52, .int 53, .int 54, .int 55, .int 56, .int 57, .int 97, .int 98, .int 99, .int 100, .int 101, .int 102], vm := .none }]
def classes : Array Class := #[k0, k1, k2, k3, k4, k5, k6, k7, k8, k9, k10, k11, k12, k13, k14, k15, k16, k17, k18, k19, k20]
def interned : List (Array UInt16 × Addr) := []
def slotsUsed : Nat := 28
def theMethod : MethodId := ⟨1, 1⟩
def args0 : Array Value := #[.long 5, .int 7]
def aboutOver (below : List Frame) : State where
  vm := { classes := classes, interned := interned.toArray }
  heap := heap
  slotsUsed := slotsUsed
  threads := #[{ frames := .invoking theMethod args0 :: below }]
def below0 : List Frame := [.native { method := ⟨0, 0⟩, args := #[] }]
def about1 : State := aboutOver below0
def p0 : Program := .bare "" "" ""
def e0 : Env := launch0.env 0 0 0
theorem w_frames : about1.frames = Frame.invoking theMethod args0 :: below0 := rfl
set_option maxRecDepth 65536 in
theorem w_args : argsFit about1.vm theMethod args0 = true := by decide +kernel
set_option maxRecDepth 65536 in
theorem w_heap : heapFits about1 = true := by decide +kernel
set_option maxRecDepth 65536 in
theorem w_runnable : about1.curStatus? = some .runnable := by decide +kernel
set_option maxRecDepth 65536 in
theorem w_alone : about1.alone = true := by decide +kernel
set_option maxRecDepth 65536 in
theorem w_named : about1.methodNamed? x = some theMethod := by decide +kernel
set_option maxRecDepth 65536 in
theorem w_hears : about1.hears theMethod below0 = true := by decide +kernel
set_option maxRecDepth 65536 in
theorem w_ripe : about1.ripe theMethod args0 below0 = true := by decide +kernel
theorem w_running : about1.status = .running := rfl
set_option maxRecDepth 65536 in
theorem w_room : about1.hasRoom e0.platform room_1 = true :=
  launch0.hasRoom_least _ room_1 (by decide +kernel) (by decide +kernel) (by decide +kernel) (by decide +kernel) (by decide +kernel) (by decide +kernel)
theorem allAtoms_all (ts : List Jvm.Cond) (a : Array Jvm.Value) (st : Jvm.State) : (allAtoms ts).before a st = ts.all (fun c => c.before a st) := by
  induction ts with
  | nil => rfl
  | cons c t ih =>
    show (Jvm.Cond.and c (allAtoms t)).before a st = _
    rw [Jvm.Cond.before_and, ih, List.all_cons]
def words1 : List Jvm.Cond := Jvm.Cond.code x code maxLocals ret :: tables_1
/-- a 'code' word, met by the world's own term for the bytes: nothing is compared byte by byte -/
theorem code_word {y : MethodName} {bytes : ByteArray} {mx : Nat} {rt : Option FieldType} {a : Array Value} {s : State} {m : MethodId} {meth : Method} {c : Code} (h1 : s.methodNamed? y = some m) (h2 : s.vm.method? m = some meth) (h3 : meth.code = some c) (h4 : c.code = bytes)
    (h5 : (c.maxLocals == mx && c.exceptionTable.isEmpty && decide (c.maxStack ≤ mostOperands) && decide (meth.sig.returnType = rt) && !meth.locks && decide (parseMethodDescriptor y.desc = some meth.sig)) = true) : (Jvm.Cond.code y bytes mx rt).before a s = true := by
  simp only [Bool.and_eq_true, beq_iff_eq, Bool.not_eq_true', decide_eq_true_eq] at h5
  obtain ⟨⟨⟨⟨⟨g1, g2⟩, g3⟩, g4⟩, g5⟩, g6⟩ := h5
  simp [Cond.before, Cond.holds, Cond.value, h1, h2, h3, h4, g1, g2, g3, g4, g5, g6]
def isCode : Jvm.Cond → Bool
  | .code _ _ _ _ => true
  | _ => false
theorem all_split {L : List Jvm.Cond} {P : Jvm.Cond → Bool} (h1 : L.all (fun c => isCode c || P c) = true) (h2 : ∀ c ∈ L.filter isCode, P c = true) : L.all P = true := by
  refine List.all_eq_true.mpr fun c hc => ?_
  have h := List.all_eq_true.mp h1 c hc
  rcases Bool.eq_false_or_eq_true (isCode c) with hi | hi
  · exact h2 c (List.mem_filter.mpr ⟨hc, hi⟩)
  · simpa [hi] using h
set_option maxRecDepth 65536 in
theorem w_c0 : (Jvm.Cond.code x code maxLocals ret).before args0 about1 = true := code_word (m := ⟨1, 1⟩) (meth := k1m1) (c := k1c1) (by decide +kernel) rfl rfl rfl (by decide +kernel)
set_option maxRecDepth 65536 in
theorem w_c1 : (Jvm.Cond.code ({ cls := "com/example/tallyroot/tallyroot/overlay/NodeId", name := "<init>", desc := "(J)V" } : Jvm.MethodName) prog_42_method_1_code (3 : Nat) (Option.none : Option Jvm.ClassFile.FieldType)).before args0 about1 = true := code_word (m := ⟨4, 0⟩) (meth := k4m0) (c := k4c0) (by decide +kernel) rfl rfl rfl (by decide +kernel)
set_option maxRecDepth 65536 in
theorem w_c2 : (Jvm.Cond.code ({ cls := "java/lang/Record", name := "<init>", desc := "()V" } : Jvm.MethodName) jdk_30_method_1_code (1 : Nat) (Option.none : Option Jvm.ClassFile.FieldType)).before args0 about1 = true := code_word (m := ⟨2, 0⟩) (meth := k2m0) (c := k2c0) (by decide +kernel) rfl rfl rfl (by decide +kernel)
set_option maxRecDepth 65536 in
theorem w_c3 : (Jvm.Cond.code ({ cls := "java/lang/Object", name := "<init>", desc := "()V" } : Jvm.MethodName) object_method_1_code (1 : Nat) (Option.none : Option Jvm.ClassFile.FieldType)).before args0 about1 = true := code_word (m := ⟨0, 0⟩) (meth := k0m0) (c := k0c0) (by decide +kernel) rfl rfl rfl (by decide +kernel)
set_option maxRecDepth 65536 in
theorem w_c4 : (Jvm.Cond.code ({ cls := "com/example/tallyroot/tallyroot/overlay/NodeId", name := "writeTo", desc := "([C)V" } : Jvm.MethodName) prog_42_method_8_code (4 : Nat) (Option.none : Option Jvm.ClassFile.FieldType)).before args0 about1 = true := code_word (m := ⟨4, 3⟩) (meth := k4m3) (c := k4c3) (by decide +kernel) rfl rfl rfl (by decide +kernel)
set_option maxRecDepth 65536 in
theorem w_c5 : (Jvm.Cond.code ({ cls := "com/example/tallyroot/tallyroot/overlay/NodeIdWriteToPinLaw", name := "hex", desc := "(C)Z" } : Jvm.MethodName) method_3_code (1 : Nat) (Option.some Jvm.ClassFile.FieldType.boolean)).before args0 about1 = true := code_word (m := ⟨1, 2⟩) (meth := k1m2) (c := k1c2) (by decide +kernel) rfl rfl rfl (by decide +kernel)
set_option maxRecDepth 65536 in
theorem w_c6 : (Jvm.Cond.code ({ cls := "java/lang/String", name := "<init>", desc := "([C)V" } : Jvm.MethodName) jdk_42_method_3_code (2 : Nat) (Option.none : Option Jvm.ClassFile.FieldType)).before args0 about1 = true := code_word (m := ⟨9, 1⟩) (meth := k9m1) (c := k9c1) (by decide +kernel) rfl rfl rfl (by decide +kernel)
set_option maxRecDepth 65536 in
theorem w_c7 : (Jvm.Cond.code ({ cls := "java/lang/String", name := "<init>", desc := "([CIILjava/lang/Void;)V" } : Jvm.MethodName) jdk_42_method_149_code (6 : Nat) (Option.none : Option Jvm.ClassFile.FieldType)).before args0 about1 = true := code_word (m := ⟨9, 4⟩) (meth := k9m4) (c := k9c4) (by decide +kernel) rfl rfl rfl (by decide +kernel)
set_option maxRecDepth 65536 in
theorem w_c8 : (Jvm.Cond.code ({ cls := "java/lang/StringUTF16", name := "compress", desc := "([CII)[B" } : Jvm.MethodName) jdk_52_method_16_code (6 : Nat) (Option.some (Jvm.ClassFile.FieldType.array Jvm.ClassFile.FieldType.byte))).before args0 about1 = true := code_word (m := ⟨10, 2⟩) (meth := k10m2) (c := k10c2) (by decide +kernel) rfl rfl rfl (by decide +kernel)
set_option maxRecDepth 65536 in
theorem w_c9 : (Jvm.Cond.code ({ cls := "java/lang/StringUTF16", name := "compress", desc := "([CI[BII)I" } : Jvm.MethodName) jdk_52_method_21_code (7 : Nat) (Option.some Jvm.ClassFile.FieldType.int)).before args0 about1 = true := code_word (m := ⟨10, 3⟩) (meth := k10m3) (c := k10c3) (by decide +kernel) rfl rfl rfl (by decide +kernel)
set_option maxRecDepth 65536 in
theorem w_c10 : (Jvm.Cond.code ({ cls := "java/lang/StringUTF16", name := "coderFromArrayLen", desc := "([BI)B" } : Jvm.MethodName) jdk_52_method_15_code (2 : Nat) (Option.some Jvm.ClassFile.FieldType.byte)).before args0 about1 = true := code_word (m := ⟨10, 1⟩) (meth := k10m1) (c := k10c1) (by decide +kernel) rfl rfl rfl (by decide +kernel)
set_option maxRecDepth 65536 in
theorem w_c11 : (Jvm.Cond.code ({ cls := "com/example/tallyroot/tallyroot/overlay/NodeId", name := "parse", desc := "(Ljava/lang/CharSequence;)Lcom/example/tallyroot/tallyroot/overlay/NodeId;" } : Jvm.MethodName) prog_42_method_2_code (4 : Nat) (Option.some (Jvm.ClassFile.FieldType.object "com/example/tallyroot/tallyroot/overlay/NodeId"))).before args0 about1 = true := code_word (m := ⟨4, 1⟩) (meth := k4m1) (c := k4c1) (by decide +kernel) rfl rfl rfl (by decide +kernel)
set_option maxRecDepth 65536 in
theorem w_c12 : (Jvm.Cond.code ({ cls := "java/lang/String", name := "length", desc := "()I" } : Jvm.MethodName) jdk_42_method_54_code (1 : Nat) (Option.some Jvm.ClassFile.FieldType.int)).before args0 about1 = true := code_word (m := ⟨9, 2⟩) (meth := k9m2) (c := k9c2) (by decide +kernel) rfl rfl rfl (by decide +kernel)
set_option maxRecDepth 65536 in
theorem w_c13 : (Jvm.Cond.code ({ cls := "java/lang/String", name := "coder", desc := "()B" } : Jvm.MethodName) jdk_42_method_152_code (1 : Nat) (Option.some Jvm.ClassFile.FieldType.byte)).before args0 about1 = true := code_word (m := ⟨9, 5⟩) (meth := k9m5) (c := k9c5) (by decide +kernel) rfl rfl rfl (by decide +kernel)
set_option maxRecDepth 65536 in
theorem w_c14 : (Jvm.Cond.code ({ cls := "java/lang/String", name := "charAt", desc := "(I)C" } : Jvm.MethodName) jdk_42_method_56_code (2 : Nat) (Option.some Jvm.ClassFile.FieldType.char)).before args0 about1 = true := code_word (m := ⟨9, 3⟩) (meth := k9m3) (c := k9c3) (by decide +kernel) rfl rfl rfl (by decide +kernel)
set_option maxRecDepth 65536 in
theorem w_c15 : (Jvm.Cond.code ({ cls := "java/lang/String", name := "isLatin1", desc := "()Z" } : Jvm.MethodName) jdk_42_method_154_code (1 : Nat) (Option.some Jvm.ClassFile.FieldType.boolean)).before args0 about1 = true := code_word (m := ⟨9, 6⟩) (meth := k9m6) (c := k9c6) (by decide +kernel) rfl rfl rfl (by decide +kernel)
set_option maxRecDepth 65536 in
theorem w_c16 : (Jvm.Cond.code ({ cls := "java/lang/StringLatin1", name := "charAt", desc := "([BI)C" } : Jvm.MethodName) jdk_43_method_2_code (2 : Nat) (Option.some Jvm.ClassFile.FieldType.char)).before args0 about1 = true := code_word (m := ⟨11, 1⟩) (meth := k11m1) (c := k11c1) (by decide +kernel) rfl rfl rfl (by decide +kernel)
set_option maxRecDepth 65536 in
theorem w_c17 : (Jvm.Cond.code ({ cls := "java/lang/String", name := "checkIndex", desc := "(II)V" } : Jvm.MethodName) jdk_42_method_155_code (2 : Nat) (Option.none : Option Jvm.ClassFile.FieldType)).before args0 about1 = true := code_word (m := ⟨9, 7⟩) (meth := k9m7) (c := k9c7) (by decide +kernel) rfl rfl rfl (by decide +kernel)
set_option maxRecDepth 65536 in
theorem w_c18 : (Jvm.Cond.code ({ cls := "jdk/internal/util/Preconditions", name := "checkIndex", desc := "(IILjava/util/function/BiFunction;)I" } : Jvm.MethodName) jdk_41_method_11_code (3 : Nat) (Option.some Jvm.ClassFile.FieldType.int)).before args0 about1 = true := code_word (m := ⟨12, 1⟩) (meth := k12m1) (c := k12c1) (by decide +kernel) rfl rfl rfl (by decide +kernel)
set_option maxRecDepth 65536 in
theorem w_c19 : (Jvm.Cond.code ({ cls := "com/example/tallyroot/tallyroot/overlay/NodeId", name := "hexDigit", desc := "(CLjava/lang/CharSequence;)I" } : Jvm.MethodName) prog_42_method_3_code (2 : Nat) (Option.some Jvm.ClassFile.FieldType.int)).before args0 about1 = true := code_word (m := ⟨4, 2⟩) (meth := k4m2) (c := k4c2) (by decide +kernel) rfl rfl rfl (by decide +kernel)
set_option maxRecDepth 65536 in
theorem w_c20 : (Jvm.Cond.code ({ cls := "com/example/tallyroot/tallyroot/overlay/NodeId", name := "bits", desc := "()J" } : Jvm.MethodName) prog_42_method_11_code (1 : Nat) (Option.some Jvm.ClassFile.FieldType.long)).before args0 about1 = true := code_word (m := ⟨4, 4⟩) (meth := k4m4) (c := k4c4) (by decide +kernel) rfl rfl rfl (by decide +kernel)
def codes1 : List Jvm.Cond := [Jvm.Cond.code x code maxLocals ret, Jvm.Cond.code ({ cls := "com/example/tallyroot/tallyroot/overlay/NodeId", name := "<init>", desc := "(J)V" } : Jvm.MethodName) prog_42_method_1_code (3 : Nat) (Option.none : Option Jvm.ClassFile.FieldType), Jvm.Cond.code ({ cls := "java/lang/Record", name := "<init>", desc := "()V" } : Jvm.MethodName) jdk_30_method_1_code (1 : Nat) (Option.none : Option Jvm.ClassFile.FieldType), Jvm.Cond.code ({ cls := "java/lang/Object", name := "<init>", desc := "()V" } : Jvm.MethodName) object_method_1_code (1 : Nat) (Option.none : Option Jvm.ClassFile.FieldType), Jvm.Cond.code ({ cls := "com/example/tallyroot/tallyroot/overlay/NodeId", name := "writeTo", desc := "([C)V" } : Jvm.MethodName) prog_42_method_8_code (4 : Nat) (Option.none : Option Jvm.ClassFile.FieldType), Jvm.Cond.code ({ cls := "com/example/tallyroot/tallyroot/overlay/NodeIdWriteToPinLaw", name := "hex", desc := "(C)Z" } : Jvm.MethodName) method_3_code (1 : Nat) (Option.some Jvm.ClassFile.FieldType.boolean), Jvm.Cond.code ({ cls := "java/lang/String", name := "<init>", desc := "([C)V" } : Jvm.MethodName) jdk_42_method_3_code (2 : Nat) (Option.none : Option Jvm.ClassFile.FieldType), Jvm.Cond.code ({ cls := "java/lang/String", name := "<init>", desc := "([CIILjava/lang/Void;)V" } : Jvm.MethodName) jdk_42_method_149_code (6 : Nat) (Option.none : Option Jvm.ClassFile.FieldType), Jvm.Cond.code ({ cls := "java/lang/StringUTF16", name := "compress", desc := "([CII)[B" } : Jvm.MethodName) jdk_52_method_16_code (6 : Nat) (Option.some (Jvm.ClassFile.FieldType.array Jvm.ClassFile.FieldType.byte)), Jvm.Cond.code ({ cls := "java/lang/StringUTF16", name := "compress", desc := "([CI[BII)I" } : Jvm.MethodName) jdk_52_method_21_code (7 : Nat) (Option.some Jvm.ClassFile.FieldType.int), Jvm.Cond.code ({ cls := "java/lang/StringUTF16", name := "coderFromArrayLen", desc := "([BI)B" } : Jvm.MethodName) jdk_52_method_15_code (2 : Nat) (Option.some Jvm.ClassFile.FieldType.byte), Jvm.Cond.code ({ cls := "com/example/tallyroot/tallyroot/overlay/NodeId", name := "parse", desc := "(Ljava/lang/CharSequence;)Lcom/example/tallyroot/tallyroot/overlay/NodeId;" } : Jvm.MethodName) prog_42_method_2_code (4 : Nat) (Option.some (Jvm.ClassFile.FieldType.object "com/example/tallyroot/tallyroot/overlay/NodeId")), Jvm.Cond.code ({ cls := "java/lang/String", name := "length", desc := "()I" } : Jvm.MethodName) jdk_42_method_54_code (1 : Nat) (Option.some Jvm.ClassFile.FieldType.int), Jvm.Cond.code ({ cls := "java/lang/String", name := "coder", desc := "()B" } : Jvm.MethodName) jdk_42_method_152_code (1 : Nat) (Option.some Jvm.ClassFile.FieldType.byte), Jvm.Cond.code ({ cls := "java/lang/String", name := "charAt", desc := "(I)C" } : Jvm.MethodName) jdk_42_method_56_code (2 : Nat) (Option.some Jvm.ClassFile.FieldType.char), Jvm.Cond.code ({ cls := "java/lang/String", name := "isLatin1", desc := "()Z" } : Jvm.MethodName) jdk_42_method_154_code (1 : Nat) (Option.some Jvm.ClassFile.FieldType.boolean), Jvm.Cond.code ({ cls := "java/lang/StringLatin1", name := "charAt", desc := "([BI)C" } : Jvm.MethodName) jdk_43_method_2_code (2 : Nat) (Option.some Jvm.ClassFile.FieldType.char), Jvm.Cond.code ({ cls := "java/lang/String", name := "checkIndex", desc := "(II)V" } : Jvm.MethodName) jdk_42_method_155_code (2 : Nat) (Option.none : Option Jvm.ClassFile.FieldType), Jvm.Cond.code ({ cls := "jdk/internal/util/Preconditions", name := "checkIndex", desc := "(IILjava/util/function/BiFunction;)I" } : Jvm.MethodName) jdk_41_method_11_code (3 : Nat) (Option.some Jvm.ClassFile.FieldType.int), Jvm.Cond.code ({ cls := "com/example/tallyroot/tallyroot/overlay/NodeId", name := "hexDigit", desc := "(CLjava/lang/CharSequence;)I" } : Jvm.MethodName) prog_42_method_3_code (2 : Nat) (Option.some Jvm.ClassFile.FieldType.int), Jvm.Cond.code ({ cls := "com/example/tallyroot/tallyroot/overlay/NodeId", name := "bits", desc := "()J" } : Jvm.MethodName) prog_42_method_11_code (1 : Nat) (Option.some Jvm.ClassFile.FieldType.long)]
set_option maxRecDepth 65536 in
theorem codes_eq : words1.filter isCode = codes1 := rfl
theorem w_codes : ∀ c ∈ words1.filter isCode, c.before args0 about1 = true := by
  rw [codes_eq]
  intro c hc
  simp only [codes1, List.mem_cons, List.not_mem_nil, or_false] at hc
  rcases hc with rfl | rfl | rfl | rfl | rfl | rfl | rfl | rfl | rfl | rfl | rfl | rfl | rfl | rfl | rfl | rfl | rfl | rfl | rfl | rfl | rfl
  · exact w_c0
  · exact w_c1
  · exact w_c2
  · exact w_c3
  · exact w_c4
  · exact w_c5
  · exact w_c6
  · exact w_c7
  · exact w_c8
  · exact w_c9
  · exact w_c10
  · exact w_c11
  · exact w_c12
  · exact w_c13
  · exact w_c14
  · exact w_c15
  · exact w_c16
  · exact w_c17
  · exact w_c18
  · exact w_c19
  · exact w_c20
set_option maxRecDepth 65536 in
theorem w_t1 : (words1.take 24).all (fun c => isCode c || c.before args0 about1) = true := by decide +kernel
set_option maxRecDepth 65536 in
theorem w_t2 : ((words1.drop 24).take 24).all (fun c => isCode c || c.before args0 about1) = true := by decide +kernel
set_option maxRecDepth 65536 in
theorem w_t3 : (((words1.drop 24).drop 24).take 24).all (fun c => isCode c || c.before args0 about1) = true := by decide +kernel
set_option maxRecDepth 65536 in
theorem w_t4 : ((((words1.drop 24).drop 24).drop 24).take 24).all (fun c => isCode c || c.before args0 about1) = true := by decide +kernel
set_option maxRecDepth 65536 in
theorem w_t5 : ((((words1.drop 24).drop 24).drop 24).drop 24).all (fun c => isCode c || c.before args0 about1) = true := by decide +kernel
theorem w_tables : (allAtoms (Jvm.Cond.code x code maxLocals ret :: tables_1)).before args0 about1 = true := by
  rw [allAtoms_all]
  show words1.all (fun c => c.before args0 about1) = true
  refine all_split ?_ w_codes
  rw [← List.take_append_drop 24 words1, List.all_append, w_t1, ← List.take_append_drop 24 (words1.drop 24), List.all_append, w_t2, ← List.take_append_drop 24 ((words1.drop 24).drop 24), List.all_append, w_t3, ← List.take_append_drop 24 (((words1.drop 24).drop 24).drop 24), List.all_append, w_t4, w_t5]
  rfl
set_option maxRecDepth 65536 in
theorem w_rest : rest_1_c.before args0 about1 = true := by decide +kernel
set_option maxRecDepth 65536 in
theorem w_case : (Jvm.Cond.and given_1 narrow_1).before args0 about1 = true := by decide +kernel
theorem w_applies : (headSpec (Jvm.Cond.code x code maxLocals ret :: tables_1) room_1).applies x e0.platform about1 = true :=
  (Spec.applies_iff w_frames).mpr ⟨w_running, w_runnable, w_alone, w_named, w_hears, w_ripe, w_room, w_tables⟩
theorem atStart : AtStart classFile x code maxLocals ret World_1 tables_1 room_1 Calls_1 rest_1 Pre_1 launch0 p0 e0 about1 theMethod args0 below0 :=
  ⟨lists_1, trivial, launch0.admits_env _ _ _, launch0.least_env, fairChoices_fair.cas, fairChoices_fair.clock, w_frames, w_args, w_heap, w_applies, trivial, w_rest, w_case⟩
end start1
theorem witness_1 : WitnessClaimed_1 := ⟨start1.p0, start1.e0, start1.about1, start1.theMethod, start1.args0, start1.below0, start1.atStart⟩
end Jvm.Pilot.@@N@@
