import JvmDerived
import JvmDerived.Pilot.@@N@@Statement
import JvmDerived.Pilot.@@N@@Code
set_option linter.unusedVariables false
set_option linter.unusedSimpArgs false
@@BLOCK:NumsL.lean.txt@@
/- laws to paste: Road.backV, Road.lenW, Road.chN, Road.codOf (cut by pick.py; bodies as the Statement names them) -/
namespace Jvm.Pilot.@@N@@
namespace StrChars
open Jvm Sem ClassFile Op Lib Jvm.Stand Jvm.Free.XT Jvm.Free.ALB Jvm.Free.JM Jvm.Free
open Jvm.Lib.Cold (StaticIs)
/-- a char array whose places are chars -/
def Ch (a : Addr) (A : Cell) (U : State) : Prop := Arr .char a A U ∧ Typed .char A
theorem Ch.mv {a : Addr} {A : Cell} {U U' : State} (h : Ch a A U) (hal : U.vm.Alike U'.vm) (hh : U'.heap = U.heap) : Ch a A U' := ⟨h.1.mv hal hh, h.2⟩
theorem Ch.keep {a : Addr} {A : Cell} {U U' : State} (h : Ch a A U) (hal : U.vm.Alike U'.vm) (hk : U'.heap[a]? = some A) : Ch a A U' := ⟨h.1.keep hal hk, h.2⟩
/-- what place i of a char[]'s cell holds -/
def cv (A : Cell) (i : Nat) : Int32 := match A.slots[i]? with | some (.int x) => x | _ => 0
theorem Ch.get {a : Addr} {A : Cell} {U : State} (h : Ch a A U) {i : Nat} (hi : i < A.slots.size) : A.slots[i]? = some (.int (cv A i)) := by
  have e := Array.getElem?_eq_getElem hi
  have f := h.2 i _ e
  unfold cv; rw [e]
  generalize A.slots[i] = v at f
  cases v <;> simp [fits] at f ⊢
/-- the byte that i2b leaves of a char -/
def lo8 (x : Int32) : Int32 := x.toInt8.toInt32
theorem fits_lo8 (y : Int32) : fits .byte (.int (lo8 y)) = true := by
  have h1 := y.toInt8.le_toInt
  have h2 := y.toInt8.toInt_lt
  simp only [lo8, fits, Bool.and_eq_true, decide_eq_true_eq, Int32.le_iff_toInt_le, Int8.toInt_toInt32, show (-128 : Int32).toInt = -128 from by decide, show (127 : Int32).toInt = 127 from by decide]
  omega
/-- A' is A but that each place j of lo .. hi - 1 holds f j -/
def Laid (A A' : Cell) (lo hi : Nat) (f : Nat → Value) : Prop := A'.cls = A.cls ∧ A'.vm = A.vm ∧ A'.slots.size = A.slots.size ∧ ∀ i, A'.slots[i]? = if lo ≤ i ∧ i < hi then some (f i) else A.slots[i]?
theorem Laid.zero (A : Cell) (lo : Nat) (f : Nat → Value) : Laid A A lo (lo + 0) f := ⟨rfl, rfl, rfl, fun i => by rw [if_neg (by omega)]⟩
theorem Laid.step {A Ak : Cell} {lo k : Nat} {f : Nat → Value} {v : Value} (h : Laid A Ak lo k f) (hlo : lo ≤ k) (hk : k < Ak.slots.size) (hv : v = f k) : Laid A (Ak.setSlot k v) lo (k + 1) f := by
  refine ⟨h.1, h.2.1, by simpa [Cell.setSlot] using h.2.2.1, fun i => ?_⟩
  by_cases e : k = i
  · subst e; rw [Cell.slots_setSlot_self v hk, if_pos (by omega), hv]
  · rw [Cell.slots_setSlot_ne v e, h.2.2.2 i]
    by_cases q : lo ≤ i ∧ i < k
    · rw [if_pos q, if_pos (by omega)]
    · rw [if_neg q, if_neg (by omega)]
def U16 : String := "java/lang/StringUTF16"
namespace Cmp5
def yN : MethodName := ⟨"java/lang/StringUTF16", "compress", "([CI[BII)I"⟩
abbrev yB : ByteArray := jdk_52_method_21_code
theorem d0 : decode yB 0 = .ok (.iconst 0, 1) := by decide +kernel
theorem d1 : decode yB 1 = .ok (.istore 5, 2) := by decide +kernel
theorem d3 : decode yB 3 = .ok (.iload 5, 2) := by decide +kernel
theorem d5 : decode yB 5 = .ok (.iload 4, 2) := by decide +kernel
theorem d7 : decode yB 7 = .ok (.if_icmp (.ge) 37, 3) := by decide +kernel
theorem d10 : decode yB 10 = .ok (.aload_n 0, 1) := by decide +kernel
theorem d11 : decode yB 11 = .ok (.iload_n 1, 1) := by decide +kernel
theorem d12 : decode yB 12 = .ok (.caload, 1) := by decide +kernel
theorem d13 : decode yB 13 = .ok (.istore 6, 2) := by decide +kernel
theorem d15 : decode yB 15 = .ok (.iload 6, 2) := by decide +kernel
theorem d17 : decode yB 17 = .ok (.sipush 255, 3) := by decide +kernel
theorem d20 : decode yB 20 = .ok (.if_icmp (.le) 6, 3) := by decide +kernel
theorem d26 : decode yB 26 = .ok (.aload_n 2, 1) := by decide +kernel
theorem d27 : decode yB 27 = .ok (.iload_n 3, 1) := by decide +kernel
theorem d28 : decode yB 28 = .ok (.iload 6, 2) := by decide +kernel
theorem d30 : decode yB 30 = .ok (.i2b, 1) := by decide +kernel
theorem d31 : decode yB 31 = .ok (.bastore, 1) := by decide +kernel
theorem d32 : decode yB 32 = .ok (.iinc 1 1, 3) := by decide +kernel
theorem d35 : decode yB 35 = .ok (.iinc 3 1, 3) := by decide +kernel
theorem d38 : decode yB 38 = .ok (.iinc 5 1, 3) := by decide +kernel
theorem d41 : decode yB 41 = .ok (.goto (-38), 3) := by decide +kernel
theorem d44 : decode yB 44 = .ok (.iload 4, 2) := by decide +kernel
theorem d46 : decode yB 46 = .ok (.ireturn, 1) := by decide +kernel
def site : List Cond := []
def tab : Cond := tabOf yN yB 7 (some .int) site
def P (b : Addr) (A : Cell) (d : Addr) (B : Cell) (o q len : Nat) (args : Array Value) (s : State) : Prop := args = #[.ref b, .int (Int32.ofNat o), .ref d, .int (Int32.ofNat q), .int (Int32.ofNat len)] ∧ Ch b A s ∧ Arr .byte d B s ∧ b ≠ d ∧ o + len ≤ A.slots.size ∧ q + len ≤ B.slots.size ∧ ∀ i, i < len → ¬ 255 < cv A (o + i)
def E (b : Addr) (A : Cell) (d : Addr) (B : Cell) (o q len : Nat) (r : Option Value) (s u : State) : Prop := r = some (.int (Int32.ofNat len)) ∧ ∃ B', Put d B' s u ∧ Laid B B' q (q + len) (fun j => Value.int (lo8 (cv A (o + (j - q)))))
/-- no char of the range above 255: len; the places written hold each char's low byte -/
theorem law (l : Launch) (b : Addr) (A : Cell) (d : Addr) (B : Cell) (o q len : Nat) : Law l yN 5 5 0 0 yB 7 (some .int) site (P b A d B o q len) (E b A d B o q len) (copyLocs d q len) 0 0 := by
  refine Law.of_walk (plainFor_of_name (by decide +kernel)) (by decide +kernel) (by decide +kernel) (by decide) (fun _ _ h => by rw [h.1]; rfl) (fun _ U U' hal hh h => ⟨h.1, h.2.1.mv hal hh, h.2.2.1.mv hal hh, h.2.2.2⟩) (fun r U U' V V' h1 hal h2 h => ⟨h.1, h.2.elim fun B' q => ⟨B', q.1.mv h1 h2, q.2⟩⟩) ?_
  intro p e s m args below meth c s₁ X0 hexec hbytes hml hret hlk hnm hown hh0 W hP
  obtain ⟨rfl, hA, hB, hne, l1, l2, hp⟩ := hP
  have c1 : Steps p.tables e below (s₁.setTop (entryFrame m #[.ref b, .int (Int32.ofNat o), .ref d, .int (Int32.ofNat q), .int (Int32.ofNat len)] 7)) (s₁.setTop (mkF m 0 #[.val (.ref b), .val (.int (Int32.ofNat o)), .val (.ref d), .val (.int (Int32.ofNat q)), .val (.int (Int32.ofNat len)), .unset, .unset] [])) := entry rfl
  have hA0 := hA.1.mv X0.warmed.alike hh0
  have hB0 := hB.mv X0.warmed.alike hh0
  have a31 := hA.1.2.2.2
  have c2 : Steps p.tables e below (s₁.setTop (entryFrame m #[.ref b, .int (Int32.ofNat o), .ref d, .int (Int32.ofNat q), .int (Int32.ofNat len)] 7)) (s₁.setTop (mkF m 3 #[.val (.ref b), .val (.int (Int32.ofNat o)), .val (.ref d), .val (.int (Int32.ofNat q)), .val (.int (Int32.ofNat len)), .val (.int 0), .unset] [])) := c1.trans (by
    refine iconstV X0.here hexec rfl 0 (hb hbytes d0) (by decide) ?_
    refine XS.istore X0.here hexec rfl (hb hbytes d1) rfl rfl ?_
    exact Steps.refl _)
  have loop : ∀ (r i : Nat), i + r = len → ∀ (z : Slot), (z = .unset ∨ ∃ w, z = .val w ∧ w.category = 1) → ∀ (Tl : State) (Bk : Cell), Stand p l e { frames := 0, locals := 0, cells := 0, slots := 0 } s m #[.ref b, .int (Int32.ofNat o), .ref d, .int (Int32.ofNat q), .int (Int32.ofNat len)] below meth c Tl ([] ++ copyLocs d q i) 0 0 → Put d Bk s₁ Tl → Laid B Bk q (q + i) (fun j => Value.int (lo8 (cv A (o + (j - q))))) →
      Steps p.tables e below (s₁.setTop (entryFrame m #[.ref b, .int (Int32.ofNat o), .ref d, .int (Int32.ofNat q), .int (Int32.ofNat len)] 7)) (Tl.setTop (mkF m 3 #[.val (.ref b), .val (.int (Int32.ofNat (o + i))), .val (.ref d), .val (.int (Int32.ofNat (q + i))), .val (.int (Int32.ofNat len)), .val (.int (Int32.ofNat i)), z] [])) → ∃ (T' : State) (B' : Cell) (z' : Slot), Stand p l e { frames := 0, locals := 0, cells := 0, slots := 0 } s m #[.ref b, .int (Int32.ofNat o), .ref d, .int (Int32.ofNat q), .int (Int32.ofNat len)] below meth c T' ([] ++ copyLocs d q len) 0 0 ∧ Put d B' s₁ T' ∧ Laid B B' q (q + len) (fun j => Value.int (lo8 (cv A (o + (j - q))))) ∧
      Steps p.tables e below (s₁.setTop (entryFrame m #[.ref b, .int (Int32.ofNat o), .ref d, .int (Int32.ofNat q), .int (Int32.ofNat len)] 7)) (T'.setTop (mkF m 3 #[.val (.ref b), .val (.int (Int32.ofNat (o + len))), .val (.ref d), .val (.int (Int32.ofNat (q + len))), .val (.int (Int32.ofNat len)), .val (.int (Int32.ofNat len)), z'] [])) := by
    intro r
    induction r with
    | zero =>
      intro i hi z hz Tl Bk Xl pl fl cl
      have hil : i = len := by omega
      rw [hil] at Xl fl cl
      exact ⟨Tl, Bk, z, Xl, pl, fl, cl⟩
    | succ r ih =>
      intro i hi z hz Tl Bk Xl pl fl cl
      have all := X0.warmed.alike.symm.trans Xl.warmed.alike
      have hAl := hA0.keep all (pl.other hne hA0.1)
      have hBk := hB0.like all pl.1 fl.1 fl.2.1 fl.2.2.1
      have hlt : q + i < Bk.slots.size := by rw [fl.2.2.1]; omega
      have c3 : Steps p.tables e below (s₁.setTop (entryFrame m #[.ref b, .int (Int32.ofNat o), .ref d, .int (Int32.ofNat q), .int (Int32.ofNat len)] 7)) (Tl.setTop (mkF m 12 #[.val (.ref b), .val (.int (Int32.ofNat (o + i))), .val (.ref d), .val (.int (Int32.ofNat (q + i))), .val (.int (Int32.ofNat len)), .val (.int (Int32.ofNat i)), z] [.int (Int32.ofNat (o + i)), .ref b])) := cl.trans (by
        refine XS.iload Xl.here hexec rfl (hb hbytes d3) rfl ?_
        refine XS.iload Xl.here hexec rfl (hb hbytes d5) rfl ?_
        refine XS.icmpNo Xl.here hexec rfl (hb hbytes d7) rfl (ii_ge_f (lt32 (by omega) (by omega))) ?_
        refine XS.aloadN Xl.here hexec rfl (hb hbytes d10) rfl rfl ?_
        refine XS.iloadN Xl.here hexec rfl (hb hbytes d11) rfl ?_
        exact Steps.refl _)
      have c4 : Steps p.tables e below (s₁.setTop (entryFrame m #[.ref b, .int (Int32.ofNat o), .ref d, .int (Int32.ofNat q), .int (Int32.ofNat len)] 7)) (Tl.setTop (mkF m 13 #[.val (.ref b), .val (.int (Int32.ofNat (o + i))), .val (.ref d), .val (.int (Int32.ofNat (q + i))), .val (.int (Int32.ofNat len)), .val (.int (Int32.ofNat i)), z] [.int (cv A (o + i))])) := c3.trans (by
        refine Xl.aget hexec hAl rfl (hA.get (i := o + i) (by omega)) rfl rfl (hb hbytes d12) ?_
        exact Steps.refl _)
      have c5 : Steps p.tables e below (s₁.setTop (entryFrame m #[.ref b, .int (Int32.ofNat o), .ref d, .int (Int32.ofNat q), .int (Int32.ofNat len)] 7)) (Tl.setTop (mkF m 15 #[.val (.ref b), .val (.int (Int32.ofNat (o + i))), .val (.ref d), .val (.int (Int32.ofNat (q + i))), .val (.int (Int32.ofNat len)), .val (.int (Int32.ofNat i)), .val (.int (cv A (o + i)))] [])) := c4.trans (by
        refine XS.istoreS Xl.here hexec rfl (hb hbytes d13) rfl rfl hz ?_
        exact Steps.refl _)
      have c6 : Steps p.tables e below (s₁.setTop (entryFrame m #[.ref b, .int (Int32.ofNat o), .ref d, .int (Int32.ofNat q), .int (Int32.ofNat len)] 7)) (Tl.setTop (mkF m 31 #[.val (.ref b), .val (.int (Int32.ofNat (o + i))), .val (.ref d), .val (.int (Int32.ofNat (q + i))), .val (.int (Int32.ofNat len)), .val (.int (Int32.ofNat i)), .val (.int (cv A (o + i)))] [.int (lo8 (cv A (o + i))), .int (Int32.ofNat (q + i)), .ref d])) := c5.trans (by
        refine XS.iload Xl.here hexec rfl (hb hbytes d15) rfl ?_
        refine sipushV Xl.here hexec rfl 255 (hb hbytes d17) (by decide) ?_
        refine XS.icmpYes Xl.here hexec rfl (pc0 := 20) rfl (hb hbytes d20) rfl (ii_le_t (hp i (by omega))) (by decide) rfl ?_
        refine XS.aloadN Xl.here hexec rfl (hb hbytes d26) rfl rfl ?_
        refine XS.iloadN Xl.here hexec rfl (hb hbytes d27) rfl ?_
        refine XS.iload Xl.here hexec rfl (hb hbytes d28) rfl ?_
        refine i2b Xl.here hexec rfl (hb hbytes d30) rfl ?_
        exact Steps.refl _)
      obtain ⟨T7, X7, p7, st7⟩ := Xl.aput hexec hBk rfl hlt rfl (fits_lo8 (cv A (o + i))) (g := (mkF m 31 #[.val (.ref b), .val (.int (Int32.ofNat (o + i))), .val (.ref d), .val (.int (Int32.ofNat (q + i))), .val (.int (Int32.ofNat len)), .val (.int (Int32.ofNat i)), .val (.int (cv A (o + i)))] [.int (lo8 (cv A (o + i))), .int (Int32.ofNat (q + i)), .ref d])) rfl (rest := []) rfl (hb hbytes d31)
      have c8 : Steps p.tables e below (s₁.setTop (entryFrame m #[.ref b, .int (Int32.ofNat o), .ref d, .int (Int32.ofNat q), .int (Int32.ofNat len)] 7)) (T7.setTop (mkF m 32 #[.val (.ref b), .val (.int (Int32.ofNat (o + i))), .val (.ref d), .val (.int (Int32.ofNat (q + i))), .val (.int (Int32.ofNat len)), .val (.int (Int32.ofNat i)), .val (.int (cv A (o + i)))] [])) := c6.trans (st7 _ (Steps.refl _))
      have c9 : Steps p.tables e below (s₁.setTop (entryFrame m #[.ref b, .int (Int32.ofNat o), .ref d, .int (Int32.ofNat q), .int (Int32.ofNat len)] 7)) (T7.setTop (mkF m 3 #[.val (.ref b), .val (.int (Int32.ofNat (o + i) + 1)), .val (.ref d), .val (.int (Int32.ofNat (q + i) + 1)), .val (.int (Int32.ofNat len)), .val (.int (Int32.ofNat i + 1)), .val (.int (cv A (o + i)))] [])) := c8.trans (by
        refine iincV X7.here hexec rfl 1 (hb hbytes d32) (by decide) rfl rfl ?_
        refine iincV X7.here hexec rfl 1 (hb hbytes d35) (by decide) rfl rfl ?_
        refine iincV X7.here hexec rfl 1 (hb hbytes d38) (by decide) rfl rfl ?_
        refine XS.goto X7.here hexec rfl (pc0 := 41) rfl (hb hbytes d41) (by decide) rfl ?_
        exact Steps.refl _)
      have c10 : Steps p.tables e below (s₁.setTop (entryFrame m #[.ref b, .int (Int32.ofNat o), .ref d, .int (Int32.ofNat q), .int (Int32.ofNat len)] 7)) (T7.setTop (mkF m 3 #[.val (.ref b), .val (.int (Int32.ofNat (o + (i + 1)))), .val (.ref d), .val (.int (Int32.ofNat (q + (i + 1)))), .val (.int (Int32.ofNat len)), .val (.int (Int32.ofNat (i + 1))), .val (.int (cv A (o + i)))] [])) := by
        have := c9
        rw [succ32, succ32, succ32] at this
        exact this
      exact ih (i + 1) (by omega) _ (Or.inr ⟨_, rfl, rfl⟩) T7 _ (by rw [copyLocs_step, ← List.append_assoc]; exact X7) (pl.trans p7) (fl.step (by omega) hlt (by simp)) c10
  obtain ⟨T9, B9, z9, X9, p9, f9, g9⟩ := loop len 0 (by omega) .unset (Or.inl rfl) s₁ B (by simpa [copyLocs] using X0) ⟨hB0.1, fun _ _ => rfl, rfl⟩ (Laid.zero _ _ _) c2
  have c11 : Steps p.tables e below (s₁.setTop (entryFrame m #[.ref b, .int (Int32.ofNat o), .ref d, .int (Int32.ofNat q), .int (Int32.ofNat len)] 7)) (T9.setTop (mkF m 46 #[.val (.ref b), .val (.int (Int32.ofNat (o + len))), .val (.ref d), .val (.int (Int32.ofNat (q + len))), .val (.int (Int32.ofNat len)), .val (.int (Int32.ofNat len)), z9] [.int (Int32.ofNat len)])) := g9.trans (by
    refine XS.iload X9.here hexec rfl (hb hbytes d3) rfl ?_
    refine XS.iload X9.here hexec rfl (hb hbytes d5) rfl ?_
    refine XS.icmpYes X9.here hexec rfl (pc0 := 7) rfl (hb hbytes d7) rfl (ii_ge_t (nlt32 (by omega) (Nat.le_refl _))) (by decide) rfl ?_
    refine XS.iload X9.here hexec rfl (hb hbytes d44) rfl ?_
    exact Steps.refl _)
  exact ⟨T9, some (.int (Int32.ofNat len)), _, _, _, X9, by simp, rfl, rfl, (fun h => by cases h), ⟨rfl, B9, p9.from hh0, f9⟩, fun fs hl => c11.trans (X9.ireturnOut hexec hret rfl (Or.inl rfl) (hb hbytes d46) hl)⟩
end Cmp5
namespace Cmp3
def yN : MethodName := ⟨"java/lang/StringUTF16", "compress", "([CII)[B"⟩
abbrev yB : ByteArray := jdk_52_method_16_code
theorem d0 : decode yB 0 = .ok (.iload_n 2, 1) := by decide +kernel
theorem d1 : decode yB 1 = .ok (.newarray .byte, 2) := by decide +kernel
theorem d3 : decode yB 3 = .ok (.astore_n 3, 1) := by decide +kernel
theorem d4 : decode yB 4 = .ok (.aload_n 0, 1) := by decide +kernel
theorem d5 : decode yB 5 = .ok (.iload_n 1, 1) := by decide +kernel
theorem d6 : decode yB 6 = .ok (.aload_n 3, 1) := by decide +kernel
theorem d7 : decode yB 7 = .ok (.iconst 0, 1) := by decide +kernel
theorem d8 : decode yB 8 = .ok (.iload_n 2, 1) := by decide +kernel
theorem d9 : decode yB 9 = .ok (.invokestatic 115, 3) := by decide +kernel
theorem d12 : decode yB 12 = .ok (.istore 4, 2) := by decide +kernel
theorem d14 : decode yB 14 = .ok (.iload 4, 2) := by decide +kernel
theorem d16 : decode yB 16 = .ok (.iload_n 2, 1) := by decide +kernel
theorem d17 : decode yB 17 = .ok (.if_icmp (.eq) 40, 3) := by decide +kernel
theorem d57 : decode yB 57 = .ok (.aload_n 3, 1) := by decide +kernel
theorem d58 : decode yB 58 = .ok (.areturn, 1) := by decide +kernel
def site : List Cond := [.arrayClass .byte, Cmp5.tab] ++ staticW U16 115 Cmp5.yN
def tab : Cond := tabOf yN yB 6 (some (.array .byte)) site
def P (b : Addr) (A : Cell) (o len : Nat) (args : Array Value) (s : State) : Prop := args = #[.ref b, .int (Int32.ofNat o), .int (Int32.ofNat len)] ∧ Ch b A s ∧ o + len ≤ A.slots.size ∧ len ≤ 536870912 ∧ ∀ i, i < len → ¬ 255 < cv A (o + i)
def E (b : Addr) (A : Cell) (o len : Nat) (r : Option Value) (s u : State) : Prop := NewArr .byte "[B" len (fun j => .int (lo8 (cv A (o + j)))) r s u ∧ u.heap.size = s.heap.size + 1
/-- no char of the range above 255: a new byte[] of their low bytes -/
theorem law (l : Launch) (b : Addr) (A : Cell) (o len : Nat) : Law l yN 3 3 1 18 yB 6 (some (.array .byte)) site (P b A o len) (E b A o len) [] 1 len := by
  refine Law.of_walk (plainFor_of_name (by decide +kernel)) (by decide +kernel) (by decide +kernel) (by decide) (fun _ _ h => by rw [h.1]; rfl) (fun _ U U' hal hh h => ⟨h.1, h.2.1.mv hal hh, h.2.2⟩) (fun r U U' V V' h1 hal h2 h => ⟨NewArr.mv r U U' V V' h1 hal h2 h.1, by rw [h1, h2]; exact h.2⟩) ?_
  intro p e s m args below meth c s₁ X0 hexec hbytes hml hret hlk hnm hown hh0 W hP
  obtain ⟨rfl, hA, l1, l2, hp⟩ := hP
  have a31 := hA.1.2.2.2
  have c1 : Steps p.tables e below (s₁.setTop (entryFrame m #[.ref b, .int (Int32.ofNat o), .int (Int32.ofNat len)] 6)) (s₁.setTop (mkF m 0 #[.val (.ref b), .val (.int (Int32.ofNat o)), .val (.int (Int32.ofNat len)), .unset, .unset, .unset] [])) := entry rfl
  have c2 : Steps p.tables e below (s₁.setTop (entryFrame m #[.ref b, .int (Int32.ofNat o), .int (Int32.ofNat len)] 6)) (s₁.setTop (mkF m 1 #[.val (.ref b), .val (.int (Int32.ofNat o)), .val (.int (Int32.ofNat len)), .unset, .unset, .unset] [.int (Int32.ofNat len)])) := c1.trans (by
    refine XS.iloadN X0.here hexec rfl (hb hbytes d0) rfl ?_
    exact Steps.refl _)
  obtain ⟨T3, B3, X3, ba3, bs3, bv3, bh3, bf3, st3⟩ := X0.anew hexec (atype := .byte) (wk W (.arrayClass .byte)) rfl (by show len * 1 ≤ _; omega) (by omega) (g := (mkF m 1 #[.val (.ref b), .val (.int (Int32.ofNat o)), .val (.int (Int32.ofNat len)), .unset, .unset, .unset] [.int (Int32.ofNat len)])) rfl (hb hbytes d1) (rest := []) rfl (Nat.le_refl _) (by show 0 + len ≤ len; omega)
  rw [hh0] at ba3 st3
  have kp3 : XT.Kept s T3 := (XT.Kept.of_eq hh0).push bh3
  have hA3 := hA.keep X3.warmed.alike (kp3 _ _ hA.1.1)
  have hne : b ≠ s.heap.size := hA.1.ne
  have c4 : Steps p.tables e below (s₁.setTop (entryFrame m #[.ref b, .int (Int32.ofNat o), .int (Int32.ofNat len)] 6)) (T3.setTop (mkF m 3 #[.val (.ref b), .val (.int (Int32.ofNat o)), .val (.int (Int32.ofNat len)), .unset, .unset, .unset] [.ref s.heap.size])) := c2.trans (st3 _ (Steps.refl _))
  have c5 : Steps p.tables e below (s₁.setTop (entryFrame m #[.ref b, .int (Int32.ofNat o), .int (Int32.ofNat len)] 6)) (T3.setTop (mkF m 9 #[.val (.ref b), .val (.int (Int32.ofNat o)), .val (.int (Int32.ofNat len)), .val (.ref s.heap.size), .unset, .unset] [.int (Int32.ofNat len), .int 0, .ref s.heap.size, .int (Int32.ofNat o), .ref b])) := c4.trans (by
    refine XS.astoreN X3.here hexec rfl (hb hbytes d3) rfl rfl rfl ?_
    refine XS.aloadN X3.here hexec rfl (hb hbytes d4) rfl rfl ?_
    refine XS.iloadN X3.here hexec rfl (hb hbytes d5) rfl ?_
    refine XS.aloadN X3.here hexec rfl (hb hbytes d6) rfl rfl ?_
    refine iconstV X3.here hexec rfl 0 (hb hbytes d7) (by decide) ?_
    refine XS.iloadN X3.here hexec rfl (hb hbytes d8) rfl ?_
    exact Steps.refl _)
  obtain ⟨v6, T6, X6, E6, g6⟩ := X3.callS hexec (Cmp5.law l b A s.heap.size B3 o 0 len) hown (wks W (staticW U16 115 Cmp5.yN)) (wk W Cmp5.tab) (W := 0) (Nat.le_of_ble_eq_true rfl) (Nat.le_of_ble_eq_true rfl) (Nat.le_refl _) (by show 0 + len + 0 ≤ len; omega) (g := (mkF m 9 #[.val (.ref b), .val (.int (Int32.ofNat o)), .val (.int (Int32.ofNat len)), .val (.ref s.heap.size), .unset, .unset] [.int (Int32.ofNat len), .int (Int32.ofNat 0), .ref s.heap.size, .int (Int32.ofNat o), .ref b])) rfl (by rw [hml]; rfl) c5 (argsL := [.ref b, .int (Int32.ofNat o), .ref s.heap.size, .int (Int32.ofNat 0), .int (Int32.ofNat len)]) (rest := []) rfl rfl (by show 2 * 0 + 0 ≤ _; decide) (hb hbytes d9) (⟨rfl, hA3, ba3, hne, l1, by rw [bs3]; simp, hp⟩)
  obtain ⟨rfl, B6, p6, f6⟩ := E6
  have c7 : Steps p.tables e below (s₁.setTop (entryFrame m #[.ref b, .int (Int32.ofNat o), .int (Int32.ofNat len)] 6)) (T6.setTop (mkF m 12 #[.val (.ref b), .val (.int (Int32.ofNat o)), .val (.int (Int32.ofNat len)), .val (.ref s.heap.size), .unset, .unset] [.int (Int32.ofNat len)])) := g6
  have c8 : Steps p.tables e below (s₁.setTop (entryFrame m #[.ref b, .int (Int32.ofNat o), .int (Int32.ofNat len)] 6)) (T6.setTop (mkF m 58 #[.val (.ref b), .val (.int (Int32.ofNat o)), .val (.int (Int32.ofNat len)), .val (.ref s.heap.size), .val (.int (Int32.ofNat len)), .unset] [.ref s.heap.size])) := c7.trans (by
    refine XS.istore X6.here hexec rfl (hb hbytes d12) rfl rfl ?_
    refine XS.iload X6.here hexec rfl (hb hbytes d14) rfl ?_
    refine XS.iloadN X6.here hexec rfl (hb hbytes d16) rfl ?_
    refine XS.icmpYes X6.here hexec rfl (pc0 := 17) rfl (hb hbytes d17) rfl (ii_eq_t rfl) (by decide) rfl ?_
    refine XS.aloadN X6.here hexec rfl (hb hbytes d57) rfl rfl ?_
    exact Steps.refl _)
  have X8 := X6.wide (L' := []) (cells' := 1) (slots' := len) (fun x hx hlt => by
    simp only [List.nil_append, copyLocs, List.mem_map, List.mem_range] at hx
    obtain ⟨i, -, rfl⟩ := hx
    exact absurd hlt (Nat.lt_irrefl _)) (Nat.le_refl _) (by omega)
  exact ⟨T6, some (.ref s.heap.size), _, _, _, X8, rfl, rfl, rfl, (fun h => by cases h), ⟨⟨rfl, B6, ba3.like (X3.warmed.alike.symm.trans X6.warmed.alike) p6.1 f6.1 f6.2.1 f6.2.2.1, f6.2.1.trans bv3, by rw [X6.warmed.alike.findClass, f6.1]; exact bf3, by rw [f6.2.2.1, bs3]; simp, fun j hj => by rw [f6.2.2.2 j, if_pos (by omega)]; rfl, kp3.put p6 (Nat.le_refl _)⟩, by rw [p6.2.2, bh3, hh0]; simp⟩, fun fs hl => c8.trans (X8.areturnOut hexec rfl hret rfl (hb hbytes d58) hl)⟩
end Cmp3
namespace CodL
def yN : MethodName := ⟨"java/lang/StringUTF16", "coderFromArrayLen", "([BI)B"⟩
abbrev yB : ByteArray := jdk_52_method_15_code
theorem d0 : decode yB 0 = .ok (.iload_n 1, 1) := by decide +kernel
theorem d1 : decode yB 1 = .ok (.aload_n 0, 1) := by decide +kernel
theorem d2 : decode yB 2 = .ok (.arraylength, 1) := by decide +kernel
theorem d3 : decode yB 3 = .ok (.isub, 1) := by decide +kernel
theorem d4 : decode yB 4 = .ok (.bipush 31, 2) := by decide +kernel
theorem d6 : decode yB 6 = .ok (.iushr, 1) := by decide +kernel
theorem d7 : decode yB 7 = .ok (.i2b, 1) := by decide +kernel
theorem d8 : decode yB 8 = .ok (.ireturn, 1) := by decide +kernel
def site : List Cond := []
def tab : Cond := tabOf yN yB 2 (some .byte) site
def P (d : Addr) (B : Cell) (args : Array Value) (s : State) : Prop := args = #[.ref d, .int (Int32.ofNat B.slots.size)] ∧ Arr .byte d B s
def E (r : Option Value) (s u : State) : Prop := XT.PureE (some (.int 0)) r s u
/-- an array as long as the number of chars: LATIN1 -/
theorem law (l : Launch) (d : Addr) (B : Cell) : Law l yN 2 2 0 0 yB 2 (some .byte) site (P d B) E [] 0 0 := by
  refine Law.of_walk (plainFor_of_name (by decide +kernel)) (by decide +kernel) (by decide +kernel) (by decide) (fun _ _ h => by rw [h.1]; rfl) (fun _ U U' hal hh h => ⟨h.1, h.2.mv hal hh⟩) (fun r U U' V V' h1 hal h2 h => XT.PureE.mv r U U' V V' h1 hal h2 h) ?_
  intro p e s m args below meth c s₁ X0 hexec hbytes hml hret hlk hnm hown hh0 W hP
  obtain ⟨rfl, hB⟩ := hP
  have hB0 := hB.mv X0.warmed.alike hh0
  have c1 : Steps p.tables e below (s₁.setTop (entryFrame m #[.ref d, .int (Int32.ofNat B.slots.size)] 2)) (s₁.setTop (mkF m 0 #[.val (.ref d), .val (.int (Int32.ofNat B.slots.size))] [])) := entry rfl
  have c2 : Steps p.tables e below (s₁.setTop (entryFrame m #[.ref d, .int (Int32.ofNat B.slots.size)] 2)) (s₁.setTop (mkF m 2 #[.val (.ref d), .val (.int (Int32.ofNat B.slots.size))] [.ref d, .int (Int32.ofNat B.slots.size)])) := c1.trans (by
    refine XS.iloadN X0.here hexec rfl (hb hbytes d0) rfl ?_
    refine XS.aloadN X0.here hexec rfl (hb hbytes d1) rfl rfl ?_
    exact Steps.refl _)
  have c3 : Steps p.tables e below (s₁.setTop (entryFrame m #[.ref d, .int (Int32.ofNat B.slots.size)] 2)) (s₁.setTop (mkF m 8 #[.val (.ref d), .val (.int (Int32.ofNat B.slots.size))] [.int (lo8 (ushr (Int32.ofNat B.slots.size - Int32.ofNat B.slots.size) 31))])) := c2.trans (by
    refine X0.alen hexec hB0 rfl rfl (hb hbytes d2) ?_
    refine XS.isub X0.here hexec rfl (hb hbytes d3) rfl ?_
    refine bipushV X0.here hexec rfl 31 (hb hbytes d4) (by decide) ?_
    refine iushr X0.here hexec rfl (hb hbytes d6) rfl ?_
    refine i2b X0.here hexec rfl (hb hbytes d7) rfl ?_
    exact Steps.refl _)
  have e0 : lo8 (ushr (Int32.ofNat B.slots.size - Int32.ofNat B.slots.size) 31) = 0 := by rw [Int32.sub_self]; decide
  rw [e0] at c3
  exact ⟨s₁, some (.int 0), _, _, _, X0, rfl, rfl, rfl, (fun h => by cases h), ⟨rfl, hh0⟩, fun fs hl => c3.trans (X0.ireturnOut hexec hret rfl (Or.inr (Or.inr (Or.inl rfl))) (hb hbytes d8) hl)⟩
end CodL
/-- the String at a is Latin-1 over a new byte[] (the heap's one new cell): the low bytes of the len chars of A from o on; every cell but a is kept -/
def Got (a : Addr) (D : Cell) (fV fC : Field) (A : Cell) (o len : Nat) (r : Option Value) (s u : State) : Prop := r = none ∧ ∃ D' V : Cell, Blank "java/lang/String" a D' u ∧ Same D D' [fV.slot, fC.slot] ∧ D'.slots[fV.slot]? = some (.ref s.heap.size) ∧ D'.slots[fC.slot]? = some (.int 0) ∧ Arr .byte s.heap.size V u ∧ V.vm = .none ∧ u.vm.findClass "[B" = some V.cls ∧ V.slots.size = len ∧ (∀ j, j < len → V.slots[j]? = some (.int (lo8 (cv A (o + j))))) ∧ (∀ (y : Addr) (c : Cell), y ≠ a → s.heap[y]? = some c → u.heap[y]? = some c) ∧ u.heap.size = s.heap.size + 1
theorem Got.mv {a : Addr} {D A : Cell} {fV fC : Field} {o len : Nat} : ∀ r (U U' V V' : State), U'.heap = U.heap → V.vm.Alike V'.vm → V'.heap = V.heap → Got a D fV fC A o len r U V → Got a D fV fC A o len r U' V' :=
  fun r U U' V V' h1 hal h2 ⟨e0, D', X, a1, a2, a3, a4, a5, a6, a7, a8, a9, a10, a11⟩ => ⟨e0, D', X, a1.mv hal h2, a2, by rw [h1]; exact a3, a4, by rw [h1]; exact a5.mv hal h2, a6, by rw [hal.findClass]; exact a7, a8, a9, by rw [h1, h2]; exact a10, by rw [h1, h2]; exact a11⟩
namespace New4
def yN : MethodName := ⟨"java/lang/String", "<init>", "([CIILjava/lang/Void;)V"⟩
abbrev yB : ByteArray := jdk_42_method_149_code
theorem d0 : decode yB 0 = .ok (.aload_n 0, 1) := by decide +kernel
theorem d1 : decode yB 1 = .ok (.invokespecial 1, 3) := by decide +kernel
theorem d4 : decode yB 4 = .ok (.iload_n 3, 1) := by decide +kernel
theorem d5 : decode yB 5 = .ok (.ifCond (.ne) 22, 3) := by decide +kernel
theorem d27 : decode yB 27 = .ok (.getstatic 38, 3) := by decide +kernel
theorem d30 : decode yB 30 = .ok (.ifCond (.eq) 28, 3) := by decide +kernel
theorem d33 : decode yB 33 = .ok (.aload_n 1, 1) := by decide +kernel
theorem d34 : decode yB 34 = .ok (.iload_n 2, 1) := by decide +kernel
theorem d35 : decode yB 35 = .ok (.iload_n 3, 1) := by decide +kernel
theorem d36 : decode yB 36 = .ok (.invokestatic 177, 3) := by decide +kernel
theorem d39 : decode yB 39 = .ok (.astore 5, 2) := by decide +kernel
theorem d41 : decode yB 41 = .ok (.aload_n 0, 1) := by decide +kernel
theorem d42 : decode yB 42 = .ok (.aload 5, 2) := by decide +kernel
theorem d44 : decode yB 44 = .ok (.iload_n 3, 1) := by decide +kernel
theorem d45 : decode yB 45 = .ok (.invokestatic 47, 3) := by decide +kernel
theorem d48 : decode yB 48 = .ok (.putfield 15, 3) := by decide +kernel
theorem d51 : decode yB 51 = .ok (.aload_n 0, 1) := by decide +kernel
theorem d52 : decode yB 52 = .ok (.aload 5, 2) := by decide +kernel
theorem d54 : decode yB 54 = .ok (.putfield 9, 3) := by decide +kernel
theorem d57 : decode yB 57 = .ok (.return_, 1) := by decide +kernel
def site : List Cond := [.fieldLink "java/lang/String" 38 "java/lang/String" "COMPACT_STRINGS" "Z", Cmp3.tab, CodL.tab, .laysFinal "java/lang/String" "java/lang/String" "value" "[B", .fieldLink "java/lang/String" 9 "java/lang/String" "value" "[B", .laysFinal "java/lang/String" "java/lang/String" "coder" "B", .fieldLink "java/lang/String" 15 "java/lang/String" "coder" "B"] ++ objW "java/lang/String" 1 ++ staticW "java/lang/String" 177 Cmp3.yN ++ staticW "java/lang/String" 47 CodL.yN
def tab : Cond := tabOf yN yB 6 none site
def P (a : Addr) (D : Cell) (fV fC : Field) (b : Addr) (A : Cell) (z : Int32) (o len : Nat) (args : Array Value) (s : State) : Prop := args = #[.ref a, .ref b, .int (Int32.ofNat o), .int (Int32.ofNat len), .null] ∧ Blank "java/lang/String" a D s ∧ Found "java/lang/String" "value" "[B" fV s ∧ Found "java/lang/String" "coder" "B" fC s ∧ Ch b A s ∧ StaticIs s "java/lang/String" "COMPACT_STRINGS" "Z" (.int z) ∧ ¬ z = 0 ∧ 0 < len ∧ o + len ≤ A.slots.size ∧ len ≤ 536870912 ∧ ∀ i, i < len → ¬ 255 < cv A (o + i)
def E (a : Addr) (D : Cell) (fV fC : Field) (A : Cell) (o len : Nat) (r : Option Value) (s u : State) : Prop := Got a D fV fC A o len r s u
/-- len > 0, no char of the range above 255: a Latin-1 String of their low bytes -/
theorem law (l : Launch) (a : Addr) (D : Cell) (fV fC : Field) (b : Addr) (A : Cell) (z : Int32) (o len : Nat) : Law l yN 5 4 2 35 yB 6 none site (P a D fV fC b A z o len) (E a D fV fC A o len) [⟨a, fC.slot⟩, ⟨a, fV.slot⟩] 1 len := by
  refine Law.of_walk (plainFor_of_name (by decide +kernel)) (by decide +kernel) (by decide +kernel) (by decide) (fun _ _ h => by rw [h.1]; rfl) (fun _ U U' hal hh h => ⟨h.1, h.2.1.mv hal hh, h.2.2.1.al hal, h.2.2.2.1.al hal, h.2.2.2.2.1.mv hal hh, h.2.2.2.2.2.1.there hal hh, h.2.2.2.2.2.2⟩) (fun r U U' V V' h1 hal h2 h => Got.mv r U U' V V' h1 hal h2 h) ?_
  intro p e s m args below meth c s₁ X0 hexec hbytes hml hret hlk hnm hown hh0 W hP
  obtain ⟨rfl, hB, f1, f2, hA, s1, hz, l0, l1, l2, hp⟩ := hP
  have a31 := hA.1.2.2.2
  have c1 : Steps p.tables e below (s₁.setTop (entryFrame m #[.ref a, .ref b, .int (Int32.ofNat o), .int (Int32.ofNat len), .null] 6)) (s₁.setTop (mkF m 0 #[.val (.ref a), .val (.ref b), .val (.int (Int32.ofNat o)), .val (.int (Int32.ofNat len)), .val .null, .unset] [])) := entry rfl
  have c2 : Steps p.tables e below (s₁.setTop (entryFrame m #[.ref a, .ref b, .int (Int32.ofNat o), .int (Int32.ofNat len), .null] 6)) (s₁.setTop (mkF m 1 #[.val (.ref a), .val (.ref b), .val (.int (Int32.ofNat o)), .val (.int (Int32.ofNat len)), .val .null, .unset] [.ref a])) := c1.trans (by
    refine XS.aloadN X0.here hexec rfl (hb hbytes d0) rfl rfl ?_
    exact Steps.refl _)
  obtain ⟨T3, X3, q3, st3⟩ := X0.oinit hexec hown (wks W (objW "java/lang/String" 1)) (g := (mkF m 1 #[.val (.ref a), .val (.ref b), .val (.int (Int32.ofNat o)), .val (.int (Int32.ofNat len)), .val .null, .unset] [.ref a])) rfl (by rw [hml]; rfl) (rest := []) rfl (hb hbytes d1) (W := 0) (by show 2 * 0 + 0 ≤ _; decide) (Nat.le_of_ble_eq_true rfl) (Nat.le_of_ble_eq_true rfl)
  have hh3 := q3.trans hh0
  have c4 : Steps p.tables e below (s₁.setTop (entryFrame m #[.ref a, .ref b, .int (Int32.ofNat o), .int (Int32.ofNat len), .null] 6)) (T3.setTop (mkF m 27 #[.val (.ref a), .val (.ref b), .val (.int (Int32.ofNat o)), .val (.int (Int32.ofNat len)), .val .null, .unset] [])) := (c2.trans (st3 _ (Steps.refl _))).trans (by
    refine XS.iloadN X3.here hexec rfl (hb hbytes d4) rfl ?_
    refine XS.ifYes X3.here hexec rfl (pc0 := 5) rfl (hb hbytes d5) rfl (i0_ne_t (nz32 (by omega) l0)) (by decide) rfl ?_
    exact Steps.refl _)
  obtain ⟨T5, X5, q5, st5⟩ := X3.sget hexec hown (wk W (.fieldLink "java/lang/String" 38 "java/lang/String" "COMPACT_STRINGS" "Z")) s1 (fun _ _ h => by rw [hh3]; exact h) (g := (mkF m 27 #[.val (.ref a), .val (.ref b), .val (.int (Int32.ofNat o)), .val (.int (Int32.ofNat len)), .val .null, .unset] [])) rfl (hb hbytes d27)
  have hh5 := q5.trans hh3
  have c6 : Steps p.tables e below (s₁.setTop (entryFrame m #[.ref a, .ref b, .int (Int32.ofNat o), .int (Int32.ofNat len), .null] 6)) (T5.setTop (mkF m 30 #[.val (.ref a), .val (.ref b), .val (.int (Int32.ofNat o)), .val (.int (Int32.ofNat len)), .val .null, .unset] [.int z])) := c4.trans (st5 _ (Steps.refl _))
  have c7 : Steps p.tables e below (s₁.setTop (entryFrame m #[.ref a, .ref b, .int (Int32.ofNat o), .int (Int32.ofNat len), .null] 6)) (T5.setTop (mkF m 36 #[.val (.ref a), .val (.ref b), .val (.int (Int32.ofNat o)), .val (.int (Int32.ofNat len)), .val .null, .unset] [.int (Int32.ofNat len), .int (Int32.ofNat o), .ref b])) := c6.trans (by
    refine XS.ifNo X5.here hexec rfl (hb hbytes d30) rfl (i0_eq_f hz) ?_
    refine XS.aloadN X5.here hexec rfl (hb hbytes d33) rfl rfl ?_
    refine XS.iloadN X5.here hexec rfl (hb hbytes d34) rfl ?_
    refine XS.iloadN X5.here hexec rfl (hb hbytes d35) rfl ?_
    exact Steps.refl _)
  obtain ⟨v8, T8, X8, E8, g8⟩ := X5.callS hexec (Cmp3.law l b A o len) hown (wks W (staticW "java/lang/String" 177 Cmp3.yN)) (wk W Cmp3.tab) (W := 0) (Nat.le_of_ble_eq_true rfl) (Nat.le_of_ble_eq_true rfl) (Nat.le_refl _) (by show 0 + len ≤ len; omega) (g := (mkF m 36 #[.val (.ref a), .val (.ref b), .val (.int (Int32.ofNat o)), .val (.int (Int32.ofNat len)), .val .null, .unset] [.int (Int32.ofNat len), .int (Int32.ofNat o), .ref b])) rfl (by rw [hml]; rfl) c7 (argsL := [.ref b, .int (Int32.ofNat o), .int (Int32.ofNat len)]) (rest := []) rfl rfl (by show 2 * 0 + 0 ≤ _; decide) (hb hbytes d36) (⟨rfl, hA.mv X5.warmed.alike hh5, l1, l2, hp⟩)
  obtain ⟨e8, z8⟩ := E8
  obtain ⟨rfl, N, n1, n2, n3, n4, n5, n6⟩ := NewArr.mv _ T5 s _ _ hh5.symm (Vm.Alike.refl _) rfl e8
  rw [hh5] at z8
  have hB1 := hB.keep X8.warmed.alike (n6 _ _ hB.1)
  have hne : s.heap.size ≠ a := (Nat.ne_of_lt (Array.getElem?_eq_some_iff.mp hB.1).1).symm
  have c9 : Steps p.tables e below (s₁.setTop (entryFrame m #[.ref a, .ref b, .int (Int32.ofNat o), .int (Int32.ofNat len), .null] 6)) (T8.setTop (mkF m 39 #[.val (.ref a), .val (.ref b), .val (.int (Int32.ofNat o)), .val (.int (Int32.ofNat len)), .val .null, .unset] [.ref s.heap.size])) := g8
  have c10 : Steps p.tables e below (s₁.setTop (entryFrame m #[.ref a, .ref b, .int (Int32.ofNat o), .int (Int32.ofNat len), .null] 6)) (T8.setTop (mkF m 45 #[.val (.ref a), .val (.ref b), .val (.int (Int32.ofNat o)), .val (.int (Int32.ofNat len)), .val .null, .val (.ref s.heap.size)] [.int (Int32.ofNat N.slots.size), .ref s.heap.size, .ref a])) := by
    have hc : Steps p.tables e below (s₁.setTop (entryFrame m #[.ref a, .ref b, .int (Int32.ofNat o), .int (Int32.ofNat len), .null] 6)) (T8.setTop (mkF m 45 #[.val (.ref a), .val (.ref b), .val (.int (Int32.ofNat o)), .val (.int (Int32.ofNat len)), .val .null, .val (.ref s.heap.size)] [.int (Int32.ofNat len), .ref s.heap.size, .ref a])) := c9.trans (by
      refine XS.astore X8.here hexec rfl (hb hbytes d39) rfl rfl rfl ?_
      refine XS.aloadN X8.here hexec rfl (hb hbytes d41) rfl rfl ?_
      refine XS.aload X8.here hexec rfl (hb hbytes d42) rfl rfl ?_
      refine XS.iloadN X8.here hexec rfl (hb hbytes d44) rfl ?_
      exact Steps.refl _)
    rw [n4]; exact hc
  obtain ⟨v11, T11, X11, E11, g11⟩ := X8.callS hexec (CodL.law l s.heap.size N) hown (wks W (staticW "java/lang/String" 47 CodL.yN)) (wk W CodL.tab) (W := 1) (Nat.le_of_ble_eq_true rfl) (Nat.le_of_ble_eq_true rfl) (Nat.le_refl _) (by show 0 + len + 0 ≤ len; omega) (g := (mkF m 45 #[.val (.ref a), .val (.ref b), .val (.int (Int32.ofNat o)), .val (.int (Int32.ofNat len)), .val .null, .val (.ref s.heap.size)] [.int (Int32.ofNat N.slots.size), .ref s.heap.size, .ref a])) rfl (by rw [hml]; rfl) c10 (argsL := [.ref s.heap.size, .int (Int32.ofNat N.slots.size)]) (rest := [.ref a]) rfl rfl (by show 2 * 0 + (1 + 0) ≤ _; decide) (hb hbytes d45) (⟨rfl, n1⟩)
  obtain ⟨rfl, q11⟩ := E11
  have hB11 := hB1.mv (X8.warmed.alike.symm.trans X11.warmed.alike) q11
  have c12 : Steps p.tables e below (s₁.setTop (entryFrame m #[.ref a, .ref b, .int (Int32.ofNat o), .int (Int32.ofNat len), .null] 6)) (T11.setTop (mkF m 48 #[.val (.ref a), .val (.ref b), .val (.int (Int32.ofNat o)), .val (.int (Int32.ofNat len)), .val .null, .val (.ref s.heap.size)] [.int 0, .ref a])) := g11
  obtain ⟨T13, X13, p13, bl13, sl13, st13⟩ := X11.finit hexec hown (wk W (.fieldLink "java/lang/String" 15 "java/lang/String" "coder" "B")) (Or.inr ⟨_, (wk W (.laysFinal "java/lang/String" "java/lang/String" "coder" "B"))⟩) (Or.inl ⟨rfl, hnm⟩) f2 (Or.inl rfl) hB11 (t := .byte) (by decide +kernel) rfl (g := (mkF m 48 #[.val (.ref a), .val (.ref b), .val (.int (Int32.ofNat o)), .val (.int (Int32.ofNat len)), .val .null, .val (.ref s.heap.size)] [.int 0, .ref a])) rfl (rest := []) rfl (hb hbytes d48)
  have c14 : Steps p.tables e below (s₁.setTop (entryFrame m #[.ref a, .ref b, .int (Int32.ofNat o), .int (Int32.ofNat len), .null] 6)) (T13.setTop (mkF m 54 #[.val (.ref a), .val (.ref b), .val (.int (Int32.ofNat o)), .val (.int (Int32.ofNat len)), .val .null, .val (.ref s.heap.size)] [.ref s.heap.size, .ref a])) := (c12.trans (st13 _ (Steps.refl _))).trans (by
    refine XS.aloadN X13.here hexec rfl (hb hbytes d51) rfl rfl ?_
    refine XS.aload X13.here hexec rfl (hb hbytes d52) rfl rfl ?_
    exact Steps.refl _)
  obtain ⟨T15, X15, p15, bl15, sl15, st15⟩ := X13.finit hexec hown (wk W (.fieldLink "java/lang/String" 9 "java/lang/String" "value" "[B")) (Or.inr ⟨_, (wk W (.laysFinal "java/lang/String" "java/lang/String" "value" "[B"))⟩) (Or.inl ⟨rfl, hnm⟩) f1 (Or.inl rfl) bl13 (t := (.array .byte)) (by decide +kernel) rfl (g := (mkF m 54 #[.val (.ref a), .val (.ref b), .val (.int (Int32.ofNat o)), .val (.int (Int32.ofNat len)), .val .null, .val (.ref s.heap.size)] [.ref s.heap.size, .ref a])) rfl (rest := []) rfl (hb hbytes d54)
  have c16 : Steps p.tables e below (s₁.setTop (entryFrame m #[.ref a, .ref b, .int (Int32.ofNat o), .int (Int32.ofNat len), .null] 6)) (T15.setTop (mkF m 57 #[.val (.ref a), .val (.ref b), .val (.int (Int32.ofNat o)), .val (.int (Int32.ofNat len)), .val .null, .val (.ref s.heap.size)] [])) := c14.trans (st15 _ (Steps.refl _))
  have ap := apart (Or.inr ⟨_, (wk W (.laysFinal "java/lang/String" "java/lang/String" "value" "[B"))⟩) (Or.inr ⟨_, (wk W (.laysFinal "java/lang/String" "java/lang/String" "coder" "B"))⟩) f1 f2 (t₁ := .array .byte) (t₂ := .byte) (by decide +kernel) (by decide +kernel) (by decide)
  have al := X8.warmed.alike.symm.trans X15.warmed.alike
  have n7 : T11.heap[s.heap.size]? = some N := by rw [q11]; exact n1.1
  exact ⟨T15, none, _, _, _, X15, by simp, rfl, by omega, (fun _ => rfl), ⟨rfl, _, N, bl15, ((Same.refl D _).set _ (by simp)).set _ (by simp), sl15, (Cell.slots_setSlot_ne _ ap).trans sl13, n1.keep al (p15.other hne (p13.other hne n7)), n2, by rw [al.findClass]; exact n3, n4, n5, fun y c h1 h2 => p15.other h1 (p13.other h1 (by rw [q11]; exact n6 y c h2)), by rw [p15.2.2, p13.2.2, q11]; exact z8⟩, fun fs hl => c16.trans (X15.returnOut hexec hret (hb hbytes d57) hl)⟩
end New4
namespace New1
def yN : MethodName := ⟨"java/lang/String", "<init>", "([C)V"⟩
abbrev yB : ByteArray := jdk_42_method_3_code
theorem d0 : decode yB 0 = .ok (.aload_n 0, 1) := by decide +kernel
theorem d1 : decode yB 1 = .ok (.aload_n 1, 1) := by decide +kernel
theorem d2 : decode yB 2 = .ok (.iconst 0, 1) := by decide +kernel
theorem d3 : decode yB 3 = .ok (.aload_n 1, 1) := by decide +kernel
theorem d4 : decode yB 4 = .ok (.arraylength, 1) := by decide +kernel
theorem d5 : decode yB 5 = .ok (.aconst_null, 1) := by decide +kernel
theorem d6 : decode yB 6 = .ok (.invokespecial 27, 3) := by decide +kernel
theorem d9 : decode yB 9 = .ok (.return_, 1) := by decide +kernel
def site : List Cond := [New4.tab] ++ initW "java/lang/String" 27 New4.yN
def tab : Cond := tabOf yN yB 2 none site
def P (a : Addr) (D : Cell) (fV fC : Field) (b : Addr) (A : Cell) (z : Int32) (args : Array Value) (s : State) : Prop := args = #[.ref a, .ref b] ∧ Blank "java/lang/String" a D s ∧ Found "java/lang/String" "value" "[B" fV s ∧ Found "java/lang/String" "coder" "B" fC s ∧ Ch b A s ∧ StaticIs s "java/lang/String" "COMPACT_STRINGS" "Z" (.int z) ∧ ¬ z = 0 ∧ 0 < A.slots.size ∧ A.slots.size ≤ 536870912 ∧ ∀ i, i < A.slots.size → ¬ 255 < cv A i
def E (a : Addr) (D : Cell) (fV fC : Field) (A : Cell) (r : Option Value) (s u : State) : Prop := Got a D fV fC A 0 A.slots.size r s u
/-- new String(chars), not empty, no char above 255: a Latin-1 String of their low bytes -/
theorem law (l : Launch) (a : Addr) (D : Cell) (fV fC : Field) (b : Addr) (A : Cell) (z : Int32) : Law l yN 2 1 3 52 yB 2 none site (P a D fV fC b A z) (E a D fV fC A) [⟨a, fC.slot⟩, ⟨a, fV.slot⟩] 1 A.slots.size := by
  refine Law.of_walk (plainFor_of_name (by decide +kernel)) (by decide +kernel) (by decide +kernel) (by decide) (fun _ _ h => by rw [h.1]; rfl) (fun _ U U' hal hh h => ⟨h.1, h.2.1.mv hal hh, h.2.2.1.al hal, h.2.2.2.1.al hal, h.2.2.2.2.1.mv hal hh, h.2.2.2.2.2.1.there hal hh, h.2.2.2.2.2.2⟩) (fun r U U' V V' h1 hal h2 h => Got.mv r U U' V V' h1 hal h2 h) ?_
  intro p e s m args below meth c s₁ X0 hexec hbytes hml hret hlk hnm hown hh0 W hP
  obtain ⟨rfl, hB, f1, f2, hA, s1, hz, l0, l2, hp⟩ := hP
  have c1 : Steps p.tables e below (s₁.setTop (entryFrame m #[.ref a, .ref b] 2)) (s₁.setTop (mkF m 0 #[.val (.ref a), .val (.ref b)] [])) := entry rfl
  have c2 : Steps p.tables e below (s₁.setTop (entryFrame m #[.ref a, .ref b] 2)) (s₁.setTop (mkF m 6 #[.val (.ref a), .val (.ref b)] [.null, .int (Int32.ofNat A.slots.size), .int 0, .ref b, .ref a])) := c1.trans (by
    refine XS.aloadN X0.here hexec rfl (hb hbytes d0) rfl rfl ?_
    refine XS.aloadN X0.here hexec rfl (hb hbytes d1) rfl rfl ?_
    refine iconstV X0.here hexec rfl 0 (hb hbytes d2) (by decide) ?_
    refine XS.aloadN X0.here hexec rfl (hb hbytes d3) rfl rfl ?_
    refine X0.alen hexec (hA.1.mv X0.warmed.alike hh0) rfl rfl (hb hbytes d4) ?_
    refine XS.aconstNull X0.here hexec rfl (hb hbytes d5) ?_
    exact Steps.refl _)
  obtain ⟨v3, T3, X3, E3, g3⟩ := X0.callN hexec (New4.law l a D fV fC b A z 0 A.slots.size) rfl hown (wks W (initW "java/lang/String" 27 New4.yN)) (W New4.tab (by simp only [site, List.mem_cons, List.mem_append, true_or, or_true])) (W := 0) (Nat.le_of_ble_eq_true rfl) (Nat.le_of_ble_eq_true rfl) (Nat.le_refl _) (by show 0 + A.slots.size ≤ A.slots.size; omega) (g := (mkF m 6 #[.val (.ref a), .val (.ref b)] [.null, .int (Int32.ofNat A.slots.size), .int (Int32.ofNat 0), .ref b, .ref a])) rfl (by rw [hml]; rfl) c2 (argsL := [.ref b, .int (Int32.ofNat 0), .int (Int32.ofNat A.slots.size), .null]) (rest := []) rfl rfl (by show 2 * 0 + 0 ≤ _; decide) (hb hbytes d6) (⟨rfl, hB.mv X0.warmed.alike hh0, f1.al X0.warmed.alike, f2.al X0.warmed.alike, hA.mv X0.warmed.alike hh0, s1.there X0.warmed.alike hh0, hz, l0, by omega, l2, fun i hi => by rw [Nat.zero_add]; exact hp i hi⟩)
  have e0 := Got.mv _ s₁ s _ _ hh0.symm (Vm.Alike.refl _) rfl E3
  obtain rfl := e0.1
  have c4 : Steps p.tables e below (s₁.setTop (entryFrame m #[.ref a, .ref b] 2)) (T3.setTop (mkF m 9 #[.val (.ref a), .val (.ref b)] [])) := g3
  exact ⟨T3, none, _, _, _, X3, by simp, rfl, by omega, (fun _ => rfl), e0, fun fs hl => c4.trans (X3.returnOut hexec hret (hb hbytes d9) hl)⟩
theorem pays {l : Launch} {R : Room} {p : Program} {e : Env} {below : List Frame} {s : State} {sargs : Array Value} {len W : Nat} (a : Addr) (D : Cell) (fV fC : Field) (b : Addr) (A : Cell) (z : Int32) (htab : tab.before sargs s = true) (hfr : 4 ≤ R.frames) (hlo : W + 65 ≤ R.locals) :
    Back l R p e below s sargs yN len W (fun A₁ a₁ => A₁.cells + 1 ≤ R.cells ∧ A₁.slots + A.slots.size ≤ R.slots ∧ P a D fV fC b A z a₁ A₁.U) (fun A₁ _ v₁ B₁ => E a D fV fC A v₁ A₁.U B₁.U ∧ B₁.locs = A₁.locs ++ [⟨a, fC.slot⟩, ⟨a, fV.slot⟩] ∧ B₁.cells = A₁.cells + 1 ∧ B₁.slots = A₁.slots + A.slots.size) :=
  (law l a D fV fC b A z).pays htab hfr (by omega)
end New1
/-- the byte, read back as charAt reads it, is the char -/
theorem lo8_mask {x : Int32} (h0 : ¬ x < 0) (h1 : ¬ 255 < x) : lo8 x &&& 255 = x := by
  have t : ∀ k : Fin 256, lo8 (Int32.ofNat k.val) &&& 255 = Int32.ofNat k.val := by decide +kernel
  rw [Int32.lt_iff_toInt_lt] at h0 h1
  have e0 : (0 : Int32).toInt = 0 := rfl
  have e1 : (255 : Int32).toInt = 255 := rfl
  obtain ⟨k, hk⟩ : ∃ k : Nat, x.toInt = k := ⟨x.toInt.toNat, by omega⟩
  have hx : x = Int32.ofNat k := Int32.toInt_inj.mp (by rw [hk, Int32.toInt_ofNat_small (by omega)])
  rw [hx]
  exact t ⟨k, by omega⟩
end StrChars
namespace StrChars.Road
open Jvm Sem ClassFile Op Lib Jvm.Stand Jvm.Free Jvm.Free.XT
open Jvm.Lib.Cold (StaticIs)
abbrev ST : String := "java/lang/String"
/-- every table word that New1's law asks, flat -/
abbrev words : List Jvm.Cond := [.code New1.yN New1.yB 2 none, .initialized ST, .methodLink ST 27 New4.yN, .instanceMethod New4.yN,
  .code New4.yN New4.yB 6 none, .fieldLink ST 38 ST "COMPACT_STRINGS" "Z", .laysFinal ST ST "value" "[B", .fieldLink ST 9 ST "value" "[B", .laysFinal ST ST "coder" "B", .fieldLink ST 15 ST "coder" "B",
  .methodLink ST 1 Lib.objectInit, .instanceMethod Lib.objectInit, .code Lib.objectInit ⟨#[0xb1]⟩ 1 none, .methodLink ST 177 Cmp3.yN, .static Cmp3.yN, .methodLink ST 47 CodL.yN, .static CodL.yN,
  .code Cmp3.yN Cmp3.yB 6 (some (.array .byte)), .initialized U16, .arrayClass .byte, .methodLink U16 115 Cmp5.yN, .static Cmp5.yN, .code Cmp5.yN Cmp5.yB 7 (some .int), .code CodL.yN CodL.yB 2 (some .byte)]
theorem tab_of {a : Array Value} {s : State} (h : ∀ w ∈ words, w.before a s = true) : New1.tab.before a s = true := by
  have h5 : Cmp5.tab.before a s = true := unparts (wk h (.code Cmp5.yN Cmp5.yB 7 (some .int))) (wks h (.initialized Cmp5.yN.cls :: Cmp5.site))
  have hc : CodL.tab.before a s = true := unparts (wk h (.code CodL.yN CodL.yB 2 (some .byte))) (wks h (.initialized CodL.yN.cls :: CodL.site))
  have q5 : ∀ w ∈ Cmp5.tab :: words, w.before a s = true := fun w hw => (List.mem_cons.mp hw).elim (fun e => e ▸ h5) (h w)
  have h3 : Cmp3.tab.before a s = true := unparts (wk q5 (.code Cmp3.yN Cmp3.yB 6 (some (.array .byte)))) (wks q5 (.initialized Cmp3.yN.cls :: Cmp3.site))
  have q3 : ∀ w ∈ Cmp3.tab :: CodL.tab :: words, w.before a s = true := fun w hw => (List.mem_cons.mp hw).elim (fun e => e ▸ h3) fun hw => (List.mem_cons.mp hw).elim (fun e => e ▸ hc) (h w)
  have h4 : New4.tab.before a s = true := unparts (wk q3 (.code New4.yN New4.yB 6 none)) (wks q3 (.initialized New4.yN.cls :: New4.site))
  have q4 : ∀ w ∈ New4.tab :: words, w.before a s = true := fun w hw => (List.mem_cons.mp hw).elim (fun e => e ▸ h4) (h w)
  exact unparts (wk q4 (.code New1.yN New1.yB 2 none)) (wks q4 (.initialized New1.yN.cls :: New1.site))
/-- the words ride from the start Z to the walk's own state -/
theorem moved {Z s : State} {a0 args : Array Value} (hZ : Z.Warmed39 s.vm) (hw : ∀ d ∈ words, d.before a0 Z = true) : ∀ d ∈ words, d.before args s = true := fun d hd => by
  have q := hw d hd
  have t : ∀ d ∈ words, d = .arrayClass .byte ∨ (d.onTables && d.keepsFace) = true := by decide +kernel
  rcases t d hd with rfl | t
  · exact RoadKit.mvA hZ q
  · exact RoadKit.mv hZ q t
/-- WHAT COMES BACK, over the tables of the start Z: h the heap at the call, h' behind it -/
def Q (Z : State) (x : Addr) (A : Cell) (h : Heap) (v : Option Value) (h' : Heap) (L : List Loc) : Prop := v = none ∧ (∀ y ∈ L, y.base = x) ∧ RoadKit.Keep h h' [x] ∧ h'.size = h.size + 1 ∧ RoadKit.Exa Z h' x ST ∧ RoadKit.Fld Z h' x ST "value" "[B" (.ref h.size) ∧ RoadKit.Fld Z h' x ST "coder" "B" (.int 0) ∧
  (∃ V : Cell, RoadKit.Arr Z h' h.size V .byte ∧ V.vm = .none ∧ Z.vm.findClass "[B" = some V.cls ∧ V.slots.size = A.slots.size ∧ ∀ j, j < A.slots.size → V.slots[j]? = some (.int (lo8 (cv A j)))) ∧
  ∀ (O n d : String) (w : Value), RoadKit.Fld Z h x O n d w → RoadKit.slotOf Z O n d ≠ RoadKit.slotOf Z ST "value" "[B" → RoadKit.slotOf Z O n d ≠ RoadKit.slotOf Z ST "coder" "B" → RoadKit.Fld Z h' x O n d w
/-- **new String(chars) AT A CALL, IN THE ROAD'S FORM**: for specialBack behind newO: x the fresh String, b the char[] with the cell A -/
theorem back {p : Program} {l : Launch} {e : Env} {R : Room} {s : State} {args : Array Value} {below : List Frame} {len W : Nat} {Z : State} {a0 : Array Value} {h : Heap} (hZ : Z.Warmed39 s.vm) (hw : ∀ d ∈ words, d.before a0 Z = true) {kI : Nat} (wi : (Jvm.Cond.instantiable ST kI).before a0 Z = true)
    {x b : Addr} {A : Cell} {z : Int32} {v0 c0 : Value} (E : RoadKit.Exa Z h x ST) (V : RoadKit.Fld Z h x ST "value" "[B" v0) (C : RoadKit.Fld Z h x ST "coder" "B" c0) (K : RoadKit.Arr Z h b A .char) (hty : Typed .char A) (S : RoadKit.Sta Z h ST "COMPACT_STRINGS" "Z" (.int z)) (hz : ¬ z = 0)
    (l0 : 0 < A.slots.size) (l2 : A.slots.size ≤ 536870912) (hp : ∀ i, i < A.slots.size → ¬ 255 < cv A i) (hfr : 4 ≤ R.frames) (hlo : W + 65 ≤ R.locals) :
    Back l R p e below s args New1.yN len W (fun P a => a = #[.ref x, .ref b] ∧ P.U.heap = h ∧ P.cells + 1 ≤ R.cells ∧ P.slots + A.slots.size ≤ R.slots)
      (fun P _ v B => ∃ L, Q Z x A h v B.U.heap L ∧ B.locs = P.locs ++ L ∧ B.cells = P.cells + 1 ∧ B.slots = P.slots + A.slots.size) := by
  intro m meth c P g ig mk a X hg hsize hdg hW hn hp'
  obtain ⟨rfl, rfl, r1, r2⟩ := hp'
  have al : Z.vm.Alike P.U.vm := hZ.alike.trans X.warmed.alike
  obtain ⟨D, cfV, kV, iV, fV, hD, gV, stV, knV, obV, asV, slV⟩ := id V
  obtain ⟨D', cfC, kC, iC, fC, hD', gC, stC, -, -, asC, slC⟩ := id C
  cases hD.symm.trans hD'
  obtain ⟨D2, kD, e1, e2, e3, e4, e5⟩ := id E
  cases hD.symm.trans e1
  obtain ⟨c2, k2, i1, i2, i3, -⟩ := Cond.instantiable_spec wi
  cases e2.symm.trans i1
  cases e3.symm.trans i2
  obtain ⟨kU, u1, u2⟩ := al.2.2 _ _ e3
  have hB : Blank ST x D P.U := ⟨hD, ⟨knV, fun q hq => by rw [hq] at obV; cases obV⟩, by rw [al.findClass]; exact e2, kU, u1, by rw [u2]; exact i3, by rw [u2]; exact e5 i3⟩
  have F1 : Found ST "value" "[B" fV P.U := ⟨SBG.found_only al ⟨cfV, kV, iV, gV⟩, stV⟩
  have F2 : Found ST "coder" "B" fC P.U := ⟨SBG.found_only al ⟨cfC, kC, iC, gC⟩, stC⟩
  have hA : Ch b A P.U := ⟨⟨K.1, State.isArrayOf_alike al K.2.1, K.2.2, by omega⟩, hty⟩
  have hS : StaticIs P.U ST "COMPACT_STRINGS" "Z" (.int z) := by
    obtain ⟨cfS, iS, kS, fS, st, cS, t1, t2, t3, t4, t5, t6, t7⟩ := S
    exact StaticIs.there (s := { Z with heap := P.U.heap }) ⟨cfS, iS, kS, fS, st, cS, t1, t2, t3, t4, t5, (fun q => by rw [q] at t6; cases t6), t7⟩ al rfl
  obtain ⟨v, B, X', ⟨⟨hv, E', V', q1, q2, q3, q4, q5, q6, q7, q8, q9, q10, q11⟩, hl, hc, hs⟩, st⟩ := New1.pays x D fV fC b A z (tab_of (moved hZ hw)) hfr hlo m meth c P g ig mk _ X hg hsize hdg hW hn ⟨r1, r2, rfl, hB, F1, F2, hA, hS, hz, l0, l2, hp⟩
  have al' : Z.vm.Alike B.U.vm := hZ.alike.trans X'.warmed.alike
  have hsz : E'.slots.size = D.slots.size := by
    obtain ⟨-, -, -, kB, w1, w2, w3⟩ := q1
    obtain ⟨kB', y1, y2⟩ := al'.2.2 _ _ e3
    rw [q2.2.1] at w1
    cases w1.symm.trans y1
    rw [w3, e5 i3, y2]
  refine ⟨v, B, X', ⟨_, ⟨hv, ?_, ⟨by omega, fun y cy hy hn' => q10 y cy (by simpa using hn') hy, fun y cy hy => ?_⟩, q11, ⟨E', _, q1.1, by rw [q2.2.1]; exact e2, by rw [q2.2.1]; exact e3, by rw [q2.1]; exact obV, fun _ => by rw [hsz]; exact e5 i3⟩,
    ⟨E', cfV, kV, iV, fV, q1.1, gV, stV, by rw [q2.1]; exact knV, by rw [q2.1]; exact obV, by rw [q2.2.1]; exact asV, q3⟩, ⟨E', cfC, kC, iC, fC, q1.1, gC, stC, by rw [q2.1]; exact knV, by rw [q2.1]; exact obV, by rw [q2.2.1]; exact asC, q4⟩,
    ⟨V', ⟨q5.1, State.isArrayOf_alike al'.symm q5.2.1, q5.2.2.1⟩, q6, by rw [← al'.findClass]; exact q7, q8, fun j hj => by have := q9 j hj; rwa [Nat.zero_add] at this⟩, fun O n d w F n1 n2 => ?_⟩, hl, hc, hs⟩, st⟩
  · intro y hy
    simp only [List.mem_cons, List.not_mem_nil, or_false] at hy
    rcases hy with rfl | rfl <;> rfl
  · by_cases q : y = x
    · subst q
      cases hD.symm.trans hy
      exact ⟨E', q1.1, q2.2.1, q2.1, hsz⟩
    · exact ⟨cy, q10 y cy q hy, rfl, rfl, rfl⟩
  · obtain ⟨D3, cf, k, i, f, g1, g2, g3, g4, g5, g6, g7⟩ := F
    cases hD.symm.trans g1
    simp only [RoadKit.slotOf, g2, gV, gC, Option.map_some, Option.getD_some] at n1 n2
    exact ⟨E', cf, k, i, f, q1.1, g2, g3, by rw [q2.1]; exact g4, by rw [q2.1]; exact g5, by rw [q2.2.1]; exact g6, by rw [q2.2.2 f.slot (by simp [n1, n2])]; exact g7⟩
end StrChars.Road
namespace StrChars.Road
open Jvm Sem ClassFile Op Lib Jvm.Stand Jvm.Free Jvm.Free.XT
/-- WHAT COMES BACK, the byte[] as a list of values -/
def QA (Z : State) (x : Addr) (zn : Int32) (cs : List Int32) (h : Heap) (v : Option Value) (h' : Heap) (L : List Loc) : Prop := v = none ∧ (∀ y ∈ L, y.base = x) ∧ RoadKit.Keep h h' [x] ∧ h'.size = h.size + 1 ∧ RoadKit.Exa Z h' x ST ∧ RoadKit.Fld Z h' x ST "value" "[B" (.ref h.size) ∧ RoadKit.Fld Z h' x ST "coder" "B" (.int 0) ∧
  (∃ kb, Z.vm.findClass "[B" = some kb ∧ RoadKit.Arv Z h' h.size kb .byte zn (cs.map fun c => .int (lo8 c)) (.int 0)) ∧
  ∀ (O n d : String) (w : Value), RoadKit.Fld Z h x O n d w → RoadKit.slotOf Z O n d ≠ RoadKit.slotOf Z ST "value" "[B" → RoadKit.slotOf Z O n d ≠ RoadKit.slotOf Z ST "coder" "B" → RoadKit.Fld Z h' x O n d w
/-- **new String(chars) AT A CALL, THE ARRAYS AS LISTS**: the char[] at b holds cs, not empty, no char above 255 -/
theorem backArv {p : Program} {l : Launch} {e : Env} {R : Room} {s : State} {args : Array Value} {below : List Frame} {len W : Nat} {Z : State} {a0 : Array Value} {h : Heap} (hZ : Z.Warmed39 s.vm) (hw : ∀ d ∈ words, d.before a0 Z = true) {kI : Nat} (wi : (Jvm.Cond.instantiable ST kI).before a0 Z = true)
    {x b : Addr} {k : ClassId} {zn z : Int32} {cs : List Int32} {dv v0 c0 : Value} (E : RoadKit.Exa Z h x ST) (V : RoadKit.Fld Z h x ST "value" "[B" v0) (C : RoadKit.Fld Z h x ST "coder" "B" c0) (K : RoadKit.Arv Z h b k .char zn (cs.map Value.int) dv) (S : RoadKit.Sta Z h ST "COMPACT_STRINGS" "Z" (.int z)) (hz : ¬ z = 0)
    (hlen : zn.toNatClampNeg = cs.length) (h0 : 0 < cs.length) (hbig : cs.length ≤ 536870912) (hall : ∀ c ∈ cs, ¬ 255 < c) (hfr : 4 ≤ R.frames) (hlo : W + 65 ≤ R.locals) :
    Back l R p e below s args New1.yN len W (fun P a => a = #[.ref x, .ref b] ∧ P.U.heap = h ∧ P.cells + 1 ≤ R.cells ∧ P.slots + cs.length ≤ R.slots)
      (fun P _ v B => ∃ L, QA Z x zn cs h v B.U.heap L ∧ B.locs = P.locs ++ L ∧ B.cells = P.cells + 1 ∧ B.slots = P.slots + cs.length) := by
  obtain ⟨A, K1, K2, K3, K4, K5, K6⟩ := K
  have e : A.slots.size = cs.length := K3.trans hlen
  have hat : ∀ (i : Nat) (hi : i < cs.length), A.slots[i]? = some (.int cs[i]) := fun i hi => by rw [K5 i (by omega)]; simp [List.getD_eq_getElem?_getD, hi]
  have hcv : ∀ (i : Nat) (hi : i < cs.length), cv A i = cs[i] := fun i hi => by unfold cv; rw [hat i hi]
  have hty : Typed .char A := fun i v hv => by
    have hi : i < A.slots.size := (Array.getElem?_eq_some_iff.mp hv).1
    have q := K5 i hi
    rw [hv] at q
    rw [Option.some.inj q]
    exact K6 i hi
  refine Back.mono (back hZ hw wi E V C K1 hty S hz (by omega) (by omega) (fun i hi => by rw [hcv i (by omega)]; exact hall _ (List.getElem_mem _)) hfr hlo) (fun P a hp => ⟨hp.1, hp.2.1, hp.2.2.1, by rw [e]; exact hp.2.2.2⟩) (fun P a v B hp hq => ?_)
  obtain ⟨L, ⟨q1, q2, q3, q4, q5, q6, q7, ⟨V', v1, v2, v3, v4, v5⟩, q9⟩, hl, hc, hs⟩ := hq
  refine ⟨L, ⟨q1, q2, q3, q4, q5, q6, q7, ⟨V'.cls, v3, V', v1, rfl, by rw [v4, e, hlen], K4, fun i hi => ?_, fun i hi => ?_⟩, q9⟩, hl, hc, by rw [hs, e]⟩
  · have hi' : i < cs.length := by omega
    rw [v5 i (by omega), hcv i hi']; simp [List.getD_eq_getElem?_getD, hi']
  · have hi' : i < cs.length := by omega
    simp only [List.getD_eq_getElem?_getD, List.getElem?_map, List.getElem?_eq_getElem hi', Option.map_some, Option.getD_some]
    exact fits_lo8 _
end StrChars.Road
namespace StrChars.Road
open Jvm Sem ClassFile Op Lib Jvm.Stand Jvm.Free Jvm.Free.XT
/-- WHAT COMES BACK, in the writer's own shape -/
def QV (Z : State) (x : Addr) (N : Int32) (bs : List Int32) (h : Heap) (n0 : Nat) (v : Option Value) (h' : Heap) (L : List Loc) : Prop := v = none ∧ RoadKit.Fr n0 L ∧ RoadKit.Keep h h' [x] ∧ RoadKit.Exa Z h' x ST ∧ RoadKit.Fld Z h' x ST "coder" "B" (.int 0) ∧
  ∃ (t : Addr) (kb : ClassId), n0 ≤ t ∧ h.size ≤ t ∧ ¬ t = x ∧ RoadKit.Fld Z h' x ST "value" "[B" (.ref t) ∧ RoadKit.Arv Z h' t kb .byte N (bs.map Value.int) (.int 0)
/-- **new String(chars) AT A CALL, FOR THE WRITER**: a char[] of n known ints, each 0 to 255 -/
theorem backV {p : Program} {l : Launch} {e : Env} {R : Room} {s : State} {args : Array Value} {below : List Frame} {len W : Nat} {Z : State} {a0 : Array Value} {h : Heap} (hZ : Z.Warmed39 s.vm) (hw : ∀ d ∈ words, d.before a0 Z = true) {kI : Nat} (wi : (Jvm.Cond.instantiable ST kI).before a0 Z = true)
    {x b : Addr} {kC : ClassId} {cs bs : List Int32} {d v0 c0 : Value} {z N : Int32} {n n0 : Nat} (hx0 : n0 ≤ x) (hh0 : n0 ≤ h.size) (E : RoadKit.Exa Z h x ST) (V : RoadKit.Fld Z h x ST "value" "[B" v0) (C : RoadKit.Fld Z h x ST "coder" "B" c0) (K : RoadKit.Arv Z h b kC .char N (cs.map Value.int) d) (S : RoadKit.Sta Z h ST "COMPACT_STRINGS" "Z" (.int z)) (hz : ¬ z = 0)
    (hn : cs.length = n) (hN : N = Int32.ofNat n) (l0 : 0 < n) (l2 : n ≤ 4000) (hp : ∀ c ∈ cs, ¬ c < 0 ∧ ¬ (255 : Int32) < c) (hb : bs = cs.map (fun c => c.toInt8.toInt32)) (hfr : 4 ≤ R.frames) (hlo : W + 65 ≤ R.locals) :
    Back l R p e below s args (⟨"java/lang/String", "<init>", "([C)V"⟩ : MethodName) len W (fun P a => a = #[.ref x, .ref b] ∧ P.U.heap = h ∧ P.cells + 1 ≤ R.cells ∧ P.slots + n ≤ R.slots)
      (fun P _ v B => ∃ L, QV Z x N bs h n0 v B.U.heap L ∧ B.locs = P.locs ++ L ∧ B.cells = P.cells + 1 ∧ B.slots = P.slots + n) := by
  subst hn hN hb
  refine Back.mono (backArv hZ hw wi E V C K S hz (n32 (by omega)) l0 (by omega) (fun c hc => (hp c hc).2) hfr hlo) (fun P a hp => hp) (fun P a v B hp hq => ?_)
  obtain ⟨L, ⟨q1, q2, q3, q4, q5, q6, q7, ⟨kb, v1, v2⟩, q9⟩, hl, hc, hs⟩ := hq
  exact ⟨L, ⟨q1, fun y hy => by rw [q2 y hy]; exact hx0, q3, q5, q7, h.size, kb, hh0, Nat.le_refl _, Nat.ne_of_gt E.lt, q6, by rw [List.map_map]; exact v2⟩, hl, hc, hs⟩
end StrChars.Road
namespace StrChars
open Jvm Sem ClassFile Op Lib Jvm.Stand Jvm.Free.XT Jvm.Free.ALB Jvm.Free.JM Jvm.Free
open Jvm.Lib.Cold (StaticIs)
def hi8 (x : Int32) : Int32 := lo8 (x >>> ((8 : Int32) &&& 31))
/-- what StringUTF16.getChar makes of two bytes -/
def pairCh (u v : Int32) : Int32 := (((u &&& 255) <<< ((0 : Int32) &&& 31)) ||| ((v &&& 255) <<< ((8 : Int32) &&& 31))).toUInt32.toUInt16.toUInt32.toInt32
theorem shr0 (c : Int32) : c >>> ((0 : Int32) &&& 31) = c := by
  have e : ((0 : Int32) &&& 31) = 0 := by decide
  rw [e]
  apply Int32.toBitVec_inj.mp
  rw [Int32.toBitVec_shiftRight]
  have e1 : ((0 : Int32).toBitVec.smod 32) = 0#32 := by decide
  rw [e1, BitVec.sshiftRight_eq']
  exact BitVec.sshiftRight_zero
theorem lo8_and (x : Int32) : (lo8 x &&& 255).toBitVec.toNat = x.toBitVec.toNat % 256 := by
  have h : (lo8 x).toBitVec = (x.toBitVec.signExtend 8).signExtend 32 := by rw [lo8, Int8.toBitVec_toInt32, Int32.toBitVec_toInt8]
  rw [Int32.toBitVec_and, BitVec.toNat_and, h]
  have e : ((x.toBitVec.signExtend 8).signExtend 32).toNat % 256 = x.toBitVec.toNat % 256 := by
    rw [BitVec.toNat_signExtend]
    have hlt := x.toBitVec.isLt
    simp only [BitVec.toNat_setWidth, BitVec.toNat_signExtend]
    split <;> split <;> omega
  rw [← e]
  exact Nat.and_two_pow_sub_one_eq_mod _ 8
theorem pair_says {c : Int32} (h0 : ¬ c < 0) (h1 : ¬ 65535 < c) : pairCh (lo8 c) (hi8 c) = c := by
  rw [Int32.lt_iff_toInt_lt] at h0 h1
  have e0 : (0 : Int32).toInt = 0 := rfl
  have e1 : (65535 : Int32).toInt = 65535 := rfl
  have hc : c.toInt = c.toBitVec.toNat := by
    have := c.toBitVec.isLt
    have e : c.toInt = c.toBitVec.toInt := rfl
    rw [e] at h0 h1
    rw [e]
    rw [BitVec.toInt_eq_toNat_cond] at h0 h1 ⊢
    split at h0 <;> split <;> omega
  have hn : c.toBitVec.toNat < 65536 := by omega
  have a1 := lo8_and c
  have a2 : (hi8 c &&& 255).toBitVec.toNat = c.toBitVec.toNat / 256 := by
    rw [hi8, lo8_and]
    have e : ((8 : Int32) &&& 31) = 8 := by decide
    rw [e, Int32.toBitVec_shiftRight]
    have e2 : ((8 : Int32).toBitVec.smod 32) = 8#32 := by decide
    rw [e2, BitVec.sshiftRight_eq', BitVec.toNat_sshiftRight_of_msb_false (by rw [BitVec.msb_eq_false_iff_two_mul_lt]; omega)]
    show c.toBitVec.toNat >>> 8 % 256 = _
    rw [Nat.shiftRight_eq_div_pow]
    omega
  unfold pairCh
  apply Int32.toBitVec_inj.mp
  apply BitVec.eq_of_toNat_eq
  have f0 : ((0 : Int32) &&& 31) = 0 := by decide
  have f8 : ((8 : Int32) &&& 31) = 8 := by decide
  rw [f0, f8]
  have g : (((lo8 c &&& 255) <<< (0 : Int32)) ||| ((hi8 c &&& 255) <<< (8 : Int32))).toBitVec.toNat = c.toBitVec.toNat := by
    rw [Int32.toBitVec_or, Int32.toBitVec_shiftLeft, Int32.toBitVec_shiftLeft]
    have s0 : ((0 : Int32).toBitVec.smod 32) = 0#32 := by decide
    have s8 : ((8 : Int32).toBitVec.smod 32) = 8#32 := by decide
    rw [s0, s8, BitVec.toNat_or]
    simp only [BitVec.shiftLeft_eq', BitVec.toNat_shiftLeft, a1, a2]
    show (c.toBitVec.toNat % 256) <<< 0 % 2 ^ 32 ||| (c.toBitVec.toNat / 256) <<< 8 % 2 ^ 32 = _
    rw [Nat.shiftLeft_zero, Nat.mod_eq_of_lt (show c.toBitVec.toNat % 256 < 2 ^ 32 by omega), Nat.mod_eq_of_lt (show (c.toBitVec.toNat / 256) <<< 8 < 2 ^ 32 by rw [Nat.shiftLeft_eq]; omega), Nat.or_comm, ← Nat.shiftLeft_add_eq_or_of_lt (by omega), Nat.shiftLeft_eq]
    omega
  show BitVec.toNat (((((lo8 c &&& 255) <<< (0 : Int32)) ||| ((hi8 c &&& 255) <<< (8 : Int32))).toBitVec.setWidth 16).setWidth 32) = _
  rw [BitVec.toNat_setWidth, BitVec.toNat_setWidth, g]
  omega
end StrChars
namespace StrChars
open Jvm Sem ClassFile Op Lib Jvm.Stand Jvm.Free.XT Jvm.Free.ALB Jvm.Free.JM Jvm.Free
open Jvm.Lib.Cold (StaticIs)
theorem shr1 {n : Nat} (h : 2 * n < 2 ^ 31) : Int32.ofNat (2 * n) >>> ((1 : Int32) &&& 31) = Int32.ofNat n := by
  have e : ((1 : Int32) &&& 31) = 1 := by decide
  rw [e]
  apply Int32.toBitVec_inj.mp
  rw [Int32.toBitVec_shiftRight]
  have e1 : ((1 : Int32).toBitVec.smod 32) = 1#32 := by decide
  have hm : (BitVec.ofNat 32 (2 * n)).toNat = 2 * n := by rw [BitVec.toNat_ofNat, Nat.mod_eq_of_lt (by omega)]
  rw [e1, BitVec.sshiftRight_eq']
  apply BitVec.eq_of_toNat_eq
  show ((BitVec.ofNat 32 (2 * n)).sshiftRight 1).toNat = (BitVec.ofNat 32 n).toNat
  rw [BitVec.toNat_sshiftRight_of_msb_false (by rw [BitVec.msb_eq_false_iff_two_mul_lt, hm]; omega), hm, BitVec.toNat_ofNat, Nat.shiftRight_eq_div_pow]
  omega
/-- charAt's cast of a byte read back -/
def chr8 (u : Int32) : Int32 := (u &&& 255).toUInt32.toUInt16.toUInt32.toInt32
theorem chr8_lo8 {c : Int32} (h0 : ¬ c < 0) (h1 : ¬ 255 < c) : chr8 (lo8 c) = c := by
  have t : ∀ k : Fin 256, (Int32.ofNat k.val).toUInt32.toUInt16.toUInt32.toInt32 = Int32.ofNat k.val := by decide +kernel
  unfold chr8
  rw [lo8_mask h0 h1]
  rw [Int32.lt_iff_toInt_lt] at h0 h1
  have e0 : (0 : Int32).toInt = 0 := rfl
  have e1 : (255 : Int32).toInt = 255 := rfl
  obtain ⟨k, hk⟩ : ∃ k : Nat, c.toInt = k := ⟨c.toInt.toNat, by omega⟩
  have hx : c = Int32.ofNat k := Int32.toInt_inj.mp (by rw [hk, Int32.toInt_ofNat_small (by omega)])
  rw [hx]
  exact t ⟨k, by omega⟩
theorem narrow_ch {c : Int32} (h0 : ¬ c < 0) (h1 : ¬ 65535 < c) : narrow .char (.int c) = .int c := by
  have q : narrow .char (.int (pairCh (lo8 c) (hi8 c))) = .int (pairCh (lo8 c) (hi8 c)) := narrow_c _
  rwa [pair_says h0 h1] at q
/-- the array's cell V codes the n chars f 0 .. f (n - 1) by the coder cd, as the JDK does: coder 1 just where some char is above 255 -/
def Cod (cd : Int32) (n : Nat) (f : Nat → Int32) (V : Cell) : Prop := (cd = 0 ∧ V.slots.size = n ∧ ∀ j, j < n → V.slots[j]? = some (.int (lo8 (f j))) ∧ ¬ 255 < f j) ∨ (cd = 1 ∧ V.slots.size = 2 * n ∧ (∀ j, j < n → V.slots[2 * j]? = some (.int (lo8 (f j))) ∧ V.slots[2 * j + 1]? = some (.int (hi8 (f j)))) ∧ ∃ j, j < n ∧ 255 < f j)
theorem Cod.cd {cd : Int32} {n : Nat} {f : Nat → Int32} {V : Cell} (h : Cod cd n f V) : cd = 0 ∨ cd = 1 := h.imp (fun q => q.1) fun q => q.1
theorem Cod.len {cd : Int32} {n : Nat} {f : Nat → Int32} {V : Cell} (h : Cod cd n f V) (hs : V.slots.size < 2 ^ 31) : Int32.ofNat V.slots.size >>> (cd &&& 31) = Int32.ofNat n := by
  rcases h with ⟨rfl, h, -⟩ | ⟨rfl, h, -⟩
  · rw [shr0, h]
  · rw [h, shr1 (by omega)]
/-- **x is a String of the n chars f 0 .. f (n - 1)**, Latin-1 or UTF-16; its array at t has the cell V -/
def Txt (x t : Addr) (V : Cell) (cd : Int32) (n : Nat) (f : Nat → Int32) (U : State) : Prop := Exact "java/lang/String" x U ∧ Has x "java/lang/String" "value" "[B" (.ref t) U ∧ Has x "java/lang/String" "coder" "B" (.int cd) U ∧ XT.Arr .byte t V U ∧ Cod cd n f V ∧ ∀ j, j < n → ¬ f j < 0 ∧ ¬ 65535 < f j
theorem Txt.mv {x t : Addr} {V : Cell} {cd : Int32} {n : Nat} {f : Nat → Int32} {U U' : State} (h : Txt x t V cd n f U) (hal : U.vm.Alike U'.vm) (hh : U'.heap = U.heap) : Txt x t V cd n f U' := ⟨h.1.mv hal hh, h.2.1.mv hal hh, h.2.2.1.mv hal hh, h.2.2.2.1.mv hal hh, h.2.2.2.2⟩
namespace Cdr
def yN : MethodName := ⟨"java/lang/String", "coder", "()B"⟩
abbrev yB : ByteArray := jdk_42_method_152_code
theorem d0 : decode yB 0 = .ok (.getstatic 38, 3) := by decide +kernel
theorem d3 : decode yB 3 = .ok (.ifCond (.eq) 10, 3) := by decide +kernel
theorem d6 : decode yB 6 = .ok (.aload_n 0, 1) := by decide +kernel
theorem d7 : decode yB 7 = .ok (.getfield 15, 3) := by decide +kernel
theorem d10 : decode yB 10 = .ok (.goto 4, 3) := by decide +kernel
theorem d14 : decode yB 14 = .ok (.ireturn, 1) := by decide +kernel
def site : List Cond := [.fieldLink "java/lang/String" 38 "java/lang/String" "COMPACT_STRINGS" "Z", .fieldLink "java/lang/String" 15 "java/lang/String" "coder" "B"]
def tab : Cond := tabOf yN yB 1 (some .byte) site
def P (x : Addr) (cd z : Int32) (args : Array Value) (s : State) : Prop := args = #[.ref x] ∧ Has x "java/lang/String" "coder" "B" (.int cd) s ∧ (cd = 0 ∨ cd = 1) ∧ StaticIs s "java/lang/String" "COMPACT_STRINGS" "Z" (.int z) ∧ ¬ z = 0
def E (cd : Int32) (r : Option Value) (s u : State) : Prop := XT.PureE (some (.int cd)) r s u
theorem law (l : Launch) (x : Addr) (cd z : Int32) : Law l yN 1 0 0 0 yB 1 (some .byte) site (P x cd z) (E cd) [] 0 0 := by
  refine Law.of_walk (plainFor_of_name (by decide +kernel)) (by decide +kernel) (by decide +kernel) (by decide) (fun _ _ h => by rw [h.1]; rfl) (fun _ U U' hal hh h => ⟨h.1, h.2.1.mv hal hh, h.2.2.1, h.2.2.2.1.there hal hh, h.2.2.2.2⟩) (fun r U U' V V' h1 hal h2 h => XT.PureE.mv r U U' V V' h1 hal h2 h) ?_
  intro p e s m args below meth c s₁ X0 hexec hbytes hml hret hlk hnm hown hh0 W hP
  obtain ⟨rfl, hx, hc, s1, hz⟩ := hP
  have c1 : Steps p.tables e below (s₁.setTop (entryFrame m #[.ref x] 1)) (s₁.setTop (mkF m 0 #[.val (.ref x)] [])) := entry rfl
  obtain ⟨T2, X2, q2, st2⟩ := X0.sget hexec hown (wk W (.fieldLink "java/lang/String" 38 "java/lang/String" "COMPACT_STRINGS" "Z")) s1 (fun _ _ h => by rw [hh0]; exact h) (g := (mkF m 0 #[.val (.ref x)] [])) rfl (hb hbytes d0)
  have hh2 := q2.trans hh0
  have c3 : Steps p.tables e below (s₁.setTop (entryFrame m #[.ref x] 1)) (T2.setTop (mkF m 7 #[.val (.ref x)] [.ref x])) := (c1.trans (st2 _ (Steps.refl _))).trans (by
    refine XS.ifNo X2.here hexec rfl (hb hbytes d3) rfl (i0_eq_f hz) ?_
    refine XS.aloadN X2.here hexec rfl (hb hbytes d6) rfl rfl ?_
    exact Steps.refl _)
  obtain ⟨T4, X4, q4, st4⟩ := X2.hget hexec hown (wk W (.fieldLink "java/lang/String" 15 "java/lang/String" "coder" "B")) (hx.mv X2.warmed.alike hh2) (g := (mkF m 7 #[.val (.ref x)] [.ref x])) rfl (rest := []) rfl (hb hbytes d7)
  have c5 : Steps p.tables e below (s₁.setTop (entryFrame m #[.ref x] 1)) (T4.setTop (mkF m 14 #[.val (.ref x)] [.int cd])) := (c3.trans (st4 _ (Steps.refl _))).trans (by
    refine XS.goto X4.here hexec rfl (pc0 := 10) rfl (hb hbytes d10) (by decide) rfl ?_
    exact Steps.refl _)
  exact ⟨T4, some (.int cd), _, _, _, X4, rfl, rfl, rfl, (fun h => by cases h), ⟨rfl, q4.trans hh2⟩, fun fs hl => c5.trans (X4.ireturnOut hexec hret (by rcases hc with rfl | rfl <;> rfl) (Or.inr (Or.inr (Or.inl rfl))) (hb hbytes d14) hl)⟩
end Cdr
namespace Len
def yN : MethodName := ⟨"java/lang/String", "length", "()I"⟩
abbrev yB : ByteArray := jdk_42_method_54_code
theorem d0 : decode yB 0 = .ok (.aload_n 0, 1) := by decide +kernel
theorem d1 : decode yB 1 = .ok (.getfield 9, 3) := by decide +kernel
theorem d4 : decode yB 4 = .ok (.arraylength, 1) := by decide +kernel
theorem d5 : decode yB 5 = .ok (.aload_n 0, 1) := by decide +kernel
theorem d6 : decode yB 6 = .ok (.invokevirtual 335, 3) := by decide +kernel
theorem d9 : decode yB 9 = .ok (.ishr, 1) := by decide +kernel
theorem d10 : decode yB 10 = .ok (.ireturn, 1) := by decide +kernel
def site : List Cond := [.fieldLink "java/lang/String" 9 "java/lang/String" "value" "[B", Cdr.tab] ++ virtW "java/lang/String" 335 "java/lang/String" Cdr.yN Cdr.yN
def tab : Cond := tabOf yN yB 1 (some .int) site
def P (x t : Addr) (V : Cell) (cd : Int32) (n : Nat) (f : Nat → Int32) (z : Int32) (args : Array Value) (s : State) : Prop := args = #[.ref x] ∧ Txt x t V cd n f s ∧ StaticIs s "java/lang/String" "COMPACT_STRINGS" "Z" (.int z) ∧ ¬ z = 0
def E (n : Nat) (r : Option Value) (s u : State) : Prop := XT.PureE (some (.int (Int32.ofNat n))) r s u
/-- length() of a String of n chars, in either coding -/
theorem law (l : Launch) (x t : Addr) (V : Cell) (cd : Int32) (n : Nat) (f : Nat → Int32) (z : Int32) : Law l yN 1 0 1 13 yB 1 (some .int) site (P x t V cd n f z) (E n) [] 0 0 := by
  refine Law.of_walk (plainFor_of_name (by decide +kernel)) (by decide +kernel) (by decide +kernel) (by decide) (fun _ _ h => by rw [h.1]; rfl) (fun _ U U' hal hh h => ⟨h.1, h.2.1.mv hal hh, h.2.2.1.there hal hh, h.2.2.2⟩) (fun r U U' V V' h1 hal h2 h => XT.PureE.mv r U U' V V' h1 hal h2 h) ?_
  intro p e s m args below meth c s₁ X0 hexec hbytes hml hret hlk hnm hown hh0 W hP
  obtain ⟨rfl, hx, s1, hz⟩ := hP
  have v31 := hx.2.2.2.1.2.2.2
  have c1 : Steps p.tables e below (s₁.setTop (entryFrame m #[.ref x] 1)) (s₁.setTop (mkF m 1 #[.val (.ref x)] [.ref x])) := Steps.trans (entry rfl) (by
    show Steps p.tables e below (s₁.setTop (mkF m 0 #[.val (.ref x)] [])) _
    refine XS.aloadN X0.here hexec rfl (hb hbytes d0) rfl rfl ?_
    exact Steps.refl _)
  obtain ⟨T2, X2, q2, st2⟩ := X0.hget hexec hown (wk W (.fieldLink "java/lang/String" 9 "java/lang/String" "value" "[B")) (hx.mv X0.warmed.alike hh0).2.1 (g := (mkF m 1 #[.val (.ref x)] [.ref x])) rfl (rest := []) rfl (hb hbytes d1)
  have hh2 := q2.trans hh0
  have hx2 := hx.mv X2.warmed.alike hh2
  have c3 : Steps p.tables e below (s₁.setTop (entryFrame m #[.ref x] 1)) (T2.setTop (mkF m 6 #[.val (.ref x)] [.ref x, .int (Int32.ofNat V.slots.size)])) := (c1.trans (st2 _ (Steps.refl _))).trans (by
    refine X2.alen hexec hx2.2.2.2.1 rfl rfl (hb hbytes d4) ?_
    refine XS.aloadN X2.here hexec rfl (hb hbytes d5) rfl rfl ?_
    exact Steps.refl _)
  obtain ⟨v4, T4, X4, E4, g4⟩ := X2.callV hexec (Cdr.law l x cd z) hown (wks W (virtW "java/lang/String" 335 "java/lang/String" Cdr.yN Cdr.yN)) rfl (by decide) (wk W Cdr.tab) (W := 1) (Nat.le_of_ble_eq_true rfl) (Nat.le_of_ble_eq_true rfl) (Nat.le_refl _) (Nat.le_refl _) (hx2.1.fc X2.warmed.alike) hx2.1.is (g := (mkF m 6 #[.val (.ref x)] [.ref x, .int (Int32.ofNat V.slots.size)])) rfl (by rw [hml]; rfl) c3 (argsL := []) (rest := [.int (Int32.ofNat V.slots.size)]) rfl rfl (by show 2 * 0 + (1 + 0) ≤ _; decide) (hb hbytes d6) (⟨rfl, hx2.2.2.1, hx.2.2.2.2.1.cd, s1.there X2.warmed.alike hh2, hz⟩)
  obtain ⟨rfl, q4⟩ := E4
  have c5 : Steps p.tables e below (s₁.setTop (entryFrame m #[.ref x] 1)) (T4.setTop (mkF m 10 #[.val (.ref x)] [.int (Int32.ofNat V.slots.size >>> (cd &&& 31))])) := Steps.trans g4 (by
    refine ishr X4.here hexec rfl (hb hbytes d9) rfl ?_
    exact Steps.refl _)
  rw [hx.2.2.2.2.1.len v31] at c5
  exact ⟨T4, some (.int (Int32.ofNat n)), _, _, _, X4, rfl, rfl, rfl, (fun h => by cases h), ⟨rfl, q4.trans hh2⟩, fun fs hl => c5.trans (X4.ireturnOut hexec hret rfl (Or.inl rfl) (hb hbytes d10) hl)⟩
theorem pays {l : Launch} {R : Room} {p : Program} {e : Env} {below : List Frame} {s : State} {sargs : Array Value} {len W : Nat} (x t : Addr) (V : Cell) (cd : Int32) (n : Nat) (f : Nat → Int32) (z : Int32) (htab : tab.before sargs s = true) (hfr : 2 ≤ R.frames) (hlo : W + 25 ≤ R.locals) :
    Back l R p e below s sargs yN len W (fun A₁ a₁ => A₁.cells + 0 ≤ R.cells ∧ A₁.slots + 0 ≤ R.slots ∧ P x t V cd n f z a₁ A₁.U) (fun A₁ _ v₁ B₁ => E n v₁ A₁.U B₁.U ∧ B₁.locs = A₁.locs ++ [] ∧ B₁.cells = A₁.cells + 0 ∧ B₁.slots = A₁.slots + 0) :=
  (law l x t V cd n f z).pays htab hfr (by omega)
end Len
namespace IsL
def yN : MethodName := ⟨"java/lang/String", "isLatin1", "()Z"⟩
abbrev yB : ByteArray := jdk_42_method_154_code
theorem d0 : decode yB 0 = .ok (.getstatic 38, 3) := by decide +kernel
theorem d3 : decode yB 3 = .ok (.ifCond (.eq) 14, 3) := by decide +kernel
theorem d6 : decode yB 6 = .ok (.aload_n 0, 1) := by decide +kernel
theorem d7 : decode yB 7 = .ok (.getfield 15, 3) := by decide +kernel
theorem d10 : decode yB 10 = .ok (.ifCond (.ne) 7, 3) := by decide +kernel
theorem d13 : decode yB 13 = .ok (.iconst 1, 1) := by decide +kernel
theorem d14 : decode yB 14 = .ok (.goto 4, 3) := by decide +kernel
theorem d17 : decode yB 17 = .ok (.iconst 0, 1) := by decide +kernel
theorem d18 : decode yB 18 = .ok (.ireturn, 1) := by decide +kernel
def site : List Cond := [.fieldLink "java/lang/String" 38 "java/lang/String" "COMPACT_STRINGS" "Z", .fieldLink "java/lang/String" 15 "java/lang/String" "coder" "B"]
def tab : Cond := tabOf yN yB 1 (some .boolean) site
def P (x : Addr) (cd z : Int32) (args : Array Value) (s : State) : Prop := args = #[.ref x] ∧ Has x "java/lang/String" "coder" "B" (.int cd) s ∧ (cd = 0 ∨ cd = 1) ∧ StaticIs s "java/lang/String" "COMPACT_STRINGS" "Z" (.int z) ∧ ¬ z = 0
def E (cd : Int32) (r : Option Value) (s u : State) : Prop := XT.PureE (some (.int (1 - cd))) r s u
theorem law (l : Launch) (x : Addr) (cd z : Int32) : Law l yN 1 0 0 0 yB 1 (some .boolean) site (P x cd z) (E cd) [] 0 0 := by
  refine Law.of_walk (plainFor_of_name (by decide +kernel)) (by decide +kernel) (by decide +kernel) (by decide) (fun _ _ h => by rw [h.1]; rfl) (fun _ U U' hal hh h => ⟨h.1, h.2.1.mv hal hh, h.2.2.1, h.2.2.2.1.there hal hh, h.2.2.2.2⟩) (fun r U U' V V' h1 hal h2 h => XT.PureE.mv r U U' V V' h1 hal h2 h) ?_
  intro p e s m args below meth c s₁ X0 hexec hbytes hml hret hlk hnm hown hh0 W hP
  obtain ⟨rfl, hx, hc, s1, hz⟩ := hP
  have c1 : Steps p.tables e below (s₁.setTop (entryFrame m #[.ref x] 1)) (s₁.setTop (mkF m 0 #[.val (.ref x)] [])) := entry rfl
  obtain ⟨T2, X2, q2, st2⟩ := X0.sget hexec hown (wk W (.fieldLink "java/lang/String" 38 "java/lang/String" "COMPACT_STRINGS" "Z")) s1 (fun _ _ h => by rw [hh0]; exact h) (g := (mkF m 0 #[.val (.ref x)] [])) rfl (hb hbytes d0)
  have hh2 := q2.trans hh0
  have c3 : Steps p.tables e below (s₁.setTop (entryFrame m #[.ref x] 1)) (T2.setTop (mkF m 7 #[.val (.ref x)] [.ref x])) := (c1.trans (st2 _ (Steps.refl _))).trans (by
    refine XS.ifNo X2.here hexec rfl (hb hbytes d3) rfl (i0_eq_f hz) ?_
    refine XS.aloadN X2.here hexec rfl (hb hbytes d6) rfl rfl ?_
    exact Steps.refl _)
  obtain ⟨T4, X4, q4, st4⟩ := X2.hget hexec hown (wk W (.fieldLink "java/lang/String" 15 "java/lang/String" "coder" "B")) (hx.mv X2.warmed.alike hh2) (g := (mkF m 7 #[.val (.ref x)] [.ref x])) rfl (rest := []) rfl (hb hbytes d7)
  have c5 : Steps p.tables e below (s₁.setTop (entryFrame m #[.ref x] 1)) (T4.setTop (mkF m 10 #[.val (.ref x)] [.int cd])) := c3.trans (st4 _ (Steps.refl _))
  have c6 : Steps p.tables e below (s₁.setTop (entryFrame m #[.ref x] 1)) (T4.setTop (mkF m 18 #[.val (.ref x)] [.int (1 - cd)])) := by
    rcases hc with rfl | rfl
    · exact c5.trans (by
        refine XS.ifNo X4.here hexec rfl (hb hbytes d10) rfl (i0_ne_f rfl) ?_
        refine iconstV X4.here hexec rfl 1 (hb hbytes d13) (by decide) ?_
        refine XS.goto X4.here hexec rfl (pc0 := 14) rfl (hb hbytes d14) (by decide) rfl ?_
        exact Steps.refl _)
    · exact c5.trans (by
        refine XS.ifYes X4.here hexec rfl (pc0 := 10) rfl (hb hbytes d10) rfl (i0_ne_t (by decide)) (by decide) rfl ?_
        refine iconstV X4.here hexec rfl 0 (hb hbytes d17) (by decide) ?_
        exact Steps.refl _)
  exact ⟨T4, some (.int (1 - cd)), _, _, _, X4, rfl, rfl, rfl, (fun h => by cases h), ⟨rfl, q4.trans hh2⟩, fun fs hl => c6.trans (X4.ireturnOut hexec hret (by rcases hc with rfl | rfl <;> rfl) (Or.inr (Or.inl rfl)) (hb hbytes d18) hl)⟩
end IsL
namespace LChA
def yN : MethodName := ⟨"java/lang/StringLatin1", "charAt", "([BI)C"⟩
abbrev yB : ByteArray := jdk_43_method_2_code
theorem d0 : decode yB 0 = .ok (.iload_n 1, 1) := by decide +kernel
theorem d1 : decode yB 1 = .ok (.aload_n 0, 1) := by decide +kernel
theorem d2 : decode yB 2 = .ok (.arraylength, 1) := by decide +kernel
theorem d3 : decode yB 3 = .ok (.invokestatic 9, 3) := by decide +kernel
theorem d6 : decode yB 6 = .ok (.aload_n 0, 1) := by decide +kernel
theorem d7 : decode yB 7 = .ok (.iload_n 1, 1) := by decide +kernel
theorem d8 : decode yB 8 = .ok (.baload, 1) := by decide +kernel
theorem d9 : decode yB 9 = .ok (.sipush 255, 3) := by decide +kernel
theorem d12 : decode yB 12 = .ok (.iand, 1) := by decide +kernel
theorem d13 : decode yB 13 = .ok (.i2c, 1) := by decide +kernel
theorem d14 : decode yB 14 = .ok (.ireturn, 1) := by decide +kernel
def site : List Cond := [JO.Str_checkIndex.tab] ++ staticW "java/lang/StringLatin1" 9 JO.Str_checkIndex.yN
def tab : Cond := tabOf yN yB 2 (some .char) site
def P (t : Addr) (V : Cell) (i : Nat) (u : Int32) (fm : Value) (args : Array Value) (s : State) : Prop := args = #[.ref t, .int (Int32.ofNat i)] ∧ XT.Arr .byte t V s ∧ V.slots[i]? = some (.int u) ∧ (StaticIs s "jdk/internal/util/Preconditions" "SIOOBE_FORMATTER" "Ljava/util/function/BiFunction;" fm ∧ fm.isRef = true)
def E (u : Int32) (r : Option Value) (s w : State) : Prop := XT.PureE (some (.int (chr8 u))) r s w
theorem law (l : Launch) (t : Addr) (V : Cell) (i : Nat) (u : Int32) (fm : Value) : Law l yN 2 2 2 27 yB 2 (some .char) site (P t V i u fm) (E u) [] 0 0 := by
  refine Law.of_walk (plainFor_of_name (by decide +kernel)) (by decide +kernel) (by decide +kernel) (by decide) (fun _ _ h => by rw [h.1]; rfl) (fun _ U U' hal hh h => ⟨h.1, h.2.1.mv hal hh, h.2.2.1, h.2.2.2.1.there hal hh, h.2.2.2.2⟩) (fun r U U' V V' h1 hal h2 h => XT.PureE.mv r U U' V V' h1 hal h2 h) ?_
  intro p e s m args below meth c s₁ X0 hexec hbytes hml hret hlk hnm hown hh0 W hP
  obtain ⟨rfl, hV, hu, s1, rf⟩ := hP
  have v31 := hV.2.2.2
  have hi : i < V.slots.size := (Array.getElem?_eq_some_iff.mp hu).1
  have c1 : Steps p.tables e below (s₁.setTop (entryFrame m #[.ref t, .int (Int32.ofNat i)] 2)) (s₁.setTop (mkF m 0 #[.val (.ref t), .val (.int (Int32.ofNat i))] [])) := entry rfl
  have c2 : Steps p.tables e below (s₁.setTop (entryFrame m #[.ref t, .int (Int32.ofNat i)] 2)) (s₁.setTop (mkF m 3 #[.val (.ref t), .val (.int (Int32.ofNat i))] [.int (Int32.ofNat V.slots.size), .int (Int32.ofNat i)])) := c1.trans (by
    refine XS.iloadN X0.here hexec rfl (hb hbytes d0) rfl ?_
    refine XS.aloadN X0.here hexec rfl (hb hbytes d1) rfl rfl ?_
    refine X0.alen hexec (hV.mv X0.warmed.alike hh0) rfl rfl (hb hbytes d2) ?_
    exact Steps.refl _)
  obtain ⟨v3, T3, X3, E3, g3⟩ := X0.callS hexec (JO.Str_checkIndex.law l (Int32.ofNat i) (Int32.ofNat V.slots.size) fm) hown (wks W (staticW "java/lang/StringLatin1" 9 JO.Str_checkIndex.yN)) (wk W JO.Str_checkIndex.tab) (W := 0) (Nat.le_of_ble_eq_true rfl) (Nat.le_of_ble_eq_true rfl) (Nat.le_refl _) (Nat.le_refl _) (g := (mkF m 3 #[.val (.ref t), .val (.int (Int32.ofNat i))] [.int (Int32.ofNat V.slots.size), .int (Int32.ofNat i)])) rfl (by rw [hml]; rfl) c2 (argsL := [.int (Int32.ofNat i), .int (Int32.ofNat V.slots.size)]) (rest := []) rfl rfl (by show 2 * 0 + 0 ≤ _; decide) (hb hbytes d3) (⟨rfl, rf, s1.there X0.warmed.alike hh0, Int32.ofNat_not_neg (by omega), lt32 v31 hi⟩)
  obtain ⟨rfl, q3⟩ := E3
  have hh3 := q3.trans hh0
  have c4 : Steps p.tables e below (s₁.setTop (entryFrame m #[.ref t, .int (Int32.ofNat i)] 2)) (T3.setTop (mkF m 14 #[.val (.ref t), .val (.int (Int32.ofNat i))] [.int (chr8 u)])) := Steps.trans g3 (by
    refine XS.aloadN X3.here hexec rfl (hb hbytes d6) rfl rfl ?_
    refine XS.iloadN X3.here hexec rfl (hb hbytes d7) rfl ?_
    refine X3.aget hexec (hV.mv X3.warmed.alike hh3) rfl hu rfl rfl (hb hbytes d8) ?_
    refine sipushV X3.here hexec rfl 255 (hb hbytes d9) (by decide) ?_
    refine XS.iand X3.here hexec rfl (hb hbytes d12) rfl ?_
    refine i2c X3.here hexec rfl (hb hbytes d13) rfl ?_
    exact Steps.refl _)
  exact ⟨T3, some (.int (chr8 u)), _, _, _, X3, rfl, rfl, rfl, (fun h => by cases h), ⟨rfl, hh3⟩, fun fs hl => c4.trans (X3.ireturnOut hexec hret (narrow_c _) (Or.inr (Or.inr (Or.inr (Or.inl rfl)))) (hb hbytes d14) hl)⟩
end LChA
end StrChars
namespace StrChars.Road
open Jvm Sem ClassFile Op Lib Jvm.Stand Jvm.Free Jvm.Free.XT
open Jvm.Lib.Cold (StaticIs)
theorem consq {a : Array Value} {s : State} {c : Jvm.Cond} {L : List Jvm.Cond} (h0 : c.before a s = true) (h : ∀ w ∈ L, w.before a s = true) : ∀ w ∈ c :: L, w.before a s = true := fun w hw => (List.mem_cons.mp hw).elim (fun e => e ▸ h0) (h w)
/-- the words of String.length(), either coding -/
abbrev wordsLen : List Jvm.Cond := [.code Len.yN Len.yB 1 (some .int), .initialized ST, .fieldLink ST 9 ST "value" "[B", .fieldLink ST 38 ST "COMPACT_STRINGS" "Z", .fieldLink ST 15 ST "coder" "B", .code Cdr.yN Cdr.yB 1 (some .byte), .methodLink ST 335 Cdr.yN, .declares Cdr.yN, .selects ST Cdr.yN Cdr.yN, .instanceMethod Cdr.yN]
theorem tabLen_of {a : Array Value} {s : State} (h : ∀ w ∈ wordsLen, w.before a s = true) : Len.tab.before a s = true := by
  have hc : Cdr.tab.before a s = true := unparts (wk h (.code Cdr.yN Cdr.yB 1 (some .byte))) (wks h (.initialized Cdr.yN.cls :: Cdr.site))
  have q := consq hc h
  exact unparts (wk q (.code Len.yN Len.yB 1 (some .int))) (wks q (.initialized Len.yN.cls :: Len.site))
theorem movedLen {Z s : State} {a0 args : Array Value} (hZ : Z.Warmed39 s.vm) (hw : ∀ d ∈ wordsLen, d.before a0 Z = true) : ∀ d ∈ wordsLen, d.before args s = true := fun d hd => by
  have q := hw d hd
  have t : ∀ d ∈ wordsLen, d = .arrayClass .byte ∨ (d.onTables && d.keepsFace) = true := by decide +kernel
  rcases t d hd with rfl | t
  · exact RoadKit.mvA hZ q
  · exact RoadKit.mv hZ q t
/-- the bytes of the chars cs, low before high -/
def wideBytes : List Int32 → List Value
  | [] => []
  | c :: cs => .int (lo8 c) :: .int (hi8 c) :: wideBytes cs
theorem wide_lo (d : Value) : ∀ (cs : List Int32) (j : Nat), j < cs.length → (wideBytes cs).getD (2 * j) d = .int (lo8 (cs.getD j 0))
  | [], j, h => absurd h (Nat.not_lt_zero j)
  | c :: cs, 0, _ => rfl
  | c :: cs, j + 1, h => by
    have q := wide_lo d cs j (by simpa using h)
    rw [show 2 * (j + 1) = 2 * j + 1 + 1 from by omega]
    simpa [wideBytes] using q
theorem wide_hi (d : Value) : ∀ (cs : List Int32) (j : Nat), j < cs.length → (wideBytes cs).getD (2 * j + 1) d = .int (hi8 (cs.getD j 0))
  | [], j, h => absurd h (Nat.not_lt_zero j)
  | c :: cs, 0, _ => rfl
  | c :: cs, j + 1, h => by
    have q := wide_hi d cs j (by simpa using h)
    rw [show 2 * (j + 1) + 1 = 2 * j + 1 + 1 + 1 from by omega]
    simpa [wideBytes] using q
theorem low_at (d : Value) (cs : List Int32) (j : Nat) (h : j < cs.length) : (cs.map fun c => Value.int (lo8 c)).getD j d = .int (lo8 (cs.getD j 0)) := by
  simp [List.getD_eq_getElem?_getD, h]
/-- an array of N2 bytes vs codes the chars cs by the coder cd -/
def CodA (cs : List Int32) (cd N2 : Int32) (vs : List Value) : Prop := (cd = 0 ∧ N2 = Int32.ofNat cs.length ∧ vs = (cs.map fun c => Value.int (lo8 c)) ∧ ∀ c ∈ cs, ¬ 255 < c) ∨ (cd = 1 ∧ N2 = Int32.ofNat (2 * cs.length) ∧ vs = wideBytes cs ∧ ∃ c ∈ cs, 255 < c)
theorem CodA.cod {cs : List Int32} {cd N2 : Int32} {vs : List Value} {V : Cell} (h : CodA cs cd N2 vs) (hn : 2 * cs.length < 2 ^ 31) (hs : V.slots.size = N2.toNatClampNeg) (hv : RoadKit.Has V vs (.int 0)) : Cod cd cs.length (fun j => cs.getD j 0) V := by
  rcases h with ⟨rfl, rfl, rfl, h⟩ | ⟨rfl, rfl, rfl, c, hc, hw⟩
  · rw [n32 (by omega)] at hs
    exact Or.inl ⟨rfl, hs, fun j hj => ⟨by rw [hv j (by omega), low_at _ _ _ hj], by
      have e : cs.getD j 0 = cs[j] := by simp [List.getD_eq_getElem?_getD, hj]
      show ¬ 255 < cs.getD j 0
      rw [e]; exact h _ (List.getElem_mem _)⟩⟩
  · rw [n32 (by omega)] at hs
    obtain ⟨j, hj, rfl⟩ := List.getElem_of_mem hc
    exact Or.inr ⟨rfl, hs, fun j hj => ⟨by rw [hv _ (by omega), wide_lo _ _ _ hj], by rw [hv _ (by omega), wide_hi _ _ _ hj]⟩, j, hj, by
      have e : cs.getD j 0 = cs[j] := by simp [List.getD_eq_getElem?_getD, hj]
      show 255 < cs.getD j 0
      rw [e]; exact hw⟩
/-- an object of exactly java/lang/String, its two fields found: as the laws ask it -/
theorem strObj {Z U : State} {a0 : Array Value} {kI : Nat} (wi : (Jvm.Cond.instantiable ST kI).before a0 Z = true) (al : Z.vm.Alike U.vm) {x : Addr} {v0 c0 : Value} (E : RoadKit.Exa Z U.heap x ST) (V : RoadKit.Fld Z U.heap x ST "value" "[B" v0) (C : RoadKit.Fld Z U.heap x ST "coder" "B" c0) :
    ∃ (D : Cell) (fV fC : Field), Blank ST x D U ∧ Found ST "value" "[B" fV U ∧ Found ST "coder" "B" fC U ∧ D.slots[fV.slot]? = some v0 ∧ D.slots[fC.slot]? = some c0 ∧ RoadKit.slotOf Z ST "value" "[B" = fV.slot ∧ RoadKit.slotOf Z ST "coder" "B" = fC.slot := by
  obtain ⟨D, cfV, kV, iV, fV, hD, gV, stV, knV, obV, asV, slV⟩ := V
  obtain ⟨D', cfC, kC, iC, fC, hD', gC, stC, -, -, asC, slC⟩ := C
  cases hD.symm.trans hD'
  obtain ⟨D2, kD, e1, e2, e3, e4, e5⟩ := E
  cases hD.symm.trans e1
  obtain ⟨c2, k2, i1, i2, i3, -⟩ := Cond.instantiable_spec wi
  cases e2.symm.trans i1
  cases e3.symm.trans i2
  obtain ⟨kU, u1, u2⟩ := al.2.2 _ _ e3
  exact ⟨D, fV, fC, ⟨hD, ⟨knV, fun q hq => by rw [hq] at obV; cases obV⟩, by rw [al.findClass]; exact e2, kU, u1, by rw [u2]; exact i3, by rw [u2]; exact e5 i3⟩, ⟨SBG.found_only al ⟨cfV, kV, iV, gV⟩, stV⟩, ⟨SBG.found_only al ⟨cfC, kC, iC, gC⟩, stC⟩, slV, slC, by simp [RoadKit.slotOf, gV], by simp [RoadKit.slotOf, gC]⟩
theorem sta_is {Z U : State} (al : Z.vm.Alike U.vm) {C n d : String} {v : Value} (S : RoadKit.Sta Z U.heap C n d v) : StaticIs U C n d v := by
  obtain ⟨cfS, iS, kS, fS, st, cS, t1, t2, t3, t4, t5, t6, t7⟩ := S
  exact StaticIs.there (s := { Z with heap := U.heap }) ⟨cfS, iS, kS, fS, st, cS, t1, t2, t3, t4, t5, (fun q => by rw [q] at t6; cases t6), t7⟩ al rfl
/-- **length() OF SUCH A STRING** -/
theorem lenW {p : Program} {l : Launch} {e : Env} {R : Room} {s : State} {args : Array Value} {below : List Frame} {len W : Nat} {Z : State} {a0 : Array Value} {h : Heap} (hZ : Z.Warmed39 s.vm) (hw : ∀ d ∈ wordsLen, d.before a0 Z = true) {kI : Nat} (wi : (Jvm.Cond.instantiable ST kI).before a0 Z = true)
    {x t : Addr} {kb : ClassId} {cs : List Int32} {cd N2 z : Int32} {vs : List Value} (E : RoadKit.Exa Z h x ST) (V : RoadKit.Fld Z h x ST "value" "[B" (.ref t)) (C : RoadKit.Fld Z h x ST "coder" "B" (.int cd)) (K : RoadKit.Arv Z h t kb .byte N2 vs (.int 0)) (hc : CodA cs cd N2 vs) (hb : ∀ c ∈ cs, ¬ c < 0 ∧ ¬ (65535 : Int32) < c)
    (S : RoadKit.Sta Z h ST "COMPACT_STRINGS" "Z" (.int z)) (hz : ¬ z = 0) (l2 : cs.length ≤ 4000) (hfr : 2 ≤ R.frames) (hlo : W + 25 ≤ R.locals) :
    Back l R p e below s args (⟨"java/lang/String", "length", "()I"⟩ : MethodName) len W (fun P a => a = #[.ref x] ∧ P.U.heap = h ∧ P.cells + 0 ≤ R.cells ∧ P.slots + 0 ≤ R.slots)
      (fun P _ v B => ∃ L, (v = some (.int (Int32.ofNat cs.length)) ∧ L = [] ∧ B.U.heap = h) ∧ B.locs = P.locs ++ L ∧ B.cells = P.cells + 0 ∧ B.slots = P.slots + 0) := by
  obtain ⟨A, K1, K2, K3, K4, K5, K6⟩ := K
  have hcod := hc.cod (by omega) K3 K5
  intro m meth c P g ig mk a X hg hsize hdg hW hn hp'
  obtain ⟨rfl, rfl, r1, r2⟩ := hp'
  have al : Z.vm.Alike P.U.vm := hZ.alike.trans X.warmed.alike
  obtain ⟨D, fV, fC, hB, F1, F2, g1, g2, -, -⟩ := strObj wi al E V C
  have hx : Txt x t A cd cs.length (fun j => cs.getD j 0) P.U := ⟨⟨_, hB.2.2.1, D, hB.1, rfl, by cases q : D.vm <;> first | rfl | exact absurd q (hB.2.1.2 _)⟩, Has.of hB F1 g1, Has.of hB F2 g2, ⟨K1.1, State.isArrayOf_alike al K1.2.1, K1.2.2, by rcases hcod with ⟨-, q, -⟩ | ⟨-, q, -⟩ <;> omega⟩, hcod, fun j hj => by
    have e : cs.getD j 0 = cs[j] := by simp [List.getD_eq_getElem?_getD, hj]
    show ¬ cs.getD j 0 < 0 ∧ ¬ 65535 < cs.getD j 0
    rw [e]; exact hb _ (List.getElem_mem _)⟩
  obtain ⟨v, B, X', ⟨⟨hv, hh⟩, hl, hk, hs⟩, st⟩ := Len.pays x t A cd cs.length (fun j => cs.getD j 0) z (tabLen_of (movedLen hZ hw)) hfr hlo m meth c P g ig mk _ X hg hsize hdg hW hn ⟨r1, r2, rfl, hx, sta_is al S, hz⟩
  exact ⟨v, B, X', ⟨[], ⟨hv, rfl, hh⟩, hl, hk, hs⟩, st⟩
end StrChars.Road
namespace StrChars.Road
open Jvm Sem ClassFile Op Lib Jvm.Stand Jvm.Free Jvm.Free.XT
open Jvm.Lib.Cold (StaticIs)
/-- the road's facts of a String, as the laws ask it -/
theorem txt_of {Z U : State} {a0 : Array Value} {kI : Nat} (wi : (Jvm.Cond.instantiable ST kI).before a0 Z = true) (al : Z.vm.Alike U.vm) {x t : Addr} {kb : ClassId} {cs : List Int32} {cd N2 : Int32} {vs : List Value} (E : RoadKit.Exa Z U.heap x ST) (V : RoadKit.Fld Z U.heap x ST "value" "[B" (.ref t)) (C : RoadKit.Fld Z U.heap x ST "coder" "B" (.int cd)) (K : RoadKit.Arv Z U.heap t kb .byte N2 vs (.int 0)) (hc : CodA cs cd N2 vs) (hb : ∀ c ∈ cs, ¬ c < 0 ∧ ¬ (65535 : Int32) < c) (l2 : cs.length ≤ 4000) :
    ∃ A, Txt x t A cd cs.length (fun j => cs.getD j 0) U := by
  obtain ⟨A, K1, K2, K3, K4, K5, K6⟩ := K
  have hcod := hc.cod (by omega) K3 K5
  obtain ⟨D, fV, fC, hB, F1, F2, g1, g2, -, -⟩ := strObj wi al E V C
  exact ⟨A, ⟨_, hB.2.2.1, D, hB.1, rfl, by cases q : D.vm <;> first | rfl | exact absurd q (hB.2.1.2 _)⟩, Has.of hB F1 g1, Has.of hB F2 g2, ⟨K1.1, State.isArrayOf_alike al K1.2.1, K1.2.2, by rcases hcod with ⟨-, q, -⟩ | ⟨-, q, -⟩ <;> omega⟩, hcod, fun j hj => by
    have e : cs.getD j 0 = cs[j] := by simp [List.getD_eq_getElem?_getD, hj]
    show ¬ cs.getD j 0 < 0 ∧ ¬ 65535 < cs.getD j 0
    rw [e]; exact hb _ (List.getElem_mem _)⟩
end StrChars.Road
namespace StrChars
open Jvm Sem ClassFile Op Lib Jvm.Stand Jvm.Free.XT Jvm.Free.ALB Jvm.Free.JM Jvm.Free
open Jvm.Lib.Cold (StaticIs)
namespace ChN
def yN : MethodName := ⟨"java/lang/String", "charAt", "(I)C"⟩
abbrev yB : ByteArray := jdk_42_method_56_code
theorem d0 : decode yB 0 = .ok (.aload_n 0, 1) := by decide +kernel
theorem d1 : decode yB 1 = .ok (.invokevirtual 492, 3) := by decide +kernel
theorem d4 : decode yB 4 = .ok (.ifCond (.eq) 12, 3) := by decide +kernel
theorem d7 : decode yB 7 = .ok (.aload_n 0, 1) := by decide +kernel
theorem d8 : decode yB 8 = .ok (.getfield 9, 3) := by decide +kernel
theorem d11 : decode yB 11 = .ok (.iload_n 1, 1) := by decide +kernel
theorem d12 : decode yB 12 = .ok (.invokestatic 495, 3) := by decide +kernel
theorem d15 : decode yB 15 = .ok (.ireturn, 1) := by decide +kernel
def site : List Cond := [.fieldLink "java/lang/String" 9 "java/lang/String" "value" "[B", IsL.tab, LChA.tab] ++ virtW "java/lang/String" 492 "java/lang/String" IsL.yN IsL.yN ++ staticW "java/lang/String" 495 LChA.yN
def tab : Cond := tabOf yN yB 2 (some .char) site
def P (x t : Addr) (V : Cell) (n : Nat) (f : Nat → Int32) (z : Int32) (fm : Value) (i : Nat) (args : Array Value) (s : State) : Prop := args = #[.ref x, .int (Int32.ofNat i)] ∧ Txt x t V 0 n f s ∧ i < n ∧ StaticIs s "java/lang/String" "COMPACT_STRINGS" "Z" (.int z) ∧ ¬ z = 0 ∧ StaticIs s "jdk/internal/util/Preconditions" "SIOOBE_FORMATTER" "Ljava/util/function/BiFunction;" fm ∧ fm.isRef = true
def E (f : Nat → Int32) (i : Nat) (r : Option Value) (s u : State) : Prop := XT.PureE (some (.int (f i))) r s u
/-- charAt(i) of a Latin-1 String of n chars, i < n: f i -/
theorem law (l : Launch) (x t : Addr) (V : Cell) (n : Nat) (f : Nat → Int32) (z : Int32) (fm : Value) (i : Nat) : Law l yN 2 1 3 40 yB 2 (some .char) site (P x t V n f z fm i) (E f i) [] 0 0 := by
  refine Law.of_walk (plainFor_of_name (by decide +kernel)) (by decide +kernel) (by decide +kernel) (by decide) (fun _ _ h => by rw [h.1]; rfl) (fun _ U U' hal hh h => ⟨h.1, h.2.1.mv hal hh, h.2.2.1, h.2.2.2.1.there hal hh, h.2.2.2.2.1, h.2.2.2.2.2.1.there hal hh, h.2.2.2.2.2.2⟩) (fun r U U' V V' h1 hal h2 h => XT.PureE.mv r U U' V V' h1 hal h2 h) ?_
  intro p e s m args below meth c s₁ X0 hexec hbytes hml hret hlk hnm hown hh0 W hP
  obtain ⟨rfl, hx, hi, s1, hz, s3, rf⟩ := hP
  have v31 := hx.2.2.2.1.2.2.2
  have hr := hx.2.2.2.2.2 i hi
  have hx0 := hx.mv X0.warmed.alike hh0
  have c1 : Steps p.tables e below (s₁.setTop (entryFrame m #[.ref x, .int (Int32.ofNat i)] 2)) (s₁.setTop (mkF m 1 #[.val (.ref x), .val (.int (Int32.ofNat i))] [.ref x])) := Steps.trans (entry rfl) (by
    show Steps p.tables e below (s₁.setTop (mkF m 0 #[.val (.ref x), .val (.int (Int32.ofNat i))] [])) _
    refine XS.aloadN X0.here hexec rfl (hb hbytes d0) rfl rfl ?_
    exact Steps.refl _)
  obtain ⟨v2, T2, X2, E2, g2⟩ := X0.callV hexec (IsL.law l x 0 z) hown (wks W (virtW "java/lang/String" 492 "java/lang/String" IsL.yN IsL.yN)) rfl (by decide) (wk W IsL.tab) (W := 0) (Nat.le_of_ble_eq_true rfl) (Nat.le_of_ble_eq_true rfl) (Nat.le_refl _) (Nat.le_refl _) (hx0.1.fc X0.warmed.alike) hx0.1.is (g := (mkF m 1 #[.val (.ref x), .val (.int (Int32.ofNat i))] [.ref x])) rfl (by rw [hml]; rfl) c1 (argsL := []) (rest := []) rfl rfl (by show 2 * 0 + 0 ≤ _; decide) (hb hbytes d1) (⟨rfl, hx0.2.2.1, hx.2.2.2.2.1.cd, s1.there X0.warmed.alike hh0, hz⟩)
  obtain ⟨rfl, q2⟩ := E2
  have hh2 := q2.trans hh0
  have hx2 := hx.mv X2.warmed.alike hh2
  obtain ⟨-, k1, k2⟩ | ⟨k0, -⟩ := hx.2.2.2.2.1
  · have c3 : Steps p.tables e below (s₁.setTop (entryFrame m #[.ref x, .int (Int32.ofNat i)] 2)) (T2.setTop (mkF m 8 #[.val (.ref x), .val (.int (Int32.ofNat i))] [.ref x])) := Steps.trans g2 (by
      refine XS.ifNo X2.here hexec rfl (hb hbytes d4) rfl (i0_eq_f (by decide)) ?_
      refine XS.aloadN X2.here hexec rfl (hb hbytes d7) rfl rfl ?_
      exact Steps.refl _)
    obtain ⟨T4, X4, q4, st4⟩ := X2.hget hexec hown (wk W (.fieldLink "java/lang/String" 9 "java/lang/String" "value" "[B")) hx2.2.1 (g := (mkF m 8 #[.val (.ref x), .val (.int (Int32.ofNat i))] [.ref x])) rfl (rest := []) rfl (hb hbytes d8)
    have hh4 := q4.trans hh2
    have c5 : Steps p.tables e below (s₁.setTop (entryFrame m #[.ref x, .int (Int32.ofNat i)] 2)) (T4.setTop (mkF m 12 #[.val (.ref x), .val (.int (Int32.ofNat i))] [.int (Int32.ofNat i), .ref t])) := (c3.trans (st4 _ (Steps.refl _))).trans (by
      refine XS.iloadN X4.here hexec rfl (hb hbytes d11) rfl ?_
      exact Steps.refl _)
    obtain ⟨v6, T6, X6, E6, g6⟩ := X4.callS hexec (LChA.law l t V i (lo8 (f i)) fm) hown (wks W (staticW "java/lang/String" 495 LChA.yN)) (wk W LChA.tab) (W := 0) (Nat.le_of_ble_eq_true rfl) (Nat.le_of_ble_eq_true rfl) (Nat.le_refl _) (Nat.le_refl _) (g := (mkF m 12 #[.val (.ref x), .val (.int (Int32.ofNat i))] [.int (Int32.ofNat i), .ref t])) rfl (by rw [hml]; rfl) c5 (argsL := [.ref t, .int (Int32.ofNat i)]) (rest := []) rfl rfl (by show 2 * 0 + 0 ≤ _; decide) (hb hbytes d12) (⟨rfl, hx.2.2.2.1.mv X4.warmed.alike hh4, (k2 i hi).1, s3.there X4.warmed.alike hh4, rf⟩)
    obtain ⟨rfl, q6⟩ := E6
    rw [chr8_lo8 hr.1 (k2 i hi).2] at g6
    exact ⟨T6, some (.int (f i)), _, _, _, X6, rfl, rfl, rfl, (fun h => by cases h), ⟨rfl, q6.trans hh4⟩, fun fs hl => Steps.trans g6 (X6.ireturnOut hexec hret (narrow_ch hr.1 hr.2) (Or.inr (Or.inr (Or.inr (Or.inl rfl)))) (hb hbytes d15) hl)⟩
  · exact absurd k0 (by decide)
theorem pays {l : Launch} {R : Room} {p : Program} {e : Env} {below : List Frame} {s : State} {sargs : Array Value} {len W : Nat} (x t : Addr) (V : Cell) (n : Nat) (f : Nat → Int32) (z : Int32) (fm : Value) (i : Nat) (htab : tab.before sargs s = true) (hfr : 4 ≤ R.frames) (hlo : W + 53 ≤ R.locals) :
    Back l R p e below s sargs yN len W (fun A₁ a₁ => A₁.cells + 0 ≤ R.cells ∧ A₁.slots + 0 ≤ R.slots ∧ P x t V n f z fm i a₁ A₁.U) (fun A₁ _ v₁ B₁ => E f i v₁ A₁.U B₁.U ∧ B₁.locs = A₁.locs ++ [] ∧ B₁.cells = A₁.cells + 0 ∧ B₁.slots = A₁.slots + 0) :=
  (law l x t V n f z fm i).pays htab hfr (by omega)
end ChN
end StrChars
namespace StrChars.Road
open Jvm Sem ClassFile Op Lib Jvm.Stand Jvm.Free Jvm.Free.XT
open Jvm.Lib.Cold (StaticIs)
/-- the words of String.charAt(int), the Latin-1 road alone -/
abbrev wordsChN : List Jvm.Cond := [.code ChN.yN ChN.yB 2 (some .char), .initialized ST, .fieldLink ST 9 ST "value" "[B", .fieldLink ST 38 ST "COMPACT_STRINGS" "Z", .fieldLink ST 15 ST "coder" "B", .code IsL.yN IsL.yB 1 (some .boolean), .methodLink ST 492 IsL.yN, .declares IsL.yN, .selects ST IsL.yN IsL.yN, .instanceMethod IsL.yN,
  .methodLink ST 495 LChA.yN, .static LChA.yN, .code LChA.yN LChA.yB 2 (some .char), .initialized "java/lang/StringLatin1", .methodLink "java/lang/StringLatin1" 9 JO.Str_checkIndex.yN, .static JO.Str_checkIndex.yN, .code JO.Str_checkIndex.yN JO.Str_checkIndex.yB 2 none,
  .fieldLink ST 1053 "jdk/internal/util/Preconditions" "SIOOBE_FORMATTER" "Ljava/util/function/BiFunction;", .methodLink ST 1059 JC.PreCheck.yN, .static JC.PreCheck.yN, .code JC.PreCheck.yN JC.PreCheck.yB 3 (some .int), .initialized "jdk/internal/util/Preconditions"]
theorem tabChN_of {a : Array Value} {s : State} (h : ∀ w ∈ wordsChN, w.before a s = true) : ChN.tab.before a s = true := by
  have hp : JC.PreCheck.tab.before a s = true := unparts (wk h (.code JC.PreCheck.yN JC.PreCheck.yB 3 (some .int))) (wks h (.initialized JC.PreCheck.yN.cls :: JC.PreCheck.site))
  have qk := consq hp h
  have hk : JO.Str_checkIndex.tab.before a s = true := unparts (wk qk (.code JO.Str_checkIndex.yN JO.Str_checkIndex.yB 2 none)) (wks qk (.initialized JO.Str_checkIndex.yN.cls :: JO.Str_checkIndex.site))
  have ql := consq hk h
  have hl : LChA.tab.before a s = true := unparts (wk ql (.code LChA.yN LChA.yB 2 (some .char))) (wks ql (.initialized LChA.yN.cls :: LChA.site))
  have hi : IsL.tab.before a s = true := unparts (wk h (.code IsL.yN IsL.yB 1 (some .boolean))) (wks h (.initialized IsL.yN.cls :: IsL.site))
  have q := consq hi (consq hl h)
  exact unparts (wk q (.code ChN.yN ChN.yB 2 (some .char))) (wks q (.initialized ChN.yN.cls :: ChN.site))
theorem movedChN {Z s : State} {a0 args : Array Value} (hZ : Z.Warmed39 s.vm) (hw : ∀ d ∈ wordsChN, d.before a0 Z = true) : ∀ d ∈ wordsChN, d.before args s = true := fun d hd => by
  have t : ∀ d ∈ wordsChN, (d.onTables && d.keepsFace) = true := by decide +kernel
  exact RoadKit.mv hZ (hw d hd) (t d hd)
/-- **charAt(i) OF A LATIN-1 STRING**, i < n: the char -/
theorem chN {p : Program} {l : Launch} {e : Env} {R : Room} {s : State} {args : Array Value} {below : List Frame} {len W : Nat} {Z : State} {a0 : Array Value} {h : Heap} (hZ : Z.Warmed39 s.vm) (hw : ∀ d ∈ wordsChN, d.before a0 Z = true) {kI : Nat} (wi : (Jvm.Cond.instantiable ST kI).before a0 Z = true)
    {x t : Addr} {kb : ClassId} {cs : List Int32} {N2 z : Int32} {vs : List Value} {fm : Value} {i : Nat} {j : Int32} (E : RoadKit.Exa Z h x ST) (V : RoadKit.Fld Z h x ST "value" "[B" (.ref t)) (C : RoadKit.Fld Z h x ST "coder" "B" (.int 0)) (K : RoadKit.Arv Z h t kb .byte N2 vs (.int 0)) (hc : CodA cs 0 N2 vs) (hb : ∀ c ∈ cs, ¬ c < 0 ∧ ¬ (65535 : Int32) < c)
    (S : RoadKit.Sta Z h ST "COMPACT_STRINGS" "Z" (.int z)) (hz : ¬ z = 0) (F : RoadKit.Sta Z h "jdk/internal/util/Preconditions" "SIOOBE_FORMATTER" "Ljava/util/function/BiFunction;" fm) (rf : fm.isRef = true) (l2 : cs.length ≤ 4000) (hi : i < cs.length) (hj : j = Int32.ofNat i) (hfr : 4 ≤ R.frames) (hlo : W + 53 ≤ R.locals) :
    Back l R p e below s args (⟨"java/lang/String", "charAt", "(I)C"⟩ : MethodName) len W (fun P a => a = #[.ref x, .int j] ∧ P.U.heap = h ∧ P.cells + 0 ≤ R.cells ∧ P.slots + 0 ≤ R.slots)
      (fun P _ v B => ∃ L, (v = some (.int (cs.getD i 0)) ∧ L = [] ∧ B.U.heap = h) ∧ B.locs = P.locs ++ L ∧ B.cells = P.cells + 0 ∧ B.slots = P.slots + 0) := by
  subst hj
  intro m meth c P g ig mk a X hg hsize hdg hW hn hp'
  obtain ⟨rfl, rfl, r1, r2⟩ := hp'
  have al : Z.vm.Alike P.U.vm := hZ.alike.trans X.warmed.alike
  obtain ⟨A, hx⟩ := txt_of wi al E V C K hc hb l2
  obtain ⟨v, B, X', ⟨⟨hv, hh⟩, hl, hk, hs⟩, st⟩ := ChN.pays x t A cs.length (fun j => cs.getD j 0) z fm i (tabChN_of (movedChN hZ hw)) hfr hlo m meth c P g ig mk _ X hg hsize hdg hW hn ⟨r1, r2, rfl, hx, hi, sta_is al S, hz, sta_is al F, rf⟩
  exact ⟨v, B, X', ⟨[], ⟨hv, rfl, hh⟩, hl, hk, hs⟩, st⟩
/-- what backV says of its String, as the contracts of this text ask it: cs's low bytes, coder 0 -/
theorem codOf {cs : List Int32} {n : Nat} (hn : cs.length = n) (hb : ∀ c ∈ cs, ¬ 255 < c) : CodA cs 0 (Int32.ofNat n) ((cs.map lo8).map Value.int) := Or.inl ⟨rfl, by rw [hn], by simp [List.map_map, Function.comp_def], hb⟩
end StrChars.Road
end Jvm.Pilot.@@N@@
namespace Jvm.RoadKit
open Sem ClassFile Op Lib Jvm.Stand Jvm.Free Jvm.LawKit
section New
variable {p : Program} {l : Launch} {e : Env} {R : Room} {s : State} {m : MethodId} {args : Array Value} {below : List Frame} {meth : Method} {c : Code} {T : State} {locs : List Loc} {cells slots : Nat}
theorem retI (X : Stand p l e R s m args below meth c T locs cells slots) (hx : p.tables.exec = Jvm.exec) {pc : Nat} {Ls : Array Slot} {z : Int32} {rest : List Value} (hret : meth.sig.returnType = some .int) (hd : decode c.code pc = .ok (.ireturn, 1)) {fs : List Frame}
    (hl : ∀ (f : JFrame) (acts : List Action), f.method = m → f.locked = none → f.entered = [] → (doReturn e (T.setTop f) acts (some (.int z))).1 = T.setFrames fs) : Steps p.tables e below (T.setTop (mkF m pc Ls (.int z :: rest))) (T.setFrames fs) := by
  have hm' : T.vm.method? m = some meth := X.method'
  have hn : narrow .int (.int z) = .int z := rfl
  show Steps p.tables e below (T.setTop { method := m, pc := pc, locals := Ls, stack := _ :: rest, locked := none }) _
  jvm_step X.here [X.here.top, hx, hd, hm', hret, hn]
  first | (intro acts; rw [hl _ acts rfl rfl rfl]) | rw [hl _ _ rfl rfl rfl]
  exact Steps.refl _
end New
end Jvm.RoadKit
namespace Jvm.Pilot.@@N@@
open Jvm Jvm.ClassFile Sem Op Lib Jvm.Free Jvm.Stand Jvm.LawKit Jvm.RoadKit Bundle Jvm.Pilot.@@N@@.Jvm.D
/-- from here the run comes to an end of which G holds -/
def Go (tb : Tables) (e : Env) (below : List Frame) (G : State → Outcome → Prop) (U : State) : Prop := ∃ t o, Steps tb e below U t ∧ G t o
theorem Go.st {tb : Tables} {e : Env} {below : List Frame} {G : State → Outcome → Prop} {U U' : State} (h : ∀ t, Steps tb e below U' t → Steps tb e below U t) (k : Go tb e below G U') : Go tb e below G U :=
  let ⟨t, o, a, b⟩ := k
  ⟨t, o, h t a, b⟩
theorem Go.start {tb : Tables} {e : Env} {below : List Frame} {G0 : State → Outcome → Prop} {U : State} (h : ∀ G, G = G0 → Go tb e below G U) : Go tb e below G0 U := h _ rfl
theorem Go.join {tb : Tables} {e : Env} {below : List Frame} {G : State → Outcome → Prop} {U : State} {α : Type} {F : α → State} (k : ∀ z, Go tb e below G (F z)) (h : (∀ z, Go tb e below G (F z)) → Go tb e below G U) : Go tb e below G U := h k
theorem Go.joinR {tb : Tables} {e : Env} {below : List Frame} {G : State → Outcome → Prop} {U : State} {α : Type} {F : α → State} {R : α → Prop} (k : ∀ z, R z → Go tb e below G (F z)) (h : (∀ z, R z → Go tb e below G (F z)) → Go tb e below G U) : Go tb e below G U := h k
theorem own_stakeep {Z : State} {h h' : Heap} {C n d : String} {v : Value} (F : Sta Z h C n d v) (K : Keep h h' []) : Sta Z h' C n d v := F.ext ⟨K.1, fun a c q => K.2.1 a c q List.not_mem_nil⟩
theorem own_lrem {tb : Tables} {e : Env} {below : List Frame} {T target : State} {g : JFrame} {n : Nat} {x y : Int64} {rest : List Value} (k : Steps tb e below (T.setTop { g with pc := n, stack := .long (x % y) :: rest }) target) :
    Steps tb e below (T.setTop { g with pc := n, stack := .long (x - (x / y) * y) :: rest }) target := by
  rw [lrem_mod]
  exact k
theorem i64_addc (x y : Int64) : (x + y).toInt = x.toInt + y.toInt ∧ -2 ^ 63 ≤ x.toInt + y.toInt ∧ x.toInt + y.toInt < 2 ^ 63 ∨ (x + y).toInt = x.toInt + y.toInt - 2 ^ 64 ∧ 2 ^ 63 ≤ x.toInt + y.toInt ∨ (x + y).toInt = x.toInt + y.toInt + 2 ^ 64 ∧ x.toInt + y.toInt < -2 ^ 63 := by
  have h := Int64.toInt_add x y
  have a1 := Int64.le_toInt x
  have a2 := Int64.toInt_lt x
  have b1 := Int64.le_toInt y
  have b2 := Int64.toInt_lt y
  rw [Int.bmod_def] at h
  split at h <;> omega
theorem i64_subc (x y : Int64) : (x - y).toInt = x.toInt - y.toInt ∧ -2 ^ 63 ≤ x.toInt - y.toInt ∧ x.toInt - y.toInt < 2 ^ 63 ∨ (x - y).toInt = x.toInt - y.toInt - 2 ^ 64 ∧ 2 ^ 63 ≤ x.toInt - y.toInt ∨ (x - y).toInt = x.toInt - y.toInt + 2 ^ 64 ∧ x.toInt - y.toInt < -2 ^ 63 := by
  have h := Int64.toInt_sub x y
  have a1 := Int64.le_toInt x
  have a2 := Int64.toInt_lt x
  have b1 := Int64.le_toInt y
  have b2 := Int64.toInt_lt y
  rw [Int.bmod_def] at h
  split at h <;> omega
theorem i32_i2c (x : Int32) : (x.toUInt32.toUInt16.toUInt32.toInt32).toInt = x.toInt % 65536 := by
  have h1 : (x.toUInt32.toUInt16.toUInt32.toInt32).toInt = ((x.toUInt32.toUInt16.toUInt32).toNat : Int).bmod (2 ^ 32) := by
    rw [← Int32.toInt_toBitVec, BitVec.toInt_eq_toNat_bmod]; rfl
  have h2 : (x.toUInt32.toUInt16.toUInt32).toNat = x.toBitVec.toNat % 65536 := by
    simp [UInt32.toNat_toUInt16, UInt16.toNat_toUInt32]; rfl
  have h3 : x.toInt = (x.toBitVec.toNat : Int).bmod (2 ^ 32) := by
    rw [← Int32.toInt_toBitVec, BitVec.toInt_eq_toNat_bmod]
  have h4 := x.toBitVec.isLt
  rw [h1, h2, h3, Int.bmod_def, Int.bmod_def]
  split <;> split <;> omega
theorem i32_addc (x y : Int32) : (x + y).toInt = x.toInt + y.toInt ∧ -2 ^ 31 ≤ x.toInt + y.toInt ∧ x.toInt + y.toInt < 2 ^ 31 ∨ (x + y).toInt = x.toInt + y.toInt - 2 ^ 32 ∧ 2 ^ 31 ≤ x.toInt + y.toInt ∨ (x + y).toInt = x.toInt + y.toInt + 2 ^ 32 ∧ x.toInt + y.toInt < -2 ^ 31 := by
  have h := Int32.toInt_add x y
  have a1 := Int32.le_toInt x
  have a2 := Int32.toInt_lt x
  have b1 := Int32.le_toInt y
  have b2 := Int32.toInt_lt y
  rw [Int.bmod_def] at h
  split at h <;> omega
theorem i32_subc (x y : Int32) : (x - y).toInt = x.toInt - y.toInt ∧ -2 ^ 31 ≤ x.toInt - y.toInt ∧ x.toInt - y.toInt < 2 ^ 31 ∨ (x - y).toInt = x.toInt - y.toInt - 2 ^ 32 ∧ 2 ^ 31 ≤ x.toInt - y.toInt ∨ (x - y).toInt = x.toInt - y.toInt + 2 ^ 32 ∧ x.toInt - y.toInt < -2 ^ 31 := by
  have h := Int32.toInt_sub x y
  have a1 := Int32.le_toInt x
  have a2 := Int32.toInt_lt x
  have b1 := Int32.le_toInt y
  have b2 := Int32.toInt_lt y
  rw [Int.bmod_def] at h
  split at h <;> omega
theorem own_eq32 {a b : Int32} (h : a.toInt = b.toInt) : a = b := Int32.toInt_inj.mp h
theorem own_eq64 {a b : Int64} (h : a.toInt = b.toInt) : a = b := Int64.toInt_inj.mp h
theorem own_lt64 {a b : Int64} (h : a.toInt < b.toInt) : a < b := Int64.lt_iff_toInt_lt.mpr h
theorem own_lt32 {a b : Int32} (h : a.toInt < b.toInt) : a < b := Int32.lt_iff_toInt_lt.mpr h
theorem own_nlt64 {a b : Int64} (h : b.toInt ≤ a.toInt) : ¬ a < b := fun z => by have := Int64.lt_iff_toInt_lt.mp z; omega
theorem own_nlt32 {a b : Int32} (h : b.toInt ≤ a.toInt) : ¬ a < b := fun z => by have := Int32.lt_iff_toInt_lt.mp z; omega
theorem own_ne32 {a b : Int32} (h : a.toInt ≠ b.toInt) : ¬ a = b := fun z => h (by rw [z])
theorem own_ne64 {a b : Int64} (h : a.toInt ≠ b.toInt) : ¬ a = b := fun z => h (by rw [z])
def sumB : List Int32 → Nat → Nat → Int32 → Int32
  | _, _, 0, acc => acc
  | bl, i, k + 1, acc => sumB bl (i + 1) k (acc + bl.getD i 0)
def sumI (f : Nat → Int) : Nat → Nat → Int
  | _, 0 => 0
  | i, k + 1 => f i + sumI f (i + 1) k
theorem own_sumB (bl : List Int32) : ∀ (k i : Nat) (acc : Int32), (sumB bl i k acc).toInt % 256 = (acc.toInt + sumI (fun j => (bl.getD j 0).toInt) i k) % 256
  | 0, i, acc => by simp [sumB, sumI]
  | k + 1, i, acc => by
    have h := i32_addc acc (bl.getD i 0)
    rw [sumB, own_sumB bl k, sumI]
    omega
theorem own_sumI (f : Nat → Int) {a n : Nat} (h : a + n ≤ 8) : sumI f a n = (if a ≤ 0 ∧ 0 < a + n then f 0 else 0) + (if a ≤ 1 ∧ 1 < a + n then f 1 else 0) + (if a ≤ 2 ∧ 2 < a + n then f 2 else 0) + (if a ≤ 3 ∧ 3 < a + n then f 3 else 0) + (if a ≤ 4 ∧ 4 < a + n then f 4 else 0) + (if a ≤ 5 ∧ 5 < a + n then f 5 else 0) + (if a ≤ 6 ∧ 6 < a + n then f 6 else 0) + (if a ≤ 7 ∧ 7 < a + n then f 7 else 0) := by
  have ha : a = 0 ∨ a = 1 ∨ a = 2 ∨ a = 3 ∨ a = 4 ∨ a = 5 ∨ a = 6 ∨ a = 7 ∨ a = 8 := by omega
  have hn : n = 0 ∨ n = 1 ∨ n = 2 ∨ n = 3 ∨ n = 4 ∨ n = 5 ∨ n = 6 ∨ n = 7 ∨ n = 8 := by omega
  rcases ha with rfl | rfl | rfl | rfl | rfl | rfl | rfl | rfl | rfl <;> rcases hn with rfl | rfl | rfl | rfl | rfl | rfl | rfl | rfl | rfl <;> first | (exfalso; omega) | (simp [sumI]; try omega)
def pkF (k a n x : Int32) : Int32 := if k < a then 0 else if k < a + n then x &&& 255 else 0
theorem own_pk {k a n x : Int32} {j : Nat} (hk : k.toInt = (j : Int)) (ha : 0 ≤ a.toInt) (hn : 0 ≤ n.toInt) (hs : a.toInt + n.toInt ≤ 8) (ea : a.toInt = (a.toNatClampNeg : Int)) (en : n.toInt = (n.toNatClampNeg : Int)) :
    (pkF k a n x).toInt = (if a.toNatClampNeg ≤ j ∧ j < a.toNatClampNeg + n.toNatClampNeg then x.toInt % 256 else 0) := by
  have e0 : (0 : Int32).toInt = 0 := by decide
  have s1 : (a + n).toInt = a.toInt + n.toInt := Jvm.Kit.i32_add (by omega) (by omega)
  have m1 := Jvm.Kit.i32_mask x (255 : Int32) (k := 8) (by decide) (by decide)
  have l1 : k < a ↔ k.toInt < a.toInt := Int32.lt_iff_toInt_lt
  have l2 : k < a + n ↔ k.toInt < a.toInt + n.toInt := by rw [← s1]; exact Int32.lt_iff_toInt_lt
  unfold pkF
  by_cases c1 : k < a
  · have := l1.mp c1
    rw [if_pos c1, if_neg (by omega), e0]
  · have h1 : ¬ k.toInt < a.toInt := fun z => c1 (l1.mpr z)
    rw [if_neg c1]
    by_cases c2 : k < a + n
    · have := l2.mp c2
      rw [if_pos c2, if_pos (by omega), m1]; rfl
    · have h2 : ¬ k.toInt < a.toInt + n.toInt := fun z => c2 (l2.mpr z)
      rw [if_neg c2, if_neg (by omega), e0]
theorem own_total {a n : Int32} {bl : List Int32} (ha : 0 ≤ a.toInt) (hn : 0 ≤ n.toInt) (hs : a.toInt + n.toInt ≤ 8) (ea : a.toInt = (a.toNatClampNeg : Int)) (en : n.toInt = (n.toNatClampNeg : Int)) {p0 p1 p2 p3 p4 p5 p6 p7 : Int32}
    (h0 : pkF 0 a n (bl.getD 0 0) = p0) (h1 : pkF 1 a n (bl.getD 1 0) = p1) (h2 : pkF 2 a n (bl.getD 2 0) = p2) (h3 : pkF 3 a n (bl.getD 3 0) = p3) (h4 : pkF 4 a n (bl.getD 4 0) = p4) (h5 : pkF 5 a n (bl.getD 5 0) = p5) (h6 : pkF 6 a n (bl.getD 6 0) = p6) (h7 : pkF 7 a n (bl.getD 7 0) = p7) {t s : Int32}
    (ht : (((((((p0 + p1) + p2) + p3) + p4) + p5) + p6) + p7) = t) (hm : t % 256 = s) :
    s.toInt = (sumB bl a.toNatClampNeg n.toNatClampNeg 0).toInt % 256 := by
  have q0 := own_pk (x := bl.getD 0 0) (k := 0) (j := 0) (by decide) ha hn hs ea en
  have q1 := own_pk (x := bl.getD 1 0) (k := 1) (j := 1) (by decide) ha hn hs ea en
  have q2 := own_pk (x := bl.getD 2 0) (k := 2) (j := 2) (by decide) ha hn hs ea en
  have q3 := own_pk (x := bl.getD 3 0) (k := 3) (j := 3) (by decide) ha hn hs ea en
  have q4 := own_pk (x := bl.getD 4 0) (k := 4) (j := 4) (by decide) ha hn hs ea en
  have q5 := own_pk (x := bl.getD 5 0) (k := 5) (j := 5) (by decide) ha hn hs ea en
  have q6 := own_pk (x := bl.getD 6 0) (k := 6) (j := 6) (by decide) ha hn hs ea en
  have q7 := own_pk (x := bl.getD 7 0) (k := 7) (j := 7) (by decide) ha hn hs ea en
  rw [h0] at q0; rw [h1] at q1; rw [h2] at q2; rw [h3] at q3; rw [h4] at q4; rw [h5] at q5; rw [h6] at q6; rw [h7] at q7
  have B : ∀ (c : Prop) [Decidable c] (y : Int), 0 ≤ (if c then y % 256 else 0) ∧ (if c then y % 256 else 0) < 256 := by
    intro c _ y
    split <;> omega
  have b0 := B (a.toNatClampNeg ≤ 0 ∧ 0 < a.toNatClampNeg + n.toNatClampNeg) (bl.getD 0 0).toInt
  have b1 := B (a.toNatClampNeg ≤ 1 ∧ 1 < a.toNatClampNeg + n.toNatClampNeg) (bl.getD 1 0).toInt
  have b2 := B (a.toNatClampNeg ≤ 2 ∧ 2 < a.toNatClampNeg + n.toNatClampNeg) (bl.getD 2 0).toInt
  have b3 := B (a.toNatClampNeg ≤ 3 ∧ 3 < a.toNatClampNeg + n.toNatClampNeg) (bl.getD 3 0).toInt
  have b4 := B (a.toNatClampNeg ≤ 4 ∧ 4 < a.toNatClampNeg + n.toNatClampNeg) (bl.getD 4 0).toInt
  have b5 := B (a.toNatClampNeg ≤ 5 ∧ 5 < a.toNatClampNeg + n.toNatClampNeg) (bl.getD 5 0).toInt
  have b6 := B (a.toNatClampNeg ≤ 6 ∧ 6 < a.toNatClampNeg + n.toNatClampNeg) (bl.getD 6 0).toInt
  have b7 := B (a.toNatClampNeg ≤ 7 ∧ 7 < a.toNatClampNeg + n.toNatClampNeg) (bl.getD 7 0).toInt
  rw [← q0] at b0; rw [← q1] at b1; rw [← q2] at b2; rw [← q3] at b3; rw [← q4] at b4; rw [← q5] at b5; rw [← q6] at b6; rw [← q7] at b7
  have ht' : t.toInt = p0.toInt + p1.toInt + p2.toInt + p3.toInt + p4.toInt + p5.toInt + p6.toInt + p7.toInt := by
    have a1 : (p0 + p1).toInt = p0.toInt + p1.toInt := Jvm.Kit.i32_add (by omega) (by omega)
    have a2 : ((p0 + p1) + p2).toInt = p0.toInt + p1.toInt + p2.toInt := by rw [Jvm.Kit.i32_add (by omega) (by omega), a1]
    have a3 : (((p0 + p1) + p2) + p3).toInt = p0.toInt + p1.toInt + p2.toInt + p3.toInt := by rw [Jvm.Kit.i32_add (by omega) (by omega), a2]
    have a4 : ((((p0 + p1) + p2) + p3) + p4).toInt = p0.toInt + p1.toInt + p2.toInt + p3.toInt + p4.toInt := by rw [Jvm.Kit.i32_add (by omega) (by omega), a3]
    have a5 : (((((p0 + p1) + p2) + p3) + p4) + p5).toInt = p0.toInt + p1.toInt + p2.toInt + p3.toInt + p4.toInt + p5.toInt := by rw [Jvm.Kit.i32_add (by omega) (by omega), a4]
    have a6 : ((((((p0 + p1) + p2) + p3) + p4) + p5) + p6).toInt = p0.toInt + p1.toInt + p2.toInt + p3.toInt + p4.toInt + p5.toInt + p6.toInt := by rw [Jvm.Kit.i32_add (by omega) (by omega), a5]
    rw [← ht, Jvm.Kit.i32_add (by omega) (by omega), a6]
  have e256 : (256 : Int32).toInt = 256 := by decide
  have e0 : (0 : Int32).toInt = 0 := by decide
  rw [← hm, Jvm.Kit.i32_rem_nonneg (by omega), e256, own_sumB, e0, own_sumI _ (by omega), ht', q0, q1, q2, q3, q4, q5, q6, q7]
  have M : ∀ (c : Prop) [Decidable c] (y : Int), (if c then y % 256 else 0) % 256 = (if c then y else 0) % 256 := by
    intro c _ y
    split <;> omega
  have m0 := M (a.toNatClampNeg ≤ 0 ∧ 0 < a.toNatClampNeg + n.toNatClampNeg) (bl.getD 0 0).toInt
  have m1 := M (a.toNatClampNeg ≤ 1 ∧ 1 < a.toNatClampNeg + n.toNatClampNeg) (bl.getD 1 0).toInt
  have m2 := M (a.toNatClampNeg ≤ 2 ∧ 2 < a.toNatClampNeg + n.toNatClampNeg) (bl.getD 2 0).toInt
  have m3 := M (a.toNatClampNeg ≤ 3 ∧ 3 < a.toNatClampNeg + n.toNatClampNeg) (bl.getD 3 0).toInt
  have m4 := M (a.toNatClampNeg ≤ 4 ∧ 4 < a.toNatClampNeg + n.toNatClampNeg) (bl.getD 4 0).toInt
  have m5 := M (a.toNatClampNeg ≤ 5 ∧ 5 < a.toNatClampNeg + n.toNatClampNeg) (bl.getD 5 0).toInt
  have m6 := M (a.toNatClampNeg ≤ 6 ∧ 6 < a.toNatClampNeg + n.toNatClampNeg) (bl.getD 6 0).toInt
  have m7 := M (a.toNatClampNeg ≤ 7 ∧ 7 < a.toNatClampNeg + n.toNatClampNeg) (bl.getD 7 0).toInt
  generalize (if a.toNatClampNeg ≤ 0 ∧ 0 < a.toNatClampNeg + n.toNatClampNeg then (bl.getD 0 0).toInt else 0) = y0 at *
  generalize (if a.toNatClampNeg ≤ 1 ∧ 1 < a.toNatClampNeg + n.toNatClampNeg then (bl.getD 1 0).toInt else 0) = y1 at *
  generalize (if a.toNatClampNeg ≤ 2 ∧ 2 < a.toNatClampNeg + n.toNatClampNeg then (bl.getD 2 0).toInt else 0) = y2 at *
  generalize (if a.toNatClampNeg ≤ 3 ∧ 3 < a.toNatClampNeg + n.toNatClampNeg then (bl.getD 3 0).toInt else 0) = y3 at *
  generalize (if a.toNatClampNeg ≤ 4 ∧ 4 < a.toNatClampNeg + n.toNatClampNeg then (bl.getD 4 0).toInt else 0) = y4 at *
  generalize (if a.toNatClampNeg ≤ 5 ∧ 5 < a.toNatClampNeg + n.toNatClampNeg then (bl.getD 5 0).toInt else 0) = y5 at *
  generalize (if a.toNatClampNeg ≤ 6 ∧ 6 < a.toNatClampNeg + n.toNatClampNeg then (bl.getD 6 0).toInt else 0) = y6 at *
  generalize (if a.toNatClampNeg ≤ 7 ∧ 7 < a.toNatClampNeg + n.toNatClampNeg then (bl.getD 7 0).toInt else 0) = y7 at *
  rw [← q0, ← q1, ← q2, ← q3, ← q4, ← q5, ← q6, ← q7]
  rw [← q0] at m0; rw [← q1] at m1; rw [← q2] at m2; rw [← q3] at m3; rw [← q4] at m4; rw [← q5] at m5; rw [← q6] at m6; rw [← q7] at m7
  clear q0 q1 q2 q3 q4 q5 q6 q7 h0 h1 h2 h3 h4 h5 h6 h7 B M
  omega
theorem own_rel3 {s c0 c1 c2 : Int32} (hs : 0 ≤ s.toInt ∧ s.toInt < 256) (h0 : ((48 : Int32) + (s / (100 : Int32))).toUInt32.toUInt16.toUInt32.toInt32 = c0) (h1 : ((48 : Int32) + ((s / (10 : Int32)) % (10 : Int32))).toUInt32.toUInt16.toUInt32.toInt32 = c1) (h2 : ((48 : Int32) + (s % (10 : Int32))).toUInt32.toUInt16.toUInt32.toInt32 = c2) :
    c0.toInt = 48 + s.toInt / 100 ∧ c1.toInt = 48 + s.toInt / 10 % 10 ∧ c2.toInt = 48 + s.toInt % 10 := by
  have e48 : (48 : Int32).toInt = 48 := by decide
  have e100 : (100 : Int32).toInt = 100 := by decide
  have e10 : (10 : Int32).toInt = 10 := by decide
  have d1 : (s / (100 : Int32)).toInt = s.toInt / 100 := by rw [Jvm.Kit.i32_div (by omega), e100, Int.tdiv_eq_ediv_of_nonneg hs.1]
  have d2 : (s / (10 : Int32)).toInt = s.toInt / 10 := by rw [Jvm.Kit.i32_div (by omega), e10, Int.tdiv_eq_ediv_of_nonneg hs.1]
  have d3 : ((s / (10 : Int32)) % (10 : Int32)).toInt = s.toInt / 10 % 10 := by rw [Jvm.Kit.i32_rem_nonneg (by omega), d2, e10]
  have d4 : (s % (10 : Int32)).toInt = s.toInt % 10 := by rw [Jvm.Kit.i32_rem_nonneg (by omega), e10]
  refine ⟨?_, ?_, ?_⟩
  · rw [← h0, i32_i2c, Jvm.Kit.i32_add (by omega) (by omega)]; omega
  · rw [← h1, i32_i2c, Jvm.Kit.i32_add (by omega) (by omega)]; omega
  · rw [← h2, i32_i2c, Jvm.Kit.i32_add (by omega) (by omega)]; omega

theorem own_narb (y : Int32) : nar .byte (y.toInt8.toInt32) = y.toInt8.toInt32 := by
  show (y.toInt8.toInt32).toInt8.toInt32 = y.toInt8.toInt32
  simp
def bvs (bl : List Int32) : List Value := bl.map Value.int
theorem own_bset (bl : List Int32) (i : Nat) (x : Int32) : (bvs bl).set i (.int x) = bvs (bl.set i x) := by
  unfold bvs
  rw [List.map_set]
theorem own_bget (bl : List Int32) (i : Nat) : (bvs bl).getD i (.int 0) = .int (bl.getD i 0) := by
  unfold bvs
  rw [List.getD_eq_getElem?_getD, List.getD_eq_getElem?_getD, List.getElem?_map]
  cases bl[i]? <;> rfl
theorem own_blen (bl : List Int32) : (bvs bl).length = bl.length := by
  unfold bvs
  rw [List.length_map]

theorem own_up (cs : List Int32) (h : ∀ c ∈ cs, ¬ c < 0 ∧ ¬ (255 : Int32) < c) : ∀ c ∈ cs, ¬ c < 0 ∧ ¬ (65535 : Int32) < c := fun c hc => ⟨(h c hc).1, fun q => (h c hc).2 (by rw [Int32.lt_iff_toInt_lt] at q ⊢; have e1 : (65535 : Int32).toInt = 65535 := rfl; have e2 : (255 : Int32).toInt = 255 := rfl; omega)⟩
theorem own_narc (y : Int32) : nar .char (y.toUInt32.toUInt16.toUInt32.toInt32) = y.toUInt32.toUInt16.toUInt32.toInt32 := by
  show (y.toUInt32.toUInt16.toUInt32.toInt32).toUInt32.toUInt16.toUInt32.toInt32 = _
  simp only [UInt32.toUInt32_toInt32, UInt16.toUInt16_toUInt32]

theorem own_words : ∀ d ∈ StrChars.Road.words, d ∈ tables_1 := by decide +kernel
theorem own_wordsLen : ∀ d ∈ StrChars.Road.wordsLen, d ∈ tables_1 := by decide +kernel
theorem own_wordsChN : ∀ d ∈ StrChars.Road.wordsChN, d ∈ tables_1 := by decide +kernel
theorem own_or32 {a b : Int32} (ha : ¬ a < 0) (hb : ¬ b < 0) : ¬ (a ||| b) < 0 := by
  rw [Jvm.Free.XT.neg32] at *
  rw [Int32.toBitVec_or, BitVec.msb_or]
  simp [ha, hb]
theorem pn_0 : plainName "jdk/internal/util/Preconditions" = true := by first | (simp [plainName, overriddenIn]; done) | decide +kernel
theorem d_prck_0 : decode jdk_41_method_13_code 0 = .ok (.iload_n 2, 1) := by decide +kernel
theorem d_prck_1 : decode jdk_41_method_13_code 1 = .ok (.iload_n 0, 1) := by decide +kernel
theorem d_prck_2 : decode jdk_41_method_13_code 2 = .ok (.ior, 1) := by decide +kernel
theorem d_prck_3 : decode jdk_41_method_13_code 3 = .ok (.iload_n 1, 1) := by decide +kernel
theorem d_prck_4 : decode jdk_41_method_13_code 4 = .ok (.ior, 1) := by decide +kernel
theorem d_prck_5 : decode jdk_41_method_13_code 5 = .ok (.ifCond .lt 10, 3) := by decide +kernel
theorem d_prck_8 : decode jdk_41_method_13_code 8 = .ok (.iload_n 1, 1) := by decide +kernel
theorem d_prck_9 : decode jdk_41_method_13_code 9 = .ok (.iload_n 2, 1) := by decide +kernel
theorem d_prck_10 : decode jdk_41_method_13_code 10 = .ok (.iload_n 0, 1) := by decide +kernel
theorem d_prck_11 : decode jdk_41_method_13_code 11 = .ok (.isub, 1) := by decide +kernel
theorem d_prck_12 : decode jdk_41_method_13_code 12 = .ok (.if_icmp .le 11, 3) := by decide +kernel
theorem d_prck_23 : decode jdk_41_method_13_code 23 = .ok (.iload_n 0, 1) := by decide +kernel
theorem d_prck_24 : decode jdk_41_method_13_code 24 = .ok (.ireturn, 1) := by decide +kernel
theorem ef_prck (m : MethodId) (pa : Int32) (pb : Int32) (pc : Int32) : entryFrame m #[(.int pa), (.int pb), (.int pc), .null] 4 = mkF m 0 #[.val (.int pa), .val (.int pb), .val (.int pc), .val .null] [] := by first | (simp [entryFrame, mkF, argsToLocals, Value.category]; done) | rfl
def Q_prck (Z : State) (pa : Int32) (pb : Int32) (pc : Int32) (h0 : Heap) (n0 : Nat) (v : Option Value) (h : Heap) (L : List Loc) : Prop := v = some (.int pa) ∧ Fr n0 L ∧ h = h0
set_option maxRecDepth 65536 in
set_option maxHeartbeats 40000000 in
theorem rm_prck (l : Launch) (Z : State) (a0 : Array Value) (hw : ∀ d ∈ tables_1, d.before a0 Z = true) (ws : List Jvm.Cond) (pa : Int32) (pb : Int32) (pc : Int32) (h0 : Heap) (n0 : Nat) (Z0 : n0 ≤ h0.size) (hck : 0 ≤ pa.toInt ∧ 0 ≤ pb.toInt ∧ pa.toInt + pb.toInt ≤ pc.toInt) :
    MetFree l (⟨"jdk/internal/util/Preconditions", "checkFromIndexSize", "(IIILjava/util/function/BiFunction;)I"⟩ : MethodName) (head1 (Jvm.Cond.code (⟨"jdk/internal/util/Preconditions", "checkFromIndexSize", "(IIILjava/util/function/BiFunction;)I"⟩ : MethodName) jdk_41_method_13_code 4 (some .int) :: ws) ({ frames := 0, cells := 0, slots := 0, locals := 0 } : Room)) (fun a U => a = #[(.int pa), (.int pb), (.int pc), .null] ∧ Z.Warmed39 U.vm ∧ U.heap = h0) (fun _ _ _ _ _ => True) (fun _ U o U' => ∃ v L, o = .returned v ∧ Q_prck Z pa pb pc h0 n0 v U'.heap L ∧ FrameEnd U o U' L ({ frames := 0, cells := 0, slots := 0, locals := 0 } : Room).cells ({ frames := 0, cells := 0, slots := 0, locals := 0 } : Room).slots) := by
  refine MetFree.of_bodySF (plainFor_of_name pn_0) hisR ?_
  intro p e s m args below meth c s₁ Bd hml0 hP hK
  obtain ⟨rfl, hZ, hh⟩ := hP
  have hx := Bd.exec
  have hby := Bd.bytes
  have hml : c.maxLocals = 4 := hml0
  have hown : s.vm.findClass "jdk/internal/util/Preconditions" = some m.cls := findClass_of_methodNamed Bd.named
  have hnm := (name_of_methodNamed Bd.named Bd.method).1
  have X0 : Stand p l e ({ frames := 0, cells := 0, slots := 0, locals := 0 } : Room) s m #[(.int pa), (.int pb), (.int pc), .null] below meth c s₁ [] 0 0 := Stand.of_body Bd
  have e0 : s₁.heap = h0 := by rw [← hh, Bd.state]; rfl
  have N0 := Fr.nil n0
  have K0 : Keep h0 h0 [] := Keep.refl h0 []
  show Go p.tables e below _ (s₁.setTop (entryFrame m #[(.int pa), (.int pb), (.int pc), .null] 4))
  refine Go.start ?_
  intro G hG
  refine Go.st (fun t k => castTop (ef_prck m pa pb pc) k) ?_
  have i_0 : (0 : Int32).toInt = 0 := by decide
  show Go p.tables e below _ (s₁.setTop (mkF m 0 #[.val (.int pa), .val (.int pb), .val (.int pc), .val .null] []))
  refine Go.st (fun _ k => XS.iloadN X0.here hx rfl (hb hby d_prck_0) rfl k) ?_
  show Go p.tables e below _ (s₁.setTop (mkF m 1 #[.val (.int pa), .val (.int pb), .val (.int pc), .val .null] [(.int pc)]))
  refine Go.st (fun _ k => XS.iloadN X0.here hx rfl (hb hby d_prck_1) rfl k) ?_
  show Go p.tables e below _ (s₁.setTop (mkF m 2 #[.val (.int pa), .val (.int pb), .val (.int pc), .val .null] [(.int pa), (.int pc)]))
  refine Go.st (fun _ k => XS.ior X0.here hx rfl (hb hby d_prck_2) rfl k) ?_
  show Go p.tables e below _ (s₁.setTop (mkF m 3 #[.val (.int pa), .val (.int pb), .val (.int pc), .val .null] [(.int (pc ||| pa))]))
  refine Go.st (fun _ k => XS.iloadN X0.here hx rfl (hb hby d_prck_3) rfl k) ?_
  show Go p.tables e below _ (s₁.setTop (mkF m 4 #[.val (.int pa), .val (.int pb), .val (.int pc), .val .null] [(.int pb), (.int (pc ||| pa))]))
  refine Go.st (fun _ k => XS.ior X0.here hx rfl (hb hby d_prck_4) rfl k) ?_
  show Go p.tables e below _ (s₁.setTop (mkF m 5 #[.val (.int pa), .val (.int pb), .val (.int pc), .val .null] [(.int ((pc ||| pa) ||| pb))]))
  have hc5 : ¬ (((pc ||| pa) ||| pb) < (0 : Int32)) := (own_or32 (own_or32 (own_nlt32 (by omega)) (own_nlt32 (by omega))) (own_nlt32 (by omega)))
  refine Go.st (fun _ k => XS.ifNo X0.here hx rfl (hb hby d_prck_5) rfl (Jvm.Free.XT.i0_lt_f hc5) k) ?_
  show Go p.tables e below _ (s₁.setTop (mkF m 8 #[.val (.int pa), .val (.int pb), .val (.int pc), .val .null] []))
  refine Go.st (fun _ k => XS.iloadN X0.here hx rfl (hb hby d_prck_8) rfl k) ?_
  show Go p.tables e below _ (s₁.setTop (mkF m 9 #[.val (.int pa), .val (.int pb), .val (.int pc), .val .null] [(.int pb)]))
  refine Go.st (fun _ k => XS.iloadN X0.here hx rfl (hb hby d_prck_9) rfl k) ?_
  show Go p.tables e below _ (s₁.setTop (mkF m 10 #[.val (.int pa), .val (.int pb), .val (.int pc), .val .null] [(.int pc), (.int pb)]))
  refine Go.st (fun _ k => XS.iloadN X0.here hx rfl (hb hby d_prck_10) rfl k) ?_
  show Go p.tables e below _ (s₁.setTop (mkF m 11 #[.val (.int pa), .val (.int pb), .val (.int pc), .val .null] [(.int pa), (.int pc), (.int pb)]))
  refine Go.st (fun _ k => XS.isub X0.here hx rfl (hb hby d_prck_11) rfl k) ?_
  show Go p.tables e below _ (s₁.setTop (mkF m 12 #[.val (.int pa), .val (.int pb), .val (.int pc), .val .null] [(.int (pc - pa)), (.int pb)]))
  have hc12 : ¬ ((pc - pa) < pb) := (own_nlt32 (by have q := i32_subc pc pa; have q2 := pc.toInt_lt; omega))
  refine Go.st (fun _ k => XS.icmpYes X0.here hx rfl (pc0 := 12) (pc' := 23) rfl (hb hby d_prck_12) rfl (Jvm.Free.XT.ii_le_t hc12) (by decide) (by decide) k) ?_
  show Go p.tables e below _ (s₁.setTop (mkF m 23 #[.val (.int pa), .val (.int pb), .val (.int pc), .val .null] []))
  refine Go.st (fun _ k => XS.iloadN X0.here hx rfl (hb hby d_prck_23) rfl k) ?_
  show Go p.tables e below _ (s₁.setTop (mkF m 24 #[.val (.int pa), .val (.int pb), .val (.int pc), .val .null] [(.int pa)]))
  subst hG
  obtain ⟨fs, hr, hrun, hended, hW, hsame⟩ := X0.leave (v := some (.int pa)) (fun h => by rw [Bd.returns] at h; cases h)
  refine ⟨_, _, ?_, hrun, hended, _, _, rfl, ?_, ⟨_, rfl⟩, hW, hsame.mono (by decide) (by decide)⟩
  · exact retI X0 hx Bd.returns (hb hby d_prck_24) hr
  · show Q_prck Z pa pb pc h0 n0 _ s₁.heap _
    rw [e0]
    exact ⟨rfl, N0, rfl⟩
theorem pd_0 : parseMethodDescriptor "(IIILjava/util/function/BiFunction;)I" = some ⟨[.int, .int, .int, (.object "java/util/function/BiFunction")], some .int⟩ := by decide +kernel
theorem pn_1 : plainName "java/util/Objects" = true := by first | (simp [plainName, overriddenIn]; done) | decide +kernel
theorem d_obck_0 : decode jdk_31_method_19_code 0 = .ok (.iload_n 0, 1) := by decide +kernel
theorem d_obck_1 : decode jdk_31_method_19_code 1 = .ok (.iload_n 1, 1) := by decide +kernel
theorem d_obck_2 : decode jdk_31_method_19_code 2 = .ok (.iload_n 2, 1) := by decide +kernel
theorem d_obck_3 : decode jdk_31_method_19_code 3 = .ok (.aconst_null, 1) := by decide +kernel
theorem d_obck_4 : decode jdk_31_method_19_code 4 = .ok (.invokestatic 115, 3) := by decide +kernel
theorem d_obck_7 : decode jdk_31_method_19_code 7 = .ok (.ireturn, 1) := by decide +kernel
theorem ef_obck (m : MethodId) (pa : Int32) (pb : Int32) (pc : Int32) : entryFrame m #[(.int pa), (.int pb), (.int pc)] 3 = mkF m 0 #[.val (.int pa), .val (.int pb), .val (.int pc)] [] := by first | (simp [entryFrame, mkF, argsToLocals, Value.category]; done) | rfl
def Q_obck (Z : State) (pa : Int32) (pb : Int32) (pc : Int32) (h0 : Heap) (n0 : Nat) (v : Option Value) (h : Heap) (L : List Loc) : Prop := v = some (.int pa) ∧ Fr n0 L ∧ h = h0
set_option maxRecDepth 65536 in
set_option maxHeartbeats 40000000 in
theorem rm_obck (l : Launch) (Z : State) (a0 : Array Value) (hw : ∀ d ∈ tables_1, d.before a0 Z = true) (ws : List Jvm.Cond) (pa : Int32) (pb : Int32) (pc : Int32) (h0 : Heap) (n0 : Nat) (Z0 : n0 ≤ h0.size) (hck : 0 ≤ pa.toInt ∧ 0 ≤ pb.toInt ∧ pa.toInt + pb.toInt ≤ pc.toInt) :
    MetFree l (⟨"java/util/Objects", "checkFromIndexSize", "(III)I"⟩ : MethodName) (head1 (Jvm.Cond.code (⟨"java/util/Objects", "checkFromIndexSize", "(III)I"⟩ : MethodName) jdk_31_method_19_code 3 (some .int) :: ws) ({ frames := 1, cells := 0, slots := 0, locals := 15 } : Room)) (fun a U => a = #[(.int pa), (.int pb), (.int pc)] ∧ Z.Warmed39 U.vm ∧ U.heap = h0) (fun _ _ _ _ _ => True) (fun _ U o U' => ∃ v L, o = .returned v ∧ Q_obck Z pa pb pc h0 n0 v U'.heap L ∧ FrameEnd U o U' L ({ frames := 1, cells := 0, slots := 0, locals := 15 } : Room).cells ({ frames := 1, cells := 0, slots := 0, locals := 15 } : Room).slots) := by
  refine MetFree.of_bodySF (plainFor_of_name pn_1) hisR ?_
  intro p e s m args below meth c s₁ Bd hml0 hP hK
  obtain ⟨rfl, hZ, hh⟩ := hP
  have hx := Bd.exec
  have hby := Bd.bytes
  have hml : c.maxLocals = 3 := hml0
  have hown : s.vm.findClass "java/util/Objects" = some m.cls := findClass_of_methodNamed Bd.named
  have hnm := (name_of_methodNamed Bd.named Bd.method).1
  have X0 : Stand p l e ({ frames := 1, cells := 0, slots := 0, locals := 15 } : Room) s m #[(.int pa), (.int pb), (.int pc)] below meth c s₁ [] 0 0 := Stand.of_body Bd
  have e0 : s₁.heap = h0 := by rw [← hh, Bd.state]; rfl
  have N0 := Fr.nil n0
  have K0 : Keep h0 h0 [] := Keep.refl h0 []
  show Go p.tables e below _ (s₁.setTop (entryFrame m #[(.int pa), (.int pb), (.int pc)] 3))
  refine Go.start ?_
  intro G hG
  refine Go.st (fun t k => castTop (ef_obck m pa pb pc) k) ?_
  show Go p.tables e below _ (s₁.setTop (mkF m 0 #[.val (.int pa), .val (.int pb), .val (.int pc)] []))
  refine Go.st (fun _ k => XS.iloadN X0.here hx rfl (hb hby d_obck_0) rfl k) ?_
  show Go p.tables e below _ (s₁.setTop (mkF m 1 #[.val (.int pa), .val (.int pb), .val (.int pc)] [(.int pa)]))
  refine Go.st (fun _ k => XS.iloadN X0.here hx rfl (hb hby d_obck_1) rfl k) ?_
  show Go p.tables e below _ (s₁.setTop (mkF m 2 #[.val (.int pa), .val (.int pb), .val (.int pc)] [(.int pb), (.int pa)]))
  refine Go.st (fun _ k => XS.iloadN X0.here hx rfl (hb hby d_obck_2) rfl k) ?_
  show Go p.tables e below _ (s₁.setTop (mkF m 3 #[.val (.int pa), .val (.int pb), .val (.int pc)] [(.int pc), (.int pb), (.int pa)]))
  refine Go.st (fun _ k => XS.aconstNull X0.here hx rfl (hb hby d_obck_3) k) ?_
  show Go p.tables e below _ (s₁.setTop (mkF m 4 #[.val (.int pa), .val (.int pb), .val (.int pc)] [.null, (.int pc), (.int pb), (.int pa)]))
  obtain ⟨_, _, ⟨T1, L1, k1, n1⟩, -, X1, ⟨Lc1, hQ1, l1, y1, z1⟩, st1⟩ := Jvm.LawKit.callS X0 hx (y := (⟨"jdk/internal/util/Preconditions", "checkFromIndexSize", "(IIILjava/util/function/BiFunction;)I"⟩ : MethodName)) hown (mvT hZ (hw _ (List.mem_of_getElem? (i := 10) rfl))) (mvT hZ (hw _ (List.mem_of_getElem? (i := 11) rfl))) (mvT hZ (hw _ (List.mem_of_getElem? (i := 12) rfl))) (mvT hZ (hw _ (List.mem_of_getElem? (i := 13) rfl))) (by decide) (backOf (W := 0) (rm_prck l Z a0 hw [] pa pb pc h0 n0 Z0 (by show 0 ≤ pa.toInt ∧ 0 ≤ pb.toInt ∧ pa.toInt + pb.toInt ≤ pc.toInt; exact hck)) hZ (hw _ (List.mem_of_getElem? (i := 13) rfl)) (hw _ (List.mem_of_getElem? (i := 12) rfl)) (by decide) (by decide)) (g := (mkF m 4 #[.val (.int pa), .val (.int pb), .val (.int pc)] [.null, (.int pc), (.int pb), (.int pa)])) rfl (by rw [hml]; rfl) (argsL := [(.int pa), (.int pb), (.int pc), .null]) (rest := []) (lenOf pd_0 rfl) rfl (by show 2 * 0 + _ ≤ _; exact Nat.le_of_eq rfl) (hb hby d_obck_4) (fun _ _ => ⟨rfl, e0, (by decide : 0 + 0 ≤ _), (by decide : 0 + 0 ≤ _)⟩)
  dsimp only [Pt.U, Pt.locs, Pt.cells, Pt.slots] at X1 l1 y1 z1 st1 hQ1
  rw [l1, y1, z1] at X1
  obtain ⟨rfl, N1q, e1⟩ := hQ1
  have N1 := Fr.app N0 N1q
  refine Go.st st1 ?_
  show Go p.tables e below _ (T1.setTop (mkF m 7 #[.val (.int pa), .val (.int pb), .val (.int pc)] [(.int pa)]))
  subst hG
  obtain ⟨fs, hr, hrun, hended, hW, hsame⟩ := X1.leave (v := some (.int pa)) (fun h => by rw [Bd.returns] at h; cases h)
  refine ⟨_, _, ?_, hrun, hended, _, _, rfl, ?_, ⟨_, rfl⟩, hW, hsame.mono (by decide) (by decide)⟩
  · exact retI X1 hx Bd.returns (hb hby d_obck_7) hr
  · show Q_obck Z pa pb pc h0 n0 _ T1.heap _
    rw [e1]
    exact ⟨rfl, N1, rfl⟩
theorem own_hp3 {s c0 c1 c2 : Int32} {y : Int} (hs : s.toInt = y % 256) (h0 : ((48 : Int32) + (s / (100 : Int32))).toUInt32.toUInt16.toUInt32.toInt32 = c0) (h1 : ((48 : Int32) + ((s / (10 : Int32)) % (10 : Int32))).toUInt32.toUInt16.toUInt32.toInt32 = c1) (h2 : ((48 : Int32) + (s % (10 : Int32))).toUInt32.toUInt16.toUInt32.toInt32 = c2) :
    ∀ c ∈ ([c0, c1, c2] : List Int32), ¬ c < 0 ∧ ¬ (255 : Int32) < c := by
  have R := own_rel3 ⟨by omega, by omega⟩ h0 h1 h2
  have e0 : (0 : Int32).toInt = 0 := by decide
  have e255 : (255 : Int32).toInt = 255 := by decide
  intro c hc
  simp only [List.mem_cons, List.not_mem_nil, or_false] at hc
  rcases hc with rfl | rfl | rfl
  · exact ⟨own_nlt32 (by omega), own_nlt32 (by omega)⟩
  · exact ⟨own_nlt32 (by omega), own_nlt32 (by omega)⟩
  · exact ⟨own_nlt32 (by omega), own_nlt32 (by omega)⟩
theorem pd_1 : parseMethodDescriptor "(III)I" = some ⟨[.int, .int, .int], some .int⟩ := by decide +kernel
theorem pd_2 : parseMethodDescriptor "([C)V" = some ⟨[(.array .char)], none⟩ := by decide +kernel
theorem pn_2 : plainName "com/example/gapmend/gapmend/CheckSum" = true := by first | (simp [plainName, overriddenIn]; done) | decide +kernel
theorem d_of_0 : decode prog_5_method_2_code 0 = .ok (.iload_n 1, 1) := by decide +kernel
theorem d_of_1 : decode prog_5_method_2_code 1 = .ok (.iload_n 2, 1) := by decide +kernel
theorem d_of_2 : decode prog_5_method_2_code 2 = .ok (.aload_n 0, 1) := by decide +kernel
theorem d_of_3 : decode prog_5_method_2_code 3 = .ok (.arraylength, 1) := by decide +kernel
theorem d_of_4 : decode prog_5_method_2_code 4 = .ok (.invokestatic 7, 3) := by decide +kernel
theorem d_of_7 : decode prog_5_method_2_code 7 = .ok (.pop, 1) := by decide +kernel
theorem d_of_8 : decode prog_5_method_2_code 8 = .ok (.iconst 0, 1) := by decide +kernel
theorem d_of_9 : decode prog_5_method_2_code 9 = .ok (.istore_n 3, 1) := by decide +kernel
theorem d_of_10 : decode prog_5_method_2_code 10 = .ok (.iload_n 1, 1) := by decide +kernel
theorem d_of_11 : decode prog_5_method_2_code 11 = .ok (.istore 4, 2) := by decide +kernel
theorem d_of_13 : decode prog_5_method_2_code 13 = .ok (.iload 4, 2) := by decide +kernel
theorem d_of_15 : decode prog_5_method_2_code 15 = .ok (.iload_n 1, 1) := by decide +kernel
theorem d_of_16 : decode prog_5_method_2_code 16 = .ok (.iload_n 2, 1) := by decide +kernel
theorem d_of_17 : decode prog_5_method_2_code 17 = .ok (.iadd, 1) := by decide +kernel
theorem d_of_18 : decode prog_5_method_2_code 18 = .ok (.if_icmp .ge 16, 3) := by decide +kernel
theorem d_of_21 : decode prog_5_method_2_code 21 = .ok (.iload_n 3, 1) := by decide +kernel
theorem d_of_22 : decode prog_5_method_2_code 22 = .ok (.aload_n 0, 1) := by decide +kernel
theorem d_of_23 : decode prog_5_method_2_code 23 = .ok (.iload 4, 2) := by decide +kernel
theorem d_of_25 : decode prog_5_method_2_code 25 = .ok (.baload, 1) := by decide +kernel
theorem d_of_26 : decode prog_5_method_2_code 26 = .ok (.iadd, 1) := by decide +kernel
theorem d_of_27 : decode prog_5_method_2_code 27 = .ok (.istore_n 3, 1) := by decide +kernel
theorem d_of_28 : decode prog_5_method_2_code 28 = .ok (.iinc 4 1, 3) := by decide +kernel
theorem d_of_31 : decode prog_5_method_2_code 31 = .ok (.goto (-18), 3) := by decide +kernel
theorem d_of_34 : decode prog_5_method_2_code 34 = .ok (.iload_n 3, 1) := by decide +kernel
theorem d_of_35 : decode prog_5_method_2_code 35 = .ok (.sipush 255, 3) := by decide +kernel
theorem d_of_38 : decode prog_5_method_2_code 38 = .ok (.iand, 1) := by decide +kernel
theorem d_of_39 : decode prog_5_method_2_code 39 = .ok (.istore_n 3, 1) := by decide +kernel
theorem d_of_40 : decode prog_5_method_2_code 40 = .ok (.new 13, 3) := by decide +kernel
theorem d_of_43 : decode prog_5_method_2_code 43 = .ok (.dup, 1) := by decide +kernel
theorem d_of_44 : decode prog_5_method_2_code 44 = .ok (.iconst 3, 1) := by decide +kernel
theorem d_of_45 : decode prog_5_method_2_code 45 = .ok (.newarray .char, 2) := by decide +kernel
theorem d_of_47 : decode prog_5_method_2_code 47 = .ok (.dup, 1) := by decide +kernel
theorem d_of_48 : decode prog_5_method_2_code 48 = .ok (.iconst 0, 1) := by decide +kernel
theorem d_of_49 : decode prog_5_method_2_code 49 = .ok (.bipush 48, 2) := by decide +kernel
theorem d_of_51 : decode prog_5_method_2_code 51 = .ok (.iload_n 3, 1) := by decide +kernel
theorem d_of_52 : decode prog_5_method_2_code 52 = .ok (.bipush 100, 2) := by decide +kernel
theorem d_of_54 : decode prog_5_method_2_code 54 = .ok (.idiv, 1) := by decide +kernel
theorem d_of_55 : decode prog_5_method_2_code 55 = .ok (.iadd, 1) := by decide +kernel
theorem d_of_56 : decode prog_5_method_2_code 56 = .ok (.i2c, 1) := by decide +kernel
theorem d_of_57 : decode prog_5_method_2_code 57 = .ok (.castore, 1) := by decide +kernel
theorem d_of_58 : decode prog_5_method_2_code 58 = .ok (.dup, 1) := by decide +kernel
theorem d_of_59 : decode prog_5_method_2_code 59 = .ok (.iconst 1, 1) := by decide +kernel
theorem d_of_60 : decode prog_5_method_2_code 60 = .ok (.bipush 48, 2) := by decide +kernel
theorem d_of_62 : decode prog_5_method_2_code 62 = .ok (.iload_n 3, 1) := by decide +kernel
theorem d_of_63 : decode prog_5_method_2_code 63 = .ok (.bipush 10, 2) := by decide +kernel
theorem d_of_65 : decode prog_5_method_2_code 65 = .ok (.idiv, 1) := by decide +kernel
theorem d_of_66 : decode prog_5_method_2_code 66 = .ok (.bipush 10, 2) := by decide +kernel
theorem d_of_68 : decode prog_5_method_2_code 68 = .ok (.irem, 1) := by decide +kernel
theorem d_of_69 : decode prog_5_method_2_code 69 = .ok (.iadd, 1) := by decide +kernel
theorem d_of_70 : decode prog_5_method_2_code 70 = .ok (.i2c, 1) := by decide +kernel
theorem d_of_71 : decode prog_5_method_2_code 71 = .ok (.castore, 1) := by decide +kernel
theorem d_of_72 : decode prog_5_method_2_code 72 = .ok (.dup, 1) := by decide +kernel
theorem d_of_73 : decode prog_5_method_2_code 73 = .ok (.iconst 2, 1) := by decide +kernel
theorem d_of_74 : decode prog_5_method_2_code 74 = .ok (.bipush 48, 2) := by decide +kernel
theorem d_of_76 : decode prog_5_method_2_code 76 = .ok (.iload_n 3, 1) := by decide +kernel
theorem d_of_77 : decode prog_5_method_2_code 77 = .ok (.bipush 10, 2) := by decide +kernel
theorem d_of_79 : decode prog_5_method_2_code 79 = .ok (.irem, 1) := by decide +kernel
theorem d_of_80 : decode prog_5_method_2_code 80 = .ok (.iadd, 1) := by decide +kernel
theorem d_of_81 : decode prog_5_method_2_code 81 = .ok (.i2c, 1) := by decide +kernel
theorem d_of_82 : decode prog_5_method_2_code 82 = .ok (.castore, 1) := by decide +kernel
theorem d_of_83 : decode prog_5_method_2_code 83 = .ok (.invokespecial 15, 3) := by decide +kernel
theorem d_of_86 : decode prog_5_method_2_code 86 = .ok (.areturn, 1) := by decide +kernel
theorem ef_of (m : MethodId) (ao : Addr) (pof : Int32) (pln : Int32) : entryFrame m #[(.ref ao), (.int pof), (.int pln)] 5 = mkF m 0 #[.val (.ref ao), .val (.int pof), .val (.int pln), .unset, .unset] [] := by first | (simp [entryFrame, mkF, argsToLocals, Value.category]; done) | rfl
def Q_of (Z : State) (ao : Addr) (pof : Int32) (pln : Int32) (kk : ClassId) (bl : List Int32) (G1 : Int32) (h0 : Heap) (n0 : Nat) (v : Option Value) (h : Heap) (L : List Loc) : Prop := ∃ fr : Addr, ∃ fb : Addr, ∃ kb : ClassId, ∃ c0 : Int32, ∃ c1 : Int32, ∃ c2 : Int32, v = some (.ref fr) ∧ Fr n0 L ∧ Keep h0 h [] ∧ n0 ≤ fr ∧ h0.size ≤ fr ∧ n0 ≤ fb ∧ h0.size ≤ fb ∧ Exa Z h fr "java/lang/String" ∧ Fld Z h fr "java/lang/String" "coder" "B" (.int (0 : Int32)) ∧ Fld Z h fr "java/lang/String" "value" "[B" (.ref fb) ∧ Arv Z h fb kb .byte (3 : Int32) ((([c0, c1, c2] : List Int32).map (fun c => c.toInt8.toInt32)).map Value.int) (.int (0 : Int32)) ∧ (∀ c ∈ ([c0, c1, c2] : List Int32), ¬ c < 0 ∧ ¬ (255 : Int32) < c) ∧ (c0.toInt = 48 + ((sumB bl pof.toNatClampNeg pln.toNatClampNeg 0).toInt % 256) / 100 ∧ c1.toInt = 48 + ((sumB bl pof.toNatClampNeg pln.toNatClampNeg 0).toInt % 256) / 10 % 10 ∧ c2.toInt = 48 + ((sumB bl pof.toNatClampNeg pln.toNatClampNeg 0).toInt % 256) % 10)
set_option maxRecDepth 65536 in
set_option maxHeartbeats 40000000 in
theorem rm_of (l : Launch) (Z : State) (a0 : Array Value) (hw : ∀ d ∈ tables_1, d.before a0 Z = true) (ws : List Jvm.Cond) (ao : Addr) (pof : Int32) (pln : Int32) (kk : ClassId) (bl : List Int32) (G1 : Int32) (h0 : Heap) (n0 : Nat) (Z0 : n0 ≤ h0.size) (Pf0 : Arv Z h0 ao kk .byte (8 : Int32) (bvs bl) (.int (0 : Int32))) (hck : 0 ≤ pof.toInt ∧ 0 ≤ pln.toInt ∧ pof.toInt + pln.toInt ≤ (8 : Int32).toInt) (Pf2 : Old Z n0 h0) (O2 : Sta Z Z.heap "java/lang/String" "COMPACT_STRINGS" "Z" (.int G1)) (P5 : ¬ (G1 = (0 : Int32))) :
    MetFree l (⟨"com/example/gapmend/gapmend/CheckSum", "of", "([BII)Ljava/lang/String;"⟩ : MethodName) (head1 (Jvm.Cond.code (⟨"com/example/gapmend/gapmend/CheckSum", "of", "([BII)Ljava/lang/String;"⟩ : MethodName) prog_5_method_2_code 5 (some (.object "java/lang/String")) :: ws) ({ frames := 4, cells := 3, slots := 10, locals := 66 } : Room)) (fun a U => a = #[(.ref ao), (.int pof), (.int pln)] ∧ Z.Warmed39 U.vm ∧ U.heap = h0) (fun _ _ _ _ _ => True) (fun _ U o U' => ∃ v L, o = .returned v ∧ Q_of Z ao pof pln kk bl G1 h0 n0 v U'.heap L ∧ FrameEnd U o U' L ({ frames := 4, cells := 3, slots := 10, locals := 66 } : Room).cells ({ frames := 4, cells := 3, slots := 10, locals := 66 } : Room).slots) := by
  refine MetFree.of_bodySF (plainFor_of_name pn_2) hisR ?_
  intro p e s m args below meth c s₁ Bd hml0 hP hK
  obtain ⟨rfl, hZ, hh⟩ := hP
  have hx := Bd.exec
  have hby := Bd.bytes
  have hml : c.maxLocals = 5 := hml0
  have hown : s.vm.findClass "com/example/gapmend/gapmend/CheckSum" = some m.cls := findClass_of_methodNamed Bd.named
  have hnm := (name_of_methodNamed Bd.named Bd.method).1
  have X0 : Stand p l e ({ frames := 4, cells := 3, slots := 10, locals := 66 } : Room) s m #[(.ref ao), (.int pof), (.int pln)] below meth c s₁ [] 0 0 := Stand.of_body Bd
  have e0 : s₁.heap = h0 := by rw [← hh, Bd.state]; rfl
  have N0 := Fr.nil n0
  have K0 : Keep h0 h0 [] := Keep.refl h0 []
  show Go p.tables e below _ (s₁.setTop (entryFrame m #[(.ref ao), (.int pof), (.int pln)] 5))
  refine Go.start ?_
  intro G hG
  refine Go.st (fun t k => castTop (ef_of m ao pof pln) k) ?_
  have i_0 : (0 : Int32).toInt = 0 := by decide
  have i_1 : (1 : Int32).toInt = 1 := by decide
  have i_8 : (8 : Int32).toInt = 8 := by decide
  have nat_n := nat_of (j := pln) (own_nlt32 (by omega))
  have nat_a := nat_of (j := pof) (own_nlt32 (by omega))
  have hs8 : (pof + pln).toInt = pof.toInt + pln.toInt := Jvm.Kit.i32_add (by omega) (by omega)
  show Go p.tables e below _ (s₁.setTop (mkF m 0 #[.val (.ref ao), .val (.int pof), .val (.int pln), .unset, .unset] []))
  refine Go.st (fun _ k => XS.iloadN X0.here hx rfl (hb hby d_of_0) rfl k) ?_
  show Go p.tables e below _ (s₁.setTop (mkF m 1 #[.val (.ref ao), .val (.int pof), .val (.int pln), .unset, .unset] [(.int pof)]))
  refine Go.st (fun _ k => XS.iloadN X0.here hx rfl (hb hby d_of_1) rfl k) ?_
  show Go p.tables e below _ (s₁.setTop (mkF m 2 #[.val (.ref ao), .val (.int pof), .val (.int pln), .unset, .unset] [(.int pln), (.int pof)]))
  refine Go.st (fun _ k => XS.aloadN X0.here hx rfl (hb hby d_of_2) rfl rfl k) ?_
  show Go p.tables e below _ (s₁.setTop (mkF m 3 #[.val (.ref ao), .val (.int pof), .val (.int pln), .unset, .unset] [(.ref ao), (.int pln), (.int pof)]))
  obtain ⟨cl1, Ar1, -, S1, M1, -, -⟩ := id Pf0
  refine Go.st (fun _ k => X0.arraylength hx (by rw [e0]; exact Ar1.1) (State.isArrayOf_alike hZ.alike Ar1.2.1) (g := (mkF m 3 #[.val (.ref ao), .val (.int pof), .val (.int pln), .unset, .unset] [(.ref ao), (.int pln), (.int pof)])) rfl rfl (hb hby d_of_3) _ k) ?_
  rw [len_of S1 M1]
  show Go p.tables e below _ (s₁.setTop (mkF m 4 #[.val (.ref ao), .val (.int pof), .val (.int pln), .unset, .unset] [(.int (8 : Int32)), (.int pln), (.int pof)]))
  obtain ⟨_, _, ⟨T2, L2, k2, n2⟩, -, X2, ⟨Lc2, hQ2, l2, y2, z2⟩, st2⟩ := Jvm.LawKit.callS X0 hx (y := (⟨"java/util/Objects", "checkFromIndexSize", "(III)I"⟩ : MethodName)) hown (mvT hZ (hw _ (List.mem_of_getElem? (i := 6) rfl))) (mvT hZ (hw _ (List.mem_of_getElem? (i := 7) rfl))) (mvT hZ (hw _ (List.mem_of_getElem? (i := 8) rfl))) (mvT hZ (hw _ (List.mem_of_getElem? (i := 9) rfl))) (by decide) (backOf (W := 0) (rm_obck l Z a0 hw [] pof pln (8 : Int32) h0 n0 Z0 (by show 0 ≤ pof.toInt ∧ 0 ≤ pln.toInt ∧ pof.toInt + pln.toInt ≤ (8 : Int32).toInt; exact hck)) hZ (hw _ (List.mem_of_getElem? (i := 9) rfl)) (hw _ (List.mem_of_getElem? (i := 8) rfl)) (by decide) (by decide)) (g := (mkF m 4 #[.val (.ref ao), .val (.int pof), .val (.int pln), .unset, .unset] [(.int (8 : Int32)), (.int pln), (.int pof)])) rfl (by rw [hml]; rfl) (argsL := [(.int pof), (.int pln), (.int (8 : Int32))]) (rest := []) (lenOf pd_1 rfl) rfl (by show 2 * 0 + _ ≤ _; exact Nat.le_of_eq rfl) (hb hby d_of_4) (fun _ _ => ⟨rfl, e0, (by decide : 0 + 0 ≤ _), (by decide : 0 + 0 ≤ _)⟩)
  dsimp only [Pt.U, Pt.locs, Pt.cells, Pt.slots] at X2 l2 y2 z2 st2 hQ2
  rw [l2, y2, z2] at X2
  obtain ⟨rfl, N2q, e2⟩ := hQ2
  have N2 := Fr.app N0 N2q
  refine Go.st st2 ?_
  show Go p.tables e below _ (T2.setTop (mkF m 7 #[.val (.ref ao), .val (.int pof), .val (.int pln), .unset, .unset] [(.int pof)]))
  refine Go.st (fun _ k => XS.pop X2.here hx rfl (hb hby d_of_7) rfl rfl k) ?_
  show Go p.tables e below _ (T2.setTop (mkF m 8 #[.val (.ref ao), .val (.int pof), .val (.int pln), .unset, .unset] []))
  refine Go.st (fun _ k => XS.iconst X2.here hx rfl (hb hby d_of_8) k) ?_
  show Go p.tables e below _ (T2.setTop (mkF m 9 #[.val (.ref ao), .val (.int pof), .val (.int pln), .unset, .unset] [(.int (0 : Int32))]))
  refine Go.st (fun _ k => XS.istoreN X2.here hx rfl (hb hby d_of_9) rfl (l' := #[.val (.ref ao), .val (.int pof), .val (.int pln), .val (.int (0 : Int32)), .unset]) rfl k) ?_
  show Go p.tables e below _ (T2.setTop (mkF m 10 #[.val (.ref ao), .val (.int pof), .val (.int pln), .val (.int (0 : Int32)), .unset] []))
  show Go p.tables e below _ (T2.setTop (mkF m 10 #[.val (.ref ao), .val (.int pof), .val (.int pln), .val (.int (0 : Int32)), .unset] []))
  refine Go.st (fun _ k => XS.iloadN X2.here hx rfl (hb hby d_of_10) rfl k) ?_
  show Go p.tables e below _ (T2.setTop (mkF m 11 #[.val (.ref ao), .val (.int pof), .val (.int pln), .val (.int (0 : Int32)), .unset] [(.int pof)]))
  refine Go.st (fun _ k => XS.istore X2.here hx rfl (hb hby d_of_11) rfl (l' := #[.val (.ref ao), .val (.int pof), .val (.int pln), .val (.int (0 : Int32)), .val (.int pof)]) rfl k) ?_
  show Go p.tables e below _ (T2.setTop (mkF m 13 #[.val (.ref ao), .val (.int pof), .val (.int pln), .val (.int (0 : Int32)), .val (.int pof)] []))
  have lp13 : ∀ (kz : Nat) (T : State) (h : Heap) (lc : List Loc) (iv : Int32) (sv : Int32), Stand p l e ({ frames := 4, cells := 3, slots := 10, locals := 66 } : Room) s m #[(.ref ao), (.int pof), (.int pln)] below meth c T lc 0 0 → T.heap = h → Fr n0 lc → Keep h0 h [] → n0 ≤ h.size → Arv Z h ao kk .byte (8 : Int32) (bvs bl) (.int (0 : Int32)) → Old Z n0 h → (iv.toInt + (kz : Int) = pof.toInt + pln.toInt ∧ 0 ≤ iv.toInt) → (sumB bl iv.toNatClampNeg kz sv = sumB bl pof.toNatClampNeg pln.toNatClampNeg 0) → Go p.tables e below G (T.setTop (mkF m 13 #[.val (.ref ao), .val (.int pof), .val (.int pln), .val (.int sv), .val (.int iv)] [])) := by
    intro kz
    induction kz with
    | zero =>
      intro T h lc iv sv XT eT NT KT ZT FT0 FT1 h1 h2
      show Go p.tables e below _ (T.setTop (mkF m 13 #[.val (.ref ao), .val (.int pof), .val (.int pln), .val (.int sv), .val (.int iv)] []))
      refine Go.st (fun _ k => XS.iload XT.here hx rfl (hb hby d_of_13) rfl k) ?_
      show Go p.tables e below _ (T.setTop (mkF m 15 #[.val (.ref ao), .val (.int pof), .val (.int pln), .val (.int sv), .val (.int iv)] [(.int iv)]))
      refine Go.st (fun _ k => XS.iloadN XT.here hx rfl (hb hby d_of_15) rfl k) ?_
      show Go p.tables e below _ (T.setTop (mkF m 16 #[.val (.ref ao), .val (.int pof), .val (.int pln), .val (.int sv), .val (.int iv)] [(.int pof), (.int iv)]))
      refine Go.st (fun _ k => XS.iloadN XT.here hx rfl (hb hby d_of_16) rfl k) ?_
      show Go p.tables e below _ (T.setTop (mkF m 17 #[.val (.ref ao), .val (.int pof), .val (.int pln), .val (.int sv), .val (.int iv)] [(.int pln), (.int pof), (.int iv)]))
      refine Go.st (fun _ k => XS.iadd XT.here hx rfl (hb hby d_of_17) rfl k) ?_
      show Go p.tables e below _ (T.setTop (mkF m 18 #[.val (.ref ao), .val (.int pof), .val (.int pln), .val (.int sv), .val (.int iv)] [(.int (pof + pln)), (.int iv)]))
      have hc18 : ¬ (iv < (pof + pln)) := own_nlt32 (by rw [hs8]; omega)
      refine Go.st (fun _ k => XS.icmpYes XT.here hx rfl (pc0 := 18) (pc' := 34) rfl (hb hby d_of_18) rfl (Jvm.Free.XT.ii_ge_t hc18) (by decide) (by decide) k) ?_
      show Go p.tables e below _ (T.setTop (mkF m 34 #[.val (.ref ao), .val (.int pof), .val (.int pln), .val (.int sv), .val (.int iv)] []))
      refine Go.st (fun _ k => XS.iloadN XT.here hx rfl (hb hby d_of_34) rfl k) ?_
      show Go p.tables e below _ (T.setTop (mkF m 35 #[.val (.ref ao), .val (.int pof), .val (.int pln), .val (.int sv), .val (.int iv)] [(.int sv)]))
      refine Go.st (fun _ k => XS.sipush XT.here hx rfl (hb hby d_of_35) k) ?_
      show Go p.tables e below _ (T.setTop (mkF m 38 #[.val (.ref ao), .val (.int pof), .val (.int pln), .val (.int sv), .val (.int iv)] [(.int (255 : Int32)), (.int sv)]))
      refine Go.st (fun _ k => XS.iand XT.here hx rfl (hb hby d_of_38) rfl k) ?_
      show Go p.tables e below _ (T.setTop (mkF m 39 #[.val (.ref ao), .val (.int pof), .val (.int pln), .val (.int sv), .val (.int iv)] [(.int (sv &&& (255 : Int32)))]))
      refine Go.st (fun _ k => XS.istoreN XT.here hx rfl (hb hby d_of_39) rfl (l' := #[.val (.ref ao), .val (.int pof), .val (.int pln), .val (.int (sv &&& (255 : Int32))), .val (.int iv)]) rfl k) ?_
      show Go p.tables e below _ (T.setTop (mkF m 40 #[.val (.ref ao), .val (.int pof), .val (.int pln), .val (.int (sv &&& (255 : Int32))), .val (.int iv)] []))
      generalize hqv39 : (sv &&& (255 : Int32)) = v39
      show Go p.tables e below _ (T.setTop (mkF m 40 #[.val (.ref ao), .val (.int pof), .val (.int pln), .val (.int v39), .val (.int iv)] []))
      have hs0 : v39.toInt = (sumB bl pof.toNatClampNeg pln.toNatClampNeg 0).toInt % 256 := by rw [← hqv39, Jvm.Kit.i32_mask sv _ (k := 8) (by decide) (by decide), ← h2, sumB]; rfl
      show Go p.tables e below _ (T.setTop (mkF m 40 #[.val (.ref ao), .val (.int pof), .val (.int pln), .val (.int v39), .val (.int iv)] []))
      obtain ⟨T3, h3, X3, e3, E3, A3, D3, -, st3⟩ := newO XT hx hZ hown (hw _ (List.mem_of_getElem? (i := 14) rfl)) (hw _ (List.mem_of_getElem? (i := 15) rfl)) (hw _ (List.mem_of_getElem? (i := 16) rfl)) eT (g := (mkF m 40 #[.val (.ref ao), .val (.int pof), .val (.int pln), .val (.int v39), .val (.int iv)] [])) rfl (hb hby d_of_40) (by decide) (by decide)
      obtain ⟨b3, g3⟩ : ∃ z, z = h.size := ⟨_, rfl⟩
      rw [← g3] at A3 D3 st3
      refine Go.st st3 ?_
      have ne4 : ao ≠ b3 := Nat.ne_of_lt (Nat.lt_of_lt_of_le FT0.lt (Nat.le_of_eq g3.symm))
      have ge5 : n0 ≤ b3 := Nat.le_trans ZT (Nat.le_of_eq g3.symm)
      have sz6 : h0.size ≤ b3 := Nat.le_trans KT.1 (Nat.le_of_eq g3.symm)
      have Z7 : n0 ≤ h3.size := Nat.le_trans ZT E3.1
      have K8 : Keep h0 h3 [] := KT.ext E3
      have F9 : Arv Z h3 ao kk .byte (8 : Int32) (bvs bl) (.int (0 : Int32)) := FT0.ext E3
      have F10 : Old Z n0 h3 := FT1.ext E3
      have F11 : Fld Z h3 b3 "java/lang/String" "coder" "B" (.int (0 : Int32)) := D3 (Or.inr (hw _ (List.mem_of_getElem? (i := 40) rfl))) (ty := .byte) (by decide)
      have F12 : Fld Z h3 b3 "java/lang/String" "value" "[B" .null := D3 (Or.inr (hw _ (List.mem_of_getElem? (i := 42) rfl))) (ty := (.array .byte)) (by decide)
      show Go p.tables e below _ (T3.setTop (mkF m 43 #[.val (.ref ao), .val (.int pof), .val (.int pln), .val (.int v39), .val (.int iv)] [(.ref b3)]))
      refine Go.st (fun _ k => XS.dup X3.here hx rfl (hb hby d_of_43) rfl rfl k) ?_
      show Go p.tables e below _ (T3.setTop (mkF m 44 #[.val (.ref ao), .val (.int pof), .val (.int pln), .val (.int v39), .val (.int iv)] [(.ref b3), (.ref b3)]))
      refine Go.st (fun _ k => XS.iconst X3.here hx rfl (hb hby d_of_44) k) ?_
      show Go p.tables e below _ (T3.setTop (mkF m 45 #[.val (.ref ao), .val (.int pof), .val (.int pln), .val (.int v39), .val (.int iv)] [(.int (3 : Int32)), (.ref b3), (.ref b3)]))
      obtain ⟨T13, h13, k13, X13, e13, E13, A13, C13, st13⟩ := newPE X3 hx hZ (hw _ (List.mem_of_getElem? (i := 17) rfl)) e3 (g := (mkF m 45 #[.val (.ref ao), .val (.int pof), .val (.int pln), .val (.int v39), .val (.int iv)] [(.int (3 : Int32)), (.ref b3), (.ref b3)])) rfl (hb hby d_of_45) rfl (by decide) (cap := 3) (by decide) (by decide) (by decide) (by decide) (ad := "[C") (by decide)
      obtain ⟨b13, g13⟩ : ∃ z, z = h3.size := ⟨_, rfl⟩
      rw [← g13] at A13 C13 st13
      refine Go.st st13 ?_
      have ne14 : ao ≠ b13 := Nat.ne_of_lt (Nat.lt_of_lt_of_le F9.lt (Nat.le_of_eq g13.symm))
      have ne15 : b3 ≠ b13 := Nat.ne_of_lt (Nat.lt_of_lt_of_le A3.lt (Nat.le_of_eq g13.symm))
      have ge16 : n0 ≤ b13 := Nat.le_trans Z7 (Nat.le_of_eq g13.symm)
      have sz17 : h0.size ≤ b13 := Nat.le_trans K8.1 (Nat.le_of_eq g13.symm)
      have Z18 : n0 ≤ h13.size := Nat.le_trans Z7 E13.1
      have K19 : Keep h0 h13 [] := K8.ext E13
      have F20 : Arv Z h13 ao kk .byte (8 : Int32) (bvs bl) (.int (0 : Int32)) := F9.ext E13
      have F21 : Old Z n0 h13 := F10.ext E13
      have F22 : Exa Z h13 b3 "java/lang/String" := A3.ext E13
      have F23 : Fld Z h13 b3 "java/lang/String" "coder" "B" (.int (0 : Int32)) := F11.ext E13
      have F24 : Fld Z h13 b3 "java/lang/String" "value" "[B" .null := F12.ext E13
      have F25 : Arv Z h13 b13 k13 .char (3 : Int32) [(.int (0 : Int32)), (.int (0 : Int32)), (.int (0 : Int32))] (.int (0 : Int32)) := (Arv.new A13 (by decide)).pad (pad_rep [] (.int (0 : Int32)) 3)
      show Go p.tables e below _ (T13.setTop (mkF m 47 #[.val (.ref ao), .val (.int pof), .val (.int pln), .val (.int v39), .val (.int iv)] [(.ref b13), (.ref b3), (.ref b3)]))
      refine Go.st (fun _ k => XS.dup X13.here hx rfl (hb hby d_of_47) rfl rfl k) ?_
      show Go p.tables e below _ (T13.setTop (mkF m 48 #[.val (.ref ao), .val (.int pof), .val (.int pln), .val (.int v39), .val (.int iv)] [(.ref b13), (.ref b13), (.ref b3), (.ref b3)]))
      refine Go.st (fun _ k => XS.iconst X13.here hx rfl (hb hby d_of_48) k) ?_
      show Go p.tables e below _ (T13.setTop (mkF m 49 #[.val (.ref ao), .val (.int pof), .val (.int pln), .val (.int v39), .val (.int iv)] [(.int (0 : Int32)), (.ref b13), (.ref b13), (.ref b3), (.ref b3)]))
      refine Go.st (fun _ k => XS.bipush X13.here hx rfl (hb hby d_of_49) k) ?_
      show Go p.tables e below _ (T13.setTop (mkF m 51 #[.val (.ref ao), .val (.int pof), .val (.int pln), .val (.int v39), .val (.int iv)] [(.int (48 : Int32)), (.int (0 : Int32)), (.ref b13), (.ref b13), (.ref b3), (.ref b3)]))
      refine Go.st (fun _ k => XS.iloadN X13.here hx rfl (hb hby d_of_51) rfl k) ?_
      show Go p.tables e below _ (T13.setTop (mkF m 52 #[.val (.ref ao), .val (.int pof), .val (.int pln), .val (.int v39), .val (.int iv)] [(.int v39), (.int (48 : Int32)), (.int (0 : Int32)), (.ref b13), (.ref b13), (.ref b3), (.ref b3)]))
      refine Go.st (fun _ k => XS.bipush X13.here hx rfl (hb hby d_of_52) k) ?_
      show Go p.tables e below _ (T13.setTop (mkF m 54 #[.val (.ref ao), .val (.int pof), .val (.int pln), .val (.int v39), .val (.int iv)] [(.int (100 : Int32)), (.int v39), (.int (48 : Int32)), (.int (0 : Int32)), (.ref b13), (.ref b13), (.ref b3), (.ref b3)]))
      refine Go.st (fun _ k => XS.idiv X13.here hx rfl (hb hby d_of_54) rfl (by decide) k) ?_
      show Go p.tables e below _ (T13.setTop (mkF m 55 #[.val (.ref ao), .val (.int pof), .val (.int pln), .val (.int v39), .val (.int iv)] [(.int (v39 / (100 : Int32))), (.int (48 : Int32)), (.int (0 : Int32)), (.ref b13), (.ref b13), (.ref b3), (.ref b3)]))
      refine Go.st (fun _ k => XS.iadd X13.here hx rfl (hb hby d_of_55) rfl k) ?_
      show Go p.tables e below _ (T13.setTop (mkF m 56 #[.val (.ref ao), .val (.int pof), .val (.int pln), .val (.int v39), .val (.int iv)] [(.int ((48 : Int32) + (v39 / (100 : Int32)))), (.int (0 : Int32)), (.ref b13), (.ref b13), (.ref b3), (.ref b3)]))
      refine Go.st (fun _ k => XS.i2c X13.here hx rfl (hb hby d_of_56) rfl k) ?_
      show Go p.tables e below _ (T13.setTop (mkF m 57 #[.val (.ref ao), .val (.int pof), .val (.int pln), .val (.int v39), .val (.int iv)] [(.int (((48 : Int32) + (v39 / (100 : Int32))).toUInt32.toUInt16.toUInt32.toInt32)), (.int (0 : Int32)), (.ref b13), (.ref b13), (.ref b3), (.ref b3)]))
      generalize hqc57 : (((48 : Int32) + (v39 / (100 : Int32))).toUInt32.toUInt16.toUInt32.toInt32) = c57
      show Go p.tables e below _ (T13.setTop (mkF m 57 #[.val (.ref ao), .val (.int pof), .val (.int pln), .val (.int v39), .val (.int iv)] [(.int c57), (.int (0 : Int32)), (.ref b13), (.ref b13), (.ref b3), (.ref b3)]))
      obtain ⟨cl26, Ar26, q26, S26, M26, H26, G26⟩ := id F25
      have hin26 : ¬ ((0 : Int32) < 0 ∨ cl26.slots.size ≤ ((0 : Int32)).toNatClampNeg) := inb_of S26 ⟨by decide, by decide⟩
      obtain ⟨T26, h26, X26, e26, W26, st26⟩ := stC X13 hx hZ e13 Ar26 (j := (0 : Int32)) hin26 (g := (mkF m 57 #[.val (.ref ao), .val (.int pof), .val (.int pln), .val (.int v39), .val (.int iv)] [(.int c57), (.int (0 : Int32)), (.ref b13), (.ref b13), (.ref b3), (.ref b3)])) rfl rfl (hb hby d_of_57)
      rw [(show nar .char c57 = c57 from (by rw [← hqc57]; exact own_narc _))] at W26
      refine Go.st st26 ?_
      have F27 : Arv Z h26 ao kk .byte (8 : Int32) (bvs bl) (.int (0 : Int32)) := F20.other W26 ne14
      have F28 : Old Z n0 h26 := F21.wr W26 ge16
      have F29 : Exa Z h26 b3 "java/lang/String" := F22.wr W26
      have F30 : Fld Z h26 b3 "java/lang/String" "coder" "B" (.int (0 : Int32)) := F23.other W26 (Or.inl ne15)
      have F31 : Fld Z h26 b3 "java/lang/String" "value" "[B" .null := F24.other W26 (Or.inl ne15)
      have F32 : Arv Z h26 b13 k13 .char (3 : Int32) [(.int c57), (.int (0 : Int32)), (.int (0 : Int32))] (.int (0 : Int32)) := Arv.set Ar26 q26 S26 M26 H26 G26 (by have h_ := fits_nar_char c57; rw [show nar .char c57 = c57 from (show nar .char c57 = c57 from (by rw [← hqc57]; exact own_narc _))] at h_; exact h_) W26 0 rfl (Nat.le_of_ble_eq_true rfl)
      have F33 : Exa Z h26 b13 "[C" := C13.wr W26
      have K34 : Keep h0 h26 [] := K19.wr W26 (Or.inr sz17)
      have Z35 : n0 ≤ h26.size := Nat.le_trans Z18 (Nat.le_of_eq W26.size.symm)
      have N36 := Fr.snoc X26 NT ge16
      show Go p.tables e below _ (T26.setTop (mkF m 58 #[.val (.ref ao), .val (.int pof), .val (.int pln), .val (.int v39), .val (.int iv)] [(.ref b13), (.ref b3), (.ref b3)]))
      refine Go.st (fun _ k => XS.dup X26.here hx rfl (hb hby d_of_58) rfl rfl k) ?_
      show Go p.tables e below _ (T26.setTop (mkF m 59 #[.val (.ref ao), .val (.int pof), .val (.int pln), .val (.int v39), .val (.int iv)] [(.ref b13), (.ref b13), (.ref b3), (.ref b3)]))
      refine Go.st (fun _ k => XS.iconst X26.here hx rfl (hb hby d_of_59) k) ?_
      show Go p.tables e below _ (T26.setTop (mkF m 60 #[.val (.ref ao), .val (.int pof), .val (.int pln), .val (.int v39), .val (.int iv)] [(.int (1 : Int32)), (.ref b13), (.ref b13), (.ref b3), (.ref b3)]))
      refine Go.st (fun _ k => XS.bipush X26.here hx rfl (hb hby d_of_60) k) ?_
      show Go p.tables e below _ (T26.setTop (mkF m 62 #[.val (.ref ao), .val (.int pof), .val (.int pln), .val (.int v39), .val (.int iv)] [(.int (48 : Int32)), (.int (1 : Int32)), (.ref b13), (.ref b13), (.ref b3), (.ref b3)]))
      refine Go.st (fun _ k => XS.iloadN X26.here hx rfl (hb hby d_of_62) rfl k) ?_
      show Go p.tables e below _ (T26.setTop (mkF m 63 #[.val (.ref ao), .val (.int pof), .val (.int pln), .val (.int v39), .val (.int iv)] [(.int v39), (.int (48 : Int32)), (.int (1 : Int32)), (.ref b13), (.ref b13), (.ref b3), (.ref b3)]))
      refine Go.st (fun _ k => XS.bipush X26.here hx rfl (hb hby d_of_63) k) ?_
      show Go p.tables e below _ (T26.setTop (mkF m 65 #[.val (.ref ao), .val (.int pof), .val (.int pln), .val (.int v39), .val (.int iv)] [(.int (10 : Int32)), (.int v39), (.int (48 : Int32)), (.int (1 : Int32)), (.ref b13), (.ref b13), (.ref b3), (.ref b3)]))
      refine Go.st (fun _ k => XS.idiv X26.here hx rfl (hb hby d_of_65) rfl (by decide) k) ?_
      show Go p.tables e below _ (T26.setTop (mkF m 66 #[.val (.ref ao), .val (.int pof), .val (.int pln), .val (.int v39), .val (.int iv)] [(.int (v39 / (10 : Int32))), (.int (48 : Int32)), (.int (1 : Int32)), (.ref b13), (.ref b13), (.ref b3), (.ref b3)]))
      refine Go.st (fun _ k => XS.bipush X26.here hx rfl (hb hby d_of_66) k) ?_
      show Go p.tables e below _ (T26.setTop (mkF m 68 #[.val (.ref ao), .val (.int pof), .val (.int pln), .val (.int v39), .val (.int iv)] [(.int (10 : Int32)), (.int (v39 / (10 : Int32))), (.int (48 : Int32)), (.int (1 : Int32)), (.ref b13), (.ref b13), (.ref b3), (.ref b3)]))
      refine Go.st (fun _ k => iremM X26 hx rfl (hb hby d_of_68) rfl (by decide) k) ?_
      show Go p.tables e below _ (T26.setTop (mkF m 69 #[.val (.ref ao), .val (.int pof), .val (.int pln), .val (.int v39), .val (.int iv)] [(.int ((v39 / (10 : Int32)) % (10 : Int32))), (.int (48 : Int32)), (.int (1 : Int32)), (.ref b13), (.ref b13), (.ref b3), (.ref b3)]))
      refine Go.st (fun _ k => XS.iadd X26.here hx rfl (hb hby d_of_69) rfl k) ?_
      show Go p.tables e below _ (T26.setTop (mkF m 70 #[.val (.ref ao), .val (.int pof), .val (.int pln), .val (.int v39), .val (.int iv)] [(.int ((48 : Int32) + ((v39 / (10 : Int32)) % (10 : Int32)))), (.int (1 : Int32)), (.ref b13), (.ref b13), (.ref b3), (.ref b3)]))
      refine Go.st (fun _ k => XS.i2c X26.here hx rfl (hb hby d_of_70) rfl k) ?_
      show Go p.tables e below _ (T26.setTop (mkF m 71 #[.val (.ref ao), .val (.int pof), .val (.int pln), .val (.int v39), .val (.int iv)] [(.int (((48 : Int32) + ((v39 / (10 : Int32)) % (10 : Int32))).toUInt32.toUInt16.toUInt32.toInt32)), (.int (1 : Int32)), (.ref b13), (.ref b13), (.ref b3), (.ref b3)]))
      generalize hqc71 : (((48 : Int32) + ((v39 / (10 : Int32)) % (10 : Int32))).toUInt32.toUInt16.toUInt32.toInt32) = c71
      show Go p.tables e below _ (T26.setTop (mkF m 71 #[.val (.ref ao), .val (.int pof), .val (.int pln), .val (.int v39), .val (.int iv)] [(.int c71), (.int (1 : Int32)), (.ref b13), (.ref b13), (.ref b3), (.ref b3)]))
      obtain ⟨cl37, Ar37, q37, S37, M37, H37, G37⟩ := id F32
      have hin37 : ¬ ((1 : Int32) < 0 ∨ cl37.slots.size ≤ ((1 : Int32)).toNatClampNeg) := inb_of S37 ⟨by decide, by decide⟩
      obtain ⟨T37, h37, X37, e37, W37, st37⟩ := stC X26 hx hZ e26 Ar37 (j := (1 : Int32)) hin37 (g := (mkF m 71 #[.val (.ref ao), .val (.int pof), .val (.int pln), .val (.int v39), .val (.int iv)] [(.int c71), (.int (1 : Int32)), (.ref b13), (.ref b13), (.ref b3), (.ref b3)])) rfl rfl (hb hby d_of_71)
      rw [(show nar .char c71 = c71 from (by rw [← hqc71]; exact own_narc _))] at W37
      refine Go.st st37 ?_
      have F38 : Arv Z h37 ao kk .byte (8 : Int32) (bvs bl) (.int (0 : Int32)) := F27.other W37 ne14
      have F39 : Old Z n0 h37 := F28.wr W37 ge16
      have F40 : Exa Z h37 b3 "java/lang/String" := F29.wr W37
      have F41 : Fld Z h37 b3 "java/lang/String" "coder" "B" (.int (0 : Int32)) := F30.other W37 (Or.inl ne15)
      have F42 : Fld Z h37 b3 "java/lang/String" "value" "[B" .null := F31.other W37 (Or.inl ne15)
      have F43 : Arv Z h37 b13 k13 .char (3 : Int32) [(.int c57), (.int c71), (.int (0 : Int32))] (.int (0 : Int32)) := Arv.set Ar37 q37 S37 M37 H37 G37 (by have h_ := fits_nar_char c71; rw [show nar .char c71 = c71 from (show nar .char c71 = c71 from (by rw [← hqc71]; exact own_narc _))] at h_; exact h_) W37 1 rfl (Nat.le_of_ble_eq_true rfl)
      have F44 : Exa Z h37 b13 "[C" := F33.wr W37
      have K45 : Keep h0 h37 [] := K34.wr W37 (Or.inr sz17)
      have Z46 : n0 ≤ h37.size := Nat.le_trans Z35 (Nat.le_of_eq W37.size.symm)
      have N47 := Fr.snoc X37 N36 ge16
      show Go p.tables e below _ (T37.setTop (mkF m 72 #[.val (.ref ao), .val (.int pof), .val (.int pln), .val (.int v39), .val (.int iv)] [(.ref b13), (.ref b3), (.ref b3)]))
      refine Go.st (fun _ k => XS.dup X37.here hx rfl (hb hby d_of_72) rfl rfl k) ?_
      show Go p.tables e below _ (T37.setTop (mkF m 73 #[.val (.ref ao), .val (.int pof), .val (.int pln), .val (.int v39), .val (.int iv)] [(.ref b13), (.ref b13), (.ref b3), (.ref b3)]))
      refine Go.st (fun _ k => XS.iconst X37.here hx rfl (hb hby d_of_73) k) ?_
      show Go p.tables e below _ (T37.setTop (mkF m 74 #[.val (.ref ao), .val (.int pof), .val (.int pln), .val (.int v39), .val (.int iv)] [(.int (2 : Int32)), (.ref b13), (.ref b13), (.ref b3), (.ref b3)]))
      refine Go.st (fun _ k => XS.bipush X37.here hx rfl (hb hby d_of_74) k) ?_
      show Go p.tables e below _ (T37.setTop (mkF m 76 #[.val (.ref ao), .val (.int pof), .val (.int pln), .val (.int v39), .val (.int iv)] [(.int (48 : Int32)), (.int (2 : Int32)), (.ref b13), (.ref b13), (.ref b3), (.ref b3)]))
      refine Go.st (fun _ k => XS.iloadN X37.here hx rfl (hb hby d_of_76) rfl k) ?_
      show Go p.tables e below _ (T37.setTop (mkF m 77 #[.val (.ref ao), .val (.int pof), .val (.int pln), .val (.int v39), .val (.int iv)] [(.int v39), (.int (48 : Int32)), (.int (2 : Int32)), (.ref b13), (.ref b13), (.ref b3), (.ref b3)]))
      refine Go.st (fun _ k => XS.bipush X37.here hx rfl (hb hby d_of_77) k) ?_
      show Go p.tables e below _ (T37.setTop (mkF m 79 #[.val (.ref ao), .val (.int pof), .val (.int pln), .val (.int v39), .val (.int iv)] [(.int (10 : Int32)), (.int v39), (.int (48 : Int32)), (.int (2 : Int32)), (.ref b13), (.ref b13), (.ref b3), (.ref b3)]))
      refine Go.st (fun _ k => iremM X37 hx rfl (hb hby d_of_79) rfl (by decide) k) ?_
      show Go p.tables e below _ (T37.setTop (mkF m 80 #[.val (.ref ao), .val (.int pof), .val (.int pln), .val (.int v39), .val (.int iv)] [(.int (v39 % (10 : Int32))), (.int (48 : Int32)), (.int (2 : Int32)), (.ref b13), (.ref b13), (.ref b3), (.ref b3)]))
      refine Go.st (fun _ k => XS.iadd X37.here hx rfl (hb hby d_of_80) rfl k) ?_
      show Go p.tables e below _ (T37.setTop (mkF m 81 #[.val (.ref ao), .val (.int pof), .val (.int pln), .val (.int v39), .val (.int iv)] [(.int ((48 : Int32) + (v39 % (10 : Int32)))), (.int (2 : Int32)), (.ref b13), (.ref b13), (.ref b3), (.ref b3)]))
      refine Go.st (fun _ k => XS.i2c X37.here hx rfl (hb hby d_of_81) rfl k) ?_
      show Go p.tables e below _ (T37.setTop (mkF m 82 #[.val (.ref ao), .val (.int pof), .val (.int pln), .val (.int v39), .val (.int iv)] [(.int (((48 : Int32) + (v39 % (10 : Int32))).toUInt32.toUInt16.toUInt32.toInt32)), (.int (2 : Int32)), (.ref b13), (.ref b13), (.ref b3), (.ref b3)]))
      generalize hqc82 : (((48 : Int32) + (v39 % (10 : Int32))).toUInt32.toUInt16.toUInt32.toInt32) = c82
      show Go p.tables e below _ (T37.setTop (mkF m 82 #[.val (.ref ao), .val (.int pof), .val (.int pln), .val (.int v39), .val (.int iv)] [(.int c82), (.int (2 : Int32)), (.ref b13), (.ref b13), (.ref b3), (.ref b3)]))
      obtain ⟨cl48, Ar48, q48, S48, M48, H48, G48⟩ := id F43
      have hin48 : ¬ ((2 : Int32) < 0 ∨ cl48.slots.size ≤ ((2 : Int32)).toNatClampNeg) := inb_of S48 ⟨by decide, by decide⟩
      obtain ⟨T48, h48, X48, e48, W48, st48⟩ := stC X37 hx hZ e37 Ar48 (j := (2 : Int32)) hin48 (g := (mkF m 82 #[.val (.ref ao), .val (.int pof), .val (.int pln), .val (.int v39), .val (.int iv)] [(.int c82), (.int (2 : Int32)), (.ref b13), (.ref b13), (.ref b3), (.ref b3)])) rfl rfl (hb hby d_of_82)
      rw [(show nar .char c82 = c82 from (by rw [← hqc82]; exact own_narc _))] at W48
      refine Go.st st48 ?_
      have F49 : Arv Z h48 ao kk .byte (8 : Int32) (bvs bl) (.int (0 : Int32)) := F38.other W48 ne14
      have F50 : Old Z n0 h48 := F39.wr W48 ge16
      have F51 : Exa Z h48 b3 "java/lang/String" := F40.wr W48
      have F52 : Fld Z h48 b3 "java/lang/String" "coder" "B" (.int (0 : Int32)) := F41.other W48 (Or.inl ne15)
      have F53 : Fld Z h48 b3 "java/lang/String" "value" "[B" .null := F42.other W48 (Or.inl ne15)
      have F54 : Arv Z h48 b13 k13 .char (3 : Int32) [(.int c57), (.int c71), (.int c82)] (.int (0 : Int32)) := Arv.set Ar48 q48 S48 M48 H48 G48 (by have h_ := fits_nar_char c82; rw [show nar .char c82 = c82 from (show nar .char c82 = c82 from (by rw [← hqc82]; exact own_narc _))] at h_; exact h_) W48 2 rfl (Nat.le_of_ble_eq_true rfl)
      have F55 : Exa Z h48 b13 "[C" := F44.wr W48
      have K56 : Keep h0 h48 [] := K45.wr W48 (Or.inr sz17)
      have Z57 : n0 ≤ h48.size := Nat.le_trans Z46 (Nat.le_of_eq W48.size.symm)
      have N58 := Fr.snoc X48 N47 ge16
      show Go p.tables e below _ (T48.setTop (mkF m 83 #[.val (.ref ao), .val (.int pof), .val (.int pln), .val (.int v39), .val (.int iv)] [(.ref b13), (.ref b3), (.ref b3)]))
      have hp59 : ∀ c ∈ ([c57, c71, c82] : List Int32), ¬ c < 0 ∧ ¬ (255 : Int32) < c := own_hp3 hs0 hqc57 hqc71 hqc82
      obtain ⟨_, _, ⟨T59, L59, k59, n59⟩, -, X59, ⟨Lc59, hQ59, l59, y59, z59⟩, st59⟩ := X48.specialBack hx (y := (⟨"java/lang/String", "<init>", "([C)V"⟩ : MethodName)) rfl hown (mvT hZ (hw _ (List.mem_of_getElem? (i := 18) rfl))) (mvT hZ (hw _ (List.mem_of_getElem? (i := 19) rfl))) (mvT hZ (hw _ (List.mem_of_getElem? (i := 20) rfl))) (by decide) (StrChars.Road.backV (W := 1) hZ (fun d hd => hw d (own_words d hd)) (kI := 4) (hw _ (List.mem_of_getElem? (i := 15) rfl)) (cs := ([c57, c71, c82] : List Int32)) (bs := (([c57, c71, c82] : List Int32)).map (fun c => c.toInt8.toInt32)) (n := 3) ge5 Z57 F51 F53 F52 F54 (O2.ext F50.2) P5 rfl rfl (by decide) (by decide) hp59 rfl (by decide) (by decide)) (g := (mkF m 83 #[.val (.ref ao), .val (.int pof), .val (.int pln), .val (.int v39), .val (.int iv)] [(.ref b13), (.ref b3), (.ref b3)])) rfl (by rw [hml]; rfl) (Steps.refl _) (a := b3) (argsL := [(.ref b13)]) (rest := [(.ref b3)]) (lenOf pd_2 rfl) rfl (by show 2 * 0 + _ ≤ _; exact Nat.le_of_eq rfl) (hb hby d_of_83) (fun _ _ => ⟨rfl, e48, (by decide : 2 + 1 ≤ _), (by decide : 7 + 3 ≤ _)⟩)
      dsimp only [Pt.U, Pt.locs, Pt.cells, Pt.slots] at X59 l59 y59 z59 st59 hQ59
      rw [l59, y59, z59] at X59
      obtain ⟨rfl, N59q, K59q, Fq59_0, Fq59_1, b59t, kb59, g59_t, s59_t, ne59_t, Fq59_2, Fq59_3⟩ := hQ59
      have N59 := Fr.app N58 N59q
      refine Go.st (fun _ k => st59.trans k) ?_
      have ne60 : ao ≠ b59t := Nat.ne_of_lt (Nat.lt_of_lt_of_le F49.lt s59_t)
      have ne61 : b3 ≠ b59t := Nat.ne_of_lt (Nat.lt_of_lt_of_le F51.lt s59_t)
      have ne62 : b13 ≠ b59t := Nat.ne_of_lt (Nat.lt_of_lt_of_le F54.lt s59_t)
      have sz63 : h0.size ≤ b59t := Nat.le_trans K56.1 s59_t
      have Z64 : n0 ≤ T59.heap.size := Nat.le_trans Z57 K59q.1
      have K65 : Keep h0 T59.heap [] := K56.trans K59q (fun z hz => (List.mem_cons.mp hz).elim (fun q => by rw [q]; exact Or.inr sz6) (fun hz => absurd hz List.not_mem_nil))
      have F66 : Arv Z T59.heap ao kk .byte (8 : Int32) (bvs bl) (.int (0 : Int32)) := F49.keep K59q (fun z => (List.mem_cons.mp z).elim ne4 (fun z => absurd z List.not_mem_nil))
      have F67 : Old Z n0 T59.heap := F50.keep K59q (allS ge5 all0)
      have F68 : Exa Z T59.heap b3 "java/lang/String" := F51.keep K59q
      have F69 : Arv Z T59.heap b13 k13 .char (3 : Int32) [(.int c57), (.int c71), (.int c82)] (.int (0 : Int32)) := F54.keep K59q (fun z => (List.mem_cons.mp z).elim (Ne.symm ne15) (fun z => absurd z List.not_mem_nil))
      have F70 : Exa Z T59.heap b13 "[C" := F55.keep K59q
      show Go p.tables e below _ (T59.setTop (mkF m 86 #[.val (.ref ao), .val (.int pof), .val (.int pln), .val (.int v39), .val (.int iv)] [(.ref b3)]))
      have lt_25532 : (255 : Int32).toInt = 255 := by decide
      subst hG
      obtain ⟨fs, hr, hrun, hended, hW, hsame⟩ := X59.leave (v := some (.ref b3)) (fun h => by rw [Bd.returns] at h; cases h)
      refine ⟨_, _, ?_, hrun, hended, _, _, rfl, ?_, ⟨_, rfl⟩, hW, hsame.mono (by decide) (by decide)⟩
      · exact retOut X59 hx Bd.returns rfl (Or.inr (Or.inr (Or.inr (Or.inr ⟨rfl, rfl, rfl⟩)))) (hb hby d_of_86) hr
      · show Q_of Z ao pof pln kk bl G1 h0 n0 _ T59.heap _
        exact ⟨b3, b59t, kb59, c57, c71, c82, rfl, N59, K65, ge5, sz6, g59_t, sz63, Fq59_0, Fq59_1, Fq59_2, Fq59_3, hp59, (by rw [← hs0]; exact own_rel3 ⟨by omega, by omega⟩ hqc57 hqc71 hqc82)⟩
    | succ kz ih =>
      intro T h lc iv sv XT eT NT KT ZT FT0 FT1 h1 h2
      have h1' : iv.toInt + kz + 1 = pof.toInt + pln.toInt := by omega
      show Go p.tables e below _ (T.setTop (mkF m 13 #[.val (.ref ao), .val (.int pof), .val (.int pln), .val (.int sv), .val (.int iv)] []))
      refine Go.st (fun _ k => XS.iload XT.here hx rfl (hb hby d_of_13) rfl k) ?_
      show Go p.tables e below _ (T.setTop (mkF m 15 #[.val (.ref ao), .val (.int pof), .val (.int pln), .val (.int sv), .val (.int iv)] [(.int iv)]))
      refine Go.st (fun _ k => XS.iloadN XT.here hx rfl (hb hby d_of_15) rfl k) ?_
      show Go p.tables e below _ (T.setTop (mkF m 16 #[.val (.ref ao), .val (.int pof), .val (.int pln), .val (.int sv), .val (.int iv)] [(.int pof), (.int iv)]))
      refine Go.st (fun _ k => XS.iloadN XT.here hx rfl (hb hby d_of_16) rfl k) ?_
      show Go p.tables e below _ (T.setTop (mkF m 17 #[.val (.ref ao), .val (.int pof), .val (.int pln), .val (.int sv), .val (.int iv)] [(.int pln), (.int pof), (.int iv)]))
      refine Go.st (fun _ k => XS.iadd XT.here hx rfl (hb hby d_of_17) rfl k) ?_
      show Go p.tables e below _ (T.setTop (mkF m 18 #[.val (.ref ao), .val (.int pof), .val (.int pln), .val (.int sv), .val (.int iv)] [(.int (pof + pln)), (.int iv)]))
      have hc18 : iv < (pof + pln) := own_lt32 (by rw [hs8]; omega)
      refine Go.st (fun _ k => XS.icmpNo XT.here hx rfl (hb hby d_of_18) rfl (Jvm.Free.XT.ii_ge_f hc18) k) ?_
      show Go p.tables e below _ (T.setTop (mkF m 21 #[.val (.ref ao), .val (.int pof), .val (.int pln), .val (.int sv), .val (.int iv)] []))
      refine Go.st (fun _ k => XS.iloadN XT.here hx rfl (hb hby d_of_21) rfl k) ?_
      show Go p.tables e below _ (T.setTop (mkF m 22 #[.val (.ref ao), .val (.int pof), .val (.int pln), .val (.int sv), .val (.int iv)] [(.int sv)]))
      refine Go.st (fun _ k => XS.aloadN XT.here hx rfl (hb hby d_of_22) rfl rfl k) ?_
      show Go p.tables e below _ (T.setTop (mkF m 23 #[.val (.ref ao), .val (.int pof), .val (.int pln), .val (.int sv), .val (.int iv)] [(.ref ao), (.int sv)]))
      refine Go.st (fun _ k => XS.iload XT.here hx rfl (hb hby d_of_23) rfl k) ?_
      show Go p.tables e below _ (T.setTop (mkF m 25 #[.val (.ref ao), .val (.int pof), .val (.int pln), .val (.int sv), .val (.int iv)] [(.int iv), (.ref ao), (.int sv)]))
      obtain ⟨cl71, Ar71, q71, S71, M71, H71, G71⟩ := id FT0
      have ivn := nat_of (j := iv) (own_nlt32 (by omega))
      have hin71 : ¬ (iv < 0 ∨ cl71.slots.size ≤ (iv).toNatClampNeg) := inb_of S71 ⟨own_nlt32 (by omega), own_lt32 (by omega)⟩
      have hat71 : cl71.slots[(iv).toNatClampNeg]? = some (.int (bl.getD iv.toNatClampNeg 0)) := Has.at H71 hin71 (own_bget _ _)
      refine Go.st (fun _ k => XT.baloadBytes hx (j := iv) (v := (.int (bl.getD iv.toNatClampNeg 0))) (by rw [eT]; exact Ar71.1) (State.isArrayOf_alike hZ.alike Ar71.2.1) Ar71.2.2 hin71 hat71 (g := (mkF m 25 #[.val (.ref ao), .val (.int pof), .val (.int pln), .val (.int sv), .val (.int iv)] [(.int iv), (.ref ao), (.int sv)])) rfl rfl (hb hby d_of_25) _ k) ?_
      show Go p.tables e below _ (T.setTop (mkF m 26 #[.val (.ref ao), .val (.int pof), .val (.int pln), .val (.int sv), .val (.int iv)] [(.int (bl.getD iv.toNatClampNeg 0)), (.int sv)]))
      refine Go.st (fun _ k => XS.iadd XT.here hx rfl (hb hby d_of_26) rfl k) ?_
      show Go p.tables e below _ (T.setTop (mkF m 27 #[.val (.ref ao), .val (.int pof), .val (.int pln), .val (.int sv), .val (.int iv)] [(.int (sv + (bl.getD iv.toNatClampNeg 0)))]))
      refine Go.st (fun _ k => XS.istoreN XT.here hx rfl (hb hby d_of_27) rfl (l' := #[.val (.ref ao), .val (.int pof), .val (.int pln), .val (.int (sv + (bl.getD iv.toNatClampNeg 0))), .val (.int iv)]) rfl k) ?_
      show Go p.tables e below _ (T.setTop (mkF m 28 #[.val (.ref ao), .val (.int pof), .val (.int pln), .val (.int (sv + (bl.getD iv.toNatClampNeg 0))), .val (.int iv)] []))
      generalize hqv27 : (sv + (bl.getD iv.toNatClampNeg 0)) = v27
      show Go p.tables e below _ (T.setTop (mkF m 28 #[.val (.ref ao), .val (.int pof), .val (.int pln), .val (.int v27), .val (.int iv)] []))
      refine Go.st (fun _ k => XS.iinc XT.here hx rfl (hb hby d_of_28) rfl (l' := #[.val (.ref ao), .val (.int pof), .val (.int pln), .val (.int v27), .val (.int (iv + (1 : Int32)))]) rfl k) ?_
      show Go p.tables e below _ (T.setTop (mkF m 31 #[.val (.ref ao), .val (.int pof), .val (.int pln), .val (.int v27), .val (.int (iv + (1 : Int32)))] []))
      generalize hqv28 : (iv + (1 : Int32)) = v28
      show Go p.tables e below _ (T.setTop (mkF m 31 #[.val (.ref ao), .val (.int pof), .val (.int pln), .val (.int v27), .val (.int v28)] []))
      refine Go.st (fun _ k => XS.goto XT.here hx rfl (pc0 := 31) (pc' := 13) rfl (hb hby d_of_31) (by decide) (by decide) k) ?_
      show Go p.tables e below _ (T.setTop (mkF m 13 #[.val (.ref ao), .val (.int pof), .val (.int pln), .val (.int v27), .val (.int v28)] []))
      have hi28 := i32_addc iv (1 : Int32)
      rw [hqv28] at hi28
      have ivm := nat_of (j := v28) (own_nlt32 (by omega))
      exact ih T h _ v28 v27 XT eT NT KT ZT FT0 FT1 (by omega) (by rw [← h2, sumB, show v28.toNatClampNeg = iv.toNatClampNeg + 1 by omega, hqv27])
  exact lp13 pln.toNatClampNeg T2 h0 _ pof (0 : Int32) X2 e2 N2 K0 Z0 Pf0 Pf2 (by omega) rfl
theorem pn_3 : plainName "com/example/gapmend/gapmend/CheckSumOfPinLaw" = true := by first | (simp [plainName, overriddenIn]; done) | decide +kernel
theorem d_pick_0 : decode method_2_code 0 = .ok (.iload_n 1, 1) := by decide +kernel
theorem d_pick_1 : decode method_2_code 1 = .ok (.iload_n 2, 1) := by decide +kernel
theorem d_pick_2 : decode method_2_code 2 = .ok (.if_icmp .lt 18, 3) := by decide +kernel
theorem d_pick_5 : decode method_2_code 5 = .ok (.iload_n 1, 1) := by decide +kernel
theorem d_pick_6 : decode method_2_code 6 = .ok (.iload_n 2, 1) := by decide +kernel
theorem d_pick_7 : decode method_2_code 7 = .ok (.iload_n 3, 1) := by decide +kernel
theorem d_pick_8 : decode method_2_code 8 = .ok (.iadd, 1) := by decide +kernel
theorem d_pick_9 : decode method_2_code 9 = .ok (.if_icmp .ge 11, 3) := by decide +kernel
theorem d_pick_12 : decode method_2_code 12 = .ok (.aload_n 0, 1) := by decide +kernel
theorem d_pick_13 : decode method_2_code 13 = .ok (.iload_n 1, 1) := by decide +kernel
theorem d_pick_14 : decode method_2_code 14 = .ok (.baload, 1) := by decide +kernel
theorem d_pick_15 : decode method_2_code 15 = .ok (.sipush 255, 3) := by decide +kernel
theorem d_pick_18 : decode method_2_code 18 = .ok (.iand, 1) := by decide +kernel
theorem d_pick_19 : decode method_2_code 19 = .ok (.ireturn, 1) := by decide +kernel
theorem d_pick_20 : decode method_2_code 20 = .ok (.iconst 0, 1) := by decide +kernel
theorem d_pick_21 : decode method_2_code 21 = .ok (.ireturn, 1) := by decide +kernel
theorem ef_pick (m : MethodId) (ao : Addr) (pk : Int32) (pof : Int32) (pln : Int32) : entryFrame m #[(.ref ao), (.int pk), (.int pof), (.int pln)] 4 = mkF m 0 #[.val (.ref ao), .val (.int pk), .val (.int pof), .val (.int pln)] [] := by first | (simp [entryFrame, mkF, argsToLocals, Value.category]; done) | rfl
def Q_pick (Z : State) (ao : Addr) (pk : Int32) (pof : Int32) (pln : Int32) (kk : ClassId) (bl : List Int32) (h0 : Heap) (n0 : Nat) (v : Option Value) (h : Heap) (L : List Loc) : Prop := v = some (.int (pkF pk pof pln (bl.getD pk.toNatClampNeg 0))) ∧ Fr n0 L ∧ h = h0
set_option maxRecDepth 65536 in
set_option maxHeartbeats 40000000 in
theorem rm_pick (l : Launch) (Z : State) (a0 : Array Value) (hw : ∀ d ∈ tables_1, d.before a0 Z = true) (ws : List Jvm.Cond) (ao : Addr) (pk : Int32) (pof : Int32) (pln : Int32) (kk : ClassId) (bl : List Int32) (h0 : Heap) (n0 : Nat) (Z0 : n0 ≤ h0.size) (Pf0 : Arv Z h0 ao kk .byte (8 : Int32) (bvs bl) (.int (0 : Int32))) (hpk : 0 ≤ pk.toInt ∧ pk.toInt < 8) :
    MetFree l (⟨"com/example/gapmend/gapmend/CheckSumOfPinLaw", "pick", "([BIII)I"⟩ : MethodName) (head1 (Jvm.Cond.code (⟨"com/example/gapmend/gapmend/CheckSumOfPinLaw", "pick", "([BIII)I"⟩ : MethodName) method_2_code 4 (some .int) :: ws) ({ frames := 0, cells := 0, slots := 0, locals := 0 } : Room)) (fun a U => a = #[(.ref ao), (.int pk), (.int pof), (.int pln)] ∧ Z.Warmed39 U.vm ∧ U.heap = h0) (fun _ _ _ _ _ => True) (fun _ U o U' => ∃ v L, o = .returned v ∧ Q_pick Z ao pk pof pln kk bl h0 n0 v U'.heap L ∧ FrameEnd U o U' L ({ frames := 0, cells := 0, slots := 0, locals := 0 } : Room).cells ({ frames := 0, cells := 0, slots := 0, locals := 0 } : Room).slots) := by
  refine MetFree.of_bodySF (plainFor_of_name pn_3) hisR ?_
  intro p e s m args below meth c s₁ Bd hml0 hP hK
  obtain ⟨rfl, hZ, hh⟩ := hP
  have hx := Bd.exec
  have hby := Bd.bytes
  have hml : c.maxLocals = 4 := hml0
  have hown : s.vm.findClass "com/example/gapmend/gapmend/CheckSumOfPinLaw" = some m.cls := findClass_of_methodNamed Bd.named
  have hnm := (name_of_methodNamed Bd.named Bd.method).1
  have X0 : Stand p l e ({ frames := 0, cells := 0, slots := 0, locals := 0 } : Room) s m #[(.ref ao), (.int pk), (.int pof), (.int pln)] below meth c s₁ [] 0 0 := Stand.of_body Bd
  have e0 : s₁.heap = h0 := by rw [← hh, Bd.state]; rfl
  have N0 := Fr.nil n0
  have K0 : Keep h0 h0 [] := Keep.refl h0 []
  show Go p.tables e below _ (s₁.setTop (entryFrame m #[(.ref ao), (.int pk), (.int pof), (.int pln)] 4))
  refine Go.start ?_
  intro G hG
  refine Go.st (fun t k => castTop (ef_pick m ao pk pof pln) k) ?_
  have i_0 : (0 : Int32).toInt = 0 := by decide
  have i_8 : (8 : Int32).toInt = 8 := by decide
  show Go p.tables e below _ (s₁.setTop (mkF m 0 #[.val (.ref ao), .val (.int pk), .val (.int pof), .val (.int pln)] []))
  refine Go.st (fun _ k => XS.iloadN X0.here hx rfl (hb hby d_pick_0) rfl k) ?_
  show Go p.tables e below _ (s₁.setTop (mkF m 1 #[.val (.ref ao), .val (.int pk), .val (.int pof), .val (.int pln)] [(.int pk)]))
  refine Go.st (fun _ k => XS.iloadN X0.here hx rfl (hb hby d_pick_1) rfl k) ?_
  show Go p.tables e below _ (s₁.setTop (mkF m 2 #[.val (.ref ao), .val (.int pk), .val (.int pof), .val (.int pln)] [(.int pof), (.int pk)]))
  by_cases hc2 : pk < pof
  · skip
    refine Go.st (fun _ k => XS.icmpYes X0.here hx rfl (pc0 := 2) (pc' := 20) rfl (hb hby d_pick_2) rfl (Jvm.Free.XT.ii_lt_t hc2) (by decide) (by decide) k) ?_
    show Go p.tables e below _ (s₁.setTop (mkF m 20 #[.val (.ref ao), .val (.int pk), .val (.int pof), .val (.int pln)] []))
    refine Go.st (fun _ k => XS.iconst X0.here hx rfl (hb hby d_pick_20) k) ?_
    show Go p.tables e below _ (s₁.setTop (mkF m 21 #[.val (.ref ao), .val (.int pk), .val (.int pof), .val (.int pln)] [(.int (0 : Int32))]))
    subst hG
    obtain ⟨fs, hr, hrun, hended, hW, hsame⟩ := X0.leave (v := some (.int (0 : Int32))) (fun h => by rw [Bd.returns] at h; cases h)
    refine ⟨_, _, ?_, hrun, hended, _, _, rfl, ?_, ⟨_, rfl⟩, hW, hsame.mono (by decide) (by decide)⟩
    · exact retI X0 hx Bd.returns (hb hby d_pick_21) hr
    · show Q_pick Z ao pk pof pln kk bl h0 n0 _ s₁.heap _
      rw [e0]
      exact ⟨(by simp [pkF, hc2]), N0, rfl⟩
  · skip
    refine Go.st (fun _ k => XS.icmpNo X0.here hx rfl (hb hby d_pick_2) rfl (Jvm.Free.XT.ii_lt_f hc2) k) ?_
    show Go p.tables e below _ (s₁.setTop (mkF m 5 #[.val (.ref ao), .val (.int pk), .val (.int pof), .val (.int pln)] []))
    refine Go.st (fun _ k => XS.iloadN X0.here hx rfl (hb hby d_pick_5) rfl k) ?_
    show Go p.tables e below _ (s₁.setTop (mkF m 6 #[.val (.ref ao), .val (.int pk), .val (.int pof), .val (.int pln)] [(.int pk)]))
    refine Go.st (fun _ k => XS.iloadN X0.here hx rfl (hb hby d_pick_6) rfl k) ?_
    show Go p.tables e below _ (s₁.setTop (mkF m 7 #[.val (.ref ao), .val (.int pk), .val (.int pof), .val (.int pln)] [(.int pof), (.int pk)]))
    refine Go.st (fun _ k => XS.iloadN X0.here hx rfl (hb hby d_pick_7) rfl k) ?_
    show Go p.tables e below _ (s₁.setTop (mkF m 8 #[.val (.ref ao), .val (.int pk), .val (.int pof), .val (.int pln)] [(.int pln), (.int pof), (.int pk)]))
    refine Go.st (fun _ k => XS.iadd X0.here hx rfl (hb hby d_pick_8) rfl k) ?_
    show Go p.tables e below _ (s₁.setTop (mkF m 9 #[.val (.ref ao), .val (.int pk), .val (.int pof), .val (.int pln)] [(.int (pof + pln)), (.int pk)]))
    by_cases hc9 : pk < (pof + pln)
    · skip
      refine Go.st (fun _ k => XS.icmpNo X0.here hx rfl (hb hby d_pick_9) rfl (Jvm.Free.XT.ii_ge_f hc9) k) ?_
      show Go p.tables e below _ (s₁.setTop (mkF m 12 #[.val (.ref ao), .val (.int pk), .val (.int pof), .val (.int pln)] []))
      refine Go.st (fun _ k => XS.aloadN X0.here hx rfl (hb hby d_pick_12) rfl rfl k) ?_
      show Go p.tables e below _ (s₁.setTop (mkF m 13 #[.val (.ref ao), .val (.int pk), .val (.int pof), .val (.int pln)] [(.ref ao)]))
      refine Go.st (fun _ k => XS.iloadN X0.here hx rfl (hb hby d_pick_13) rfl k) ?_
      show Go p.tables e below _ (s₁.setTop (mkF m 14 #[.val (.ref ao), .val (.int pk), .val (.int pof), .val (.int pln)] [(.int pk), (.ref ao)]))
      obtain ⟨cl1, Ar1, q1, S1, M1, H1, G1⟩ := id Pf0
      have hin1 : ¬ (pk < 0 ∨ cl1.slots.size ≤ (pk).toNatClampNeg) := inb_of S1 ⟨own_nlt32 (by omega), own_lt32 (by omega)⟩
      have hat1 : cl1.slots[(pk).toNatClampNeg]? = some (.int (bl.getD pk.toNatClampNeg 0)) := Has.at H1 hin1 (own_bget _ _)
      refine Go.st (fun _ k => X0.baloadBytes hx (j := pk) (v := (.int (bl.getD pk.toNatClampNeg 0))) (by rw [e0]; exact Ar1.1) (State.isArrayOf_alike hZ.alike Ar1.2.1) Ar1.2.2 hin1 hat1 (g := (mkF m 14 #[.val (.ref ao), .val (.int pk), .val (.int pof), .val (.int pln)] [(.int pk), (.ref ao)])) rfl rfl (hb hby d_pick_14) _ k) ?_
      show Go p.tables e below _ (s₁.setTop (mkF m 15 #[.val (.ref ao), .val (.int pk), .val (.int pof), .val (.int pln)] [(.int (bl.getD pk.toNatClampNeg 0))]))
      refine Go.st (fun _ k => XS.sipush X0.here hx rfl (hb hby d_pick_15) k) ?_
      show Go p.tables e below _ (s₁.setTop (mkF m 18 #[.val (.ref ao), .val (.int pk), .val (.int pof), .val (.int pln)] [(.int (255 : Int32)), (.int (bl.getD pk.toNatClampNeg 0))]))
      refine Go.st (fun _ k => XS.iand X0.here hx rfl (hb hby d_pick_18) rfl k) ?_
      show Go p.tables e below _ (s₁.setTop (mkF m 19 #[.val (.ref ao), .val (.int pk), .val (.int pof), .val (.int pln)] [(.int ((bl.getD pk.toNatClampNeg 0) &&& (255 : Int32)))]))
      subst hG
      obtain ⟨fs, hr, hrun, hended, hW, hsame⟩ := X0.leave (v := some (.int ((bl.getD pk.toNatClampNeg 0) &&& (255 : Int32)))) (fun h => by rw [Bd.returns] at h; cases h)
      refine ⟨_, _, ?_, hrun, hended, _, _, rfl, ?_, ⟨_, rfl⟩, hW, hsame.mono (by decide) (by decide)⟩
      · exact retI X0 hx Bd.returns (hb hby d_pick_19) hr
      · show Q_pick Z ao pk pof pln kk bl h0 n0 _ s₁.heap _
        rw [e0]
        exact ⟨(by simp [pkF, hc2, hc9]), N0, rfl⟩
    · skip
      refine Go.st (fun _ k => XS.icmpYes X0.here hx rfl (pc0 := 9) (pc' := 20) rfl (hb hby d_pick_9) rfl (Jvm.Free.XT.ii_ge_t hc9) (by decide) (by decide) k) ?_
      show Go p.tables e below _ (s₁.setTop (mkF m 20 #[.val (.ref ao), .val (.int pk), .val (.int pof), .val (.int pln)] []))
      refine Go.st (fun _ k => XS.iconst X0.here hx rfl (hb hby d_pick_20) k) ?_
      show Go p.tables e below _ (s₁.setTop (mkF m 21 #[.val (.ref ao), .val (.int pk), .val (.int pof), .val (.int pln)] [(.int (0 : Int32))]))
      subst hG
      obtain ⟨fs, hr, hrun, hended, hW, hsame⟩ := X0.leave (v := some (.int (0 : Int32))) (fun h => by rw [Bd.returns] at h; cases h)
      refine ⟨_, _, ?_, hrun, hended, _, _, rfl, ?_, ⟨_, rfl⟩, hW, hsame.mono (by decide) (by decide)⟩
      · exact retI X0 hx Bd.returns (hb hby d_pick_21) hr
      · show Q_pick Z ao pk pof pln kk bl h0 n0 _ s₁.heap _
        rw [e0]
        exact ⟨(by simp [pkF, hc2, hc9]), N0, rfl⟩
def dgF (c : Int32) : Int32 := if c < 48 then 0 else if 57 < c then 0 else 1
theorem d_digit_0 : decode method_3_code 0 = .ok (.iload_n 0, 1) := by decide +kernel
theorem d_digit_1 : decode method_3_code 1 = .ok (.bipush 48, 2) := by decide +kernel
theorem d_digit_3 : decode method_3_code 3 = .ok (.if_icmp .lt 13, 3) := by decide +kernel
theorem d_digit_6 : decode method_3_code 6 = .ok (.iload_n 0, 1) := by decide +kernel
theorem d_digit_7 : decode method_3_code 7 = .ok (.bipush 57, 2) := by decide +kernel
theorem d_digit_9 : decode method_3_code 9 = .ok (.if_icmp .gt 7, 3) := by decide +kernel
theorem d_digit_12 : decode method_3_code 12 = .ok (.iconst 1, 1) := by decide +kernel
theorem d_digit_13 : decode method_3_code 13 = .ok (.goto 4, 3) := by decide +kernel
theorem d_digit_16 : decode method_3_code 16 = .ok (.iconst 0, 1) := by decide +kernel
theorem d_digit_17 : decode method_3_code 17 = .ok (.ireturn, 1) := by decide +kernel
theorem ef_digit (m : MethodId) (pc : Int32) : entryFrame m #[(.int pc)] 1 = mkF m 0 #[.val (.int pc)] [] := by first | (simp [entryFrame, mkF, argsToLocals, Value.category]; done) | rfl
def Q_digit (Z : State) (pc : Int32) (h0 : Heap) (n0 : Nat) (v : Option Value) (h : Heap) (L : List Loc) : Prop := v = some (.int (dgF pc)) ∧ Fr n0 L ∧ h = h0
set_option maxRecDepth 65536 in
set_option maxHeartbeats 40000000 in
theorem rm_digit (l : Launch) (Z : State) (a0 : Array Value) (hw : ∀ d ∈ tables_1, d.before a0 Z = true) (ws : List Jvm.Cond) (pc : Int32) (h0 : Heap) (n0 : Nat) (Z0 : n0 ≤ h0.size)  :
    MetFree l (⟨"com/example/gapmend/gapmend/CheckSumOfPinLaw", "digit", "(C)Z"⟩ : MethodName) (head1 (Jvm.Cond.code (⟨"com/example/gapmend/gapmend/CheckSumOfPinLaw", "digit", "(C)Z"⟩ : MethodName) method_3_code 1 (some .boolean) :: ws) ({ frames := 0, cells := 0, slots := 0, locals := 0 } : Room)) (fun a U => a = #[(.int pc)] ∧ Z.Warmed39 U.vm ∧ U.heap = h0) (fun _ _ _ _ _ => True) (fun _ U o U' => ∃ v L, o = .returned v ∧ Q_digit Z pc h0 n0 v U'.heap L ∧ FrameEnd U o U' L ({ frames := 0, cells := 0, slots := 0, locals := 0 } : Room).cells ({ frames := 0, cells := 0, slots := 0, locals := 0 } : Room).slots) := by
  refine MetFree.of_bodySF (plainFor_of_name pn_3) hisR ?_
  intro p e s m args below meth c s₁ Bd hml0 hP hK
  obtain ⟨rfl, hZ, hh⟩ := hP
  have hx := Bd.exec
  have hby := Bd.bytes
  have hml : c.maxLocals = 1 := hml0
  have hown : s.vm.findClass "com/example/gapmend/gapmend/CheckSumOfPinLaw" = some m.cls := findClass_of_methodNamed Bd.named
  have hnm := (name_of_methodNamed Bd.named Bd.method).1
  have X0 : Stand p l e ({ frames := 0, cells := 0, slots := 0, locals := 0 } : Room) s m #[(.int pc)] below meth c s₁ [] 0 0 := Stand.of_body Bd
  have e0 : s₁.heap = h0 := by rw [← hh, Bd.state]; rfl
  have N0 := Fr.nil n0
  have K0 : Keep h0 h0 [] := Keep.refl h0 []
  show Go p.tables e below _ (s₁.setTop (entryFrame m #[(.int pc)] 1))
  refine Go.start ?_
  intro G hG
  refine Go.st (fun t k => castTop (ef_digit m pc) k) ?_
  show Go p.tables e below _ (s₁.setTop (mkF m 0 #[.val (.int pc)] []))
  refine Go.st (fun _ k => XS.iloadN X0.here hx rfl (hb hby d_digit_0) rfl k) ?_
  show Go p.tables e below _ (s₁.setTop (mkF m 1 #[.val (.int pc)] [(.int pc)]))
  refine Go.st (fun _ k => XS.bipush X0.here hx rfl (hb hby d_digit_1) k) ?_
  show Go p.tables e below _ (s₁.setTop (mkF m 3 #[.val (.int pc)] [(.int (48 : Int32)), (.int pc)]))
  by_cases hc3 : pc < (48 : Int32)
  · skip
    refine Go.st (fun _ k => XS.icmpYes X0.here hx rfl (pc0 := 3) (pc' := 16) rfl (hb hby d_digit_3) rfl (Jvm.Free.XT.ii_lt_t hc3) (by decide) (by decide) k) ?_
    show Go p.tables e below _ (s₁.setTop (mkF m 16 #[.val (.int pc)] []))
    refine Go.st (fun _ k => XS.iconst X0.here hx rfl (hb hby d_digit_16) k) ?_
    show Go p.tables e below _ (s₁.setTop (mkF m 17 #[.val (.int pc)] [(.int (0 : Int32))]))
    subst hG
    obtain ⟨fs, hr, hrun, hended, hW, hsame⟩ := X0.leave (v := some (.int (nar .boolean (0 : Int32)))) (fun h => by rw [Bd.returns] at h; cases h)
    refine ⟨_, _, ?_, hrun, hended, _, _, rfl, ?_, ⟨_, rfl⟩, hW, hsame.mono (by decide) (by decide)⟩
    · exact retN X0 hx (t := .boolean) Bd.returns (by simp) (hb hby d_digit_17) hr
    · show Q_digit Z pc h0 n0 _ s₁.heap _
      rw [e0]
      exact ⟨(by show some (Value.int (0 : Int32)) = _; simp [dgF, hc3]), N0, rfl⟩
  · skip
    refine Go.st (fun _ k => XS.icmpNo X0.here hx rfl (hb hby d_digit_3) rfl (Jvm.Free.XT.ii_lt_f hc3) k) ?_
    show Go p.tables e below _ (s₁.setTop (mkF m 6 #[.val (.int pc)] []))
    refine Go.st (fun _ k => XS.iloadN X0.here hx rfl (hb hby d_digit_6) rfl k) ?_
    show Go p.tables e below _ (s₁.setTop (mkF m 7 #[.val (.int pc)] [(.int pc)]))
    refine Go.st (fun _ k => XS.bipush X0.here hx rfl (hb hby d_digit_7) k) ?_
    show Go p.tables e below _ (s₁.setTop (mkF m 9 #[.val (.int pc)] [(.int (57 : Int32)), (.int pc)]))
    by_cases hc9 : (57 : Int32) < pc
    · skip
      refine Go.st (fun _ k => XS.icmpYes X0.here hx rfl (pc0 := 9) (pc' := 16) rfl (hb hby d_digit_9) rfl (Jvm.Free.XT.ii_gt_t hc9) (by decide) (by decide) k) ?_
      show Go p.tables e below _ (s₁.setTop (mkF m 16 #[.val (.int pc)] []))
      refine Go.st (fun _ k => XS.iconst X0.here hx rfl (hb hby d_digit_16) k) ?_
      show Go p.tables e below _ (s₁.setTop (mkF m 17 #[.val (.int pc)] [(.int (0 : Int32))]))
      subst hG
      obtain ⟨fs, hr, hrun, hended, hW, hsame⟩ := X0.leave (v := some (.int (nar .boolean (0 : Int32)))) (fun h => by rw [Bd.returns] at h; cases h)
      refine ⟨_, _, ?_, hrun, hended, _, _, rfl, ?_, ⟨_, rfl⟩, hW, hsame.mono (by decide) (by decide)⟩
      · exact retN X0 hx (t := .boolean) Bd.returns (by simp) (hb hby d_digit_17) hr
      · show Q_digit Z pc h0 n0 _ s₁.heap _
        rw [e0]
        exact ⟨(by show some (Value.int (0 : Int32)) = _; simp [dgF, hc3, hc9]), N0, rfl⟩
    · skip
      refine Go.st (fun _ k => XS.icmpNo X0.here hx rfl (hb hby d_digit_9) rfl (Jvm.Free.XT.ii_gt_f hc9) k) ?_
      show Go p.tables e below _ (s₁.setTop (mkF m 12 #[.val (.int pc)] []))
      refine Go.st (fun _ k => XS.iconst X0.here hx rfl (hb hby d_digit_12) k) ?_
      show Go p.tables e below _ (s₁.setTop (mkF m 13 #[.val (.int pc)] [(.int (1 : Int32))]))
      refine Go.st (fun _ k => XS.goto X0.here hx rfl (pc0 := 13) (pc' := 17) rfl (hb hby d_digit_13) (by decide) (by decide) k) ?_
      show Go p.tables e below _ (s₁.setTop (mkF m 17 #[.val (.int pc)] [(.int (1 : Int32))]))
      subst hG
      obtain ⟨fs, hr, hrun, hended, hW, hsame⟩ := X0.leave (v := some (.int (nar .boolean (1 : Int32)))) (fun h => by rw [Bd.returns] at h; cases h)
      refine ⟨_, _, ?_, hrun, hended, _, _, rfl, ?_, ⟨_, rfl⟩, hW, hsame.mono (by decide) (by decide)⟩
      · exact retN X0 hx (t := .boolean) Bd.returns (by simp) (hb hby d_digit_17) hr
      · show Q_digit Z pc h0 n0 _ s₁.heap _
        rw [e0]
        exact ⟨(by show some (Value.int (1 : Int32)) = _; simp [dgF, hc3, hc9]), N0, rfl⟩
theorem own_at {m v : Int32} (h : (m &&& (2147483647 : Int32)) % (9 : Int32) = v) : 0 ≤ v.toInt ∧ v.toInt < 9 := by
  have h1 := Jvm.Kit.i32_mask m (2147483647 : Int32) (k := 31) (by decide) (by decide)
  have h5 : (9 : Int32).toInt = 9 := by decide
  rw [← h, Jvm.Kit.i32_rem_nonneg (by omega), h5]
  omega
theorem own_nz {v : Int32} (h : 0 ≤ v.toInt ∧ v.toInt < 9) : (9 : Int32) - v ≠ 0 := by
  have h5 : (9 : Int32).toInt = 9 := by decide
  have h6 : (0 : Int32).toInt = 0 := by decide
  intro z
  have h7 : ((9 : Int32) - v).toInt = 9 - v.toInt := by rw [Jvm.Kit.i32_sub (by omega) (by omega), h5]
  rw [z] at h7
  omega
theorem own_wd {m a v : Int32} (ha : 0 ≤ a.toInt ∧ a.toInt < 9) (h : (m &&& (2147483647 : Int32)) % ((9 : Int32) - a) = v) : 0 ≤ v.toInt ∧ a.toInt + v.toInt ≤ 8 := by
  have h1 := Jvm.Kit.i32_mask m (2147483647 : Int32) (k := 31) (by decide) (by decide)
  have h5 : (9 : Int32).toInt = 9 := by decide
  have h7 : ((9 : Int32) - a).toInt = 9 - a.toInt := by rw [Jvm.Kit.i32_sub (by omega) (by omega), h5]
  rw [← h, Jvm.Kit.i32_rem_nonneg (by omega), h7]
  have := Int.emod_nonneg (m &&& (2147483647 : Int32)).toInt (show 9 - a.toInt ≠ 0 by omega)
  have := Int.emod_lt_of_pos (m &&& (2147483647 : Int32)).toInt (show 0 < 9 - a.toInt by omega)
  omega
theorem own_dg {c : Int32} (h : 48 ≤ c.toInt ∧ c.toInt ≤ 57) : dgF c = 1 := by
  have e48 : (48 : Int32).toInt = 48 := by decide
  have e57 : (57 : Int32).toInt = 57 := by decide
  have h1 : ¬ c < 48 := own_nlt32 (by omega)
  have h2 : ¬ 57 < c := own_nlt32 (by omega)
  simp [dgF, h1, h2]
theorem own_fin {c0 c1 c2 s v : Int32} {y : Int} (hs : s.toInt = y % 256) (hr : c0.toInt = 48 + y % 256 / 100 ∧ c1.toInt = 48 + y % 256 / 10 % 10 ∧ c2.toInt = 48 + y % 256 % 10)
    (hv : (((c0 - (48 : Int32)) * (100 : Int32)) + ((c1 - (48 : Int32)) * (10 : Int32))) + (c2 - (48 : Int32)) = v) : v = s := by
  have e48 : (48 : Int32).toInt = 48 := by decide
  have e100 : (100 : Int32).toInt = 100 := by decide
  have e10 : (10 : Int32).toInt = 10 := by decide
  have a0 : (c0 - (48 : Int32)).toInt = y % 256 / 100 := by rw [Jvm.Kit.i32_sub (by omega) (by omega)]; omega
  have a1 : (c1 - (48 : Int32)).toInt = y % 256 / 10 % 10 := by rw [Jvm.Kit.i32_sub (by omega) (by omega)]; omega
  have a2 : (c2 - (48 : Int32)).toInt = y % 256 % 10 := by rw [Jvm.Kit.i32_sub (by omega) (by omega)]; omega
  have b0 : ((c0 - (48 : Int32)) * (100 : Int32)).toInt = y % 256 / 100 * 100 := by rw [Jvm.Kit.i32_mul (by rw [a0, e100]; omega) (by rw [a0, e100]; omega), a0, e100]
  have b1 : ((c1 - (48 : Int32)) * (10 : Int32)).toInt = y % 256 / 10 % 10 * 10 := by rw [Jvm.Kit.i32_mul (by rw [a1, e10]; omega) (by rw [a1, e10]; omega), a1, e10]
  have d0 : (((c0 - (48 : Int32)) * (100 : Int32)) + ((c1 - (48 : Int32)) * (10 : Int32))).toInt = y % 256 / 100 * 100 + y % 256 / 10 % 10 * 10 := by rw [Jvm.Kit.i32_add (by omega) (by omega), b0, b1]
  refine own_eq32 ?_
  rw [← hv, Jvm.Kit.i32_add (by omega) (by omega), d0, a2, hs]
  omega
theorem pd_3 : parseMethodDescriptor "([BII)Ljava/lang/String;" = some ⟨[(.array .byte), .int, .int], some (.object "java/lang/String")⟩ := by decide +kernel
theorem pd_4 : parseMethodDescriptor "([BIII)I" = some ⟨[(.array .byte), .int, .int, .int], some .int⟩ := by decide +kernel
theorem pd_5 : parseMethodDescriptor "()I" = some ⟨[], some .int⟩ := by decide +kernel
theorem pd_6 : parseMethodDescriptor "(I)C" = some ⟨[.int], some .char⟩ := by decide +kernel
theorem pd_7 : parseMethodDescriptor "(C)Z" = some ⟨[.char], some .boolean⟩ := by decide +kernel
theorem ef_law (m : MethodId) (qp : Int64) (po : Int32) (pl : Int32) : entryFrame m #[(.long qp), (.int po), (.int pl)] maxLocals = mkF m 0 #[.val (.long qp), .second, .val (.int po), .val (.int pl), .unset, .unset, .unset, .unset, .unset, .unset, .unset, .unset, .unset, .unset] [] := by first | (simp [entryFrame, mkF, argsToLocals, Value.category, maxLocals]; done) | rfl
def Q_law (Z : State) (qp : Int64) (po : Int32) (pl : Int32) (G1 : Int32) (G3 : Value) (h0 : Heap) (n0 : Nat) (v : Option Value) (h : Heap) (L : List Loc) : Prop := v = some (.int (1 : Int32)) ∧ Fr n0 L ∧ Keep h0 h []
set_option maxRecDepth 65536 in
set_option maxHeartbeats 40000000 in
theorem rm_law (l : Launch) (Z : State) (a0 : Array Value) (hw : ∀ d ∈ tables_1, d.before a0 Z = true) (ws : List Jvm.Cond) (qp : Int64) (po : Int32) (pl : Int32) (G1 : Int32) (G3 : Value) (h0 : Heap) (n0 : Nat) (Z0 : n0 ≤ h0.size) (Pf0 : Old Z n0 h0) (O2 : Sta Z Z.heap "java/lang/String" "COMPACT_STRINGS" "Z" (.int G1)) (P5 : ¬ (G1 = (0 : Int32))) (O4 : Sta Z Z.heap "jdk/internal/util/Preconditions" "SIOOBE_FORMATTER" "Ljava/util/function/BiFunction;" G3) (rG3 : G3.isRef = true) :
    MetFree l x (head1 (Jvm.Cond.code x code maxLocals ret :: ws) room_1) (fun a U => a = #[(.long qp), (.int po), (.int pl)] ∧ Z.Warmed39 U.vm ∧ U.heap = h0) (fun _ _ _ _ _ => True) (fun _ U o U' => ∃ v L, o = .returned v ∧ Q_law Z qp po pl G1 G3 h0 n0 v U'.heap L ∧ FrameEnd U o U' L room_1.cells room_1.slots) := by
  refine MetFree.of_bodySF (plainFor_of_name pn_3) hisR ?_
  intro p e s m args below meth c s₁ Bd hml0 hP hK
  obtain ⟨rfl, hZ, hh⟩ := hP
  have hx := Bd.exec
  have hby := Bd.bytes
  have hml : c.maxLocals = 14 := hml0
  have hown : s.vm.findClass "com/example/gapmend/gapmend/CheckSumOfPinLaw" = some m.cls := findClass_of_methodNamed Bd.named
  have hnm := (name_of_methodNamed Bd.named Bd.method).1
  have X0 : Stand p l e room_1 s m #[(.long qp), (.int po), (.int pl)] below meth c s₁ [] 0 0 := Stand.of_body Bd
  have e0 : s₁.heap = h0 := by rw [← hh, Bd.state]; rfl
  have N0 := Fr.nil n0
  have K0 : Keep h0 h0 [] := Keep.refl h0 []
  show Go p.tables e below _ (s₁.setTop (entryFrame m #[(.long qp), (.int po), (.int pl)] maxLocals))
  refine Go.start ?_
  intro G hG
  refine Go.st (fun t k => castTop (ef_law m qp po pl) k) ?_
  show Go p.tables e below _ (s₁.setTop (mkF m 0 #[.val (.long qp), .second, .val (.int po), .val (.int pl), .unset, .unset, .unset, .unset, .unset, .unset, .unset, .unset, .unset, .unset] []))
  refine Go.st (fun _ k => XS.bipush X0.here hx rfl (hb hby at_0) k) ?_
  show Go p.tables e below _ (s₁.setTop (mkF m 2 #[.val (.long qp), .second, .val (.int po), .val (.int pl), .unset, .unset, .unset, .unset, .unset, .unset, .unset, .unset, .unset, .unset] [(.int (8 : Int32))]))
  obtain ⟨T1, h1, k1, X1, e1, E1, A1, C1, st1⟩ := newPE X0 hx hZ (hw _ (List.mem_of_getElem? (i := 0) rfl)) e0 (g := (mkF m 2 #[.val (.long qp), .second, .val (.int po), .val (.int pl), .unset, .unset, .unset, .unset, .unset, .unset, .unset, .unset, .unset, .unset] [(.int (8 : Int32))])) rfl (hb hby at_2) rfl (by decide) (cap := 8) (by decide) (by decide) (by decide) (by decide) (ad := "[B") (by decide)
  obtain ⟨b1, g1⟩ : ∃ z, z = h0.size := ⟨_, rfl⟩
  rw [← g1] at A1 C1 st1
  refine Go.st st1 ?_
  have ge2 : n0 ≤ b1 := Nat.le_trans Z0 (Nat.le_of_eq g1.symm)
  have sz3 : h0.size ≤ b1 := Nat.le_trans K0.1 (Nat.le_of_eq g1.symm)
  have Z4 : n0 ≤ h1.size := Nat.le_trans Z0 E1.1
  have K5 : Keep h0 h1 [] := K0.ext E1
  have F6 : Old Z n0 h1 := Pf0.ext E1
  have F7 : Arv Z h1 b1 k1 .byte (8 : Int32) [(.int (0 : Int32)), (.int (0 : Int32)), (.int (0 : Int32)), (.int (0 : Int32)), (.int (0 : Int32)), (.int (0 : Int32)), (.int (0 : Int32)), (.int (0 : Int32))] (.int (0 : Int32)) := (Arv.new A1 (by decide)).pad (pad_rep [] (.int (0 : Int32)) 8)
  show Go p.tables e below _ (T1.setTop (mkF m 4 #[.val (.long qp), .second, .val (.int po), .val (.int pl), .unset, .unset, .unset, .unset, .unset, .unset, .unset, .unset, .unset, .unset] [(.ref b1)]))
  refine Go.st (fun _ k => XS.astore X1.here hx rfl (hb hby at_4) rfl rfl (l' := #[.val (.long qp), .second, .val (.int po), .val (.int pl), .val (.ref b1), .unset, .unset, .unset, .unset, .unset, .unset, .unset, .unset, .unset]) rfl k) ?_
  show Go p.tables e below _ (T1.setTop (mkF m 6 #[.val (.long qp), .second, .val (.int po), .val (.int pl), .val (.ref b1), .unset, .unset, .unset, .unset, .unset, .unset, .unset, .unset, .unset] []))
  show Go p.tables e below _ (T1.setTop (mkF m 6 #[.val (.long qp), .second, .val (.int po), .val (.int pl), .val (.ref b1), .unset, .unset, .unset, .unset, .unset, .unset, .unset, .unset, .unset] []))
  refine Go.st (fun _ k => XS.aload X1.here hx rfl (hb hby at_6) rfl rfl k) ?_
  show Go p.tables e below _ (T1.setTop (mkF m 8 #[.val (.long qp), .second, .val (.int po), .val (.int pl), .val (.ref b1), .unset, .unset, .unset, .unset, .unset, .unset, .unset, .unset, .unset] [(.ref b1)]))
  refine Go.st (fun _ k => XS.iconst X1.here hx rfl (hb hby at_8) k) ?_
  show Go p.tables e below _ (T1.setTop (mkF m 9 #[.val (.long qp), .second, .val (.int po), .val (.int pl), .val (.ref b1), .unset, .unset, .unset, .unset, .unset, .unset, .unset, .unset, .unset] [(.int (0 : Int32)), (.ref b1)]))
  refine Go.st (fun _ k => XS.lloadN X1.here hx rfl (hb hby at_9) rfl k) ?_
  show Go p.tables e below _ (T1.setTop (mkF m 10 #[.val (.long qp), .second, .val (.int po), .val (.int pl), .val (.ref b1), .unset, .unset, .unset, .unset, .unset, .unset, .unset, .unset, .unset] [(.long qp), (.int (0 : Int32)), (.ref b1)]))
  refine Go.st (fun _ k => XS.l2i X1.here hx rfl (hb hby at_10) rfl k) ?_
  show Go p.tables e below _ (T1.setTop (mkF m 11 #[.val (.long qp), .second, .val (.int po), .val (.int pl), .val (.ref b1), .unset, .unset, .unset, .unset, .unset, .unset, .unset, .unset, .unset] [(.int (qp.toInt32)), (.int (0 : Int32)), (.ref b1)]))
  refine Go.st (fun _ k => XS.i2b X1.here hx rfl (hb hby at_11) rfl k) ?_
  show Go p.tables e below _ (T1.setTop (mkF m 12 #[.val (.long qp), .second, .val (.int po), .val (.int pl), .val (.ref b1), .unset, .unset, .unset, .unset, .unset, .unset, .unset, .unset, .unset] [(.int ((qp.toInt32).toInt8.toInt32)), (.int (0 : Int32)), (.ref b1)]))
  generalize hqu12 : ((qp.toInt32).toInt8.toInt32) = u12
  show Go p.tables e below _ (T1.setTop (mkF m 12 #[.val (.long qp), .second, .val (.int po), .val (.int pl), .val (.ref b1), .unset, .unset, .unset, .unset, .unset, .unset, .unset, .unset, .unset] [(.int u12), (.int (0 : Int32)), (.ref b1)]))
  obtain ⟨cl8, Ar8, q8, S8, M8, H8, G8⟩ := id F7
  have hin8 : ¬ ((0 : Int32) < 0 ∨ cl8.slots.size ≤ ((0 : Int32)).toNatClampNeg) := inb_of S8 ⟨by decide, by decide⟩
  obtain ⟨T8, h8, X8, e8, W8, st8⟩ := stB X1 hx hZ e1 Ar8 (j := (0 : Int32)) hin8 (g := (mkF m 12 #[.val (.long qp), .second, .val (.int po), .val (.int pl), .val (.ref b1), .unset, .unset, .unset, .unset, .unset, .unset, .unset, .unset, .unset] [(.int u12), (.int (0 : Int32)), (.ref b1)])) rfl rfl (hb hby at_12)
  rw [(show nar .byte u12 = u12 from (by rw [← hqu12]; exact own_narb _))] at W8
  refine Go.st st8 ?_
  have F9 : Old Z n0 h8 := F6.wr W8 ge2
  have F10 : Arv Z h8 b1 k1 .byte (8 : Int32) [(.int u12), (.int (0 : Int32)), (.int (0 : Int32)), (.int (0 : Int32)), (.int (0 : Int32)), (.int (0 : Int32)), (.int (0 : Int32)), (.int (0 : Int32))] (.int (0 : Int32)) := Arv.set Ar8 q8 S8 M8 H8 G8 (by have h_ : fits .byte (.int (nar .byte u12)) = true := fits_nar_byte u12; rw [(show nar .byte u12 = u12 from (by rw [← hqu12]; exact own_narb _))] at h_; exact h_) W8 0 rfl (Nat.le_of_ble_eq_true rfl)
  have F11 : Exa Z h8 b1 "[B" := C1.wr W8
  have K12 : Keep h0 h8 [] := K5.wr W8 (Or.inr sz3)
  have Z13 : n0 ≤ h8.size := Nat.le_trans Z4 (Nat.le_of_eq W8.size.symm)
  have N14 := Fr.snoc X8 N0 ge2
  show Go p.tables e below _ (T8.setTop (mkF m 13 #[.val (.long qp), .second, .val (.int po), .val (.int pl), .val (.ref b1), .unset, .unset, .unset, .unset, .unset, .unset, .unset, .unset, .unset] []))
  refine Go.st (fun _ k => XS.aload X8.here hx rfl (hb hby at_13) rfl rfl k) ?_
  show Go p.tables e below _ (T8.setTop (mkF m 15 #[.val (.long qp), .second, .val (.int po), .val (.int pl), .val (.ref b1), .unset, .unset, .unset, .unset, .unset, .unset, .unset, .unset, .unset] [(.ref b1)]))
  refine Go.st (fun _ k => XS.iconst X8.here hx rfl (hb hby at_15) k) ?_
  show Go p.tables e below _ (T8.setTop (mkF m 16 #[.val (.long qp), .second, .val (.int po), .val (.int pl), .val (.ref b1), .unset, .unset, .unset, .unset, .unset, .unset, .unset, .unset, .unset] [(.int (1 : Int32)), (.ref b1)]))
  refine Go.st (fun _ k => XS.lloadN X8.here hx rfl (hb hby at_16) rfl k) ?_
  show Go p.tables e below _ (T8.setTop (mkF m 17 #[.val (.long qp), .second, .val (.int po), .val (.int pl), .val (.ref b1), .unset, .unset, .unset, .unset, .unset, .unset, .unset, .unset, .unset] [(.long qp), (.int (1 : Int32)), (.ref b1)]))
  refine Go.st (fun _ k => XS.bipush X8.here hx rfl (hb hby at_17) k) ?_
  show Go p.tables e below _ (T8.setTop (mkF m 19 #[.val (.long qp), .second, .val (.int po), .val (.int pl), .val (.ref b1), .unset, .unset, .unset, .unset, .unset, .unset, .unset, .unset, .unset] [(.int (8 : Int32)), (.long qp), (.int (1 : Int32)), (.ref b1)]))
  refine Go.st (fun _ k => XS.lushr X8.here hx rfl (hb hby at_19) rfl k) ?_
  show Go p.tables e below _ (T8.setTop (mkF m 20 #[.val (.long qp), .second, .val (.int po), .val (.int pl), .val (.ref b1), .unset, .unset, .unset, .unset, .unset, .unset, .unset, .unset, .unset] [(.long ((qp.toUInt64 >>> ((8 : Int32) &&& 0x3f).toInt64.toUInt64).toInt64)), (.int (1 : Int32)), (.ref b1)]))
  refine Go.st (fun _ k => XS.l2i X8.here hx rfl (hb hby at_20) rfl k) ?_
  show Go p.tables e below _ (T8.setTop (mkF m 21 #[.val (.long qp), .second, .val (.int po), .val (.int pl), .val (.ref b1), .unset, .unset, .unset, .unset, .unset, .unset, .unset, .unset, .unset] [(.int (((qp.toUInt64 >>> ((8 : Int32) &&& 0x3f).toInt64.toUInt64).toInt64).toInt32)), (.int (1 : Int32)), (.ref b1)]))
  refine Go.st (fun _ k => XS.i2b X8.here hx rfl (hb hby at_21) rfl k) ?_
  show Go p.tables e below _ (T8.setTop (mkF m 22 #[.val (.long qp), .second, .val (.int po), .val (.int pl), .val (.ref b1), .unset, .unset, .unset, .unset, .unset, .unset, .unset, .unset, .unset] [(.int ((((qp.toUInt64 >>> ((8 : Int32) &&& 0x3f).toInt64.toUInt64).toInt64).toInt32).toInt8.toInt32)), (.int (1 : Int32)), (.ref b1)]))
  generalize hqu22 : ((((qp.toUInt64 >>> ((8 : Int32) &&& 0x3f).toInt64.toUInt64).toInt64).toInt32).toInt8.toInt32) = u22
  show Go p.tables e below _ (T8.setTop (mkF m 22 #[.val (.long qp), .second, .val (.int po), .val (.int pl), .val (.ref b1), .unset, .unset, .unset, .unset, .unset, .unset, .unset, .unset, .unset] [(.int u22), (.int (1 : Int32)), (.ref b1)]))
  obtain ⟨cl15, Ar15, q15, S15, M15, H15, G15⟩ := id F10
  have hin15 : ¬ ((1 : Int32) < 0 ∨ cl15.slots.size ≤ ((1 : Int32)).toNatClampNeg) := inb_of S15 ⟨by decide, by decide⟩
  obtain ⟨T15, h15, X15, e15, W15, st15⟩ := stB X8 hx hZ e8 Ar15 (j := (1 : Int32)) hin15 (g := (mkF m 22 #[.val (.long qp), .second, .val (.int po), .val (.int pl), .val (.ref b1), .unset, .unset, .unset, .unset, .unset, .unset, .unset, .unset, .unset] [(.int u22), (.int (1 : Int32)), (.ref b1)])) rfl rfl (hb hby at_22)
  rw [(show nar .byte u22 = u22 from (by rw [← hqu22]; exact own_narb _))] at W15
  refine Go.st st15 ?_
  have F16 : Old Z n0 h15 := F9.wr W15 ge2
  have F17 : Arv Z h15 b1 k1 .byte (8 : Int32) [(.int u12), (.int u22), (.int (0 : Int32)), (.int (0 : Int32)), (.int (0 : Int32)), (.int (0 : Int32)), (.int (0 : Int32)), (.int (0 : Int32))] (.int (0 : Int32)) := Arv.set Ar15 q15 S15 M15 H15 G15 (by have h_ : fits .byte (.int (nar .byte u22)) = true := fits_nar_byte u22; rw [(show nar .byte u22 = u22 from (by rw [← hqu22]; exact own_narb _))] at h_; exact h_) W15 1 rfl (Nat.le_of_ble_eq_true rfl)
  have F18 : Exa Z h15 b1 "[B" := F11.wr W15
  have K19 : Keep h0 h15 [] := K12.wr W15 (Or.inr sz3)
  have Z20 : n0 ≤ h15.size := Nat.le_trans Z13 (Nat.le_of_eq W15.size.symm)
  have N21 := Fr.snoc X15 N14 ge2
  show Go p.tables e below _ (T15.setTop (mkF m 23 #[.val (.long qp), .second, .val (.int po), .val (.int pl), .val (.ref b1), .unset, .unset, .unset, .unset, .unset, .unset, .unset, .unset, .unset] []))
  refine Go.st (fun _ k => XS.aload X15.here hx rfl (hb hby at_23) rfl rfl k) ?_
  show Go p.tables e below _ (T15.setTop (mkF m 25 #[.val (.long qp), .second, .val (.int po), .val (.int pl), .val (.ref b1), .unset, .unset, .unset, .unset, .unset, .unset, .unset, .unset, .unset] [(.ref b1)]))
  refine Go.st (fun _ k => XS.iconst X15.here hx rfl (hb hby at_25) k) ?_
  show Go p.tables e below _ (T15.setTop (mkF m 26 #[.val (.long qp), .second, .val (.int po), .val (.int pl), .val (.ref b1), .unset, .unset, .unset, .unset, .unset, .unset, .unset, .unset, .unset] [(.int (2 : Int32)), (.ref b1)]))
  refine Go.st (fun _ k => XS.lloadN X15.here hx rfl (hb hby at_26) rfl k) ?_
  show Go p.tables e below _ (T15.setTop (mkF m 27 #[.val (.long qp), .second, .val (.int po), .val (.int pl), .val (.ref b1), .unset, .unset, .unset, .unset, .unset, .unset, .unset, .unset, .unset] [(.long qp), (.int (2 : Int32)), (.ref b1)]))
  refine Go.st (fun _ k => XS.bipush X15.here hx rfl (hb hby at_27) k) ?_
  show Go p.tables e below _ (T15.setTop (mkF m 29 #[.val (.long qp), .second, .val (.int po), .val (.int pl), .val (.ref b1), .unset, .unset, .unset, .unset, .unset, .unset, .unset, .unset, .unset] [(.int (16 : Int32)), (.long qp), (.int (2 : Int32)), (.ref b1)]))
  refine Go.st (fun _ k => XS.lushr X15.here hx rfl (hb hby at_29) rfl k) ?_
  show Go p.tables e below _ (T15.setTop (mkF m 30 #[.val (.long qp), .second, .val (.int po), .val (.int pl), .val (.ref b1), .unset, .unset, .unset, .unset, .unset, .unset, .unset, .unset, .unset] [(.long ((qp.toUInt64 >>> ((16 : Int32) &&& 0x3f).toInt64.toUInt64).toInt64)), (.int (2 : Int32)), (.ref b1)]))
  refine Go.st (fun _ k => XS.l2i X15.here hx rfl (hb hby at_30) rfl k) ?_
  show Go p.tables e below _ (T15.setTop (mkF m 31 #[.val (.long qp), .second, .val (.int po), .val (.int pl), .val (.ref b1), .unset, .unset, .unset, .unset, .unset, .unset, .unset, .unset, .unset] [(.int (((qp.toUInt64 >>> ((16 : Int32) &&& 0x3f).toInt64.toUInt64).toInt64).toInt32)), (.int (2 : Int32)), (.ref b1)]))
  refine Go.st (fun _ k => XS.i2b X15.here hx rfl (hb hby at_31) rfl k) ?_
  show Go p.tables e below _ (T15.setTop (mkF m 32 #[.val (.long qp), .second, .val (.int po), .val (.int pl), .val (.ref b1), .unset, .unset, .unset, .unset, .unset, .unset, .unset, .unset, .unset] [(.int ((((qp.toUInt64 >>> ((16 : Int32) &&& 0x3f).toInt64.toUInt64).toInt64).toInt32).toInt8.toInt32)), (.int (2 : Int32)), (.ref b1)]))
  generalize hqu32 : ((((qp.toUInt64 >>> ((16 : Int32) &&& 0x3f).toInt64.toUInt64).toInt64).toInt32).toInt8.toInt32) = u32
  show Go p.tables e below _ (T15.setTop (mkF m 32 #[.val (.long qp), .second, .val (.int po), .val (.int pl), .val (.ref b1), .unset, .unset, .unset, .unset, .unset, .unset, .unset, .unset, .unset] [(.int u32), (.int (2 : Int32)), (.ref b1)]))
  obtain ⟨cl22, Ar22, q22, S22, M22, H22, G22⟩ := id F17
  have hin22 : ¬ ((2 : Int32) < 0 ∨ cl22.slots.size ≤ ((2 : Int32)).toNatClampNeg) := inb_of S22 ⟨by decide, by decide⟩
  obtain ⟨T22, h22, X22, e22, W22, st22⟩ := stB X15 hx hZ e15 Ar22 (j := (2 : Int32)) hin22 (g := (mkF m 32 #[.val (.long qp), .second, .val (.int po), .val (.int pl), .val (.ref b1), .unset, .unset, .unset, .unset, .unset, .unset, .unset, .unset, .unset] [(.int u32), (.int (2 : Int32)), (.ref b1)])) rfl rfl (hb hby at_32)
  rw [(show nar .byte u32 = u32 from (by rw [← hqu32]; exact own_narb _))] at W22
  refine Go.st st22 ?_
  have F23 : Old Z n0 h22 := F16.wr W22 ge2
  have F24 : Arv Z h22 b1 k1 .byte (8 : Int32) [(.int u12), (.int u22), (.int u32), (.int (0 : Int32)), (.int (0 : Int32)), (.int (0 : Int32)), (.int (0 : Int32)), (.int (0 : Int32))] (.int (0 : Int32)) := Arv.set Ar22 q22 S22 M22 H22 G22 (by have h_ : fits .byte (.int (nar .byte u32)) = true := fits_nar_byte u32; rw [(show nar .byte u32 = u32 from (by rw [← hqu32]; exact own_narb _))] at h_; exact h_) W22 2 rfl (Nat.le_of_ble_eq_true rfl)
  have F25 : Exa Z h22 b1 "[B" := F18.wr W22
  have K26 : Keep h0 h22 [] := K19.wr W22 (Or.inr sz3)
  have Z27 : n0 ≤ h22.size := Nat.le_trans Z20 (Nat.le_of_eq W22.size.symm)
  have N28 := Fr.snoc X22 N21 ge2
  show Go p.tables e below _ (T22.setTop (mkF m 33 #[.val (.long qp), .second, .val (.int po), .val (.int pl), .val (.ref b1), .unset, .unset, .unset, .unset, .unset, .unset, .unset, .unset, .unset] []))
  refine Go.st (fun _ k => XS.aload X22.here hx rfl (hb hby at_33) rfl rfl k) ?_
  show Go p.tables e below _ (T22.setTop (mkF m 35 #[.val (.long qp), .second, .val (.int po), .val (.int pl), .val (.ref b1), .unset, .unset, .unset, .unset, .unset, .unset, .unset, .unset, .unset] [(.ref b1)]))
  refine Go.st (fun _ k => XS.iconst X22.here hx rfl (hb hby at_35) k) ?_
  show Go p.tables e below _ (T22.setTop (mkF m 36 #[.val (.long qp), .second, .val (.int po), .val (.int pl), .val (.ref b1), .unset, .unset, .unset, .unset, .unset, .unset, .unset, .unset, .unset] [(.int (3 : Int32)), (.ref b1)]))
  refine Go.st (fun _ k => XS.lloadN X22.here hx rfl (hb hby at_36) rfl k) ?_
  show Go p.tables e below _ (T22.setTop (mkF m 37 #[.val (.long qp), .second, .val (.int po), .val (.int pl), .val (.ref b1), .unset, .unset, .unset, .unset, .unset, .unset, .unset, .unset, .unset] [(.long qp), (.int (3 : Int32)), (.ref b1)]))
  refine Go.st (fun _ k => XS.bipush X22.here hx rfl (hb hby at_37) k) ?_
  show Go p.tables e below _ (T22.setTop (mkF m 39 #[.val (.long qp), .second, .val (.int po), .val (.int pl), .val (.ref b1), .unset, .unset, .unset, .unset, .unset, .unset, .unset, .unset, .unset] [(.int (24 : Int32)), (.long qp), (.int (3 : Int32)), (.ref b1)]))
  refine Go.st (fun _ k => XS.lushr X22.here hx rfl (hb hby at_39) rfl k) ?_
  show Go p.tables e below _ (T22.setTop (mkF m 40 #[.val (.long qp), .second, .val (.int po), .val (.int pl), .val (.ref b1), .unset, .unset, .unset, .unset, .unset, .unset, .unset, .unset, .unset] [(.long ((qp.toUInt64 >>> ((24 : Int32) &&& 0x3f).toInt64.toUInt64).toInt64)), (.int (3 : Int32)), (.ref b1)]))
  refine Go.st (fun _ k => XS.l2i X22.here hx rfl (hb hby at_40) rfl k) ?_
  show Go p.tables e below _ (T22.setTop (mkF m 41 #[.val (.long qp), .second, .val (.int po), .val (.int pl), .val (.ref b1), .unset, .unset, .unset, .unset, .unset, .unset, .unset, .unset, .unset] [(.int (((qp.toUInt64 >>> ((24 : Int32) &&& 0x3f).toInt64.toUInt64).toInt64).toInt32)), (.int (3 : Int32)), (.ref b1)]))
  refine Go.st (fun _ k => XS.i2b X22.here hx rfl (hb hby at_41) rfl k) ?_
  show Go p.tables e below _ (T22.setTop (mkF m 42 #[.val (.long qp), .second, .val (.int po), .val (.int pl), .val (.ref b1), .unset, .unset, .unset, .unset, .unset, .unset, .unset, .unset, .unset] [(.int ((((qp.toUInt64 >>> ((24 : Int32) &&& 0x3f).toInt64.toUInt64).toInt64).toInt32).toInt8.toInt32)), (.int (3 : Int32)), (.ref b1)]))
  generalize hqu42 : ((((qp.toUInt64 >>> ((24 : Int32) &&& 0x3f).toInt64.toUInt64).toInt64).toInt32).toInt8.toInt32) = u42
  show Go p.tables e below _ (T22.setTop (mkF m 42 #[.val (.long qp), .second, .val (.int po), .val (.int pl), .val (.ref b1), .unset, .unset, .unset, .unset, .unset, .unset, .unset, .unset, .unset] [(.int u42), (.int (3 : Int32)), (.ref b1)]))
  obtain ⟨cl29, Ar29, q29, S29, M29, H29, G29⟩ := id F24
  have hin29 : ¬ ((3 : Int32) < 0 ∨ cl29.slots.size ≤ ((3 : Int32)).toNatClampNeg) := inb_of S29 ⟨by decide, by decide⟩
  obtain ⟨T29, h29, X29, e29, W29, st29⟩ := stB X22 hx hZ e22 Ar29 (j := (3 : Int32)) hin29 (g := (mkF m 42 #[.val (.long qp), .second, .val (.int po), .val (.int pl), .val (.ref b1), .unset, .unset, .unset, .unset, .unset, .unset, .unset, .unset, .unset] [(.int u42), (.int (3 : Int32)), (.ref b1)])) rfl rfl (hb hby at_42)
  rw [(show nar .byte u42 = u42 from (by rw [← hqu42]; exact own_narb _))] at W29
  refine Go.st st29 ?_
  have F30 : Old Z n0 h29 := F23.wr W29 ge2
  have F31 : Arv Z h29 b1 k1 .byte (8 : Int32) [(.int u12), (.int u22), (.int u32), (.int u42), (.int (0 : Int32)), (.int (0 : Int32)), (.int (0 : Int32)), (.int (0 : Int32))] (.int (0 : Int32)) := Arv.set Ar29 q29 S29 M29 H29 G29 (by have h_ : fits .byte (.int (nar .byte u42)) = true := fits_nar_byte u42; rw [(show nar .byte u42 = u42 from (by rw [← hqu42]; exact own_narb _))] at h_; exact h_) W29 3 rfl (Nat.le_of_ble_eq_true rfl)
  have F32 : Exa Z h29 b1 "[B" := F25.wr W29
  have K33 : Keep h0 h29 [] := K26.wr W29 (Or.inr sz3)
  have Z34 : n0 ≤ h29.size := Nat.le_trans Z27 (Nat.le_of_eq W29.size.symm)
  have N35 := Fr.snoc X29 N28 ge2
  show Go p.tables e below _ (T29.setTop (mkF m 43 #[.val (.long qp), .second, .val (.int po), .val (.int pl), .val (.ref b1), .unset, .unset, .unset, .unset, .unset, .unset, .unset, .unset, .unset] []))
  refine Go.st (fun _ k => XS.aload X29.here hx rfl (hb hby at_43) rfl rfl k) ?_
  show Go p.tables e below _ (T29.setTop (mkF m 45 #[.val (.long qp), .second, .val (.int po), .val (.int pl), .val (.ref b1), .unset, .unset, .unset, .unset, .unset, .unset, .unset, .unset, .unset] [(.ref b1)]))
  refine Go.st (fun _ k => XS.iconst X29.here hx rfl (hb hby at_45) k) ?_
  show Go p.tables e below _ (T29.setTop (mkF m 46 #[.val (.long qp), .second, .val (.int po), .val (.int pl), .val (.ref b1), .unset, .unset, .unset, .unset, .unset, .unset, .unset, .unset, .unset] [(.int (4 : Int32)), (.ref b1)]))
  refine Go.st (fun _ k => XS.lloadN X29.here hx rfl (hb hby at_46) rfl k) ?_
  show Go p.tables e below _ (T29.setTop (mkF m 47 #[.val (.long qp), .second, .val (.int po), .val (.int pl), .val (.ref b1), .unset, .unset, .unset, .unset, .unset, .unset, .unset, .unset, .unset] [(.long qp), (.int (4 : Int32)), (.ref b1)]))
  refine Go.st (fun _ k => XS.bipush X29.here hx rfl (hb hby at_47) k) ?_
  show Go p.tables e below _ (T29.setTop (mkF m 49 #[.val (.long qp), .second, .val (.int po), .val (.int pl), .val (.ref b1), .unset, .unset, .unset, .unset, .unset, .unset, .unset, .unset, .unset] [(.int (32 : Int32)), (.long qp), (.int (4 : Int32)), (.ref b1)]))
  refine Go.st (fun _ k => XS.lushr X29.here hx rfl (hb hby at_49) rfl k) ?_
  show Go p.tables e below _ (T29.setTop (mkF m 50 #[.val (.long qp), .second, .val (.int po), .val (.int pl), .val (.ref b1), .unset, .unset, .unset, .unset, .unset, .unset, .unset, .unset, .unset] [(.long ((qp.toUInt64 >>> ((32 : Int32) &&& 0x3f).toInt64.toUInt64).toInt64)), (.int (4 : Int32)), (.ref b1)]))
  refine Go.st (fun _ k => XS.l2i X29.here hx rfl (hb hby at_50) rfl k) ?_
  show Go p.tables e below _ (T29.setTop (mkF m 51 #[.val (.long qp), .second, .val (.int po), .val (.int pl), .val (.ref b1), .unset, .unset, .unset, .unset, .unset, .unset, .unset, .unset, .unset] [(.int (((qp.toUInt64 >>> ((32 : Int32) &&& 0x3f).toInt64.toUInt64).toInt64).toInt32)), (.int (4 : Int32)), (.ref b1)]))
  refine Go.st (fun _ k => XS.i2b X29.here hx rfl (hb hby at_51) rfl k) ?_
  show Go p.tables e below _ (T29.setTop (mkF m 52 #[.val (.long qp), .second, .val (.int po), .val (.int pl), .val (.ref b1), .unset, .unset, .unset, .unset, .unset, .unset, .unset, .unset, .unset] [(.int ((((qp.toUInt64 >>> ((32 : Int32) &&& 0x3f).toInt64.toUInt64).toInt64).toInt32).toInt8.toInt32)), (.int (4 : Int32)), (.ref b1)]))
  generalize hqu52 : ((((qp.toUInt64 >>> ((32 : Int32) &&& 0x3f).toInt64.toUInt64).toInt64).toInt32).toInt8.toInt32) = u52
  show Go p.tables e below _ (T29.setTop (mkF m 52 #[.val (.long qp), .second, .val (.int po), .val (.int pl), .val (.ref b1), .unset, .unset, .unset, .unset, .unset, .unset, .unset, .unset, .unset] [(.int u52), (.int (4 : Int32)), (.ref b1)]))
  obtain ⟨cl36, Ar36, q36, S36, M36, H36, G36⟩ := id F31
  have hin36 : ¬ ((4 : Int32) < 0 ∨ cl36.slots.size ≤ ((4 : Int32)).toNatClampNeg) := inb_of S36 ⟨by decide, by decide⟩
  obtain ⟨T36, h36, X36, e36, W36, st36⟩ := stB X29 hx hZ e29 Ar36 (j := (4 : Int32)) hin36 (g := (mkF m 52 #[.val (.long qp), .second, .val (.int po), .val (.int pl), .val (.ref b1), .unset, .unset, .unset, .unset, .unset, .unset, .unset, .unset, .unset] [(.int u52), (.int (4 : Int32)), (.ref b1)])) rfl rfl (hb hby at_52)
  rw [(show nar .byte u52 = u52 from (by rw [← hqu52]; exact own_narb _))] at W36
  refine Go.st st36 ?_
  have F37 : Old Z n0 h36 := F30.wr W36 ge2
  have F38 : Arv Z h36 b1 k1 .byte (8 : Int32) [(.int u12), (.int u22), (.int u32), (.int u42), (.int u52), (.int (0 : Int32)), (.int (0 : Int32)), (.int (0 : Int32))] (.int (0 : Int32)) := Arv.set Ar36 q36 S36 M36 H36 G36 (by have h_ : fits .byte (.int (nar .byte u52)) = true := fits_nar_byte u52; rw [(show nar .byte u52 = u52 from (by rw [← hqu52]; exact own_narb _))] at h_; exact h_) W36 4 rfl (Nat.le_of_ble_eq_true rfl)
  have F39 : Exa Z h36 b1 "[B" := F32.wr W36
  have K40 : Keep h0 h36 [] := K33.wr W36 (Or.inr sz3)
  have Z41 : n0 ≤ h36.size := Nat.le_trans Z34 (Nat.le_of_eq W36.size.symm)
  have N42 := Fr.snoc X36 N35 ge2
  show Go p.tables e below _ (T36.setTop (mkF m 53 #[.val (.long qp), .second, .val (.int po), .val (.int pl), .val (.ref b1), .unset, .unset, .unset, .unset, .unset, .unset, .unset, .unset, .unset] []))
  refine Go.st (fun _ k => XS.aload X36.here hx rfl (hb hby at_53) rfl rfl k) ?_
  show Go p.tables e below _ (T36.setTop (mkF m 55 #[.val (.long qp), .second, .val (.int po), .val (.int pl), .val (.ref b1), .unset, .unset, .unset, .unset, .unset, .unset, .unset, .unset, .unset] [(.ref b1)]))
  refine Go.st (fun _ k => XS.iconst X36.here hx rfl (hb hby at_55) k) ?_
  show Go p.tables e below _ (T36.setTop (mkF m 56 #[.val (.long qp), .second, .val (.int po), .val (.int pl), .val (.ref b1), .unset, .unset, .unset, .unset, .unset, .unset, .unset, .unset, .unset] [(.int (5 : Int32)), (.ref b1)]))
  refine Go.st (fun _ k => XS.lloadN X36.here hx rfl (hb hby at_56) rfl k) ?_
  show Go p.tables e below _ (T36.setTop (mkF m 57 #[.val (.long qp), .second, .val (.int po), .val (.int pl), .val (.ref b1), .unset, .unset, .unset, .unset, .unset, .unset, .unset, .unset, .unset] [(.long qp), (.int (5 : Int32)), (.ref b1)]))
  refine Go.st (fun _ k => XS.bipush X36.here hx rfl (hb hby at_57) k) ?_
  show Go p.tables e below _ (T36.setTop (mkF m 59 #[.val (.long qp), .second, .val (.int po), .val (.int pl), .val (.ref b1), .unset, .unset, .unset, .unset, .unset, .unset, .unset, .unset, .unset] [(.int (40 : Int32)), (.long qp), (.int (5 : Int32)), (.ref b1)]))
  refine Go.st (fun _ k => XS.lushr X36.here hx rfl (hb hby at_59) rfl k) ?_
  show Go p.tables e below _ (T36.setTop (mkF m 60 #[.val (.long qp), .second, .val (.int po), .val (.int pl), .val (.ref b1), .unset, .unset, .unset, .unset, .unset, .unset, .unset, .unset, .unset] [(.long ((qp.toUInt64 >>> ((40 : Int32) &&& 0x3f).toInt64.toUInt64).toInt64)), (.int (5 : Int32)), (.ref b1)]))
  refine Go.st (fun _ k => XS.l2i X36.here hx rfl (hb hby at_60) rfl k) ?_
  show Go p.tables e below _ (T36.setTop (mkF m 61 #[.val (.long qp), .second, .val (.int po), .val (.int pl), .val (.ref b1), .unset, .unset, .unset, .unset, .unset, .unset, .unset, .unset, .unset] [(.int (((qp.toUInt64 >>> ((40 : Int32) &&& 0x3f).toInt64.toUInt64).toInt64).toInt32)), (.int (5 : Int32)), (.ref b1)]))
  refine Go.st (fun _ k => XS.i2b X36.here hx rfl (hb hby at_61) rfl k) ?_
  show Go p.tables e below _ (T36.setTop (mkF m 62 #[.val (.long qp), .second, .val (.int po), .val (.int pl), .val (.ref b1), .unset, .unset, .unset, .unset, .unset, .unset, .unset, .unset, .unset] [(.int ((((qp.toUInt64 >>> ((40 : Int32) &&& 0x3f).toInt64.toUInt64).toInt64).toInt32).toInt8.toInt32)), (.int (5 : Int32)), (.ref b1)]))
  generalize hqu62 : ((((qp.toUInt64 >>> ((40 : Int32) &&& 0x3f).toInt64.toUInt64).toInt64).toInt32).toInt8.toInt32) = u62
  show Go p.tables e below _ (T36.setTop (mkF m 62 #[.val (.long qp), .second, .val (.int po), .val (.int pl), .val (.ref b1), .unset, .unset, .unset, .unset, .unset, .unset, .unset, .unset, .unset] [(.int u62), (.int (5 : Int32)), (.ref b1)]))
  obtain ⟨cl43, Ar43, q43, S43, M43, H43, G43⟩ := id F38
  have hin43 : ¬ ((5 : Int32) < 0 ∨ cl43.slots.size ≤ ((5 : Int32)).toNatClampNeg) := inb_of S43 ⟨by decide, by decide⟩
  obtain ⟨T43, h43, X43, e43, W43, st43⟩ := stB X36 hx hZ e36 Ar43 (j := (5 : Int32)) hin43 (g := (mkF m 62 #[.val (.long qp), .second, .val (.int po), .val (.int pl), .val (.ref b1), .unset, .unset, .unset, .unset, .unset, .unset, .unset, .unset, .unset] [(.int u62), (.int (5 : Int32)), (.ref b1)])) rfl rfl (hb hby at_62)
  rw [(show nar .byte u62 = u62 from (by rw [← hqu62]; exact own_narb _))] at W43
  refine Go.st st43 ?_
  have F44 : Old Z n0 h43 := F37.wr W43 ge2
  have F45 : Arv Z h43 b1 k1 .byte (8 : Int32) [(.int u12), (.int u22), (.int u32), (.int u42), (.int u52), (.int u62), (.int (0 : Int32)), (.int (0 : Int32))] (.int (0 : Int32)) := Arv.set Ar43 q43 S43 M43 H43 G43 (by have h_ : fits .byte (.int (nar .byte u62)) = true := fits_nar_byte u62; rw [(show nar .byte u62 = u62 from (by rw [← hqu62]; exact own_narb _))] at h_; exact h_) W43 5 rfl (Nat.le_of_ble_eq_true rfl)
  have F46 : Exa Z h43 b1 "[B" := F39.wr W43
  have K47 : Keep h0 h43 [] := K40.wr W43 (Or.inr sz3)
  have Z48 : n0 ≤ h43.size := Nat.le_trans Z41 (Nat.le_of_eq W43.size.symm)
  have N49 := Fr.snoc X43 N42 ge2
  show Go p.tables e below _ (T43.setTop (mkF m 63 #[.val (.long qp), .second, .val (.int po), .val (.int pl), .val (.ref b1), .unset, .unset, .unset, .unset, .unset, .unset, .unset, .unset, .unset] []))
  refine Go.st (fun _ k => XS.aload X43.here hx rfl (hb hby at_63) rfl rfl k) ?_
  show Go p.tables e below _ (T43.setTop (mkF m 65 #[.val (.long qp), .second, .val (.int po), .val (.int pl), .val (.ref b1), .unset, .unset, .unset, .unset, .unset, .unset, .unset, .unset, .unset] [(.ref b1)]))
  refine Go.st (fun _ k => XS.bipush X43.here hx rfl (hb hby at_65) k) ?_
  show Go p.tables e below _ (T43.setTop (mkF m 67 #[.val (.long qp), .second, .val (.int po), .val (.int pl), .val (.ref b1), .unset, .unset, .unset, .unset, .unset, .unset, .unset, .unset, .unset] [(.int (6 : Int32)), (.ref b1)]))
  refine Go.st (fun _ k => XS.lloadN X43.here hx rfl (hb hby at_67) rfl k) ?_
  show Go p.tables e below _ (T43.setTop (mkF m 68 #[.val (.long qp), .second, .val (.int po), .val (.int pl), .val (.ref b1), .unset, .unset, .unset, .unset, .unset, .unset, .unset, .unset, .unset] [(.long qp), (.int (6 : Int32)), (.ref b1)]))
  refine Go.st (fun _ k => XS.bipush X43.here hx rfl (hb hby at_68) k) ?_
  show Go p.tables e below _ (T43.setTop (mkF m 70 #[.val (.long qp), .second, .val (.int po), .val (.int pl), .val (.ref b1), .unset, .unset, .unset, .unset, .unset, .unset, .unset, .unset, .unset] [(.int (48 : Int32)), (.long qp), (.int (6 : Int32)), (.ref b1)]))
  refine Go.st (fun _ k => XS.lushr X43.here hx rfl (hb hby at_70) rfl k) ?_
  show Go p.tables e below _ (T43.setTop (mkF m 71 #[.val (.long qp), .second, .val (.int po), .val (.int pl), .val (.ref b1), .unset, .unset, .unset, .unset, .unset, .unset, .unset, .unset, .unset] [(.long ((qp.toUInt64 >>> ((48 : Int32) &&& 0x3f).toInt64.toUInt64).toInt64)), (.int (6 : Int32)), (.ref b1)]))
  refine Go.st (fun _ k => XS.l2i X43.here hx rfl (hb hby at_71) rfl k) ?_
  show Go p.tables e below _ (T43.setTop (mkF m 72 #[.val (.long qp), .second, .val (.int po), .val (.int pl), .val (.ref b1), .unset, .unset, .unset, .unset, .unset, .unset, .unset, .unset, .unset] [(.int (((qp.toUInt64 >>> ((48 : Int32) &&& 0x3f).toInt64.toUInt64).toInt64).toInt32)), (.int (6 : Int32)), (.ref b1)]))
  refine Go.st (fun _ k => XS.i2b X43.here hx rfl (hb hby at_72) rfl k) ?_
  show Go p.tables e below _ (T43.setTop (mkF m 73 #[.val (.long qp), .second, .val (.int po), .val (.int pl), .val (.ref b1), .unset, .unset, .unset, .unset, .unset, .unset, .unset, .unset, .unset] [(.int ((((qp.toUInt64 >>> ((48 : Int32) &&& 0x3f).toInt64.toUInt64).toInt64).toInt32).toInt8.toInt32)), (.int (6 : Int32)), (.ref b1)]))
  generalize hqu73 : ((((qp.toUInt64 >>> ((48 : Int32) &&& 0x3f).toInt64.toUInt64).toInt64).toInt32).toInt8.toInt32) = u73
  show Go p.tables e below _ (T43.setTop (mkF m 73 #[.val (.long qp), .second, .val (.int po), .val (.int pl), .val (.ref b1), .unset, .unset, .unset, .unset, .unset, .unset, .unset, .unset, .unset] [(.int u73), (.int (6 : Int32)), (.ref b1)]))
  obtain ⟨cl50, Ar50, q50, S50, M50, H50, G50⟩ := id F45
  have hin50 : ¬ ((6 : Int32) < 0 ∨ cl50.slots.size ≤ ((6 : Int32)).toNatClampNeg) := inb_of S50 ⟨by decide, by decide⟩
  obtain ⟨T50, h50, X50, e50, W50, st50⟩ := stB X43 hx hZ e43 Ar50 (j := (6 : Int32)) hin50 (g := (mkF m 73 #[.val (.long qp), .second, .val (.int po), .val (.int pl), .val (.ref b1), .unset, .unset, .unset, .unset, .unset, .unset, .unset, .unset, .unset] [(.int u73), (.int (6 : Int32)), (.ref b1)])) rfl rfl (hb hby at_73)
  rw [(show nar .byte u73 = u73 from (by rw [← hqu73]; exact own_narb _))] at W50
  refine Go.st st50 ?_
  have F51 : Old Z n0 h50 := F44.wr W50 ge2
  have F52 : Arv Z h50 b1 k1 .byte (8 : Int32) [(.int u12), (.int u22), (.int u32), (.int u42), (.int u52), (.int u62), (.int u73), (.int (0 : Int32))] (.int (0 : Int32)) := Arv.set Ar50 q50 S50 M50 H50 G50 (by have h_ : fits .byte (.int (nar .byte u73)) = true := fits_nar_byte u73; rw [(show nar .byte u73 = u73 from (by rw [← hqu73]; exact own_narb _))] at h_; exact h_) W50 6 rfl (Nat.le_of_ble_eq_true rfl)
  have F53 : Exa Z h50 b1 "[B" := F46.wr W50
  have K54 : Keep h0 h50 [] := K47.wr W50 (Or.inr sz3)
  have Z55 : n0 ≤ h50.size := Nat.le_trans Z48 (Nat.le_of_eq W50.size.symm)
  have N56 := Fr.snoc X50 N49 ge2
  show Go p.tables e below _ (T50.setTop (mkF m 74 #[.val (.long qp), .second, .val (.int po), .val (.int pl), .val (.ref b1), .unset, .unset, .unset, .unset, .unset, .unset, .unset, .unset, .unset] []))
  refine Go.st (fun _ k => XS.aload X50.here hx rfl (hb hby at_74) rfl rfl k) ?_
  show Go p.tables e below _ (T50.setTop (mkF m 76 #[.val (.long qp), .second, .val (.int po), .val (.int pl), .val (.ref b1), .unset, .unset, .unset, .unset, .unset, .unset, .unset, .unset, .unset] [(.ref b1)]))
  refine Go.st (fun _ k => XS.bipush X50.here hx rfl (hb hby at_76) k) ?_
  show Go p.tables e below _ (T50.setTop (mkF m 78 #[.val (.long qp), .second, .val (.int po), .val (.int pl), .val (.ref b1), .unset, .unset, .unset, .unset, .unset, .unset, .unset, .unset, .unset] [(.int (7 : Int32)), (.ref b1)]))
  refine Go.st (fun _ k => XS.lloadN X50.here hx rfl (hb hby at_78) rfl k) ?_
  show Go p.tables e below _ (T50.setTop (mkF m 79 #[.val (.long qp), .second, .val (.int po), .val (.int pl), .val (.ref b1), .unset, .unset, .unset, .unset, .unset, .unset, .unset, .unset, .unset] [(.long qp), (.int (7 : Int32)), (.ref b1)]))
  refine Go.st (fun _ k => XS.bipush X50.here hx rfl (hb hby at_79) k) ?_
  show Go p.tables e below _ (T50.setTop (mkF m 81 #[.val (.long qp), .second, .val (.int po), .val (.int pl), .val (.ref b1), .unset, .unset, .unset, .unset, .unset, .unset, .unset, .unset, .unset] [(.int (56 : Int32)), (.long qp), (.int (7 : Int32)), (.ref b1)]))
  refine Go.st (fun _ k => XS.lushr X50.here hx rfl (hb hby at_81) rfl k) ?_
  show Go p.tables e below _ (T50.setTop (mkF m 82 #[.val (.long qp), .second, .val (.int po), .val (.int pl), .val (.ref b1), .unset, .unset, .unset, .unset, .unset, .unset, .unset, .unset, .unset] [(.long ((qp.toUInt64 >>> ((56 : Int32) &&& 0x3f).toInt64.toUInt64).toInt64)), (.int (7 : Int32)), (.ref b1)]))
  refine Go.st (fun _ k => XS.l2i X50.here hx rfl (hb hby at_82) rfl k) ?_
  show Go p.tables e below _ (T50.setTop (mkF m 83 #[.val (.long qp), .second, .val (.int po), .val (.int pl), .val (.ref b1), .unset, .unset, .unset, .unset, .unset, .unset, .unset, .unset, .unset] [(.int (((qp.toUInt64 >>> ((56 : Int32) &&& 0x3f).toInt64.toUInt64).toInt64).toInt32)), (.int (7 : Int32)), (.ref b1)]))
  refine Go.st (fun _ k => XS.i2b X50.here hx rfl (hb hby at_83) rfl k) ?_
  show Go p.tables e below _ (T50.setTop (mkF m 84 #[.val (.long qp), .second, .val (.int po), .val (.int pl), .val (.ref b1), .unset, .unset, .unset, .unset, .unset, .unset, .unset, .unset, .unset] [(.int ((((qp.toUInt64 >>> ((56 : Int32) &&& 0x3f).toInt64.toUInt64).toInt64).toInt32).toInt8.toInt32)), (.int (7 : Int32)), (.ref b1)]))
  generalize hqu84 : ((((qp.toUInt64 >>> ((56 : Int32) &&& 0x3f).toInt64.toUInt64).toInt64).toInt32).toInt8.toInt32) = u84
  show Go p.tables e below _ (T50.setTop (mkF m 84 #[.val (.long qp), .second, .val (.int po), .val (.int pl), .val (.ref b1), .unset, .unset, .unset, .unset, .unset, .unset, .unset, .unset, .unset] [(.int u84), (.int (7 : Int32)), (.ref b1)]))
  obtain ⟨cl57, Ar57, q57, S57, M57, H57, G57⟩ := id F52
  have hin57 : ¬ ((7 : Int32) < 0 ∨ cl57.slots.size ≤ ((7 : Int32)).toNatClampNeg) := inb_of S57 ⟨by decide, by decide⟩
  obtain ⟨T57, h57, X57, e57, W57, st57⟩ := stB X50 hx hZ e50 Ar57 (j := (7 : Int32)) hin57 (g := (mkF m 84 #[.val (.long qp), .second, .val (.int po), .val (.int pl), .val (.ref b1), .unset, .unset, .unset, .unset, .unset, .unset, .unset, .unset, .unset] [(.int u84), (.int (7 : Int32)), (.ref b1)])) rfl rfl (hb hby at_84)
  rw [(show nar .byte u84 = u84 from (by rw [← hqu84]; exact own_narb _))] at W57
  refine Go.st st57 ?_
  have F58 : Old Z n0 h57 := F51.wr W57 ge2
  have F59 : Arv Z h57 b1 k1 .byte (8 : Int32) [(.int u12), (.int u22), (.int u32), (.int u42), (.int u52), (.int u62), (.int u73), (.int u84)] (.int (0 : Int32)) := Arv.set Ar57 q57 S57 M57 H57 G57 (by have h_ : fits .byte (.int (nar .byte u84)) = true := fits_nar_byte u84; rw [(show nar .byte u84 = u84 from (by rw [← hqu84]; exact own_narb _))] at h_; exact h_) W57 7 rfl (Nat.le_of_ble_eq_true rfl)
  have F60 : Exa Z h57 b1 "[B" := F53.wr W57
  have K61 : Keep h0 h57 [] := K54.wr W57 (Or.inr sz3)
  have Z62 : n0 ≤ h57.size := Nat.le_trans Z55 (Nat.le_of_eq W57.size.symm)
  have N63 := Fr.snoc X57 N56 ge2
  show Go p.tables e below _ (T57.setTop (mkF m 85 #[.val (.long qp), .second, .val (.int po), .val (.int pl), .val (.ref b1), .unset, .unset, .unset, .unset, .unset, .unset, .unset, .unset, .unset] []))
  refine Go.st (fun _ k => XS.iloadN X57.here hx rfl (hb hby at_85) rfl k) ?_
  show Go p.tables e below _ (T57.setTop (mkF m 86 #[.val (.long qp), .second, .val (.int po), .val (.int pl), .val (.ref b1), .unset, .unset, .unset, .unset, .unset, .unset, .unset, .unset, .unset] [(.int po)]))
  refine Go.st (fun _ k => X57.ldcInt hx hown (mvT hZ (hw _ (List.mem_of_getElem? (i := 1) rfl))) (g := (mkF m 86 #[.val (.long qp), .second, .val (.int po), .val (.int pl), .val (.ref b1), .unset, .unset, .unset, .unset, .unset, .unset, .unset, .unset, .unset] [(.int po)])) rfl (hb hby at_86) _ k) ?_
  show Go p.tables e below _ (T57.setTop (mkF m 88 #[.val (.long qp), .second, .val (.int po), .val (.int pl), .val (.ref b1), .unset, .unset, .unset, .unset, .unset, .unset, .unset, .unset, .unset] [(.int (2147483647 : Int32)), (.int po)]))
  refine Go.st (fun _ k => XS.iand X57.here hx rfl (hb hby at_88) rfl k) ?_
  show Go p.tables e below _ (T57.setTop (mkF m 89 #[.val (.long qp), .second, .val (.int po), .val (.int pl), .val (.ref b1), .unset, .unset, .unset, .unset, .unset, .unset, .unset, .unset, .unset] [(.int (po &&& (2147483647 : Int32)))]))
  refine Go.st (fun _ k => XS.bipush X57.here hx rfl (hb hby at_89) k) ?_
  show Go p.tables e below _ (T57.setTop (mkF m 91 #[.val (.long qp), .second, .val (.int po), .val (.int pl), .val (.ref b1), .unset, .unset, .unset, .unset, .unset, .unset, .unset, .unset, .unset] [(.int (9 : Int32)), (.int (po &&& (2147483647 : Int32)))]))
  refine Go.st (fun _ k => iremM X57 hx rfl (hb hby at_91) rfl (by decide) k) ?_
  show Go p.tables e below _ (T57.setTop (mkF m 92 #[.val (.long qp), .second, .val (.int po), .val (.int pl), .val (.ref b1), .unset, .unset, .unset, .unset, .unset, .unset, .unset, .unset, .unset] [(.int ((po &&& (2147483647 : Int32)) % (9 : Int32)))]))
  refine Go.st (fun _ k => XS.istore X57.here hx rfl (hb hby at_92) rfl (l' := #[.val (.long qp), .second, .val (.int po), .val (.int pl), .val (.ref b1), .val (.int ((po &&& (2147483647 : Int32)) % (9 : Int32))), .unset, .unset, .unset, .unset, .unset, .unset, .unset, .unset]) rfl k) ?_
  show Go p.tables e below _ (T57.setTop (mkF m 94 #[.val (.long qp), .second, .val (.int po), .val (.int pl), .val (.ref b1), .val (.int ((po &&& (2147483647 : Int32)) % (9 : Int32))), .unset, .unset, .unset, .unset, .unset, .unset, .unset, .unset] []))
  generalize hqv92 : ((po &&& (2147483647 : Int32)) % (9 : Int32)) = v92
  show Go p.tables e below _ (T57.setTop (mkF m 94 #[.val (.long qp), .second, .val (.int po), .val (.int pl), .val (.ref b1), .val (.int v92), .unset, .unset, .unset, .unset, .unset, .unset, .unset, .unset] []))
  refine Go.st (fun _ k => XS.iloadN X57.here hx rfl (hb hby at_94) rfl k) ?_
  show Go p.tables e below _ (T57.setTop (mkF m 95 #[.val (.long qp), .second, .val (.int po), .val (.int pl), .val (.ref b1), .val (.int v92), .unset, .unset, .unset, .unset, .unset, .unset, .unset, .unset] [(.int pl)]))
  refine Go.st (fun _ k => X57.ldcInt hx hown (mvT hZ (hw _ (List.mem_of_getElem? (i := 1) rfl))) (g := (mkF m 95 #[.val (.long qp), .second, .val (.int po), .val (.int pl), .val (.ref b1), .val (.int v92), .unset, .unset, .unset, .unset, .unset, .unset, .unset, .unset] [(.int pl)])) rfl (hb hby at_95) _ k) ?_
  show Go p.tables e below _ (T57.setTop (mkF m 97 #[.val (.long qp), .second, .val (.int po), .val (.int pl), .val (.ref b1), .val (.int v92), .unset, .unset, .unset, .unset, .unset, .unset, .unset, .unset] [(.int (2147483647 : Int32)), (.int pl)]))
  refine Go.st (fun _ k => XS.iand X57.here hx rfl (hb hby at_97) rfl k) ?_
  show Go p.tables e below _ (T57.setTop (mkF m 98 #[.val (.long qp), .second, .val (.int po), .val (.int pl), .val (.ref b1), .val (.int v92), .unset, .unset, .unset, .unset, .unset, .unset, .unset, .unset] [(.int (pl &&& (2147483647 : Int32)))]))
  refine Go.st (fun _ k => XS.bipush X57.here hx rfl (hb hby at_98) k) ?_
  show Go p.tables e below _ (T57.setTop (mkF m 100 #[.val (.long qp), .second, .val (.int po), .val (.int pl), .val (.ref b1), .val (.int v92), .unset, .unset, .unset, .unset, .unset, .unset, .unset, .unset] [(.int (9 : Int32)), (.int (pl &&& (2147483647 : Int32)))]))
  refine Go.st (fun _ k => XS.iload X57.here hx rfl (hb hby at_100) rfl k) ?_
  show Go p.tables e below _ (T57.setTop (mkF m 102 #[.val (.long qp), .second, .val (.int po), .val (.int pl), .val (.ref b1), .val (.int v92), .unset, .unset, .unset, .unset, .unset, .unset, .unset, .unset] [(.int v92), (.int (9 : Int32)), (.int (pl &&& (2147483647 : Int32)))]))
  refine Go.st (fun _ k => XS.isub X57.here hx rfl (hb hby at_102) rfl k) ?_
  show Go p.tables e below _ (T57.setTop (mkF m 103 #[.val (.long qp), .second, .val (.int po), .val (.int pl), .val (.ref b1), .val (.int v92), .unset, .unset, .unset, .unset, .unset, .unset, .unset, .unset] [(.int ((9 : Int32) - v92)), (.int (pl &&& (2147483647 : Int32)))]))
  refine Go.st (fun _ k => iremM X57 hx rfl (hb hby at_103) rfl (own_nz (own_at hqv92)) k) ?_
  show Go p.tables e below _ (T57.setTop (mkF m 104 #[.val (.long qp), .second, .val (.int po), .val (.int pl), .val (.ref b1), .val (.int v92), .unset, .unset, .unset, .unset, .unset, .unset, .unset, .unset] [(.int ((pl &&& (2147483647 : Int32)) % ((9 : Int32) - v92)))]))
  refine Go.st (fun _ k => XS.istore X57.here hx rfl (hb hby at_104) rfl (l' := #[.val (.long qp), .second, .val (.int po), .val (.int pl), .val (.ref b1), .val (.int v92), .val (.int ((pl &&& (2147483647 : Int32)) % ((9 : Int32) - v92))), .unset, .unset, .unset, .unset, .unset, .unset, .unset]) rfl k) ?_
  show Go p.tables e below _ (T57.setTop (mkF m 106 #[.val (.long qp), .second, .val (.int po), .val (.int pl), .val (.ref b1), .val (.int v92), .val (.int ((pl &&& (2147483647 : Int32)) % ((9 : Int32) - v92))), .unset, .unset, .unset, .unset, .unset, .unset, .unset] []))
  generalize hqv104 : ((pl &&& (2147483647 : Int32)) % ((9 : Int32) - v92)) = v104
  show Go p.tables e below _ (T57.setTop (mkF m 106 #[.val (.long qp), .second, .val (.int po), .val (.int pl), .val (.ref b1), .val (.int v92), .val (.int v104), .unset, .unset, .unset, .unset, .unset, .unset, .unset] []))
  refine Go.st (fun _ k => XS.aload X57.here hx rfl (hb hby at_106) rfl rfl k) ?_
  show Go p.tables e below _ (T57.setTop (mkF m 108 #[.val (.long qp), .second, .val (.int po), .val (.int pl), .val (.ref b1), .val (.int v92), .val (.int v104), .unset, .unset, .unset, .unset, .unset, .unset, .unset] [(.ref b1)]))
  refine Go.st (fun _ k => XS.iload X57.here hx rfl (hb hby at_108) rfl k) ?_
  show Go p.tables e below _ (T57.setTop (mkF m 110 #[.val (.long qp), .second, .val (.int po), .val (.int pl), .val (.ref b1), .val (.int v92), .val (.int v104), .unset, .unset, .unset, .unset, .unset, .unset, .unset] [(.int v92), (.ref b1)]))
  refine Go.st (fun _ k => XS.iload X57.here hx rfl (hb hby at_110) rfl k) ?_
  show Go p.tables e below _ (T57.setTop (mkF m 112 #[.val (.long qp), .second, .val (.int po), .val (.int pl), .val (.ref b1), .val (.int v92), .val (.int v104), .unset, .unset, .unset, .unset, .unset, .unset, .unset] [(.int v104), (.int v92), (.ref b1)]))
  obtain ⟨_, _, ⟨T64, L64, k64, n64⟩, -, X64, ⟨Lc64, hQ64, l64, y64, z64⟩, st64⟩ := Jvm.LawKit.callS X57 hx (y := (⟨"com/example/gapmend/gapmend/CheckSum", "of", "([BII)Ljava/lang/String;"⟩ : MethodName)) hown (mvT hZ (hw _ (List.mem_of_getElem? (i := 2) rfl))) (mvT hZ (hw _ (List.mem_of_getElem? (i := 3) rfl))) (mvT hZ (hw _ (List.mem_of_getElem? (i := 4) rfl))) (mvT hZ (hw _ (List.mem_of_getElem? (i := 5) rfl))) (by decide) (backOf (W := 0) (rm_of l Z a0 hw [] b1 v92 v104 k1 ([u12, u22, u32, u42, u52, u62, u73, u84]) G1 h57 n0 Z62 F59 (by show 0 ≤ v92.toInt ∧ 0 ≤ v104.toInt ∧ v92.toInt + v104.toInt ≤ (8 : Int32).toInt; exact ⟨(own_at hqv92).1, own_wd (own_at hqv92) hqv104⟩) F58 (by show Sta Z Z.heap "java/lang/String" "COMPACT_STRINGS" "Z" (.int G1); exact O2) (by show ¬ (G1 = (0 : Int32)); exact P5)) hZ (hw _ (List.mem_of_getElem? (i := 5) rfl)) (hw _ (List.mem_of_getElem? (i := 4) rfl)) (by decide) (by decide)) (g := (mkF m 112 #[.val (.long qp), .second, .val (.int po), .val (.int pl), .val (.ref b1), .val (.int v92), .val (.int v104), .unset, .unset, .unset, .unset, .unset, .unset, .unset] [(.int v104), (.int v92), (.ref b1)])) rfl (by rw [hml]; rfl) (argsL := [(.ref b1), (.int v92), (.int v104)]) (rest := []) (lenOf pd_3 rfl) rfl (by show 2 * 0 + _ ≤ _; exact Nat.le_of_eq rfl) (hb hby at_112) (fun _ _ => ⟨rfl, e57, (by decide : 1 + 3 ≤ _), (by decide : 8 + 10 ≤ _)⟩)
  dsimp only [Pt.U, Pt.locs, Pt.cells, Pt.slots] at X64 l64 y64 z64 st64 hQ64
  rw [l64, y64, z64] at X64
  obtain ⟨b64_fr, b64_fb, x64_kb, x64_c0, x64_c1, x64_c2, rfl, N64q, K64q, g64_fr, s64_fr, g64_fb, s64_fb, Fq64_0, Fq64_1, Fq64_2, Fq64_3, pr64_hp, pr64_rel⟩ := hQ64
  have N64 := Fr.app N63 N64q
  refine Go.st st64 ?_
  have ne65 : b1 ≠ b64_fr := Nat.ne_of_lt (Nat.lt_of_lt_of_le F59.lt s64_fr)
  have sz66 : h0.size ≤ b64_fr := Nat.le_trans K61.1 s64_fr
  have ne67 : b1 ≠ b64_fb := Nat.ne_of_lt (Nat.lt_of_lt_of_le F59.lt s64_fb)
  have sz68 : h0.size ≤ b64_fb := Nat.le_trans K61.1 s64_fb
  have Z69 : n0 ≤ T64.heap.size := Nat.le_trans Z62 K64q.1
  have K70 : Keep h0 T64.heap [] := K61.trans K64q (fun z hz => absurd hz List.not_mem_nil)
  have F71 : Old Z n0 T64.heap := F58.keep K64q all0
  have F72 : Arv Z T64.heap b1 k1 .byte (8 : Int32) [(.int u12), (.int u22), (.int u32), (.int u42), (.int u52), (.int u62), (.int u73), (.int u84)] (.int (0 : Int32)) := F59.keep K64q List.not_mem_nil
  have F73 : Exa Z T64.heap b1 "[B" := F60.keep K64q
  show Go p.tables e below _ (T64.setTop (mkF m 115 #[.val (.long qp), .second, .val (.int po), .val (.int pl), .val (.ref b1), .val (.int v92), .val (.int v104), .unset, .unset, .unset, .unset, .unset, .unset, .unset] [(.ref b64_fr)]))
  have hat := own_at hqv92
  have hwd := own_wd hat hqv104
  have hrl := pr64_rel
  show Go p.tables e below _ (T64.setTop (mkF m 115 #[.val (.long qp), .second, .val (.int po), .val (.int pl), .val (.ref b1), .val (.int v92), .val (.int v104), .unset, .unset, .unset, .unset, .unset, .unset, .unset] [(.ref b64_fr)]))
  refine Go.st (fun _ k => XS.astore X64.here hx rfl (hb hby at_115) rfl rfl (l' := #[.val (.long qp), .second, .val (.int po), .val (.int pl), .val (.ref b1), .val (.int v92), .val (.int v104), .val (.ref b64_fr), .unset, .unset, .unset, .unset, .unset, .unset]) rfl k) ?_
  show Go p.tables e below _ (T64.setTop (mkF m 117 #[.val (.long qp), .second, .val (.int po), .val (.int pl), .val (.ref b1), .val (.int v92), .val (.int v104), .val (.ref b64_fr), .unset, .unset, .unset, .unset, .unset, .unset] []))
  show Go p.tables e below _ (T64.setTop (mkF m 117 #[.val (.long qp), .second, .val (.int po), .val (.int pl), .val (.ref b1), .val (.int v92), .val (.int v104), .val (.ref b64_fr), .unset, .unset, .unset, .unset, .unset, .unset] []))
  refine Go.st (fun _ k => XS.aload X64.here hx rfl (hb hby at_117) rfl rfl k) ?_
  show Go p.tables e below _ (T64.setTop (mkF m 119 #[.val (.long qp), .second, .val (.int po), .val (.int pl), .val (.ref b1), .val (.int v92), .val (.int v104), .val (.ref b64_fr), .unset, .unset, .unset, .unset, .unset, .unset] [(.ref b1)]))
  refine Go.st (fun _ k => XS.iconst X64.here hx rfl (hb hby at_119) k) ?_
  show Go p.tables e below _ (T64.setTop (mkF m 120 #[.val (.long qp), .second, .val (.int po), .val (.int pl), .val (.ref b1), .val (.int v92), .val (.int v104), .val (.ref b64_fr), .unset, .unset, .unset, .unset, .unset, .unset] [(.int (0 : Int32)), (.ref b1)]))
  refine Go.st (fun _ k => XS.iload X64.here hx rfl (hb hby at_120) rfl k) ?_
  show Go p.tables e below _ (T64.setTop (mkF m 122 #[.val (.long qp), .second, .val (.int po), .val (.int pl), .val (.ref b1), .val (.int v92), .val (.int v104), .val (.ref b64_fr), .unset, .unset, .unset, .unset, .unset, .unset] [(.int v92), (.int (0 : Int32)), (.ref b1)]))
  refine Go.st (fun _ k => XS.iload X64.here hx rfl (hb hby at_122) rfl k) ?_
  show Go p.tables e below _ (T64.setTop (mkF m 124 #[.val (.long qp), .second, .val (.int po), .val (.int pl), .val (.ref b1), .val (.int v92), .val (.int v104), .val (.ref b64_fr), .unset, .unset, .unset, .unset, .unset, .unset] [(.int v104), (.int v92), (.int (0 : Int32)), (.ref b1)]))
  obtain ⟨_, _, ⟨T74, L74, k74, n74⟩, -, X74, ⟨Lc74, hQ74, l74, y74, z74⟩, st74⟩ := Jvm.LawKit.callS X64 hx (y := (⟨"com/example/gapmend/gapmend/CheckSumOfPinLaw", "pick", "([BIII)I"⟩ : MethodName)) hown (mvT hZ (hw _ (List.mem_of_getElem? (i := 43) rfl))) (mvT hZ (hw _ (List.mem_of_getElem? (i := 44) rfl))) (mvT hZ (hw _ (List.mem_of_getElem? (i := 45) rfl))) (mvT hZ (hw _ (List.mem_of_getElem? (i := 46) rfl))) (by decide) (backOf (W := 0) (rm_pick l Z a0 hw [] b1 (0 : Int32) v92 v104 k1 ([u12, u22, u32, u42, u52, u62, u73, u84]) T64.heap n0 Z69 F72 (by show 0 ≤ (0 : Int32).toInt ∧ (0 : Int32).toInt < 8; exact by decide)) hZ (hw _ (List.mem_of_getElem? (i := 46) rfl)) (hw _ (List.mem_of_getElem? (i := 45) rfl)) (by decide) (by decide)) (g := (mkF m 124 #[.val (.long qp), .second, .val (.int po), .val (.int pl), .val (.ref b1), .val (.int v92), .val (.int v104), .val (.ref b64_fr), .unset, .unset, .unset, .unset, .unset, .unset] [(.int v104), (.int v92), (.int (0 : Int32)), (.ref b1)])) rfl (by rw [hml]; rfl) (argsL := [(.ref b1), (.int (0 : Int32)), (.int v92), (.int v104)]) (rest := []) (lenOf pd_4 rfl) rfl (by show 2 * 0 + _ ≤ _; exact Nat.le_of_eq rfl) (hb hby at_124) (fun _ _ => ⟨rfl, (rfl : T64.heap = T64.heap), (by decide : 4 + 0 ≤ _), (by decide : 18 + 0 ≤ _)⟩)
  dsimp only [Pt.U, Pt.locs, Pt.cells, Pt.slots] at X74 l74 y74 z74 st74 hQ74
  rw [l74, y74, z74] at X74
  obtain ⟨rfl, N74q, e74⟩ := hQ74
  have N74 := Fr.app N64 N74q
  refine Go.st st74 ?_
  show Go p.tables e below _ (T74.setTop (mkF m 127 #[.val (.long qp), .second, .val (.int po), .val (.int pl), .val (.ref b1), .val (.int v92), .val (.int v104), .val (.ref b64_fr), .unset, .unset, .unset, .unset, .unset, .unset] [(.int (pkF (0 : Int32) v92 v104 ([u12, u22, u32, u42, u52, u62, u73, u84].getD (0 : Int32).toNatClampNeg 0)))]))
  generalize hqp124 : (pkF (0 : Int32) v92 v104 ([u12, u22, u32, u42, u52, u62, u73, u84].getD (0 : Int32).toNatClampNeg 0)) = p124
  show Go p.tables e below _ (T74.setTop (mkF m 127 #[.val (.long qp), .second, .val (.int po), .val (.int pl), .val (.ref b1), .val (.int v92), .val (.int v104), .val (.ref b64_fr), .unset, .unset, .unset, .unset, .unset, .unset] [(.int p124)]))
  refine Go.st (fun _ k => XS.aload X74.here hx rfl (hb hby at_127) rfl rfl k) ?_
  show Go p.tables e below _ (T74.setTop (mkF m 129 #[.val (.long qp), .second, .val (.int po), .val (.int pl), .val (.ref b1), .val (.int v92), .val (.int v104), .val (.ref b64_fr), .unset, .unset, .unset, .unset, .unset, .unset] [(.ref b1), (.int p124)]))
  refine Go.st (fun _ k => XS.iconst X74.here hx rfl (hb hby at_129) k) ?_
  show Go p.tables e below _ (T74.setTop (mkF m 130 #[.val (.long qp), .second, .val (.int po), .val (.int pl), .val (.ref b1), .val (.int v92), .val (.int v104), .val (.ref b64_fr), .unset, .unset, .unset, .unset, .unset, .unset] [(.int (1 : Int32)), (.ref b1), (.int p124)]))
  refine Go.st (fun _ k => XS.iload X74.here hx rfl (hb hby at_130) rfl k) ?_
  show Go p.tables e below _ (T74.setTop (mkF m 132 #[.val (.long qp), .second, .val (.int po), .val (.int pl), .val (.ref b1), .val (.int v92), .val (.int v104), .val (.ref b64_fr), .unset, .unset, .unset, .unset, .unset, .unset] [(.int v92), (.int (1 : Int32)), (.ref b1), (.int p124)]))
  refine Go.st (fun _ k => XS.iload X74.here hx rfl (hb hby at_132) rfl k) ?_
  show Go p.tables e below _ (T74.setTop (mkF m 134 #[.val (.long qp), .second, .val (.int po), .val (.int pl), .val (.ref b1), .val (.int v92), .val (.int v104), .val (.ref b64_fr), .unset, .unset, .unset, .unset, .unset, .unset] [(.int v104), (.int v92), (.int (1 : Int32)), (.ref b1), (.int p124)]))
  obtain ⟨_, _, ⟨T75, L75, k75, n75⟩, -, X75, ⟨Lc75, hQ75, l75, y75, z75⟩, st75⟩ := Jvm.LawKit.callS X74 hx (y := (⟨"com/example/gapmend/gapmend/CheckSumOfPinLaw", "pick", "([BIII)I"⟩ : MethodName)) hown (mvT hZ (hw _ (List.mem_of_getElem? (i := 43) rfl))) (mvT hZ (hw _ (List.mem_of_getElem? (i := 44) rfl))) (mvT hZ (hw _ (List.mem_of_getElem? (i := 45) rfl))) (mvT hZ (hw _ (List.mem_of_getElem? (i := 46) rfl))) (by decide) (backOf (W := 1) (rm_pick l Z a0 hw [] b1 (1 : Int32) v92 v104 k1 ([u12, u22, u32, u42, u52, u62, u73, u84]) T64.heap n0 Z69 F72 (by show 0 ≤ (1 : Int32).toInt ∧ (1 : Int32).toInt < 8; exact by decide)) hZ (hw _ (List.mem_of_getElem? (i := 46) rfl)) (hw _ (List.mem_of_getElem? (i := 45) rfl)) (by decide) (by decide)) (g := (mkF m 134 #[.val (.long qp), .second, .val (.int po), .val (.int pl), .val (.ref b1), .val (.int v92), .val (.int v104), .val (.ref b64_fr), .unset, .unset, .unset, .unset, .unset, .unset] [(.int v104), (.int v92), (.int (1 : Int32)), (.ref b1), (.int p124)])) rfl (by rw [hml]; rfl) (argsL := [(.ref b1), (.int (1 : Int32)), (.int v92), (.int v104)]) (rest := [(.int p124)]) (lenOf pd_4 rfl) rfl (by show 2 * 0 + _ ≤ _; exact Nat.le_of_eq rfl) (hb hby at_134) (fun _ _ => ⟨rfl, e74, (by decide : 4 + 0 ≤ _), (by decide : 18 + 0 ≤ _)⟩)
  dsimp only [Pt.U, Pt.locs, Pt.cells, Pt.slots] at X75 l75 y75 z75 st75 hQ75
  rw [l75, y75, z75] at X75
  obtain ⟨rfl, N75q, e75⟩ := hQ75
  have N75 := Fr.app N74 N75q
  refine Go.st st75 ?_
  show Go p.tables e below _ (T75.setTop (mkF m 137 #[.val (.long qp), .second, .val (.int po), .val (.int pl), .val (.ref b1), .val (.int v92), .val (.int v104), .val (.ref b64_fr), .unset, .unset, .unset, .unset, .unset, .unset] [(.int (pkF (1 : Int32) v92 v104 ([u12, u22, u32, u42, u52, u62, u73, u84].getD (1 : Int32).toNatClampNeg 0))), (.int p124)]))
  generalize hqp134 : (pkF (1 : Int32) v92 v104 ([u12, u22, u32, u42, u52, u62, u73, u84].getD (1 : Int32).toNatClampNeg 0)) = p134
  show Go p.tables e below _ (T75.setTop (mkF m 137 #[.val (.long qp), .second, .val (.int po), .val (.int pl), .val (.ref b1), .val (.int v92), .val (.int v104), .val (.ref b64_fr), .unset, .unset, .unset, .unset, .unset, .unset] [(.int p134), (.int p124)]))
  refine Go.st (fun _ k => XS.iadd X75.here hx rfl (hb hby at_137) rfl k) ?_
  show Go p.tables e below _ (T75.setTop (mkF m 138 #[.val (.long qp), .second, .val (.int po), .val (.int pl), .val (.ref b1), .val (.int v92), .val (.int v104), .val (.ref b64_fr), .unset, .unset, .unset, .unset, .unset, .unset] [(.int (p124 + p134))]))
  refine Go.st (fun _ k => XS.aload X75.here hx rfl (hb hby at_138) rfl rfl k) ?_
  show Go p.tables e below _ (T75.setTop (mkF m 140 #[.val (.long qp), .second, .val (.int po), .val (.int pl), .val (.ref b1), .val (.int v92), .val (.int v104), .val (.ref b64_fr), .unset, .unset, .unset, .unset, .unset, .unset] [(.ref b1), (.int (p124 + p134))]))
  refine Go.st (fun _ k => XS.iconst X75.here hx rfl (hb hby at_140) k) ?_
  show Go p.tables e below _ (T75.setTop (mkF m 141 #[.val (.long qp), .second, .val (.int po), .val (.int pl), .val (.ref b1), .val (.int v92), .val (.int v104), .val (.ref b64_fr), .unset, .unset, .unset, .unset, .unset, .unset] [(.int (2 : Int32)), (.ref b1), (.int (p124 + p134))]))
  refine Go.st (fun _ k => XS.iload X75.here hx rfl (hb hby at_141) rfl k) ?_
  show Go p.tables e below _ (T75.setTop (mkF m 143 #[.val (.long qp), .second, .val (.int po), .val (.int pl), .val (.ref b1), .val (.int v92), .val (.int v104), .val (.ref b64_fr), .unset, .unset, .unset, .unset, .unset, .unset] [(.int v92), (.int (2 : Int32)), (.ref b1), (.int (p124 + p134))]))
  refine Go.st (fun _ k => XS.iload X75.here hx rfl (hb hby at_143) rfl k) ?_
  show Go p.tables e below _ (T75.setTop (mkF m 145 #[.val (.long qp), .second, .val (.int po), .val (.int pl), .val (.ref b1), .val (.int v92), .val (.int v104), .val (.ref b64_fr), .unset, .unset, .unset, .unset, .unset, .unset] [(.int v104), (.int v92), (.int (2 : Int32)), (.ref b1), (.int (p124 + p134))]))
  obtain ⟨_, _, ⟨T76, L76, k76, n76⟩, -, X76, ⟨Lc76, hQ76, l76, y76, z76⟩, st76⟩ := Jvm.LawKit.callS X75 hx (y := (⟨"com/example/gapmend/gapmend/CheckSumOfPinLaw", "pick", "([BIII)I"⟩ : MethodName)) hown (mvT hZ (hw _ (List.mem_of_getElem? (i := 43) rfl))) (mvT hZ (hw _ (List.mem_of_getElem? (i := 44) rfl))) (mvT hZ (hw _ (List.mem_of_getElem? (i := 45) rfl))) (mvT hZ (hw _ (List.mem_of_getElem? (i := 46) rfl))) (by decide) (backOf (W := 1) (rm_pick l Z a0 hw [] b1 (2 : Int32) v92 v104 k1 ([u12, u22, u32, u42, u52, u62, u73, u84]) T64.heap n0 Z69 F72 (by show 0 ≤ (2 : Int32).toInt ∧ (2 : Int32).toInt < 8; exact by decide)) hZ (hw _ (List.mem_of_getElem? (i := 46) rfl)) (hw _ (List.mem_of_getElem? (i := 45) rfl)) (by decide) (by decide)) (g := (mkF m 145 #[.val (.long qp), .second, .val (.int po), .val (.int pl), .val (.ref b1), .val (.int v92), .val (.int v104), .val (.ref b64_fr), .unset, .unset, .unset, .unset, .unset, .unset] [(.int v104), (.int v92), (.int (2 : Int32)), (.ref b1), (.int (p124 + p134))])) rfl (by rw [hml]; rfl) (argsL := [(.ref b1), (.int (2 : Int32)), (.int v92), (.int v104)]) (rest := [(.int (p124 + p134))]) (lenOf pd_4 rfl) rfl (by show 2 * 0 + _ ≤ _; exact Nat.le_of_eq rfl) (hb hby at_145) (fun _ _ => ⟨rfl, e75, (by decide : 4 + 0 ≤ _), (by decide : 18 + 0 ≤ _)⟩)
  dsimp only [Pt.U, Pt.locs, Pt.cells, Pt.slots] at X76 l76 y76 z76 st76 hQ76
  rw [l76, y76, z76] at X76
  obtain ⟨rfl, N76q, e76⟩ := hQ76
  have N76 := Fr.app N75 N76q
  refine Go.st st76 ?_
  show Go p.tables e below _ (T76.setTop (mkF m 148 #[.val (.long qp), .second, .val (.int po), .val (.int pl), .val (.ref b1), .val (.int v92), .val (.int v104), .val (.ref b64_fr), .unset, .unset, .unset, .unset, .unset, .unset] [(.int (pkF (2 : Int32) v92 v104 ([u12, u22, u32, u42, u52, u62, u73, u84].getD (2 : Int32).toNatClampNeg 0))), (.int (p124 + p134))]))
  generalize hqp145 : (pkF (2 : Int32) v92 v104 ([u12, u22, u32, u42, u52, u62, u73, u84].getD (2 : Int32).toNatClampNeg 0)) = p145
  show Go p.tables e below _ (T76.setTop (mkF m 148 #[.val (.long qp), .second, .val (.int po), .val (.int pl), .val (.ref b1), .val (.int v92), .val (.int v104), .val (.ref b64_fr), .unset, .unset, .unset, .unset, .unset, .unset] [(.int p145), (.int (p124 + p134))]))
  refine Go.st (fun _ k => XS.iadd X76.here hx rfl (hb hby at_148) rfl k) ?_
  show Go p.tables e below _ (T76.setTop (mkF m 149 #[.val (.long qp), .second, .val (.int po), .val (.int pl), .val (.ref b1), .val (.int v92), .val (.int v104), .val (.ref b64_fr), .unset, .unset, .unset, .unset, .unset, .unset] [(.int ((p124 + p134) + p145))]))
  refine Go.st (fun _ k => XS.aload X76.here hx rfl (hb hby at_149) rfl rfl k) ?_
  show Go p.tables e below _ (T76.setTop (mkF m 151 #[.val (.long qp), .second, .val (.int po), .val (.int pl), .val (.ref b1), .val (.int v92), .val (.int v104), .val (.ref b64_fr), .unset, .unset, .unset, .unset, .unset, .unset] [(.ref b1), (.int ((p124 + p134) + p145))]))
  refine Go.st (fun _ k => XS.iconst X76.here hx rfl (hb hby at_151) k) ?_
  show Go p.tables e below _ (T76.setTop (mkF m 152 #[.val (.long qp), .second, .val (.int po), .val (.int pl), .val (.ref b1), .val (.int v92), .val (.int v104), .val (.ref b64_fr), .unset, .unset, .unset, .unset, .unset, .unset] [(.int (3 : Int32)), (.ref b1), (.int ((p124 + p134) + p145))]))
  refine Go.st (fun _ k => XS.iload X76.here hx rfl (hb hby at_152) rfl k) ?_
  show Go p.tables e below _ (T76.setTop (mkF m 154 #[.val (.long qp), .second, .val (.int po), .val (.int pl), .val (.ref b1), .val (.int v92), .val (.int v104), .val (.ref b64_fr), .unset, .unset, .unset, .unset, .unset, .unset] [(.int v92), (.int (3 : Int32)), (.ref b1), (.int ((p124 + p134) + p145))]))
  refine Go.st (fun _ k => XS.iload X76.here hx rfl (hb hby at_154) rfl k) ?_
  show Go p.tables e below _ (T76.setTop (mkF m 156 #[.val (.long qp), .second, .val (.int po), .val (.int pl), .val (.ref b1), .val (.int v92), .val (.int v104), .val (.ref b64_fr), .unset, .unset, .unset, .unset, .unset, .unset] [(.int v104), (.int v92), (.int (3 : Int32)), (.ref b1), (.int ((p124 + p134) + p145))]))
  obtain ⟨_, _, ⟨T77, L77, k77, n77⟩, -, X77, ⟨Lc77, hQ77, l77, y77, z77⟩, st77⟩ := Jvm.LawKit.callS X76 hx (y := (⟨"com/example/gapmend/gapmend/CheckSumOfPinLaw", "pick", "([BIII)I"⟩ : MethodName)) hown (mvT hZ (hw _ (List.mem_of_getElem? (i := 43) rfl))) (mvT hZ (hw _ (List.mem_of_getElem? (i := 44) rfl))) (mvT hZ (hw _ (List.mem_of_getElem? (i := 45) rfl))) (mvT hZ (hw _ (List.mem_of_getElem? (i := 46) rfl))) (by decide) (backOf (W := 1) (rm_pick l Z a0 hw [] b1 (3 : Int32) v92 v104 k1 ([u12, u22, u32, u42, u52, u62, u73, u84]) T64.heap n0 Z69 F72 (by show 0 ≤ (3 : Int32).toInt ∧ (3 : Int32).toInt < 8; exact by decide)) hZ (hw _ (List.mem_of_getElem? (i := 46) rfl)) (hw _ (List.mem_of_getElem? (i := 45) rfl)) (by decide) (by decide)) (g := (mkF m 156 #[.val (.long qp), .second, .val (.int po), .val (.int pl), .val (.ref b1), .val (.int v92), .val (.int v104), .val (.ref b64_fr), .unset, .unset, .unset, .unset, .unset, .unset] [(.int v104), (.int v92), (.int (3 : Int32)), (.ref b1), (.int ((p124 + p134) + p145))])) rfl (by rw [hml]; rfl) (argsL := [(.ref b1), (.int (3 : Int32)), (.int v92), (.int v104)]) (rest := [(.int ((p124 + p134) + p145))]) (lenOf pd_4 rfl) rfl (by show 2 * 0 + _ ≤ _; exact Nat.le_of_eq rfl) (hb hby at_156) (fun _ _ => ⟨rfl, e76, (by decide : 4 + 0 ≤ _), (by decide : 18 + 0 ≤ _)⟩)
  dsimp only [Pt.U, Pt.locs, Pt.cells, Pt.slots] at X77 l77 y77 z77 st77 hQ77
  rw [l77, y77, z77] at X77
  obtain ⟨rfl, N77q, e77⟩ := hQ77
  have N77 := Fr.app N76 N77q
  refine Go.st st77 ?_
  show Go p.tables e below _ (T77.setTop (mkF m 159 #[.val (.long qp), .second, .val (.int po), .val (.int pl), .val (.ref b1), .val (.int v92), .val (.int v104), .val (.ref b64_fr), .unset, .unset, .unset, .unset, .unset, .unset] [(.int (pkF (3 : Int32) v92 v104 ([u12, u22, u32, u42, u52, u62, u73, u84].getD (3 : Int32).toNatClampNeg 0))), (.int ((p124 + p134) + p145))]))
  generalize hqp156 : (pkF (3 : Int32) v92 v104 ([u12, u22, u32, u42, u52, u62, u73, u84].getD (3 : Int32).toNatClampNeg 0)) = p156
  show Go p.tables e below _ (T77.setTop (mkF m 159 #[.val (.long qp), .second, .val (.int po), .val (.int pl), .val (.ref b1), .val (.int v92), .val (.int v104), .val (.ref b64_fr), .unset, .unset, .unset, .unset, .unset, .unset] [(.int p156), (.int ((p124 + p134) + p145))]))
  refine Go.st (fun _ k => XS.iadd X77.here hx rfl (hb hby at_159) rfl k) ?_
  show Go p.tables e below _ (T77.setTop (mkF m 160 #[.val (.long qp), .second, .val (.int po), .val (.int pl), .val (.ref b1), .val (.int v92), .val (.int v104), .val (.ref b64_fr), .unset, .unset, .unset, .unset, .unset, .unset] [(.int (((p124 + p134) + p145) + p156))]))
  refine Go.st (fun _ k => XS.aload X77.here hx rfl (hb hby at_160) rfl rfl k) ?_
  show Go p.tables e below _ (T77.setTop (mkF m 162 #[.val (.long qp), .second, .val (.int po), .val (.int pl), .val (.ref b1), .val (.int v92), .val (.int v104), .val (.ref b64_fr), .unset, .unset, .unset, .unset, .unset, .unset] [(.ref b1), (.int (((p124 + p134) + p145) + p156))]))
  refine Go.st (fun _ k => XS.iconst X77.here hx rfl (hb hby at_162) k) ?_
  show Go p.tables e below _ (T77.setTop (mkF m 163 #[.val (.long qp), .second, .val (.int po), .val (.int pl), .val (.ref b1), .val (.int v92), .val (.int v104), .val (.ref b64_fr), .unset, .unset, .unset, .unset, .unset, .unset] [(.int (4 : Int32)), (.ref b1), (.int (((p124 + p134) + p145) + p156))]))
  refine Go.st (fun _ k => XS.iload X77.here hx rfl (hb hby at_163) rfl k) ?_
  show Go p.tables e below _ (T77.setTop (mkF m 165 #[.val (.long qp), .second, .val (.int po), .val (.int pl), .val (.ref b1), .val (.int v92), .val (.int v104), .val (.ref b64_fr), .unset, .unset, .unset, .unset, .unset, .unset] [(.int v92), (.int (4 : Int32)), (.ref b1), (.int (((p124 + p134) + p145) + p156))]))
  refine Go.st (fun _ k => XS.iload X77.here hx rfl (hb hby at_165) rfl k) ?_
  show Go p.tables e below _ (T77.setTop (mkF m 167 #[.val (.long qp), .second, .val (.int po), .val (.int pl), .val (.ref b1), .val (.int v92), .val (.int v104), .val (.ref b64_fr), .unset, .unset, .unset, .unset, .unset, .unset] [(.int v104), (.int v92), (.int (4 : Int32)), (.ref b1), (.int (((p124 + p134) + p145) + p156))]))
  obtain ⟨_, _, ⟨T78, L78, k78, n78⟩, -, X78, ⟨Lc78, hQ78, l78, y78, z78⟩, st78⟩ := Jvm.LawKit.callS X77 hx (y := (⟨"com/example/gapmend/gapmend/CheckSumOfPinLaw", "pick", "([BIII)I"⟩ : MethodName)) hown (mvT hZ (hw _ (List.mem_of_getElem? (i := 43) rfl))) (mvT hZ (hw _ (List.mem_of_getElem? (i := 44) rfl))) (mvT hZ (hw _ (List.mem_of_getElem? (i := 45) rfl))) (mvT hZ (hw _ (List.mem_of_getElem? (i := 46) rfl))) (by decide) (backOf (W := 1) (rm_pick l Z a0 hw [] b1 (4 : Int32) v92 v104 k1 ([u12, u22, u32, u42, u52, u62, u73, u84]) T64.heap n0 Z69 F72 (by show 0 ≤ (4 : Int32).toInt ∧ (4 : Int32).toInt < 8; exact by decide)) hZ (hw _ (List.mem_of_getElem? (i := 46) rfl)) (hw _ (List.mem_of_getElem? (i := 45) rfl)) (by decide) (by decide)) (g := (mkF m 167 #[.val (.long qp), .second, .val (.int po), .val (.int pl), .val (.ref b1), .val (.int v92), .val (.int v104), .val (.ref b64_fr), .unset, .unset, .unset, .unset, .unset, .unset] [(.int v104), (.int v92), (.int (4 : Int32)), (.ref b1), (.int (((p124 + p134) + p145) + p156))])) rfl (by rw [hml]; rfl) (argsL := [(.ref b1), (.int (4 : Int32)), (.int v92), (.int v104)]) (rest := [(.int (((p124 + p134) + p145) + p156))]) (lenOf pd_4 rfl) rfl (by show 2 * 0 + _ ≤ _; exact Nat.le_of_eq rfl) (hb hby at_167) (fun _ _ => ⟨rfl, e77, (by decide : 4 + 0 ≤ _), (by decide : 18 + 0 ≤ _)⟩)
  dsimp only [Pt.U, Pt.locs, Pt.cells, Pt.slots] at X78 l78 y78 z78 st78 hQ78
  rw [l78, y78, z78] at X78
  obtain ⟨rfl, N78q, e78⟩ := hQ78
  have N78 := Fr.app N77 N78q
  refine Go.st st78 ?_
  show Go p.tables e below _ (T78.setTop (mkF m 170 #[.val (.long qp), .second, .val (.int po), .val (.int pl), .val (.ref b1), .val (.int v92), .val (.int v104), .val (.ref b64_fr), .unset, .unset, .unset, .unset, .unset, .unset] [(.int (pkF (4 : Int32) v92 v104 ([u12, u22, u32, u42, u52, u62, u73, u84].getD (4 : Int32).toNatClampNeg 0))), (.int (((p124 + p134) + p145) + p156))]))
  generalize hqp167 : (pkF (4 : Int32) v92 v104 ([u12, u22, u32, u42, u52, u62, u73, u84].getD (4 : Int32).toNatClampNeg 0)) = p167
  show Go p.tables e below _ (T78.setTop (mkF m 170 #[.val (.long qp), .second, .val (.int po), .val (.int pl), .val (.ref b1), .val (.int v92), .val (.int v104), .val (.ref b64_fr), .unset, .unset, .unset, .unset, .unset, .unset] [(.int p167), (.int (((p124 + p134) + p145) + p156))]))
  refine Go.st (fun _ k => XS.iadd X78.here hx rfl (hb hby at_170) rfl k) ?_
  show Go p.tables e below _ (T78.setTop (mkF m 171 #[.val (.long qp), .second, .val (.int po), .val (.int pl), .val (.ref b1), .val (.int v92), .val (.int v104), .val (.ref b64_fr), .unset, .unset, .unset, .unset, .unset, .unset] [(.int ((((p124 + p134) + p145) + p156) + p167))]))
  refine Go.st (fun _ k => XS.aload X78.here hx rfl (hb hby at_171) rfl rfl k) ?_
  show Go p.tables e below _ (T78.setTop (mkF m 173 #[.val (.long qp), .second, .val (.int po), .val (.int pl), .val (.ref b1), .val (.int v92), .val (.int v104), .val (.ref b64_fr), .unset, .unset, .unset, .unset, .unset, .unset] [(.ref b1), (.int ((((p124 + p134) + p145) + p156) + p167))]))
  refine Go.st (fun _ k => XS.iconst X78.here hx rfl (hb hby at_173) k) ?_
  show Go p.tables e below _ (T78.setTop (mkF m 174 #[.val (.long qp), .second, .val (.int po), .val (.int pl), .val (.ref b1), .val (.int v92), .val (.int v104), .val (.ref b64_fr), .unset, .unset, .unset, .unset, .unset, .unset] [(.int (5 : Int32)), (.ref b1), (.int ((((p124 + p134) + p145) + p156) + p167))]))
  refine Go.st (fun _ k => XS.iload X78.here hx rfl (hb hby at_174) rfl k) ?_
  show Go p.tables e below _ (T78.setTop (mkF m 176 #[.val (.long qp), .second, .val (.int po), .val (.int pl), .val (.ref b1), .val (.int v92), .val (.int v104), .val (.ref b64_fr), .unset, .unset, .unset, .unset, .unset, .unset] [(.int v92), (.int (5 : Int32)), (.ref b1), (.int ((((p124 + p134) + p145) + p156) + p167))]))
  refine Go.st (fun _ k => XS.iload X78.here hx rfl (hb hby at_176) rfl k) ?_
  show Go p.tables e below _ (T78.setTop (mkF m 178 #[.val (.long qp), .second, .val (.int po), .val (.int pl), .val (.ref b1), .val (.int v92), .val (.int v104), .val (.ref b64_fr), .unset, .unset, .unset, .unset, .unset, .unset] [(.int v104), (.int v92), (.int (5 : Int32)), (.ref b1), (.int ((((p124 + p134) + p145) + p156) + p167))]))
  obtain ⟨_, _, ⟨T79, L79, k79, n79⟩, -, X79, ⟨Lc79, hQ79, l79, y79, z79⟩, st79⟩ := Jvm.LawKit.callS X78 hx (y := (⟨"com/example/gapmend/gapmend/CheckSumOfPinLaw", "pick", "([BIII)I"⟩ : MethodName)) hown (mvT hZ (hw _ (List.mem_of_getElem? (i := 43) rfl))) (mvT hZ (hw _ (List.mem_of_getElem? (i := 44) rfl))) (mvT hZ (hw _ (List.mem_of_getElem? (i := 45) rfl))) (mvT hZ (hw _ (List.mem_of_getElem? (i := 46) rfl))) (by decide) (backOf (W := 1) (rm_pick l Z a0 hw [] b1 (5 : Int32) v92 v104 k1 ([u12, u22, u32, u42, u52, u62, u73, u84]) T64.heap n0 Z69 F72 (by show 0 ≤ (5 : Int32).toInt ∧ (5 : Int32).toInt < 8; exact by decide)) hZ (hw _ (List.mem_of_getElem? (i := 46) rfl)) (hw _ (List.mem_of_getElem? (i := 45) rfl)) (by decide) (by decide)) (g := (mkF m 178 #[.val (.long qp), .second, .val (.int po), .val (.int pl), .val (.ref b1), .val (.int v92), .val (.int v104), .val (.ref b64_fr), .unset, .unset, .unset, .unset, .unset, .unset] [(.int v104), (.int v92), (.int (5 : Int32)), (.ref b1), (.int ((((p124 + p134) + p145) + p156) + p167))])) rfl (by rw [hml]; rfl) (argsL := [(.ref b1), (.int (5 : Int32)), (.int v92), (.int v104)]) (rest := [(.int ((((p124 + p134) + p145) + p156) + p167))]) (lenOf pd_4 rfl) rfl (by show 2 * 0 + _ ≤ _; exact Nat.le_of_eq rfl) (hb hby at_178) (fun _ _ => ⟨rfl, e78, (by decide : 4 + 0 ≤ _), (by decide : 18 + 0 ≤ _)⟩)
  dsimp only [Pt.U, Pt.locs, Pt.cells, Pt.slots] at X79 l79 y79 z79 st79 hQ79
  rw [l79, y79, z79] at X79
  obtain ⟨rfl, N79q, e79⟩ := hQ79
  have N79 := Fr.app N78 N79q
  refine Go.st st79 ?_
  show Go p.tables e below _ (T79.setTop (mkF m 181 #[.val (.long qp), .second, .val (.int po), .val (.int pl), .val (.ref b1), .val (.int v92), .val (.int v104), .val (.ref b64_fr), .unset, .unset, .unset, .unset, .unset, .unset] [(.int (pkF (5 : Int32) v92 v104 ([u12, u22, u32, u42, u52, u62, u73, u84].getD (5 : Int32).toNatClampNeg 0))), (.int ((((p124 + p134) + p145) + p156) + p167))]))
  generalize hqp178 : (pkF (5 : Int32) v92 v104 ([u12, u22, u32, u42, u52, u62, u73, u84].getD (5 : Int32).toNatClampNeg 0)) = p178
  show Go p.tables e below _ (T79.setTop (mkF m 181 #[.val (.long qp), .second, .val (.int po), .val (.int pl), .val (.ref b1), .val (.int v92), .val (.int v104), .val (.ref b64_fr), .unset, .unset, .unset, .unset, .unset, .unset] [(.int p178), (.int ((((p124 + p134) + p145) + p156) + p167))]))
  refine Go.st (fun _ k => XS.iadd X79.here hx rfl (hb hby at_181) rfl k) ?_
  show Go p.tables e below _ (T79.setTop (mkF m 182 #[.val (.long qp), .second, .val (.int po), .val (.int pl), .val (.ref b1), .val (.int v92), .val (.int v104), .val (.ref b64_fr), .unset, .unset, .unset, .unset, .unset, .unset] [(.int (((((p124 + p134) + p145) + p156) + p167) + p178))]))
  refine Go.st (fun _ k => XS.aload X79.here hx rfl (hb hby at_182) rfl rfl k) ?_
  show Go p.tables e below _ (T79.setTop (mkF m 184 #[.val (.long qp), .second, .val (.int po), .val (.int pl), .val (.ref b1), .val (.int v92), .val (.int v104), .val (.ref b64_fr), .unset, .unset, .unset, .unset, .unset, .unset] [(.ref b1), (.int (((((p124 + p134) + p145) + p156) + p167) + p178))]))
  refine Go.st (fun _ k => XS.bipush X79.here hx rfl (hb hby at_184) k) ?_
  show Go p.tables e below _ (T79.setTop (mkF m 186 #[.val (.long qp), .second, .val (.int po), .val (.int pl), .val (.ref b1), .val (.int v92), .val (.int v104), .val (.ref b64_fr), .unset, .unset, .unset, .unset, .unset, .unset] [(.int (6 : Int32)), (.ref b1), (.int (((((p124 + p134) + p145) + p156) + p167) + p178))]))
  refine Go.st (fun _ k => XS.iload X79.here hx rfl (hb hby at_186) rfl k) ?_
  show Go p.tables e below _ (T79.setTop (mkF m 188 #[.val (.long qp), .second, .val (.int po), .val (.int pl), .val (.ref b1), .val (.int v92), .val (.int v104), .val (.ref b64_fr), .unset, .unset, .unset, .unset, .unset, .unset] [(.int v92), (.int (6 : Int32)), (.ref b1), (.int (((((p124 + p134) + p145) + p156) + p167) + p178))]))
  refine Go.st (fun _ k => XS.iload X79.here hx rfl (hb hby at_188) rfl k) ?_
  show Go p.tables e below _ (T79.setTop (mkF m 190 #[.val (.long qp), .second, .val (.int po), .val (.int pl), .val (.ref b1), .val (.int v92), .val (.int v104), .val (.ref b64_fr), .unset, .unset, .unset, .unset, .unset, .unset] [(.int v104), (.int v92), (.int (6 : Int32)), (.ref b1), (.int (((((p124 + p134) + p145) + p156) + p167) + p178))]))
  obtain ⟨_, _, ⟨T80, L80, k80, n80⟩, -, X80, ⟨Lc80, hQ80, l80, y80, z80⟩, st80⟩ := Jvm.LawKit.callS X79 hx (y := (⟨"com/example/gapmend/gapmend/CheckSumOfPinLaw", "pick", "([BIII)I"⟩ : MethodName)) hown (mvT hZ (hw _ (List.mem_of_getElem? (i := 43) rfl))) (mvT hZ (hw _ (List.mem_of_getElem? (i := 44) rfl))) (mvT hZ (hw _ (List.mem_of_getElem? (i := 45) rfl))) (mvT hZ (hw _ (List.mem_of_getElem? (i := 46) rfl))) (by decide) (backOf (W := 1) (rm_pick l Z a0 hw [] b1 (6 : Int32) v92 v104 k1 ([u12, u22, u32, u42, u52, u62, u73, u84]) T64.heap n0 Z69 F72 (by show 0 ≤ (6 : Int32).toInt ∧ (6 : Int32).toInt < 8; exact by decide)) hZ (hw _ (List.mem_of_getElem? (i := 46) rfl)) (hw _ (List.mem_of_getElem? (i := 45) rfl)) (by decide) (by decide)) (g := (mkF m 190 #[.val (.long qp), .second, .val (.int po), .val (.int pl), .val (.ref b1), .val (.int v92), .val (.int v104), .val (.ref b64_fr), .unset, .unset, .unset, .unset, .unset, .unset] [(.int v104), (.int v92), (.int (6 : Int32)), (.ref b1), (.int (((((p124 + p134) + p145) + p156) + p167) + p178))])) rfl (by rw [hml]; rfl) (argsL := [(.ref b1), (.int (6 : Int32)), (.int v92), (.int v104)]) (rest := [(.int (((((p124 + p134) + p145) + p156) + p167) + p178))]) (lenOf pd_4 rfl) rfl (by show 2 * 0 + _ ≤ _; exact Nat.le_of_eq rfl) (hb hby at_190) (fun _ _ => ⟨rfl, e79, (by decide : 4 + 0 ≤ _), (by decide : 18 + 0 ≤ _)⟩)
  dsimp only [Pt.U, Pt.locs, Pt.cells, Pt.slots] at X80 l80 y80 z80 st80 hQ80
  rw [l80, y80, z80] at X80
  obtain ⟨rfl, N80q, e80⟩ := hQ80
  have N80 := Fr.app N79 N80q
  refine Go.st st80 ?_
  show Go p.tables e below _ (T80.setTop (mkF m 193 #[.val (.long qp), .second, .val (.int po), .val (.int pl), .val (.ref b1), .val (.int v92), .val (.int v104), .val (.ref b64_fr), .unset, .unset, .unset, .unset, .unset, .unset] [(.int (pkF (6 : Int32) v92 v104 ([u12, u22, u32, u42, u52, u62, u73, u84].getD (6 : Int32).toNatClampNeg 0))), (.int (((((p124 + p134) + p145) + p156) + p167) + p178))]))
  generalize hqp190 : (pkF (6 : Int32) v92 v104 ([u12, u22, u32, u42, u52, u62, u73, u84].getD (6 : Int32).toNatClampNeg 0)) = p190
  show Go p.tables e below _ (T80.setTop (mkF m 193 #[.val (.long qp), .second, .val (.int po), .val (.int pl), .val (.ref b1), .val (.int v92), .val (.int v104), .val (.ref b64_fr), .unset, .unset, .unset, .unset, .unset, .unset] [(.int p190), (.int (((((p124 + p134) + p145) + p156) + p167) + p178))]))
  refine Go.st (fun _ k => XS.iadd X80.here hx rfl (hb hby at_193) rfl k) ?_
  show Go p.tables e below _ (T80.setTop (mkF m 194 #[.val (.long qp), .second, .val (.int po), .val (.int pl), .val (.ref b1), .val (.int v92), .val (.int v104), .val (.ref b64_fr), .unset, .unset, .unset, .unset, .unset, .unset] [(.int ((((((p124 + p134) + p145) + p156) + p167) + p178) + p190))]))
  refine Go.st (fun _ k => XS.aload X80.here hx rfl (hb hby at_194) rfl rfl k) ?_
  show Go p.tables e below _ (T80.setTop (mkF m 196 #[.val (.long qp), .second, .val (.int po), .val (.int pl), .val (.ref b1), .val (.int v92), .val (.int v104), .val (.ref b64_fr), .unset, .unset, .unset, .unset, .unset, .unset] [(.ref b1), (.int ((((((p124 + p134) + p145) + p156) + p167) + p178) + p190))]))
  refine Go.st (fun _ k => XS.bipush X80.here hx rfl (hb hby at_196) k) ?_
  show Go p.tables e below _ (T80.setTop (mkF m 198 #[.val (.long qp), .second, .val (.int po), .val (.int pl), .val (.ref b1), .val (.int v92), .val (.int v104), .val (.ref b64_fr), .unset, .unset, .unset, .unset, .unset, .unset] [(.int (7 : Int32)), (.ref b1), (.int ((((((p124 + p134) + p145) + p156) + p167) + p178) + p190))]))
  refine Go.st (fun _ k => XS.iload X80.here hx rfl (hb hby at_198) rfl k) ?_
  show Go p.tables e below _ (T80.setTop (mkF m 200 #[.val (.long qp), .second, .val (.int po), .val (.int pl), .val (.ref b1), .val (.int v92), .val (.int v104), .val (.ref b64_fr), .unset, .unset, .unset, .unset, .unset, .unset] [(.int v92), (.int (7 : Int32)), (.ref b1), (.int ((((((p124 + p134) + p145) + p156) + p167) + p178) + p190))]))
  refine Go.st (fun _ k => XS.iload X80.here hx rfl (hb hby at_200) rfl k) ?_
  show Go p.tables e below _ (T80.setTop (mkF m 202 #[.val (.long qp), .second, .val (.int po), .val (.int pl), .val (.ref b1), .val (.int v92), .val (.int v104), .val (.ref b64_fr), .unset, .unset, .unset, .unset, .unset, .unset] [(.int v104), (.int v92), (.int (7 : Int32)), (.ref b1), (.int ((((((p124 + p134) + p145) + p156) + p167) + p178) + p190))]))
  obtain ⟨_, _, ⟨T81, L81, k81, n81⟩, -, X81, ⟨Lc81, hQ81, l81, y81, z81⟩, st81⟩ := Jvm.LawKit.callS X80 hx (y := (⟨"com/example/gapmend/gapmend/CheckSumOfPinLaw", "pick", "([BIII)I"⟩ : MethodName)) hown (mvT hZ (hw _ (List.mem_of_getElem? (i := 43) rfl))) (mvT hZ (hw _ (List.mem_of_getElem? (i := 44) rfl))) (mvT hZ (hw _ (List.mem_of_getElem? (i := 45) rfl))) (mvT hZ (hw _ (List.mem_of_getElem? (i := 46) rfl))) (by decide) (backOf (W := 1) (rm_pick l Z a0 hw [] b1 (7 : Int32) v92 v104 k1 ([u12, u22, u32, u42, u52, u62, u73, u84]) T64.heap n0 Z69 F72 (by show 0 ≤ (7 : Int32).toInt ∧ (7 : Int32).toInt < 8; exact by decide)) hZ (hw _ (List.mem_of_getElem? (i := 46) rfl)) (hw _ (List.mem_of_getElem? (i := 45) rfl)) (by decide) (by decide)) (g := (mkF m 202 #[.val (.long qp), .second, .val (.int po), .val (.int pl), .val (.ref b1), .val (.int v92), .val (.int v104), .val (.ref b64_fr), .unset, .unset, .unset, .unset, .unset, .unset] [(.int v104), (.int v92), (.int (7 : Int32)), (.ref b1), (.int ((((((p124 + p134) + p145) + p156) + p167) + p178) + p190))])) rfl (by rw [hml]; rfl) (argsL := [(.ref b1), (.int (7 : Int32)), (.int v92), (.int v104)]) (rest := [(.int ((((((p124 + p134) + p145) + p156) + p167) + p178) + p190))]) (lenOf pd_4 rfl) rfl (by show 2 * 0 + _ ≤ _; exact Nat.le_of_eq rfl) (hb hby at_202) (fun _ _ => ⟨rfl, e80, (by decide : 4 + 0 ≤ _), (by decide : 18 + 0 ≤ _)⟩)
  dsimp only [Pt.U, Pt.locs, Pt.cells, Pt.slots] at X81 l81 y81 z81 st81 hQ81
  rw [l81, y81, z81] at X81
  obtain ⟨rfl, N81q, e81⟩ := hQ81
  have N81 := Fr.app N80 N81q
  refine Go.st st81 ?_
  show Go p.tables e below _ (T81.setTop (mkF m 205 #[.val (.long qp), .second, .val (.int po), .val (.int pl), .val (.ref b1), .val (.int v92), .val (.int v104), .val (.ref b64_fr), .unset, .unset, .unset, .unset, .unset, .unset] [(.int (pkF (7 : Int32) v92 v104 ([u12, u22, u32, u42, u52, u62, u73, u84].getD (7 : Int32).toNatClampNeg 0))), (.int ((((((p124 + p134) + p145) + p156) + p167) + p178) + p190))]))
  generalize hqp202 : (pkF (7 : Int32) v92 v104 ([u12, u22, u32, u42, u52, u62, u73, u84].getD (7 : Int32).toNatClampNeg 0)) = p202
  show Go p.tables e below _ (T81.setTop (mkF m 205 #[.val (.long qp), .second, .val (.int po), .val (.int pl), .val (.ref b1), .val (.int v92), .val (.int v104), .val (.ref b64_fr), .unset, .unset, .unset, .unset, .unset, .unset] [(.int p202), (.int ((((((p124 + p134) + p145) + p156) + p167) + p178) + p190))]))
  refine Go.st (fun _ k => XS.iadd X81.here hx rfl (hb hby at_205) rfl k) ?_
  show Go p.tables e below _ (T81.setTop (mkF m 206 #[.val (.long qp), .second, .val (.int po), .val (.int pl), .val (.ref b1), .val (.int v92), .val (.int v104), .val (.ref b64_fr), .unset, .unset, .unset, .unset, .unset, .unset] [(.int (((((((p124 + p134) + p145) + p156) + p167) + p178) + p190) + p202))]))
  refine Go.st (fun _ k => XS.istore X81.here hx rfl (hb hby at_206) rfl (l' := #[.val (.long qp), .second, .val (.int po), .val (.int pl), .val (.ref b1), .val (.int v92), .val (.int v104), .val (.ref b64_fr), .val (.int (((((((p124 + p134) + p145) + p156) + p167) + p178) + p190) + p202)), .unset, .unset, .unset, .unset, .unset]) rfl k) ?_
  show Go p.tables e below _ (T81.setTop (mkF m 208 #[.val (.long qp), .second, .val (.int po), .val (.int pl), .val (.ref b1), .val (.int v92), .val (.int v104), .val (.ref b64_fr), .val (.int (((((((p124 + p134) + p145) + p156) + p167) + p178) + p190) + p202)), .unset, .unset, .unset, .unset, .unset] []))
  generalize hqv206 : (((((((p124 + p134) + p145) + p156) + p167) + p178) + p190) + p202) = v206
  show Go p.tables e below _ (T81.setTop (mkF m 208 #[.val (.long qp), .second, .val (.int po), .val (.int pl), .val (.ref b1), .val (.int v92), .val (.int v104), .val (.ref b64_fr), .val (.int v206), .unset, .unset, .unset, .unset, .unset] []))
  refine Go.st (fun _ k => XS.iload X81.here hx rfl (hb hby at_208) rfl k) ?_
  show Go p.tables e below _ (T81.setTop (mkF m 210 #[.val (.long qp), .second, .val (.int po), .val (.int pl), .val (.ref b1), .val (.int v92), .val (.int v104), .val (.ref b64_fr), .val (.int v206), .unset, .unset, .unset, .unset, .unset] [(.int v206)]))
  refine Go.st (fun _ k => XS.sipush X81.here hx rfl (hb hby at_210) k) ?_
  show Go p.tables e below _ (T81.setTop (mkF m 213 #[.val (.long qp), .second, .val (.int po), .val (.int pl), .val (.ref b1), .val (.int v92), .val (.int v104), .val (.ref b64_fr), .val (.int v206), .unset, .unset, .unset, .unset, .unset] [(.int (256 : Int32)), (.int v206)]))
  refine Go.st (fun _ k => iremM X81 hx rfl (hb hby at_213) rfl (by decide) k) ?_
  show Go p.tables e below _ (T81.setTop (mkF m 214 #[.val (.long qp), .second, .val (.int po), .val (.int pl), .val (.ref b1), .val (.int v92), .val (.int v104), .val (.ref b64_fr), .val (.int v206), .unset, .unset, .unset, .unset, .unset] [(.int (v206 % (256 : Int32)))]))
  refine Go.st (fun _ k => XS.istore X81.here hx rfl (hb hby at_214) rfl (l' := #[.val (.long qp), .second, .val (.int po), .val (.int pl), .val (.ref b1), .val (.int v92), .val (.int v104), .val (.ref b64_fr), .val (.int v206), .val (.int (v206 % (256 : Int32))), .unset, .unset, .unset, .unset]) rfl k) ?_
  show Go p.tables e below _ (T81.setTop (mkF m 216 #[.val (.long qp), .second, .val (.int po), .val (.int pl), .val (.ref b1), .val (.int v92), .val (.int v104), .val (.ref b64_fr), .val (.int v206), .val (.int (v206 % (256 : Int32))), .unset, .unset, .unset, .unset] []))
  generalize hqv214 : (v206 % (256 : Int32)) = v214
  show Go p.tables e below _ (T81.setTop (mkF m 216 #[.val (.long qp), .second, .val (.int po), .val (.int pl), .val (.ref b1), .val (.int v92), .val (.int v104), .val (.ref b64_fr), .val (.int v206), .val (.int v214), .unset, .unset, .unset, .unset] []))
  refine Go.st (fun _ k => XS.aload X81.here hx rfl (hb hby at_216) rfl rfl k) ?_
  show Go p.tables e below _ (T81.setTop (mkF m 218 #[.val (.long qp), .second, .val (.int po), .val (.int pl), .val (.ref b1), .val (.int v92), .val (.int v104), .val (.ref b64_fr), .val (.int v206), .val (.int v214), .unset, .unset, .unset, .unset] [(.ref b64_fr)]))
  refine Go.st (fun _ k => XS.ifnullNo X81.here hx rfl (hb hby at_218) rfl k) ?_
  show Go p.tables e below _ (T81.setTop (mkF m 221 #[.val (.long qp), .second, .val (.int po), .val (.int pl), .val (.ref b1), .val (.int v92), .val (.int v104), .val (.ref b64_fr), .val (.int v206), .val (.int v214), .unset, .unset, .unset, .unset] []))
  refine Go.st (fun _ k => XS.aload X81.here hx rfl (hb hby at_221) rfl rfl k) ?_
  show Go p.tables e below _ (T81.setTop (mkF m 223 #[.val (.long qp), .second, .val (.int po), .val (.int pl), .val (.ref b1), .val (.int v92), .val (.int v104), .val (.ref b64_fr), .val (.int v206), .val (.int v214), .unset, .unset, .unset, .unset] [(.ref b64_fr)]))
  have hcd83 : StrChars.Road.CodA ([x64_c0, x64_c1, x64_c2] : List Int32) 0 (3 : Int32) ((([x64_c0, x64_c1, x64_c2] : List Int32).map (fun c => c.toInt8.toInt32)).map Value.int) := StrChars.Road.codOf (n := 3) rfl (fun x hx => (pr64_hp x hx).2)
  have hbd83 : ∀ x ∈ ([x64_c0, x64_c1, x64_c2] : List Int32), ¬ x < 0 ∧ ¬ (65535 : Int32) < x := own_up _ pr64_hp
  obtain ⟨cq82, kq82, q82a, q82b, q82c⟩ := isOf hZ e81 Fq64_0
  obtain ⟨_, _, ⟨T82, L82, k82, n82⟩, -, X82, ⟨Lc82, hQ82, l82, y82, z82⟩, st82⟩ := X81.virtualBack hx (y := (⟨"java/lang/String", "length", "()I"⟩ : MethodName)) (z := (⟨"java/lang/String", "length", "()I"⟩ : MethodName)) hown (mvT hZ (hw _ (List.mem_of_getElem? (i := 47) rfl))) (mvT hZ (hw _ (List.mem_of_getElem? (i := 48) rfl))) (notFace_of_selects (args := #[]) (mvT hZ (hw _ (List.mem_of_getElem? (i := 50) rfl)))) (mvT hZ (hw _ (List.mem_of_getElem? (i := 50) rfl))) (mvT hZ (hw _ (List.mem_of_getElem? (i := 49) rfl))) (by decide) (StrChars.Road.lenW (W := 0) hZ (fun d hd => hw d (own_wordsLen d hd)) (kI := 4) (hw _ (List.mem_of_getElem? (i := 15) rfl)) Fq64_0 Fq64_2 Fq64_1 Fq64_3 hcd83 hbd83 (O2.ext F71.2) P5 (Nat.le_of_ble_eq_true rfl) (by decide) (by decide)) q82a q82c (g := (mkF m 223 #[.val (.long qp), .second, .val (.int po), .val (.int pl), .val (.ref b1), .val (.int v92), .val (.int v104), .val (.ref b64_fr), .val (.int v206), .val (.int v214), .unset, .unset, .unset, .unset] [(.ref b64_fr)])) rfl (by rw [hml]; rfl) (Steps.refl _) (argsL := []) (rest := []) (lenOf pd_5 rfl) rfl (by show 2 * 0 + _ ≤ _; exact Nat.le_of_eq rfl) (hb hby at_223) (fun _ _ => ⟨rfl, e81, (by decide : 4 + 0 ≤ _), (by decide : 18 + 0 ≤ _)⟩)
  dsimp only [Pt.U, Pt.locs, Pt.cells, Pt.slots] at X82 l82 y82 z82 st82 hQ82
  rw [l82, y82, z82] at X82
  obtain ⟨rfl, rfl, e82⟩ := hQ82
  have N82 := Fr.app N81 (Fr.nil n0)
  refine Go.st (fun _ k => st82.trans k) ?_
  show Go p.tables e below _ (T82.setTop (mkF m 226 #[.val (.long qp), .second, .val (.int po), .val (.int pl), .val (.ref b1), .val (.int v92), .val (.int v104), .val (.ref b64_fr), .val (.int v206), .val (.int v214), .unset, .unset, .unset, .unset] [(.int (3 : Int32))]))
  refine Go.st (fun _ k => XS.iconst X82.here hx rfl (hb hby at_226) k) ?_
  show Go p.tables e below _ (T82.setTop (mkF m 227 #[.val (.long qp), .second, .val (.int po), .val (.int pl), .val (.ref b1), .val (.int v92), .val (.int v104), .val (.ref b64_fr), .val (.int v206), .val (.int v214), .unset, .unset, .unset, .unset] [(.int (3 : Int32)), (.int (3 : Int32))]))
  have hl84 : (3 : Int32) = (3 : Int32) := by decide
  refine Go.st (fun _ k => XS.icmpYes X82.here hx rfl (pc0 := 227) (pc' := 232) rfl (hb hby at_227) rfl (Jvm.Free.XT.ii_eq_t hl84) (by decide) (by decide) k) ?_
  show Go p.tables e below _ (T82.setTop (mkF m 232 #[.val (.long qp), .second, .val (.int po), .val (.int pl), .val (.ref b1), .val (.int v92), .val (.int v104), .val (.ref b64_fr), .val (.int v206), .val (.int v214), .unset, .unset, .unset, .unset] []))
  refine Go.st (fun _ k => XS.aload X82.here hx rfl (hb hby at_232) rfl rfl k) ?_
  show Go p.tables e below _ (T82.setTop (mkF m 234 #[.val (.long qp), .second, .val (.int po), .val (.int pl), .val (.ref b1), .val (.int v92), .val (.int v104), .val (.ref b64_fr), .val (.int v206), .val (.int v214), .unset, .unset, .unset, .unset] [(.ref b64_fr)]))
  refine Go.st (fun _ k => XS.iconst X82.here hx rfl (hb hby at_234) k) ?_
  show Go p.tables e below _ (T82.setTop (mkF m 235 #[.val (.long qp), .second, .val (.int po), .val (.int pl), .val (.ref b1), .val (.int v92), .val (.int v104), .val (.ref b64_fr), .val (.int v206), .val (.int v214), .unset, .unset, .unset, .unset] [(.int (0 : Int32)), (.ref b64_fr)]))
  obtain ⟨cq85, kq85, q85a, q85b, q85c⟩ := isOf hZ e82 Fq64_0
  obtain ⟨_, _, ⟨T85, L85, k85, n85⟩, -, X85, ⟨Lc85, hQ85, l85, y85, z85⟩, st85⟩ := X82.virtualBack hx (y := (⟨"java/lang/String", "charAt", "(I)C"⟩ : MethodName)) (z := (⟨"java/lang/String", "charAt", "(I)C"⟩ : MethodName)) hown (mvT hZ (hw _ (List.mem_of_getElem? (i := 57) rfl))) (mvT hZ (hw _ (List.mem_of_getElem? (i := 58) rfl))) (notFace_of_selects (args := #[]) (mvT hZ (hw _ (List.mem_of_getElem? (i := 60) rfl)))) (mvT hZ (hw _ (List.mem_of_getElem? (i := 60) rfl))) (mvT hZ (hw _ (List.mem_of_getElem? (i := 59) rfl))) (by decide) (StrChars.Road.chN (W := 0) hZ (fun d hd => hw d (own_wordsChN d hd)) (kI := 4) (hw _ (List.mem_of_getElem? (i := 15) rfl)) Fq64_0 Fq64_2 Fq64_1 Fq64_3 hcd83 hbd83 (O2.ext F71.2) P5 (O4.ext F71.2) rG3 (Nat.le_of_ble_eq_true rfl) (i := 0) (Nat.le_of_ble_eq_true rfl) (j := 0) rfl (by decide) (by decide)) q85a q85c (g := (mkF m 235 #[.val (.long qp), .second, .val (.int po), .val (.int pl), .val (.ref b1), .val (.int v92), .val (.int v104), .val (.ref b64_fr), .val (.int v206), .val (.int v214), .unset, .unset, .unset, .unset] [(.int (0 : Int32)), (.ref b64_fr)])) rfl (by rw [hml]; rfl) (Steps.refl _) (argsL := [(.int (0 : Int32))]) (rest := []) (lenOf pd_6 rfl) rfl (by show 2 * 0 + _ ≤ _; exact Nat.le_of_eq rfl) (hb hby at_235) (fun _ _ => ⟨rfl, e82, (by decide : 4 + 0 ≤ _), (by decide : 18 + 0 ≤ _)⟩)
  dsimp only [Pt.U, Pt.locs, Pt.cells, Pt.slots] at X85 l85 y85 z85 st85 hQ85
  rw [l85, y85, z85] at X85
  obtain ⟨rfl, rfl, e85⟩ := hQ85
  have N85 := Fr.app N82 (Fr.nil n0)
  refine Go.st (fun _ k => st85.trans k) ?_
  show Go p.tables e below _ (T85.setTop (mkF m 238 #[.val (.long qp), .second, .val (.int po), .val (.int pl), .val (.ref b1), .val (.int v92), .val (.int v104), .val (.ref b64_fr), .val (.int v206), .val (.int v214), .unset, .unset, .unset, .unset] [(.int x64_c0)]))
  refine Go.st (fun _ k => XS.istore X85.here hx rfl (hb hby at_238) rfl (l' := #[.val (.long qp), .second, .val (.int po), .val (.int pl), .val (.ref b1), .val (.int v92), .val (.int v104), .val (.ref b64_fr), .val (.int v206), .val (.int v214), .val (.int x64_c0), .unset, .unset, .unset]) rfl k) ?_
  show Go p.tables e below _ (T85.setTop (mkF m 240 #[.val (.long qp), .second, .val (.int po), .val (.int pl), .val (.ref b1), .val (.int v92), .val (.int v104), .val (.ref b64_fr), .val (.int v206), .val (.int v214), .val (.int x64_c0), .unset, .unset, .unset] []))
  show Go p.tables e below _ (T85.setTop (mkF m 240 #[.val (.long qp), .second, .val (.int po), .val (.int pl), .val (.ref b1), .val (.int v92), .val (.int v104), .val (.ref b64_fr), .val (.int v206), .val (.int v214), .val (.int x64_c0), .unset, .unset, .unset] []))
  refine Go.st (fun _ k => XS.aload X85.here hx rfl (hb hby at_240) rfl rfl k) ?_
  show Go p.tables e below _ (T85.setTop (mkF m 242 #[.val (.long qp), .second, .val (.int po), .val (.int pl), .val (.ref b1), .val (.int v92), .val (.int v104), .val (.ref b64_fr), .val (.int v206), .val (.int v214), .val (.int x64_c0), .unset, .unset, .unset] [(.ref b64_fr)]))
  refine Go.st (fun _ k => XS.iconst X85.here hx rfl (hb hby at_242) k) ?_
  show Go p.tables e below _ (T85.setTop (mkF m 243 #[.val (.long qp), .second, .val (.int po), .val (.int pl), .val (.ref b1), .val (.int v92), .val (.int v104), .val (.ref b64_fr), .val (.int v206), .val (.int v214), .val (.int x64_c0), .unset, .unset, .unset] [(.int (1 : Int32)), (.ref b64_fr)]))
  obtain ⟨cq86, kq86, q86a, q86b, q86c⟩ := isOf hZ e85 Fq64_0
  obtain ⟨_, _, ⟨T86, L86, k86, n86⟩, -, X86, ⟨Lc86, hQ86, l86, y86, z86⟩, st86⟩ := X85.virtualBack hx (y := (⟨"java/lang/String", "charAt", "(I)C"⟩ : MethodName)) (z := (⟨"java/lang/String", "charAt", "(I)C"⟩ : MethodName)) hown (mvT hZ (hw _ (List.mem_of_getElem? (i := 57) rfl))) (mvT hZ (hw _ (List.mem_of_getElem? (i := 58) rfl))) (notFace_of_selects (args := #[]) (mvT hZ (hw _ (List.mem_of_getElem? (i := 60) rfl)))) (mvT hZ (hw _ (List.mem_of_getElem? (i := 60) rfl))) (mvT hZ (hw _ (List.mem_of_getElem? (i := 59) rfl))) (by decide) (StrChars.Road.chN (W := 0) hZ (fun d hd => hw d (own_wordsChN d hd)) (kI := 4) (hw _ (List.mem_of_getElem? (i := 15) rfl)) Fq64_0 Fq64_2 Fq64_1 Fq64_3 hcd83 hbd83 (O2.ext F71.2) P5 (O4.ext F71.2) rG3 (Nat.le_of_ble_eq_true rfl) (i := 1) (Nat.le_of_ble_eq_true rfl) (j := 1) rfl (by decide) (by decide)) q86a q86c (g := (mkF m 243 #[.val (.long qp), .second, .val (.int po), .val (.int pl), .val (.ref b1), .val (.int v92), .val (.int v104), .val (.ref b64_fr), .val (.int v206), .val (.int v214), .val (.int x64_c0), .unset, .unset, .unset] [(.int (1 : Int32)), (.ref b64_fr)])) rfl (by rw [hml]; rfl) (Steps.refl _) (argsL := [(.int (1 : Int32))]) (rest := []) (lenOf pd_6 rfl) rfl (by show 2 * 0 + _ ≤ _; exact Nat.le_of_eq rfl) (hb hby at_243) (fun _ _ => ⟨rfl, e85, (by decide : 4 + 0 ≤ _), (by decide : 18 + 0 ≤ _)⟩)
  dsimp only [Pt.U, Pt.locs, Pt.cells, Pt.slots] at X86 l86 y86 z86 st86 hQ86
  rw [l86, y86, z86] at X86
  obtain ⟨rfl, rfl, e86⟩ := hQ86
  have N86 := Fr.app N85 (Fr.nil n0)
  refine Go.st (fun _ k => st86.trans k) ?_
  show Go p.tables e below _ (T86.setTop (mkF m 246 #[.val (.long qp), .second, .val (.int po), .val (.int pl), .val (.ref b1), .val (.int v92), .val (.int v104), .val (.ref b64_fr), .val (.int v206), .val (.int v214), .val (.int x64_c0), .unset, .unset, .unset] [(.int x64_c1)]))
  refine Go.st (fun _ k => XS.istore X86.here hx rfl (hb hby at_246) rfl (l' := #[.val (.long qp), .second, .val (.int po), .val (.int pl), .val (.ref b1), .val (.int v92), .val (.int v104), .val (.ref b64_fr), .val (.int v206), .val (.int v214), .val (.int x64_c0), .val (.int x64_c1), .unset, .unset]) rfl k) ?_
  show Go p.tables e below _ (T86.setTop (mkF m 248 #[.val (.long qp), .second, .val (.int po), .val (.int pl), .val (.ref b1), .val (.int v92), .val (.int v104), .val (.ref b64_fr), .val (.int v206), .val (.int v214), .val (.int x64_c0), .val (.int x64_c1), .unset, .unset] []))
  show Go p.tables e below _ (T86.setTop (mkF m 248 #[.val (.long qp), .second, .val (.int po), .val (.int pl), .val (.ref b1), .val (.int v92), .val (.int v104), .val (.ref b64_fr), .val (.int v206), .val (.int v214), .val (.int x64_c0), .val (.int x64_c1), .unset, .unset] []))
  refine Go.st (fun _ k => XS.aload X86.here hx rfl (hb hby at_248) rfl rfl k) ?_
  show Go p.tables e below _ (T86.setTop (mkF m 250 #[.val (.long qp), .second, .val (.int po), .val (.int pl), .val (.ref b1), .val (.int v92), .val (.int v104), .val (.ref b64_fr), .val (.int v206), .val (.int v214), .val (.int x64_c0), .val (.int x64_c1), .unset, .unset] [(.ref b64_fr)]))
  refine Go.st (fun _ k => XS.iconst X86.here hx rfl (hb hby at_250) k) ?_
  show Go p.tables e below _ (T86.setTop (mkF m 251 #[.val (.long qp), .second, .val (.int po), .val (.int pl), .val (.ref b1), .val (.int v92), .val (.int v104), .val (.ref b64_fr), .val (.int v206), .val (.int v214), .val (.int x64_c0), .val (.int x64_c1), .unset, .unset] [(.int (2 : Int32)), (.ref b64_fr)]))
  obtain ⟨cq87, kq87, q87a, q87b, q87c⟩ := isOf hZ e86 Fq64_0
  obtain ⟨_, _, ⟨T87, L87, k87, n87⟩, -, X87, ⟨Lc87, hQ87, l87, y87, z87⟩, st87⟩ := X86.virtualBack hx (y := (⟨"java/lang/String", "charAt", "(I)C"⟩ : MethodName)) (z := (⟨"java/lang/String", "charAt", "(I)C"⟩ : MethodName)) hown (mvT hZ (hw _ (List.mem_of_getElem? (i := 57) rfl))) (mvT hZ (hw _ (List.mem_of_getElem? (i := 58) rfl))) (notFace_of_selects (args := #[]) (mvT hZ (hw _ (List.mem_of_getElem? (i := 60) rfl)))) (mvT hZ (hw _ (List.mem_of_getElem? (i := 60) rfl))) (mvT hZ (hw _ (List.mem_of_getElem? (i := 59) rfl))) (by decide) (StrChars.Road.chN (W := 0) hZ (fun d hd => hw d (own_wordsChN d hd)) (kI := 4) (hw _ (List.mem_of_getElem? (i := 15) rfl)) Fq64_0 Fq64_2 Fq64_1 Fq64_3 hcd83 hbd83 (O2.ext F71.2) P5 (O4.ext F71.2) rG3 (Nat.le_of_ble_eq_true rfl) (i := 2) (Nat.le_of_ble_eq_true rfl) (j := 2) rfl (by decide) (by decide)) q87a q87c (g := (mkF m 251 #[.val (.long qp), .second, .val (.int po), .val (.int pl), .val (.ref b1), .val (.int v92), .val (.int v104), .val (.ref b64_fr), .val (.int v206), .val (.int v214), .val (.int x64_c0), .val (.int x64_c1), .unset, .unset] [(.int (2 : Int32)), (.ref b64_fr)])) rfl (by rw [hml]; rfl) (Steps.refl _) (argsL := [(.int (2 : Int32))]) (rest := []) (lenOf pd_6 rfl) rfl (by show 2 * 0 + _ ≤ _; exact Nat.le_of_eq rfl) (hb hby at_251) (fun _ _ => ⟨rfl, e86, (by decide : 4 + 0 ≤ _), (by decide : 18 + 0 ≤ _)⟩)
  dsimp only [Pt.U, Pt.locs, Pt.cells, Pt.slots] at X87 l87 y87 z87 st87 hQ87
  rw [l87, y87, z87] at X87
  obtain ⟨rfl, rfl, e87⟩ := hQ87
  have N87 := Fr.app N86 (Fr.nil n0)
  refine Go.st (fun _ k => st87.trans k) ?_
  show Go p.tables e below _ (T87.setTop (mkF m 254 #[.val (.long qp), .second, .val (.int po), .val (.int pl), .val (.ref b1), .val (.int v92), .val (.int v104), .val (.ref b64_fr), .val (.int v206), .val (.int v214), .val (.int x64_c0), .val (.int x64_c1), .unset, .unset] [(.int x64_c2)]))
  refine Go.st (fun _ k => XS.istore X87.here hx rfl (hb hby at_254) rfl (l' := #[.val (.long qp), .second, .val (.int po), .val (.int pl), .val (.ref b1), .val (.int v92), .val (.int v104), .val (.ref b64_fr), .val (.int v206), .val (.int v214), .val (.int x64_c0), .val (.int x64_c1), .val (.int x64_c2), .unset]) rfl k) ?_
  show Go p.tables e below _ (T87.setTop (mkF m 256 #[.val (.long qp), .second, .val (.int po), .val (.int pl), .val (.ref b1), .val (.int v92), .val (.int v104), .val (.ref b64_fr), .val (.int v206), .val (.int v214), .val (.int x64_c0), .val (.int x64_c1), .val (.int x64_c2), .unset] []))
  show Go p.tables e below _ (T87.setTop (mkF m 256 #[.val (.long qp), .second, .val (.int po), .val (.int pl), .val (.ref b1), .val (.int v92), .val (.int v104), .val (.ref b64_fr), .val (.int v206), .val (.int v214), .val (.int x64_c0), .val (.int x64_c1), .val (.int x64_c2), .unset] []))
  refine Go.st (fun _ k => XS.iload X87.here hx rfl (hb hby at_256) rfl k) ?_
  show Go p.tables e below _ (T87.setTop (mkF m 258 #[.val (.long qp), .second, .val (.int po), .val (.int pl), .val (.ref b1), .val (.int v92), .val (.int v104), .val (.ref b64_fr), .val (.int v206), .val (.int v214), .val (.int x64_c0), .val (.int x64_c1), .val (.int x64_c2), .unset] [(.int x64_c0)]))
  obtain ⟨_, _, ⟨T88, L88, k88, n88⟩, -, X88, ⟨Lc88, hQ88, l88, y88, z88⟩, st88⟩ := Jvm.LawKit.callS X87 hx (y := (⟨"com/example/gapmend/gapmend/CheckSumOfPinLaw", "digit", "(C)Z"⟩ : MethodName)) hown (mvT hZ (hw _ (List.mem_of_getElem? (i := 78) rfl))) (mvT hZ (hw _ (List.mem_of_getElem? (i := 79) rfl))) (mvT hZ (hw _ (List.mem_of_getElem? (i := 45) rfl))) (mvT hZ (hw _ (List.mem_of_getElem? (i := 80) rfl))) (by decide) (backOf (W := 0) (rm_digit l Z a0 hw [] x64_c0 T64.heap n0 Z69 ) hZ (hw _ (List.mem_of_getElem? (i := 80) rfl)) (hw _ (List.mem_of_getElem? (i := 45) rfl)) (by decide) (by decide)) (g := (mkF m 258 #[.val (.long qp), .second, .val (.int po), .val (.int pl), .val (.ref b1), .val (.int v92), .val (.int v104), .val (.ref b64_fr), .val (.int v206), .val (.int v214), .val (.int x64_c0), .val (.int x64_c1), .val (.int x64_c2), .unset] [(.int x64_c0)])) rfl (by rw [hml]; rfl) (argsL := [(.int x64_c0)]) (rest := []) (lenOf pd_7 rfl) rfl (by show 2 * 0 + _ ≤ _; exact Nat.le_of_eq rfl) (hb hby at_258) (fun _ _ => ⟨rfl, e87, (by decide : 4 + 0 ≤ _), (by decide : 18 + 0 ≤ _)⟩)
  dsimp only [Pt.U, Pt.locs, Pt.cells, Pt.slots] at X88 l88 y88 z88 st88 hQ88
  rw [l88, y88, z88] at X88
  obtain ⟨rfl, N88q, e88⟩ := hQ88
  have N88 := Fr.app N87 N88q
  refine Go.st st88 ?_
  show Go p.tables e below _ (T88.setTop (mkF m 261 #[.val (.long qp), .second, .val (.int po), .val (.int pl), .val (.ref b1), .val (.int v92), .val (.int v104), .val (.ref b64_fr), .val (.int v206), .val (.int v214), .val (.int x64_c0), .val (.int x64_c1), .val (.int x64_c2), .unset] [(.int (dgF x64_c0))]))
  have hc261 : ¬ ((dgF x64_c0) = (0 : Int32)) := (by rw [own_dg (by omega)]; decide)
  refine Go.st (fun _ k => XS.ifNo X88.here hx rfl (hb hby at_261) rfl (Jvm.Free.XT.i0_eq_f hc261) k) ?_
  show Go p.tables e below _ (T88.setTop (mkF m 264 #[.val (.long qp), .second, .val (.int po), .val (.int pl), .val (.ref b1), .val (.int v92), .val (.int v104), .val (.ref b64_fr), .val (.int v206), .val (.int v214), .val (.int x64_c0), .val (.int x64_c1), .val (.int x64_c2), .unset] []))
  refine Go.st (fun _ k => XS.iload X88.here hx rfl (hb hby at_264) rfl k) ?_
  show Go p.tables e below _ (T88.setTop (mkF m 266 #[.val (.long qp), .second, .val (.int po), .val (.int pl), .val (.ref b1), .val (.int v92), .val (.int v104), .val (.ref b64_fr), .val (.int v206), .val (.int v214), .val (.int x64_c0), .val (.int x64_c1), .val (.int x64_c2), .unset] [(.int x64_c1)]))
  obtain ⟨_, _, ⟨T89, L89, k89, n89⟩, -, X89, ⟨Lc89, hQ89, l89, y89, z89⟩, st89⟩ := Jvm.LawKit.callS X88 hx (y := (⟨"com/example/gapmend/gapmend/CheckSumOfPinLaw", "digit", "(C)Z"⟩ : MethodName)) hown (mvT hZ (hw _ (List.mem_of_getElem? (i := 78) rfl))) (mvT hZ (hw _ (List.mem_of_getElem? (i := 79) rfl))) (mvT hZ (hw _ (List.mem_of_getElem? (i := 45) rfl))) (mvT hZ (hw _ (List.mem_of_getElem? (i := 80) rfl))) (by decide) (backOf (W := 0) (rm_digit l Z a0 hw [] x64_c1 T64.heap n0 Z69 ) hZ (hw _ (List.mem_of_getElem? (i := 80) rfl)) (hw _ (List.mem_of_getElem? (i := 45) rfl)) (by decide) (by decide)) (g := (mkF m 266 #[.val (.long qp), .second, .val (.int po), .val (.int pl), .val (.ref b1), .val (.int v92), .val (.int v104), .val (.ref b64_fr), .val (.int v206), .val (.int v214), .val (.int x64_c0), .val (.int x64_c1), .val (.int x64_c2), .unset] [(.int x64_c1)])) rfl (by rw [hml]; rfl) (argsL := [(.int x64_c1)]) (rest := []) (lenOf pd_7 rfl) rfl (by show 2 * 0 + _ ≤ _; exact Nat.le_of_eq rfl) (hb hby at_266) (fun _ _ => ⟨rfl, e88, (by decide : 4 + 0 ≤ _), (by decide : 18 + 0 ≤ _)⟩)
  dsimp only [Pt.U, Pt.locs, Pt.cells, Pt.slots] at X89 l89 y89 z89 st89 hQ89
  rw [l89, y89, z89] at X89
  obtain ⟨rfl, N89q, e89⟩ := hQ89
  have N89 := Fr.app N88 N89q
  refine Go.st st89 ?_
  show Go p.tables e below _ (T89.setTop (mkF m 269 #[.val (.long qp), .second, .val (.int po), .val (.int pl), .val (.ref b1), .val (.int v92), .val (.int v104), .val (.ref b64_fr), .val (.int v206), .val (.int v214), .val (.int x64_c0), .val (.int x64_c1), .val (.int x64_c2), .unset] [(.int (dgF x64_c1))]))
  have hc269 : ¬ ((dgF x64_c1) = (0 : Int32)) := (by rw [own_dg (by omega)]; decide)
  refine Go.st (fun _ k => XS.ifNo X89.here hx rfl (hb hby at_269) rfl (Jvm.Free.XT.i0_eq_f hc269) k) ?_
  show Go p.tables e below _ (T89.setTop (mkF m 272 #[.val (.long qp), .second, .val (.int po), .val (.int pl), .val (.ref b1), .val (.int v92), .val (.int v104), .val (.ref b64_fr), .val (.int v206), .val (.int v214), .val (.int x64_c0), .val (.int x64_c1), .val (.int x64_c2), .unset] []))
  refine Go.st (fun _ k => XS.iload X89.here hx rfl (hb hby at_272) rfl k) ?_
  show Go p.tables e below _ (T89.setTop (mkF m 274 #[.val (.long qp), .second, .val (.int po), .val (.int pl), .val (.ref b1), .val (.int v92), .val (.int v104), .val (.ref b64_fr), .val (.int v206), .val (.int v214), .val (.int x64_c0), .val (.int x64_c1), .val (.int x64_c2), .unset] [(.int x64_c2)]))
  obtain ⟨_, _, ⟨T90, L90, k90, n90⟩, -, X90, ⟨Lc90, hQ90, l90, y90, z90⟩, st90⟩ := Jvm.LawKit.callS X89 hx (y := (⟨"com/example/gapmend/gapmend/CheckSumOfPinLaw", "digit", "(C)Z"⟩ : MethodName)) hown (mvT hZ (hw _ (List.mem_of_getElem? (i := 78) rfl))) (mvT hZ (hw _ (List.mem_of_getElem? (i := 79) rfl))) (mvT hZ (hw _ (List.mem_of_getElem? (i := 45) rfl))) (mvT hZ (hw _ (List.mem_of_getElem? (i := 80) rfl))) (by decide) (backOf (W := 0) (rm_digit l Z a0 hw [] x64_c2 T64.heap n0 Z69 ) hZ (hw _ (List.mem_of_getElem? (i := 80) rfl)) (hw _ (List.mem_of_getElem? (i := 45) rfl)) (by decide) (by decide)) (g := (mkF m 274 #[.val (.long qp), .second, .val (.int po), .val (.int pl), .val (.ref b1), .val (.int v92), .val (.int v104), .val (.ref b64_fr), .val (.int v206), .val (.int v214), .val (.int x64_c0), .val (.int x64_c1), .val (.int x64_c2), .unset] [(.int x64_c2)])) rfl (by rw [hml]; rfl) (argsL := [(.int x64_c2)]) (rest := []) (lenOf pd_7 rfl) rfl (by show 2 * 0 + _ ≤ _; exact Nat.le_of_eq rfl) (hb hby at_274) (fun _ _ => ⟨rfl, e89, (by decide : 4 + 0 ≤ _), (by decide : 18 + 0 ≤ _)⟩)
  dsimp only [Pt.U, Pt.locs, Pt.cells, Pt.slots] at X90 l90 y90 z90 st90 hQ90
  rw [l90, y90, z90] at X90
  obtain ⟨rfl, N90q, e90⟩ := hQ90
  have N90 := Fr.app N89 N90q
  refine Go.st st90 ?_
  show Go p.tables e below _ (T90.setTop (mkF m 277 #[.val (.long qp), .second, .val (.int po), .val (.int pl), .val (.ref b1), .val (.int v92), .val (.int v104), .val (.ref b64_fr), .val (.int v206), .val (.int v214), .val (.int x64_c0), .val (.int x64_c1), .val (.int x64_c2), .unset] [(.int (dgF x64_c2))]))
  have hc277 : ¬ ((dgF x64_c2) = (0 : Int32)) := (by rw [own_dg (by omega)]; decide)
  refine Go.st (fun _ k => XS.ifYes X90.here hx rfl (pc0 := 277) (pc' := 282) rfl (hb hby at_277) rfl (Jvm.Free.XT.i0_ne_t hc277) (by decide) (by decide) k) ?_
  show Go p.tables e below _ (T90.setTop (mkF m 282 #[.val (.long qp), .second, .val (.int po), .val (.int pl), .val (.ref b1), .val (.int v92), .val (.int v104), .val (.ref b64_fr), .val (.int v206), .val (.int v214), .val (.int x64_c0), .val (.int x64_c1), .val (.int x64_c2), .unset] []))
  refine Go.st (fun _ k => XS.iload X90.here hx rfl (hb hby at_282) rfl k) ?_
  show Go p.tables e below _ (T90.setTop (mkF m 284 #[.val (.long qp), .second, .val (.int po), .val (.int pl), .val (.ref b1), .val (.int v92), .val (.int v104), .val (.ref b64_fr), .val (.int v206), .val (.int v214), .val (.int x64_c0), .val (.int x64_c1), .val (.int x64_c2), .unset] [(.int x64_c0)]))
  refine Go.st (fun _ k => XS.bipush X90.here hx rfl (hb hby at_284) k) ?_
  show Go p.tables e below _ (T90.setTop (mkF m 286 #[.val (.long qp), .second, .val (.int po), .val (.int pl), .val (.ref b1), .val (.int v92), .val (.int v104), .val (.ref b64_fr), .val (.int v206), .val (.int v214), .val (.int x64_c0), .val (.int x64_c1), .val (.int x64_c2), .unset] [(.int (48 : Int32)), (.int x64_c0)]))
  refine Go.st (fun _ k => XS.isub X90.here hx rfl (hb hby at_286) rfl k) ?_
  show Go p.tables e below _ (T90.setTop (mkF m 287 #[.val (.long qp), .second, .val (.int po), .val (.int pl), .val (.ref b1), .val (.int v92), .val (.int v104), .val (.ref b64_fr), .val (.int v206), .val (.int v214), .val (.int x64_c0), .val (.int x64_c1), .val (.int x64_c2), .unset] [(.int (x64_c0 - (48 : Int32)))]))
  refine Go.st (fun _ k => XS.bipush X90.here hx rfl (hb hby at_287) k) ?_
  show Go p.tables e below _ (T90.setTop (mkF m 289 #[.val (.long qp), .second, .val (.int po), .val (.int pl), .val (.ref b1), .val (.int v92), .val (.int v104), .val (.ref b64_fr), .val (.int v206), .val (.int v214), .val (.int x64_c0), .val (.int x64_c1), .val (.int x64_c2), .unset] [(.int (100 : Int32)), (.int (x64_c0 - (48 : Int32)))]))
  refine Go.st (fun _ k => XS.imul X90.here hx rfl (hb hby at_289) rfl k) ?_
  show Go p.tables e below _ (T90.setTop (mkF m 290 #[.val (.long qp), .second, .val (.int po), .val (.int pl), .val (.ref b1), .val (.int v92), .val (.int v104), .val (.ref b64_fr), .val (.int v206), .val (.int v214), .val (.int x64_c0), .val (.int x64_c1), .val (.int x64_c2), .unset] [(.int ((x64_c0 - (48 : Int32)) * (100 : Int32)))]))
  refine Go.st (fun _ k => XS.iload X90.here hx rfl (hb hby at_290) rfl k) ?_
  show Go p.tables e below _ (T90.setTop (mkF m 292 #[.val (.long qp), .second, .val (.int po), .val (.int pl), .val (.ref b1), .val (.int v92), .val (.int v104), .val (.ref b64_fr), .val (.int v206), .val (.int v214), .val (.int x64_c0), .val (.int x64_c1), .val (.int x64_c2), .unset] [(.int x64_c1), (.int ((x64_c0 - (48 : Int32)) * (100 : Int32)))]))
  refine Go.st (fun _ k => XS.bipush X90.here hx rfl (hb hby at_292) k) ?_
  show Go p.tables e below _ (T90.setTop (mkF m 294 #[.val (.long qp), .second, .val (.int po), .val (.int pl), .val (.ref b1), .val (.int v92), .val (.int v104), .val (.ref b64_fr), .val (.int v206), .val (.int v214), .val (.int x64_c0), .val (.int x64_c1), .val (.int x64_c2), .unset] [(.int (48 : Int32)), (.int x64_c1), (.int ((x64_c0 - (48 : Int32)) * (100 : Int32)))]))
  refine Go.st (fun _ k => XS.isub X90.here hx rfl (hb hby at_294) rfl k) ?_
  show Go p.tables e below _ (T90.setTop (mkF m 295 #[.val (.long qp), .second, .val (.int po), .val (.int pl), .val (.ref b1), .val (.int v92), .val (.int v104), .val (.ref b64_fr), .val (.int v206), .val (.int v214), .val (.int x64_c0), .val (.int x64_c1), .val (.int x64_c2), .unset] [(.int (x64_c1 - (48 : Int32))), (.int ((x64_c0 - (48 : Int32)) * (100 : Int32)))]))
  refine Go.st (fun _ k => XS.bipush X90.here hx rfl (hb hby at_295) k) ?_
  show Go p.tables e below _ (T90.setTop (mkF m 297 #[.val (.long qp), .second, .val (.int po), .val (.int pl), .val (.ref b1), .val (.int v92), .val (.int v104), .val (.ref b64_fr), .val (.int v206), .val (.int v214), .val (.int x64_c0), .val (.int x64_c1), .val (.int x64_c2), .unset] [(.int (10 : Int32)), (.int (x64_c1 - (48 : Int32))), (.int ((x64_c0 - (48 : Int32)) * (100 : Int32)))]))
  refine Go.st (fun _ k => XS.imul X90.here hx rfl (hb hby at_297) rfl k) ?_
  show Go p.tables e below _ (T90.setTop (mkF m 298 #[.val (.long qp), .second, .val (.int po), .val (.int pl), .val (.ref b1), .val (.int v92), .val (.int v104), .val (.ref b64_fr), .val (.int v206), .val (.int v214), .val (.int x64_c0), .val (.int x64_c1), .val (.int x64_c2), .unset] [(.int ((x64_c1 - (48 : Int32)) * (10 : Int32))), (.int ((x64_c0 - (48 : Int32)) * (100 : Int32)))]))
  refine Go.st (fun _ k => XS.iadd X90.here hx rfl (hb hby at_298) rfl k) ?_
  show Go p.tables e below _ (T90.setTop (mkF m 299 #[.val (.long qp), .second, .val (.int po), .val (.int pl), .val (.ref b1), .val (.int v92), .val (.int v104), .val (.ref b64_fr), .val (.int v206), .val (.int v214), .val (.int x64_c0), .val (.int x64_c1), .val (.int x64_c2), .unset] [(.int (((x64_c0 - (48 : Int32)) * (100 : Int32)) + ((x64_c1 - (48 : Int32)) * (10 : Int32))))]))
  refine Go.st (fun _ k => XS.iload X90.here hx rfl (hb hby at_299) rfl k) ?_
  show Go p.tables e below _ (T90.setTop (mkF m 301 #[.val (.long qp), .second, .val (.int po), .val (.int pl), .val (.ref b1), .val (.int v92), .val (.int v104), .val (.ref b64_fr), .val (.int v206), .val (.int v214), .val (.int x64_c0), .val (.int x64_c1), .val (.int x64_c2), .unset] [(.int x64_c2), (.int (((x64_c0 - (48 : Int32)) * (100 : Int32)) + ((x64_c1 - (48 : Int32)) * (10 : Int32))))]))
  refine Go.st (fun _ k => XS.bipush X90.here hx rfl (hb hby at_301) k) ?_
  show Go p.tables e below _ (T90.setTop (mkF m 303 #[.val (.long qp), .second, .val (.int po), .val (.int pl), .val (.ref b1), .val (.int v92), .val (.int v104), .val (.ref b64_fr), .val (.int v206), .val (.int v214), .val (.int x64_c0), .val (.int x64_c1), .val (.int x64_c2), .unset] [(.int (48 : Int32)), (.int x64_c2), (.int (((x64_c0 - (48 : Int32)) * (100 : Int32)) + ((x64_c1 - (48 : Int32)) * (10 : Int32))))]))
  refine Go.st (fun _ k => XS.isub X90.here hx rfl (hb hby at_303) rfl k) ?_
  show Go p.tables e below _ (T90.setTop (mkF m 304 #[.val (.long qp), .second, .val (.int po), .val (.int pl), .val (.ref b1), .val (.int v92), .val (.int v104), .val (.ref b64_fr), .val (.int v206), .val (.int v214), .val (.int x64_c0), .val (.int x64_c1), .val (.int x64_c2), .unset] [(.int (x64_c2 - (48 : Int32))), (.int (((x64_c0 - (48 : Int32)) * (100 : Int32)) + ((x64_c1 - (48 : Int32)) * (10 : Int32))))]))
  refine Go.st (fun _ k => XS.iadd X90.here hx rfl (hb hby at_304) rfl k) ?_
  show Go p.tables e below _ (T90.setTop (mkF m 305 #[.val (.long qp), .second, .val (.int po), .val (.int pl), .val (.ref b1), .val (.int v92), .val (.int v104), .val (.ref b64_fr), .val (.int v206), .val (.int v214), .val (.int x64_c0), .val (.int x64_c1), .val (.int x64_c2), .unset] [(.int ((((x64_c0 - (48 : Int32)) * (100 : Int32)) + ((x64_c1 - (48 : Int32)) * (10 : Int32))) + (x64_c2 - (48 : Int32))))]))
  refine Go.st (fun _ k => XS.istore X90.here hx rfl (hb hby at_305) rfl (l' := #[.val (.long qp), .second, .val (.int po), .val (.int pl), .val (.ref b1), .val (.int v92), .val (.int v104), .val (.ref b64_fr), .val (.int v206), .val (.int v214), .val (.int x64_c0), .val (.int x64_c1), .val (.int x64_c2), .val (.int ((((x64_c0 - (48 : Int32)) * (100 : Int32)) + ((x64_c1 - (48 : Int32)) * (10 : Int32))) + (x64_c2 - (48 : Int32))))]) rfl k) ?_
  show Go p.tables e below _ (T90.setTop (mkF m 307 #[.val (.long qp), .second, .val (.int po), .val (.int pl), .val (.ref b1), .val (.int v92), .val (.int v104), .val (.ref b64_fr), .val (.int v206), .val (.int v214), .val (.int x64_c0), .val (.int x64_c1), .val (.int x64_c2), .val (.int ((((x64_c0 - (48 : Int32)) * (100 : Int32)) + ((x64_c1 - (48 : Int32)) * (10 : Int32))) + (x64_c2 - (48 : Int32))))] []))
  generalize hqv305 : ((((x64_c0 - (48 : Int32)) * (100 : Int32)) + ((x64_c1 - (48 : Int32)) * (10 : Int32))) + (x64_c2 - (48 : Int32))) = v305
  show Go p.tables e below _ (T90.setTop (mkF m 307 #[.val (.long qp), .second, .val (.int po), .val (.int pl), .val (.ref b1), .val (.int v92), .val (.int v104), .val (.ref b64_fr), .val (.int v206), .val (.int v214), .val (.int x64_c0), .val (.int x64_c1), .val (.int x64_c2), .val (.int v305)] []))
  refine Go.st (fun _ k => XS.iload X90.here hx rfl (hb hby at_307) rfl k) ?_
  show Go p.tables e below _ (T90.setTop (mkF m 309 #[.val (.long qp), .second, .val (.int po), .val (.int pl), .val (.ref b1), .val (.int v92), .val (.int v104), .val (.ref b64_fr), .val (.int v206), .val (.int v214), .val (.int x64_c0), .val (.int x64_c1), .val (.int x64_c2), .val (.int v305)] [(.int v305)]))
  refine Go.st (fun _ k => XS.iload X90.here hx rfl (hb hby at_309) rfl k) ?_
  show Go p.tables e below _ (T90.setTop (mkF m 311 #[.val (.long qp), .second, .val (.int po), .val (.int pl), .val (.ref b1), .val (.int v92), .val (.int v104), .val (.ref b64_fr), .val (.int v206), .val (.int v214), .val (.int x64_c0), .val (.int x64_c1), .val (.int x64_c2), .val (.int v305)] [(.int v214), (.int v305)]))
  have hc311 : v305 = v214 := own_fin (own_total (bl := [u12, u22, u32, u42, u52, u62, u73, u84]) hat.1 hwd.1 hwd.2 (nat_of (own_nlt32 hat.1)) (nat_of (own_nlt32 hwd.1)) hqp124 hqp134 hqp145 hqp156 hqp167 hqp178 hqp190 hqp202 hqv206 hqv214) hrl hqv305
  refine Go.st (fun _ k => XS.icmpNo X90.here hx rfl (hb hby at_311) rfl (Jvm.Free.XT.ii_ne_f hc311) k) ?_
  show Go p.tables e below _ (T90.setTop (mkF m 314 #[.val (.long qp), .second, .val (.int po), .val (.int pl), .val (.ref b1), .val (.int v92), .val (.int v104), .val (.ref b64_fr), .val (.int v206), .val (.int v214), .val (.int x64_c0), .val (.int x64_c1), .val (.int x64_c2), .val (.int v305)] []))
  refine Go.st (fun _ k => XS.iconst X90.here hx rfl (hb hby at_314) k) ?_
  show Go p.tables e below _ (T90.setTop (mkF m 315 #[.val (.long qp), .second, .val (.int po), .val (.int pl), .val (.ref b1), .val (.int v92), .val (.int v104), .val (.ref b64_fr), .val (.int v206), .val (.int v214), .val (.int x64_c0), .val (.int x64_c1), .val (.int x64_c2), .val (.int v305)] [(.int (1 : Int32))]))
  refine Go.st (fun _ k => XS.goto X90.here hx rfl (pc0 := 315) (pc' := 319) rfl (hb hby at_315) (by decide) (by decide) k) ?_
  show Go p.tables e below _ (T90.setTop (mkF m 319 #[.val (.long qp), .second, .val (.int po), .val (.int pl), .val (.ref b1), .val (.int v92), .val (.int v104), .val (.ref b64_fr), .val (.int v206), .val (.int v214), .val (.int x64_c0), .val (.int x64_c1), .val (.int x64_c2), .val (.int v305)] [(.int (1 : Int32))]))
  subst hG
  obtain ⟨fs, hr, hrun, hended, hW, hsame⟩ := X90.leave (v := some (.int (nar .boolean (1 : Int32)))) (fun h => by rw [Bd.returns] at h; cases h)
  refine ⟨_, _, ?_, hrun, hended, _, _, rfl, ?_, ⟨_, rfl⟩, hW, hsame.mono (by decide) (by decide)⟩
  · exact retN X90 hx (t := .boolean) Bd.returns (by simp) (hb hby at_319) hr
  · show Q_law Z qp po pl G1 G3 h0 n0 _ T90.heap _
    rw [e90]
    exact ⟨rfl, N90, K70⟩
set_option maxRecDepth 65536 in
set_option maxHeartbeats 40000000 in
theorem comes_1 {Post : Tables → Env → Array Value → State → Outcome → State → Prop} (hpost : ∀ tb e args s v u, (limb_1_1.after args s (.returned v) u = true ∧ limb_1_2.after args s (.returned v) u = true ∧ True) → FrameEnd s (.returned v) u (Jvm.fieldLocs frame_1_writes args s ++ Jvm.arrayLocs frame_1_arrays args s ++ Jvm.staticLocs frame_1_statics s) 16 128 → Post tb e args s (.returned v) u) :
    ArmFor flags0 classFile x code maxLocals ret World_1 tables_1 room_1 Calls_1 rest_1 Pre_1 Post := by
  intro l hfl _ _ p e ha hc hk s m args below hf hA hF happ hP
  obtain ⟨hcalls, hrest, hpre⟩ := hP
  obtain ⟨-, -, -, hnamed, -, -, -, hat⟩ := (Spec.applies_iff hf).mp happ
  obtain ⟨hg, hn⟩ := and_e (Cond.before_iff.mp (show (Jvm.Cond.and given_1 narrow_1).before args s = true from hpre))
  obtain ⟨hcount, hg0⟩ := and_e hg
  obtain ⟨hv0, hg1⟩ := and_e hg0
  obtain ⟨hv1, hg2⟩ := and_e hg1
  obtain ⟨w0, w1, w2, rfl⟩ : ∃ w0 w1 w2 : Value, args = #[w0, w1, w2] := by
    have hs : args.size = 3 := by simpa [Cond.value, given_1] using hcount
    obtain ⟨L⟩ := args
    match L, hs with
    | [w0, w1, w2], _ => exact ⟨w0, w1, w2, rfl⟩
  have hw := fun d (hd : d ∈ tables_1) => atoms_spec (ws := Jvm.Cond.code x code maxLocals ret :: tables_1) hat d (List.mem_cons_of_mem _ hd)
  have hfit : Fit s := fun {y c} hc i hi => by
    obtain ⟨ha, rfl⟩ := Array.getElem?_eq_some_iff.mp hc
    have q := List.all_eq_true.mp ((Array.all_eq_true_iff_forall_mem.mp hF) _ (Array.getElem_mem ha)) i (List.mem_range.mpr hi)
    simpa [Array.getElem?_eq_getElem hi] using q
  obtain ⟨i0, ei0⟩ := isL_v hv0
  obtain rfl : w0 = (.long i0) := Option.some.inj ei0
  obtain ⟨i1, ei1⟩ := is_v hv1
  obtain rfl : w1 = (.int i1) := Option.some.inj ei1
  obtain ⟨i2, ei2⟩ := is_v hg2
  obtain rfl : w2 = (.int i2) := Option.some.inj ei2
  obtain ⟨hsets, hown0⟩ := atoms_of _ (rest_1_c_eq ▸ (show rest_1_c.before _ s = true from hrest))
  have n5 := not_v (Cond.before_iff.mp (hsets _ (List.mem_of_getElem? (i := 2) rfl)))
  obtain ⟨G1, e10⟩ := is_v (Cond.before_iff.mp (hsets _ (List.mem_of_getElem? (i := 1) rfl)))
  have O2 : Sta s s.heap "java/lang/String" "COMPACT_STRINGS" "Z" (.int G1) := Sta.start e10 (Or.inl (hsets _ (List.mem_of_getElem? (i := 0) rfl)))
  obtain ⟨G3, e14, rG3⟩ := isR_v (Cond.before_iff.mp (hsets _ (List.mem_of_getElem? (i := 8) rfl)))
  have O4 : Sta s s.heap "jdk/internal/util/Preconditions" "SIOOBE_FORMATTER" "Ljava/util/function/BiFunction;" G3 := Sta.start e14 (Or.inl (hsets _ (List.mem_of_getElem? (i := 7) rfl)))
  have P5 : ¬ (G1 = (0 : Int32)) := gotF (Cond.eq_ints e10 (Term.int_eval (0))) n5
  obtain ⟨n, o, h1, h2, h3, _, L, rfl, ⟨rfl, N, -⟩, hq⟩ := rm_law l s _ hw tables_1 i0 i1 i2 G1 G3 s.heap s.heap.size (Nat.le_refl _) (Old.start s) O2 P5 O4 rG3 p e ha hc hk s m _ below hf ((Spec.applies_iff_loose hf).mp happ).1 ⟨rfl, State.Warmed39.refl s, rfl⟩ trivial
  refine ⟨n, _, h1, h2, h3, hpost _ _ _ _ _ _ ⟨Cond.after_iff.mpr rfl, Cond.after_iff.mpr (eq_i res_at (Term.int_eval (1)) rfl), trivial⟩ ⟨hq.1, hq.2.1, (hq.2.2.sift fun y hy => Or.inr (N y hy)).mono (by decide) (by decide)⟩⟩
theorem main_1_1 : Claimed_1_1 := comes_1 fun _ _ _ _ _ _ h hF => ⟨h.1, hF⟩
theorem main_1_2 : Claimed_1_2 := comes_1 fun _ _ _ _ _ _ h hF => ⟨h.2.1, hF⟩
end Jvm.Pilot.@@N@@
namespace Jvm.Pilot.@@N@@
open Jvm Jvm.ClassFile Sem Op Lib Jvm.Free Jvm.Stand Jvm.Pilot.@@N@@.Jvm.D
/-! MADE BY PROGRAM (witnessworld.py) out of the Statement's table words and the real class files: 21 classes; the members and pool entries that the words name. The judged class is class 1, her method 3. -/
namespace start1
open Jvm.ClassFile
def u (s : String) : CpInfo := .utf8 (stringToUtf16 s)
/-- a pool by its gaps: so many unusable entries, then the entry; so many at the end -/
def gap : Nat → List CpInfo → List CpInfo
  | 0, r => r
  | n + 1, r => .unusable :: gap n r
def poolList (es : List (Nat × CpInfo)) (last : Nat) : List CpInfo := es.foldr (fun e r => gap e.1 (e.2 :: r)) (gap last [])
def pool (es : List (Nat × CpInfo)) (last : Nat) : Array CpInfo := ⟨poolList es last⟩
def fileOf (pool : Array CpInfo) (this : Nat) (attrs : Array Attribute := #[]) (ms : Array MethodInfo := #[]) (fl : Nat := 33) (sup : Nat := 0) (ifs : Array Nat := #[]) (fds : Array FieldInfo := #[]) : ClassFile where
  minorVersion := 0
  majorVersion := 65
  constantPool := pool
  accessFlags := fl
  thisClass := this
  superClass := sup
  interfaces := ifs
  fields := fds
  methods := ms
  attributes := attrs
def plain (name : String) (sup : Option ClassId) : Class where
  name := name
  kind := .ordinary
  loader := none
  accessFlags := 33
  super := sup
  interfaces := #[]
  cf := none
  fields := #[]
  methods := #[]
  instanceTypes := #[]
  staticTypes := #[]
  resolved := #[]
  callSites := []
  init := .initialized
  statics := none
  mirror := none

def pool0 : Array CpInfo := pool [(5, u "<init>"), (0, u "()V"), (1, .class_ 10), (1, u "java/lang/Object")] 113

def k0c0 : Code := { maxStack := 0, maxLocals := 1, code := object_method_1_code, exceptionTable := #[], attributes := #[] }
def k0m0 : Method := { name := "<init>", desc := "()V", sig := { parameters := [], returnType := none }, accessFlags := 1, code := some k0c0 }
/-- java/lang/Object -/
def k0 : Class := { plain "java/lang/Object" none with
  accessFlags := 33
  interfaces := #[]
  cf := some (fileOf pool0 8 #[] #[{ accessFlags := 1, nameIndex := 5, descriptorIndex := 6, attributes := #[] }] 33 0 #[] #[])
  fields := #[]
  methods := #[k0m0]
  instanceTypes := #[]
  staticTypes := #[]
  resolved := Array.replicate 124 none
  statics := none }

def pool1 : Array CpInfo := pool [(2, .class_ 4), (1, u "java/lang/Object"), (0, u "<init>"), (0, u "()V"), (0, .integer 2147483647), (0, .methodref 9 10), (0, .class_ 11), (0, .nameAndType 12 13), (0, u "com/example/gapmend/gapmend/CheckSum"), (0, u "of"), (0, u "([BII)Ljava/lang/String;"), (0, .methodref 15 16), (0, .class_ 17), (0, .nameAndType 18 19), (0, u "com/example/gapmend/gapmend/CheckSumOfPinLaw"), (0, u "pick"), (0, u "([BIII)I"), (0, .methodref 21 22), (0, .class_ 23), (0, .nameAndType 24 25), (0, u "java/lang/String"), (0, u "length"), (0, u "()I"), (0, .methodref 21 27), (0, .nameAndType 28 29), (0, u "charAt"), (0, u "(I)C"), (0, .methodref 15 31), (0, .nameAndType 32 33), (0, u "digit"), (0, u "(C)Z"), (3, u "law"), (0, u "(JII)Z")] 4

def k1m0 : Method := { name := "<init>", desc := "()V", sig := { parameters := [], returnType := none }, accessFlags := 1, code := none }
def k1c1 : Code := { maxStack := 3, maxLocals := 4, code := method_2_code, exceptionTable := #[], attributes := #[] }
def k1m1 : Method := { name := "pick", desc := "([BIII)I", sig := { parameters := [(.array .byte), .int, .int, .int], returnType := some .int }, accessFlags := 10, code := some k1c1 }
def k1c2 : Code := { maxStack := 2, maxLocals := 1, code := method_3_code, exceptionTable := #[], attributes := #[] }
def k1m2 : Method := { name := "digit", desc := "(C)Z", sig := { parameters := [.char], returnType := some .boolean }, accessFlags := 10, code := some k1c2 }
def k1c3 : Code := { maxStack := 5, maxLocals := 14, code := code, exceptionTable := #[], attributes := #[] }
def k1m3 : Method := { name := "law", desc := "(JII)Z", sig := { parameters := [.long, .int, .int], returnType := some .boolean }, accessFlags := 9, code := some k1c3 }
/-- com/example/gapmend/gapmend/CheckSumOfPinLaw -/
def k1 : Class := { plain "com/example/gapmend/gapmend/CheckSumOfPinLaw" (some 0) with
  accessFlags := 49
  interfaces := #[]
  cf := some (fileOf pool1 15 #[] #[{ accessFlags := 1, nameIndex := 5, descriptorIndex := 6, attributes := #[] }, { accessFlags := 10, nameIndex := 18, descriptorIndex := 19, attributes := #[] }, { accessFlags := 10, nameIndex := 32, descriptorIndex := 33, attributes := #[] }, { accessFlags := 9, nameIndex := 37, descriptorIndex := 38, attributes := #[] }] 49 2 #[] #[])
  fields := #[]
  methods := #[k1m0, k1m1, k1m2, k1m3]
  instanceTypes := #[]
  staticTypes := #[]
  resolved := Array.replicate 43 none
  statics := none }

def pool2 : Array CpInfo := pool [(2, .class_ 4), (1, u "java/lang/Object"), (0, u "<init>"), (0, u "()V"), (0, .methodref 8 9), (0, .class_ 10), (0, .nameAndType 11 12), (0, u "java/util/Objects"), (0, u "checkFromIndexSize"), (0, u "(III)I"), (0, .class_ 14), (0, u "java/lang/String"), (0, .methodref 13 16), (0, .nameAndType 5 17), (0, u "([C)V"), (0, .class_ 19), (0, u "com/example/gapmend/gapmend/CheckSum"), (2, u "of"), (0, u "([BII)Ljava/lang/String;")] 3

def k2m0 : Method := { name := "<init>", desc := "()V", sig := { parameters := [], returnType := none }, accessFlags := 2, code := none }
def k2c1 : Code := { maxStack := 8, maxLocals := 5, code := prog_5_method_2_code, exceptionTable := #[], attributes := #[] }
def k2m1 : Method := { name := "of", desc := "([BII)Ljava/lang/String;", sig := { parameters := [(.array .byte), .int, .int], returnType := some (.object "java/lang/String") }, accessFlags := 9, code := some k2c1 }
/-- com/example/gapmend/gapmend/CheckSum -/
def k2 : Class := { plain "com/example/gapmend/gapmend/CheckSum" (some 0) with
  accessFlags := 33
  interfaces := #[]
  cf := some (fileOf pool2 18 #[] #[{ accessFlags := 2, nameIndex := 5, descriptorIndex := 6, attributes := #[] }, { accessFlags := 9, nameIndex := 22, descriptorIndex := 23, attributes := #[] }] 33 2 #[] #[])
  fields := #[]
  methods := #[k2m0, k2m1]
  instanceTypes := #[]
  staticTypes := #[]
  resolved := Array.replicate 27 none
  statics := none }

def pool3 : Array CpInfo := pool [(2, .class_ 4), (1, u "java/lang/Object"), (0, u "<init>"), (0, u "()V"), (35, .class_ 44), (1, u "java/util/Objects"), (61, .class_ 108), (1, u "jdk/internal/util/Preconditions"), (5, u "(IIILjava/util/function/BiFunction;)I"), (0, .methodref 106 116), (0, .nameAndType 117 114), (0, u "checkFromIndexSize"), (57, u "(III)I")] 8

def k3m0 : Method := { name := "<init>", desc := "()V", sig := { parameters := [], returnType := none }, accessFlags := 2, code := none }
def k3c1 : Code := { maxStack := 4, maxLocals := 3, code := jdk_31_method_19_code, exceptionTable := #[], attributes := #[] }
def k3m1 : Method := { name := "checkFromIndexSize", desc := "(III)I", sig := { parameters := [.int, .int, .int], returnType := some .int }, accessFlags := 9, code := some k3c1 }
/-- java/util/Objects -/
def k3 : Class := { plain "java/util/Objects" (some 0) with
  accessFlags := 49
  interfaces := #[]
  cf := some (fileOf pool3 42 #[] #[{ accessFlags := 2, nameIndex := 5, descriptorIndex := 6, attributes := #[] }, { accessFlags := 9, nameIndex := 117, descriptorIndex := 175, attributes := #[] }] 49 2 #[] #[])
  fields := #[]
  methods := #[k3m0, k3m1]
  instanceTypes := #[]
  staticTypes := #[]
  resolved := Array.replicate 184 none
  statics := none }

def pool4 : Array CpInfo := pool [(2, .class_ 4), (1, u "java/lang/Object"), (0, u "<init>"), (0, u "()V"), (17, .class_ 26), (1, u "jdk/internal/util/Preconditions"), (6, u "checkIndex"), (15, u "checkFromIndexSize"), (5, .class_ 56), (0, u "jdk/internal/util/Preconditions$4"), (57, .class_ 115), (0, u "jdk/internal/util/Preconditions$1"), (7, u "SIOOBE_FORMATTER"), (0, u "Ljava/util/function/BiFunction;"), (0, .class_ 126), (0, u "jdk/internal/util/Preconditions$2"), (3, u "AIOOBE_FORMATTER"), (0, .class_ 132), (0, u "jdk/internal/util/Preconditions$3"), (3, u "IOOBE_FORMATTER"), (41, u "(IILjava/util/function/BiFunction;)I"), (4, u "(IIILjava/util/function/BiFunction;)I")] 10

def k4m0 : Method := { name := "<init>", desc := "()V", sig := { parameters := [], returnType := none }, accessFlags := 1, code := none }
def k4c1 : Code := { maxStack := 3, maxLocals := 3, code := jdk_41_method_11_code, exceptionTable := #[], attributes := #[] }
def k4m1 : Method := { name := "checkIndex", desc := "(IILjava/util/function/BiFunction;)I", sig := { parameters := [.int, .int, (.object "java/util/function/BiFunction")], returnType := some .int }, accessFlags := 9, code := some k4c1 }
def k4c2 : Code := { maxStack := 4, maxLocals := 4, code := jdk_41_method_13_code, exceptionTable := #[], attributes := #[] }
def k4m2 : Method := { name := "checkFromIndexSize", desc := "(IIILjava/util/function/BiFunction;)I", sig := { parameters := [.int, .int, .int, (.object "java/util/function/BiFunction")], returnType := some .int }, accessFlags := 9, code := some k4c2 }
/-- jdk/internal/util/Preconditions -/
def k4 : Class := { plain "jdk/internal/util/Preconditions" (some 0) with
  accessFlags := 33
  interfaces := #[]
  cf := some (fileOf pool4 24 #[.nestMembers #[55, 131, 125, 114]] #[{ accessFlags := 1, nameIndex := 5, descriptorIndex := 6, attributes := #[] }, { accessFlags := 9, nameIndex := 33, descriptorIndex := 178, attributes := #[] }, { accessFlags := 9, nameIndex := 49, descriptorIndex := 183, attributes := #[] }] 33 2 #[] #[{ accessFlags := 25, nameIndex := 123, descriptorIndex := 124, attributes := #[] }, { accessFlags := 25, nameIndex := 130, descriptorIndex := 124, attributes := #[] }, { accessFlags := 25, nameIndex := 136, descriptorIndex := 124, attributes := #[] }])
  fields := #[{ name := "SIOOBE_FORMATTER", type := (.object "java/util/function/BiFunction"), accessFlags := 25, slot := 0, constantValue := 0 }, { name := "AIOOBE_FORMATTER", type := (.object "java/util/function/BiFunction"), accessFlags := 25, slot := 1, constantValue := 0 }, { name := "IOOBE_FORMATTER", type := (.object "java/util/function/BiFunction"), accessFlags := 25, slot := 2, constantValue := 0 }]
  methods := #[k4m0, k4m1, k4m2]
  instanceTypes := #[]
  staticTypes := #[(.object "java/util/function/BiFunction"), (.object "java/util/function/BiFunction"), (.object "java/util/function/BiFunction")]
  resolved := Array.replicate 194 none
  statics := some 0 }

def pool5 : Array CpInfo := pool [(1, .class_ 2), (0, u "java/io/Serializable"), (0, .class_ 4), (0, u "java/lang/Object")] 2

/-- java/io/Serializable -/
def k5 : Class := { plain "java/io/Serializable" (some 0) with
  accessFlags := 1537
  interfaces := #[]
  cf := some (fileOf pool5 1 #[] #[] 1537 3 #[] #[])
  fields := #[]
  methods := #[]
  instanceTypes := #[]
  staticTypes := #[]
  resolved := Array.replicate 7 none
  statics := none }

def pool6 : Array CpInfo := pool [(1, .class_ 2), (0, u "java/lang/Comparable"), (0, .class_ 4), (0, u "java/lang/Object")] 7

/-- java/lang/Comparable -/
def k6 : Class := { plain "java/lang/Comparable" (some 0) with
  accessFlags := 1537
  interfaces := #[]
  cf := some (fileOf pool6 1 #[] #[] 1537 3 #[] #[])
  fields := #[]
  methods := #[]
  instanceTypes := #[]
  staticTypes := #[]
  resolved := Array.replicate 12 none
  statics := none }

def pool7 : Array CpInfo := pool [(2, .class_ 4), (1, u "java/lang/CharSequence"), (42, .class_ 48), (0, u "java/lang/CharSequence$1CodePointIterator"), (10, .class_ 60), (0, u "java/lang/CharSequence$1CharIterator"), (5, .class_ 67), (0, u "java/lang/Object")] 63

/-- java/lang/CharSequence -/
def k7 : Class := { plain "java/lang/CharSequence" (some 0) with
  accessFlags := 1537
  interfaces := #[]
  cf := some (fileOf pool7 2 #[.nestMembers #[47, 59]] #[] 1537 66 #[] #[])
  fields := #[]
  methods := #[]
  instanceTypes := #[]
  staticTypes := #[]
  resolved := Array.replicate 131 none
  statics := none }

def pool8 : Array CpInfo := pool [(1, .class_ 2), (0, u "java/lang/constant/Constable"), (0, .class_ 4), (0, u "java/lang/Object")] 6

/-- java/lang/constant/Constable -/
def k8 : Class := { plain "java/lang/constant/Constable" (some 0) with
  accessFlags := 1537
  interfaces := #[]
  cf := some (fileOf pool8 1 #[] #[] 1537 3 #[] #[])
  fields := #[]
  methods := #[]
  instanceTypes := #[]
  staticTypes := #[]
  resolved := Array.replicate 11 none
  statics := none }

def pool9 : Array CpInfo := pool [(1, .class_ 2), (0, u "java/lang/constant/ConstantDesc"), (0, .class_ 4), (0, u "java/lang/Object")] 32

/-- java/lang/constant/ConstantDesc -/
def k9 : Class := { plain "java/lang/constant/ConstantDesc" (some 0) with
  accessFlags := 1537
  interfaces := #[]
  cf := some (fileOf pool9 1 #[] #[] 1537 3 #[] #[])
  fields := #[]
  methods := #[]
  instanceTypes := #[]
  staticTypes := #[]
  resolved := Array.replicate 37 none
  statics := none }

def pool10 : Array CpInfo := pool [(1, .methodref 2 3), (0, .class_ 4), (0, .nameAndType 5 6), (0, u "java/lang/Object"), (0, u "<init>"), (0, u "()V"), (2, .fieldref 10 11), (0, .class_ 12), (0, .nameAndType 13 14), (0, u "java/lang/String"), (0, u "value"), (0, u "[B"), (0, .fieldref 10 16), (0, .nameAndType 17 18), (0, u "coder"), (0, u "B"), (2, u "hash"), (0, u "I"), (2, u "hashIsZero"), (0, u "Z"), (0, .methodref 10 28), (0, .nameAndType 5 29), (0, u "([CIILjava/lang/Void;)V"), (8, .fieldref 10 39), (0, .nameAndType 40 26), (0, u "COMPACT_STRINGS"), (1, .class_ 44), (1, u "java/lang/StringUTF16"), (0, u "compress"), (1, .methodref 42 48), (0, .nameAndType 49 50), (0, u "coderFromArrayLen"), (0, u "([BI)B"), (56, .class_ 109), (1, u "java/lang/StringLatin1"), (32, u "()Z"), (34, .methodref 42 178), (0, .nameAndType 45 179), (0, u "([CII)[B"), (154, u "()I"), (0, .methodref 10 336), (0, .nameAndType 17 337), (0, u "()B"), (25, u "([BI)C"), (27, u "(II)V"), (35, u "(I)C"), (64, .methodref 10 493), (0, .nameAndType 494 142), (0, u "isLatin1"), (0, .methodref 107 496), (0, .nameAndType 497 363), (0, u "charAt"), (3, u "checkIndex"), (5, u "length"), (67, .class_ 576), (0, u "java/lang/CharSequence"), (22, u "CASE_INSENSITIVE_ORDER"), (0, u "Ljava/util/Comparator;"), (409, u "([C)V"), (42, .fieldref 1054 1055), (0, .class_ 1056), (0, .nameAndType 1057 1058), (0, u "jdk/internal/util/Preconditions"), (0, u "SIOOBE_FORMATTER"), (0, u "Ljava/util/function/BiFunction;"), (0, .methodref 1054 1060), (0, .nameAndType 501 1061), (0, u "(IILjava/util/function/BiFunction;)I"), (39, u "serialPersistentFields"), (0, u "[Ljava/io/ObjectStreamField;"), (0, .class_ 1104), (0, u "java/lang/String$CaseInsensitiveComparator"), (1, .class_ 1107), (0, u "java/io/Serializable"), (0, .class_ 1109), (0, u "java/lang/Comparable"), (0, .class_ 1111), (0, u "java/lang/constant/Constable"), (0, .class_ 1113), (0, u "java/lang/constant/ConstantDesc"), (2, u "serialVersionUID"), (0, u "J"), (3, u "REPL"), (0, u "C"), (2, u "LATIN1"), (1, u "UTF16")] 323

def k10m0 : Method := { name := "<init>", desc := "()V", sig := { parameters := [], returnType := none }, accessFlags := 1, code := none }
def k10c1 : Code := { maxStack := 5, maxLocals := 2, code := jdk_42_method_3_code, exceptionTable := #[], attributes := #[] }
def k10m1 : Method := { name := "<init>", desc := "([C)V", sig := { parameters := [(.array .char)], returnType := none }, accessFlags := 1, code := some k10c1 }
def k10c2 : Code := { maxStack := 2, maxLocals := 1, code := jdk_42_method_54_code, exceptionTable := #[], attributes := #[] }
def k10m2 : Method := { name := "length", desc := "()I", sig := { parameters := [], returnType := some .int }, accessFlags := 1, code := some k10c2 }
def k10c3 : Code := { maxStack := 2, maxLocals := 2, code := jdk_42_method_56_code, exceptionTable := #[], attributes := #[] }
def k10m3 : Method := { name := "charAt", desc := "(I)C", sig := { parameters := [.int], returnType := some .char }, accessFlags := 1, code := some k10c3 }
def k10c4 : Code := { maxStack := 4, maxLocals := 6, code := jdk_42_method_149_code, exceptionTable := #[], attributes := #[] }
def k10m4 : Method := { name := "<init>", desc := "([CIILjava/lang/Void;)V", sig := { parameters := [(.array .char), .int, .int, (.object "java/lang/Void")], returnType := none }, accessFlags := 2, code := some k10c4 }
def k10c5 : Code := { maxStack := 1, maxLocals := 1, code := jdk_42_method_152_code, exceptionTable := #[], attributes := #[] }
def k10m5 : Method := { name := "coder", desc := "()B", sig := { parameters := [], returnType := some .byte }, accessFlags := 0, code := some k10c5 }
def k10c6 : Code := { maxStack := 1, maxLocals := 1, code := jdk_42_method_154_code, exceptionTable := #[], attributes := #[] }
def k10m6 : Method := { name := "isLatin1", desc := "()Z", sig := { parameters := [], returnType := some .boolean }, accessFlags := 0, code := some k10c6 }
def k10c7 : Code := { maxStack := 3, maxLocals := 2, code := jdk_42_method_155_code, exceptionTable := #[], attributes := #[] }
def k10m7 : Method := { name := "checkIndex", desc := "(II)V", sig := { parameters := [.int, .int], returnType := none }, accessFlags := 8, code := some k10c7 }
/-- java/lang/String -/
def k10 : Class := { plain "java/lang/String" (some 0) with
  accessFlags := 49
  interfaces := #[5, 6, 7, 8, 9]
  cf := some (fileOf pool10 10 #[.nestMembers #[1103]] #[{ accessFlags := 1, nameIndex := 5, descriptorIndex := 6, attributes := #[] }, { accessFlags := 1, nameIndex := 5, descriptorIndex := 1010, attributes := #[] }, { accessFlags := 1, nameIndex := 507, descriptorIndex := 334, attributes := #[] }, { accessFlags := 1, nameIndex := 497, descriptorIndex := 427, attributes := #[] }, { accessFlags := 2, nameIndex := 5, descriptorIndex := 29, attributes := #[] }, { accessFlags := 0, nameIndex := 17, descriptorIndex := 337, attributes := #[] }, { accessFlags := 0, nameIndex := 494, descriptorIndex := 142, attributes := #[] }, { accessFlags := 8, nameIndex := 501, descriptorIndex := 391, attributes := #[] }] 49 2 #[1106, 1108, 575, 1110, 1112] #[{ accessFlags := 18, nameIndex := 13, descriptorIndex := 14, attributes := #[] }, { accessFlags := 18, nameIndex := 17, descriptorIndex := 18, attributes := #[] }, { accessFlags := 2, nameIndex := 21, descriptorIndex := 22, attributes := #[] }, { accessFlags := 2, nameIndex := 25, descriptorIndex := 26, attributes := #[] }, { accessFlags := 26, nameIndex := 1116, descriptorIndex := 1117, attributes := #[] }, { accessFlags := 24, nameIndex := 40, descriptorIndex := 26, attributes := #[] }, { accessFlags := 26, nameIndex := 1101, descriptorIndex := 1102, attributes := #[] }, { accessFlags := 26, nameIndex := 1121, descriptorIndex := 1122, attributes := #[] }, { accessFlags := 25, nameIndex := 599, descriptorIndex := 600, attributes := #[] }, { accessFlags := 24, nameIndex := 1125, descriptorIndex := 18, attributes := #[] }, { accessFlags := 24, nameIndex := 1127, descriptorIndex := 18, attributes := #[] }])
  fields := #[{ name := "value", type := (.array .byte), accessFlags := 18, slot := 0, constantValue := 0 }, { name := "coder", type := .byte, accessFlags := 18, slot := 1, constantValue := 0 }, { name := "hash", type := .int, accessFlags := 2, slot := 2, constantValue := 0 }, { name := "hashIsZero", type := .boolean, accessFlags := 2, slot := 3, constantValue := 0 }, { name := "serialVersionUID", type := .long, accessFlags := 26, slot := 0, constantValue := 0 }, { name := "COMPACT_STRINGS", type := .boolean, accessFlags := 24, slot := 1, constantValue := 0 }, { name := "serialPersistentFields", type := (.array (.object "java/io/ObjectStreamField")), accessFlags := 26, slot := 2, constantValue := 0 }, { name := "REPL", type := .char, accessFlags := 26, slot := 3, constantValue := 0 }, { name := "CASE_INSENSITIVE_ORDER", type := (.object "java/util/Comparator"), accessFlags := 25, slot := 4, constantValue := 0 }, { name := "LATIN1", type := .byte, accessFlags := 24, slot := 5, constantValue := 0 }, { name := "UTF16", type := .byte, accessFlags := 24, slot := 6, constantValue := 0 }]
  methods := #[k10m0, k10m1, k10m2, k10m3, k10m4, k10m5, k10m6, k10m7]
  instanceTypes := #[(.array .byte), .byte, .int, .boolean]
  staticTypes := #[.long, .boolean, (.array (.object "java/io/ObjectStreamField")), .char, (.object "java/util/Comparator"), .byte, .byte]
  resolved := Array.replicate 1451 none
  statics := some 1 }

def pool11 : Array CpInfo := pool [(6, .class_ 8), (1, u "java/lang/Object"), (0, u "<init>"), (0, u "()V"), (1, .class_ 14), (1, u "java/lang/StringUTF16"), (31, u "$assertionsDisabled"), (0, u "Z"), (13, u "HI_BYTE_SHIFT"), (0, u "I"), (2, u "LO_BYTE_SHIFT"), (49, .methodref 12 116), (0, .nameAndType 117 118), (0, u "compress"), (0, u "([CI[BII)I"), (3, u "([CII)[B"), (138, u "coderFromArrayLen"), (0, u "([BI)B"), (106, .class_ 371), (1, u "java/lang/StringUTF16$LinesSpliterator"), (58, u "MAX_LENGTH"), (196, .class_ 628), (0, u "java/lang/StringUTF16$CodePointsSpliterator"), (0, .class_ 630), (0, u "java/lang/StringUTF16$CharsSpliterator")] 4

def k11m0 : Method := { name := "<init>", desc := "()V", sig := { parameters := [], returnType := none }, accessFlags := 0, code := none }
def k11c1 : Code := { maxStack := 2, maxLocals := 2, code := jdk_52_method_15_code, exceptionTable := #[], attributes := #[] }
def k11m1 : Method := { name := "coderFromArrayLen", desc := "([BI)B", sig := { parameters := [(.array .byte), .int], returnType := some .byte }, accessFlags := 8, code := some k11c1 }
def k11c2 : Code := { maxStack := 5, maxLocals := 6, code := jdk_52_method_16_code, exceptionTable := #[], attributes := #[] }
def k11m2 : Method := { name := "compress", desc := "([CII)[B", sig := { parameters := [(.array .char), .int, .int], returnType := some (.array .byte) }, accessFlags := 9, code := some k11c2 }
def k11c3 : Code := { maxStack := 3, maxLocals := 7, code := jdk_52_method_21_code, exceptionTable := #[], attributes := #[] }
def k11m3 : Method := { name := "compress", desc := "([CI[BII)I", sig := { parameters := [(.array .char), .int, (.array .byte), .int, .int], returnType := some .int }, accessFlags := 9, code := some k11c3 }
/-- java/lang/StringUTF16 -/
def k11 : Class := { plain "java/lang/StringUTF16" (some 0) with
  accessFlags := 48
  interfaces := #[]
  cf := some (fileOf pool11 12 #[.nestMembers #[627, 629, 369]] #[{ accessFlags := 0, nameIndex := 9, descriptorIndex := 10, attributes := #[] }, { accessFlags := 8, nameIndex := 261, descriptorIndex := 262, attributes := #[] }, { accessFlags := 9, nameIndex := 117, descriptorIndex := 122, attributes := #[] }, { accessFlags := 9, nameIndex := 117, descriptorIndex := 118, attributes := #[] }] 48 6 #[] #[{ accessFlags := 26, nameIndex := 61, descriptorIndex := 62, attributes := #[] }, { accessFlags := 26, nameIndex := 65, descriptorIndex := 62, attributes := #[] }, { accessFlags := 24, nameIndex := 430, descriptorIndex := 62, attributes := #[] }, { accessFlags := 4120, nameIndex := 46, descriptorIndex := 47, attributes := #[] }])
  fields := #[{ name := "HI_BYTE_SHIFT", type := .int, accessFlags := 26, slot := 0, constantValue := 0 }, { name := "LO_BYTE_SHIFT", type := .int, accessFlags := 26, slot := 1, constantValue := 0 }, { name := "MAX_LENGTH", type := .int, accessFlags := 24, slot := 2, constantValue := 0 }, { name := "$assertionsDisabled", type := .boolean, accessFlags := 4120, slot := 3, constantValue := 0 }]
  methods := #[k11m0, k11m1, k11m2, k11m3]
  instanceTypes := #[]
  staticTypes := #[.int, .int, .int, .boolean]
  resolved := Array.replicate 635 none
  statics := none }

def pool12 : Array CpInfo := pool [(1, .class_ 2), (0, u "java/lang/String"), (1, .class_ 6), (1, u "java/lang/Object"), (0, u "<init>"), (0, u "()V"), (0, .methodref 1 10), (0, .nameAndType 11 12), (0, u "checkIndex"), (0, u "(II)V"), (1, .class_ 16), (1, u "java/lang/StringLatin1"), (36, u "([BI)C"), (67, u "$assertionsDisabled"), (0, u "Z"), (98, .class_ 223), (1, u "java/lang/StringLatin1$LinesSpliterator"), (28, u "charAt"), (137, .class_ 391), (0, u "java/lang/StringLatin1$CharsSpliterator")] 3

def k12m0 : Method := { name := "<init>", desc := "()V", sig := { parameters := [], returnType := none }, accessFlags := 0, code := none }
def k12c1 : Code := { maxStack := 2, maxLocals := 2, code := jdk_43_method_2_code, exceptionTable := #[], attributes := #[] }
def k12m1 : Method := { name := "charAt", desc := "([BI)C", sig := { parameters := [(.array .byte), .int], returnType := some .char }, accessFlags := 9, code := some k12c1 }
/-- java/lang/StringLatin1 -/
def k12 : Class := { plain "java/lang/StringLatin1" (some 0) with
  accessFlags := 48
  interfaces := #[]
  cf := some (fileOf pool12 14 #[.nestMembers #[390, 221]] #[{ accessFlags := 0, nameIndex := 7, descriptorIndex := 8, attributes := #[] }, { accessFlags := 9, nameIndex := 252, descriptorIndex := 53, attributes := #[] }] 48 4 #[] #[{ accessFlags := 4120, nameIndex := 121, descriptorIndex := 122, attributes := #[] }])
  fields := #[{ name := "$assertionsDisabled", type := .boolean, accessFlags := 4120, slot := 0, constantValue := 0 }]
  methods := #[k12m0, k12m1]
  instanceTypes := #[]
  staticTypes := #[.boolean]
  resolved := Array.replicate 395 none
  statics := none }

def pool13 : Array CpInfo := pool [(9, u "<init>"), (6, .class_ 18), (1, u "java/lang/Object"), (0, u "()V"), (1, .class_ 23), (1, u "jdk/internal/util/ArraysSupport"), (0, u "LOG2_ARRAY_LONG_INDEX_SCALE"), (0, u "I"), (2, u "U"), (0, u "Ljdk/internal/misc/Unsafe;"), (8, u "BIG_ENDIAN"), (0, u "Z"), (8, u "LOG2_BYTE_BIT_SIZE"), (4, u "LOG2_ARRAY_INT_INDEX_SCALE"), (54, u "JLA"), (0, u "Ljdk/internal/access/JavaLangAccess;"), (11, u "LOG2_ARRAY_BOOLEAN_INDEX_SCALE"), (9, u "LOG2_ARRAY_BYTE_INDEX_SCALE"), (5, u "LOG2_ARRAY_CHAR_INDEX_SCALE"), (5, u "LOG2_ARRAY_SHORT_INDEX_SCALE"), (18, u "LOG2_ARRAY_FLOAT_INDEX_SCALE"), (24, u "LOG2_ARRAY_DOUBLE_INDEX_SCALE"), (89, u "T_BOOLEAN"), (2, u "T_CHAR"), (1, u "T_FLOAT"), (1, u "T_DOUBLE"), (1, u "T_BYTE"), (1, u "T_SHORT"), (1, u "T_INT"), (1, u "T_LONG"), (1, u "SOFT_MAX_ARRAY_LENGTH")] 83

def k13m0 : Method := { name := "<init>", desc := "()V", sig := { parameters := [], returnType := none }, accessFlags := 2, code := none }
/-- jdk/internal/util/ArraysSupport -/
def k13 : Class := { plain "jdk/internal/util/ArraysSupport" (some 0) with
  accessFlags := 33
  interfaces := #[]
  cf := some (fileOf pool13 21 #[] #[{ accessFlags := 2, nameIndex := 9, descriptorIndex := 19, attributes := #[] }] 33 16 #[] #[{ accessFlags := 24, nameIndex := 28, descriptorIndex := 29, attributes := #[] }, { accessFlags := 26, nameIndex := 38, descriptorIndex := 39, attributes := #[] }, { accessFlags := 25, nameIndex := 121, descriptorIndex := 25, attributes := #[] }, { accessFlags := 25, nameIndex := 131, descriptorIndex := 25, attributes := #[] }, { accessFlags := 25, nameIndex := 137, descriptorIndex := 25, attributes := #[] }, { accessFlags := 25, nameIndex := 143, descriptorIndex := 25, attributes := #[] }, { accessFlags := 25, nameIndex := 53, descriptorIndex := 25, attributes := #[] }, { accessFlags := 25, nameIndex := 24, descriptorIndex := 25, attributes := #[] }, { accessFlags := 25, nameIndex := 162, descriptorIndex := 25, attributes := #[] }, { accessFlags := 25, nameIndex := 187, descriptorIndex := 25, attributes := #[] }, { accessFlags := 26, nameIndex := 48, descriptorIndex := 25, attributes := #[] }, { accessFlags := 25, nameIndex := 277, descriptorIndex := 25, attributes := #[] }, { accessFlags := 25, nameIndex := 280, descriptorIndex := 25, attributes := #[] }, { accessFlags := 25, nameIndex := 282, descriptorIndex := 25, attributes := #[] }, { accessFlags := 25, nameIndex := 284, descriptorIndex := 25, attributes := #[] }, { accessFlags := 25, nameIndex := 286, descriptorIndex := 25, attributes := #[] }, { accessFlags := 25, nameIndex := 288, descriptorIndex := 25, attributes := #[] }, { accessFlags := 25, nameIndex := 290, descriptorIndex := 25, attributes := #[] }, { accessFlags := 25, nameIndex := 292, descriptorIndex := 25, attributes := #[] }, { accessFlags := 26, nameIndex := 108, descriptorIndex := 109, attributes := #[] }, { accessFlags := 25, nameIndex := 294, descriptorIndex := 25, attributes := #[] }])
  fields := #[{ name := "U", type := (.object "jdk/internal/misc/Unsafe"), accessFlags := 24, slot := 0, constantValue := 0 }, { name := "BIG_ENDIAN", type := .boolean, accessFlags := 26, slot := 1, constantValue := 0 }, { name := "LOG2_ARRAY_BOOLEAN_INDEX_SCALE", type := .int, accessFlags := 25, slot := 2, constantValue := 0 }, { name := "LOG2_ARRAY_BYTE_INDEX_SCALE", type := .int, accessFlags := 25, slot := 3, constantValue := 0 }, { name := "LOG2_ARRAY_CHAR_INDEX_SCALE", type := .int, accessFlags := 25, slot := 4, constantValue := 0 }, { name := "LOG2_ARRAY_SHORT_INDEX_SCALE", type := .int, accessFlags := 25, slot := 5, constantValue := 0 }, { name := "LOG2_ARRAY_INT_INDEX_SCALE", type := .int, accessFlags := 25, slot := 6, constantValue := 0 }, { name := "LOG2_ARRAY_LONG_INDEX_SCALE", type := .int, accessFlags := 25, slot := 7, constantValue := 0 }, { name := "LOG2_ARRAY_FLOAT_INDEX_SCALE", type := .int, accessFlags := 25, slot := 8, constantValue := 0 }, { name := "LOG2_ARRAY_DOUBLE_INDEX_SCALE", type := .int, accessFlags := 25, slot := 9, constantValue := 0 }, { name := "LOG2_BYTE_BIT_SIZE", type := .int, accessFlags := 26, slot := 10, constantValue := 0 }, { name := "T_BOOLEAN", type := .int, accessFlags := 25, slot := 11, constantValue := 0 }, { name := "T_CHAR", type := .int, accessFlags := 25, slot := 12, constantValue := 0 }, { name := "T_FLOAT", type := .int, accessFlags := 25, slot := 13, constantValue := 0 }, { name := "T_DOUBLE", type := .int, accessFlags := 25, slot := 14, constantValue := 0 }, { name := "T_BYTE", type := .int, accessFlags := 25, slot := 15, constantValue := 0 }, { name := "T_SHORT", type := .int, accessFlags := 25, slot := 16, constantValue := 0 }, { name := "T_INT", type := .int, accessFlags := 25, slot := 17, constantValue := 0 }, { name := "T_LONG", type := .int, accessFlags := 25, slot := 18, constantValue := 0 }, { name := "JLA", type := (.object "jdk/internal/access/JavaLangAccess"), accessFlags := 26, slot := 19, constantValue := 0 }, { name := "SOFT_MAX_ARRAY_LENGTH", type := .int, accessFlags := 25, slot := 20, constantValue := 0 }]
  methods := #[k13m0]
  instanceTypes := #[]
  staticTypes := #[(.object "jdk/internal/misc/Unsafe"), .boolean, .int, .int, .int, .int, .int, .int, .int, .int, .int, .int, .int, .int, .int, .int, .int, .int, .int, (.object "jdk/internal/access/JavaLangAccess"), .int]
  resolved := Array.replicate 378 none
  statics := none }

def pool14 : Array CpInfo := pool [(1, u "java/lang/Cloneable"), (0, .class_ 1), (0, u "java/lang/Object"), (0, .class_ 3)] 3

/-- java/lang/Cloneable -/
def k14 : Class := { plain "java/lang/Cloneable" (some 0) with
  accessFlags := 1537
  interfaces := #[]
  cf := some (fileOf pool14 2 #[] #[] 1537 4 #[] #[])
  fields := #[]
  methods := #[]
  instanceTypes := #[]
  staticTypes := #[]
  resolved := Array.replicate 8 none
  statics := none }

/-- the primitive byte -/
def k15 : Class := { plain "byte" none with kind := .primitive 'B', accessFlags := 0x411 }
/-- [B -/
def k16 : Class := { plain "[B" (some 0) with kind := .array 15 .byte, interfaces := #[14, 5], accessFlags := 1041 }

/-- the primitive char -/
def k17 : Class := { plain "char" none with kind := .primitive 'C', accessFlags := 0x411 }
/-- [C -/
def k18 : Class := { plain "[C" (some 0) with kind := .array 17 .char, interfaces := #[14, 5], accessFlags := 1041 }

/-- the primitive int -/
def k19 : Class := { plain "int" none with kind := .primitive 'I', accessFlags := 0x411 }
/-- [I -/
def k20 : Class := { plain "[I" (some 0) with kind := .array 19 .int, interfaces := #[14, 5], accessFlags := 1041 }

def heap : Heap := #[{ cls := 4, slots := #[.null, .null, .null], vm := .statics 4 },
  { cls := 10, slots := #[.long 0, .int 1, .null, .int 0, .null, .int 0, .int 0], vm := .statics 10 }]
def classes : Array Class := #[k0, k1, k2, k3, k4, k5, k6, k7, k8, k9, k10, k11, k12, k13, k14, k15, k16, k17, k18, k19, k20]
def interned : List (Array UInt16 × Addr) := []
def slotsUsed : Nat := 10
def theMethod : MethodId := ⟨1, 3⟩
def args0 : Array Value := #[.long 5, .int 7, .int 3]
def aboutOver (below : List Frame) : State where
  vm := { classes := classes, interned := interned.toArray }
  heap := heap
  slotsUsed := slotsUsed
  threads := #[{ frames := .invoking theMethod args0 :: below }]
def below0 : List Frame := [.native { method := ⟨0, 0⟩, args := #[] }]
def about1 : State := aboutOver below0
def p0 : Program := .bare "" "" ""
def e0 : Env := launch0.env 0 0 0
theorem w_frames : about1.frames = Frame.invoking theMethod args0 :: below0 := rfl
set_option maxRecDepth 65536 in
theorem w_args : argsFit about1.vm theMethod args0 = true := by decide +kernel
set_option maxRecDepth 65536 in
theorem w_heap : heapFits about1 = true := by decide +kernel
set_option maxRecDepth 65536 in
theorem w_runnable : about1.curStatus? = some .runnable := by decide +kernel
set_option maxRecDepth 65536 in
theorem w_alone : about1.alone = true := by decide +kernel
set_option maxRecDepth 65536 in
theorem w_named : about1.methodNamed? x = some theMethod := by decide +kernel
set_option maxRecDepth 65536 in
theorem w_hears : about1.hears theMethod below0 = true := by decide +kernel
set_option maxRecDepth 65536 in
theorem w_ripe : about1.ripe theMethod args0 below0 = true := by decide +kernel
theorem w_running : about1.status = .running := rfl
set_option maxRecDepth 65536 in
theorem w_room : about1.hasRoom e0.platform room_1 = true :=
  launch0.hasRoom_least _ room_1 (by decide +kernel) (by decide +kernel) (by decide +kernel) (by decide +kernel) (by decide +kernel) (by decide +kernel)
theorem allAtoms_all (ts : List Jvm.Cond) (a : Array Jvm.Value) (st : Jvm.State) : (allAtoms ts).before a st = ts.all (fun c => c.before a st) := by
  induction ts with
  | nil => rfl
  | cons c t ih =>
    show (Jvm.Cond.and c (allAtoms t)).before a st = _
    rw [Jvm.Cond.before_and, ih, List.all_cons]
def words1 : List Jvm.Cond := Jvm.Cond.code x code maxLocals ret :: tables_1
/-- a 'code' word, met by the world's own term for the bytes: nothing is compared byte by byte -/
theorem code_word {y : MethodName} {bytes : ByteArray} {mx : Nat} {rt : Option FieldType} {a : Array Value} {s : State} {m : MethodId} {meth : Method} {c : Code} (h1 : s.methodNamed? y = some m) (h2 : s.vm.method? m = some meth) (h3 : meth.code = some c) (h4 : c.code = bytes)
    (h5 : (c.maxLocals == mx && c.exceptionTable.isEmpty && decide (c.maxStack ≤ mostOperands) && decide (meth.sig.returnType = rt) && !meth.locks && decide (parseMethodDescriptor y.desc = some meth.sig)) = true) : (Jvm.Cond.code y bytes mx rt).before a s = true := by
  simp only [Bool.and_eq_true, beq_iff_eq, Bool.not_eq_true', decide_eq_true_eq] at h5
  obtain ⟨⟨⟨⟨⟨g1, g2⟩, g3⟩, g4⟩, g5⟩, g6⟩ := h5
  simp [Cond.before, Cond.holds, Cond.value, h1, h2, h3, h4, g1, g2, g3, g4, g5, g6]
def isCode : Jvm.Cond → Bool
  | .code _ _ _ _ => true
  | _ => false
theorem all_split {L : List Jvm.Cond} {P : Jvm.Cond → Bool} (h1 : L.all (fun c => isCode c || P c) = true) (h2 : ∀ c ∈ L.filter isCode, P c = true) : L.all P = true := by
  refine List.all_eq_true.mpr fun c hc => ?_
  have h := List.all_eq_true.mp h1 c hc
  rcases Bool.eq_false_or_eq_true (isCode c) with hi | hi
  · exact h2 c (List.mem_filter.mpr ⟨hc, hi⟩)
  · simpa [hi] using h
set_option maxRecDepth 65536 in
theorem w_c0 : (Jvm.Cond.code x code maxLocals ret).before args0 about1 = true := code_word (m := ⟨1, 3⟩) (meth := k1m3) (c := k1c3) (by decide +kernel) rfl rfl rfl (by decide +kernel)
set_option maxRecDepth 65536 in
theorem w_c1 : (Jvm.Cond.code ({ cls := "com/example/gapmend/gapmend/CheckSum", name := "of", desc := "([BII)Ljava/lang/String;" } : Jvm.MethodName) prog_5_method_2_code (5 : Nat) (Option.some (Jvm.ClassFile.FieldType.object "java/lang/String"))).before args0 about1 = true := code_word (m := ⟨2, 1⟩) (meth := k2m1) (c := k2c1) (by decide +kernel) rfl rfl rfl (by decide +kernel)
set_option maxRecDepth 65536 in
theorem w_c2 : (Jvm.Cond.code ({ cls := "java/util/Objects", name := "checkFromIndexSize", desc := "(III)I" } : Jvm.MethodName) jdk_31_method_19_code (3 : Nat) (Option.some Jvm.ClassFile.FieldType.int)).before args0 about1 = true := code_word (m := ⟨3, 1⟩) (meth := k3m1) (c := k3c1) (by decide +kernel) rfl rfl rfl (by decide +kernel)
set_option maxRecDepth 65536 in
theorem w_c3 : (Jvm.Cond.code ({ cls := "jdk/internal/util/Preconditions", name := "checkFromIndexSize", desc := "(IIILjava/util/function/BiFunction;)I" } : Jvm.MethodName) jdk_41_method_13_code (4 : Nat) (Option.some Jvm.ClassFile.FieldType.int)).before args0 about1 = true := code_word (m := ⟨4, 2⟩) (meth := k4m2) (c := k4c2) (by decide +kernel) rfl rfl rfl (by decide +kernel)
set_option maxRecDepth 65536 in
theorem w_c4 : (Jvm.Cond.code ({ cls := "java/lang/String", name := "<init>", desc := "([C)V" } : Jvm.MethodName) jdk_42_method_3_code (2 : Nat) (Option.none : Option Jvm.ClassFile.FieldType)).before args0 about1 = true := code_word (m := ⟨10, 1⟩) (meth := k10m1) (c := k10c1) (by decide +kernel) rfl rfl rfl (by decide +kernel)
set_option maxRecDepth 65536 in
theorem w_c5 : (Jvm.Cond.code ({ cls := "java/lang/String", name := "<init>", desc := "([CIILjava/lang/Void;)V" } : Jvm.MethodName) jdk_42_method_149_code (6 : Nat) (Option.none : Option Jvm.ClassFile.FieldType)).before args0 about1 = true := code_word (m := ⟨10, 4⟩) (meth := k10m4) (c := k10c4) (by decide +kernel) rfl rfl rfl (by decide +kernel)
set_option maxRecDepth 65536 in
theorem w_c6 : (Jvm.Cond.code ({ cls := "java/lang/Object", name := "<init>", desc := "()V" } : Jvm.MethodName) object_method_1_code (1 : Nat) (Option.none : Option Jvm.ClassFile.FieldType)).before args0 about1 = true := code_word (m := ⟨0, 0⟩) (meth := k0m0) (c := k0c0) (by decide +kernel) rfl rfl rfl (by decide +kernel)
set_option maxRecDepth 65536 in
theorem w_c7 : (Jvm.Cond.code ({ cls := "java/lang/StringUTF16", name := "compress", desc := "([CII)[B" } : Jvm.MethodName) jdk_52_method_16_code (6 : Nat) (Option.some (Jvm.ClassFile.FieldType.array Jvm.ClassFile.FieldType.byte))).before args0 about1 = true := code_word (m := ⟨11, 2⟩) (meth := k11m2) (c := k11c2) (by decide +kernel) rfl rfl rfl (by decide +kernel)
set_option maxRecDepth 65536 in
theorem w_c8 : (Jvm.Cond.code ({ cls := "java/lang/StringUTF16", name := "compress", desc := "([CI[BII)I" } : Jvm.MethodName) jdk_52_method_21_code (7 : Nat) (Option.some Jvm.ClassFile.FieldType.int)).before args0 about1 = true := code_word (m := ⟨11, 3⟩) (meth := k11m3) (c := k11c3) (by decide +kernel) rfl rfl rfl (by decide +kernel)
set_option maxRecDepth 65536 in
theorem w_c9 : (Jvm.Cond.code ({ cls := "java/lang/StringUTF16", name := "coderFromArrayLen", desc := "([BI)B" } : Jvm.MethodName) jdk_52_method_15_code (2 : Nat) (Option.some Jvm.ClassFile.FieldType.byte)).before args0 about1 = true := code_word (m := ⟨11, 1⟩) (meth := k11m1) (c := k11c1) (by decide +kernel) rfl rfl rfl (by decide +kernel)
set_option maxRecDepth 65536 in
theorem w_c10 : (Jvm.Cond.code ({ cls := "com/example/gapmend/gapmend/CheckSumOfPinLaw", name := "pick", desc := "([BIII)I" } : Jvm.MethodName) method_2_code (4 : Nat) (Option.some Jvm.ClassFile.FieldType.int)).before args0 about1 = true := code_word (m := ⟨1, 1⟩) (meth := k1m1) (c := k1c1) (by decide +kernel) rfl rfl rfl (by decide +kernel)
set_option maxRecDepth 65536 in
theorem w_c11 : (Jvm.Cond.code ({ cls := "java/lang/String", name := "length", desc := "()I" } : Jvm.MethodName) jdk_42_method_54_code (1 : Nat) (Option.some Jvm.ClassFile.FieldType.int)).before args0 about1 = true := code_word (m := ⟨10, 2⟩) (meth := k10m2) (c := k10c2) (by decide +kernel) rfl rfl rfl (by decide +kernel)
set_option maxRecDepth 65536 in
theorem w_c12 : (Jvm.Cond.code ({ cls := "java/lang/String", name := "coder", desc := "()B" } : Jvm.MethodName) jdk_42_method_152_code (1 : Nat) (Option.some Jvm.ClassFile.FieldType.byte)).before args0 about1 = true := code_word (m := ⟨10, 5⟩) (meth := k10m5) (c := k10c5) (by decide +kernel) rfl rfl rfl (by decide +kernel)
set_option maxRecDepth 65536 in
theorem w_c13 : (Jvm.Cond.code ({ cls := "java/lang/String", name := "charAt", desc := "(I)C" } : Jvm.MethodName) jdk_42_method_56_code (2 : Nat) (Option.some Jvm.ClassFile.FieldType.char)).before args0 about1 = true := code_word (m := ⟨10, 3⟩) (meth := k10m3) (c := k10c3) (by decide +kernel) rfl rfl rfl (by decide +kernel)
set_option maxRecDepth 65536 in
theorem w_c14 : (Jvm.Cond.code ({ cls := "java/lang/String", name := "isLatin1", desc := "()Z" } : Jvm.MethodName) jdk_42_method_154_code (1 : Nat) (Option.some Jvm.ClassFile.FieldType.boolean)).before args0 about1 = true := code_word (m := ⟨10, 6⟩) (meth := k10m6) (c := k10c6) (by decide +kernel) rfl rfl rfl (by decide +kernel)
set_option maxRecDepth 65536 in
theorem w_c15 : (Jvm.Cond.code ({ cls := "java/lang/StringLatin1", name := "charAt", desc := "([BI)C" } : Jvm.MethodName) jdk_43_method_2_code (2 : Nat) (Option.some Jvm.ClassFile.FieldType.char)).before args0 about1 = true := code_word (m := ⟨12, 1⟩) (meth := k12m1) (c := k12c1) (by decide +kernel) rfl rfl rfl (by decide +kernel)
set_option maxRecDepth 65536 in
theorem w_c16 : (Jvm.Cond.code ({ cls := "java/lang/String", name := "checkIndex", desc := "(II)V" } : Jvm.MethodName) jdk_42_method_155_code (2 : Nat) (Option.none : Option Jvm.ClassFile.FieldType)).before args0 about1 = true := code_word (m := ⟨10, 7⟩) (meth := k10m7) (c := k10c7) (by decide +kernel) rfl rfl rfl (by decide +kernel)
set_option maxRecDepth 65536 in
theorem w_c17 : (Jvm.Cond.code ({ cls := "jdk/internal/util/Preconditions", name := "checkIndex", desc := "(IILjava/util/function/BiFunction;)I" } : Jvm.MethodName) jdk_41_method_11_code (3 : Nat) (Option.some Jvm.ClassFile.FieldType.int)).before args0 about1 = true := code_word (m := ⟨4, 1⟩) (meth := k4m1) (c := k4c1) (by decide +kernel) rfl rfl rfl (by decide +kernel)
set_option maxRecDepth 65536 in
theorem w_c18 : (Jvm.Cond.code ({ cls := "com/example/gapmend/gapmend/CheckSumOfPinLaw", name := "digit", desc := "(C)Z" } : Jvm.MethodName) method_3_code (1 : Nat) (Option.some Jvm.ClassFile.FieldType.boolean)).before args0 about1 = true := code_word (m := ⟨1, 2⟩) (meth := k1m2) (c := k1c2) (by decide +kernel) rfl rfl rfl (by decide +kernel)
def codes1 : List Jvm.Cond := [Jvm.Cond.code x code maxLocals ret, Jvm.Cond.code ({ cls := "com/example/gapmend/gapmend/CheckSum", name := "of", desc := "([BII)Ljava/lang/String;" } : Jvm.MethodName) prog_5_method_2_code (5 : Nat) (Option.some (Jvm.ClassFile.FieldType.object "java/lang/String")), Jvm.Cond.code ({ cls := "java/util/Objects", name := "checkFromIndexSize", desc := "(III)I" } : Jvm.MethodName) jdk_31_method_19_code (3 : Nat) (Option.some Jvm.ClassFile.FieldType.int), Jvm.Cond.code ({ cls := "jdk/internal/util/Preconditions", name := "checkFromIndexSize", desc := "(IIILjava/util/function/BiFunction;)I" } : Jvm.MethodName) jdk_41_method_13_code (4 : Nat) (Option.some Jvm.ClassFile.FieldType.int), Jvm.Cond.code ({ cls := "java/lang/String", name := "<init>", desc := "([C)V" } : Jvm.MethodName) jdk_42_method_3_code (2 : Nat) (Option.none : Option Jvm.ClassFile.FieldType), Jvm.Cond.code ({ cls := "java/lang/String", name := "<init>", desc := "([CIILjava/lang/Void;)V" } : Jvm.MethodName) jdk_42_method_149_code (6 : Nat) (Option.none : Option Jvm.ClassFile.FieldType), Jvm.Cond.code ({ cls := "java/lang/Object", name := "<init>", desc := "()V" } : Jvm.MethodName) object_method_1_code (1 : Nat) (Option.none : Option Jvm.ClassFile.FieldType), Jvm.Cond.code ({ cls := "java/lang/StringUTF16", name := "compress", desc := "([CII)[B" } : Jvm.MethodName) jdk_52_method_16_code (6 : Nat) (Option.some (Jvm.ClassFile.FieldType.array Jvm.ClassFile.FieldType.byte)), Jvm.Cond.code ({ cls := "java/lang/StringUTF16", name := "compress", desc := "([CI[BII)I" } : Jvm.MethodName) jdk_52_method_21_code (7 : Nat) (Option.some Jvm.ClassFile.FieldType.int), Jvm.Cond.code ({ cls := "java/lang/StringUTF16", name := "coderFromArrayLen", desc := "([BI)B" } : Jvm.MethodName) jdk_52_method_15_code (2 : Nat) (Option.some Jvm.ClassFile.FieldType.byte), Jvm.Cond.code ({ cls := "com/example/gapmend/gapmend/CheckSumOfPinLaw", name := "pick", desc := "([BIII)I" } : Jvm.MethodName) method_2_code (4 : Nat) (Option.some Jvm.ClassFile.FieldType.int), Jvm.Cond.code ({ cls := "java/lang/String", name := "length", desc := "()I" } : Jvm.MethodName) jdk_42_method_54_code (1 : Nat) (Option.some Jvm.ClassFile.FieldType.int), Jvm.Cond.code ({ cls := "java/lang/String", name := "coder", desc := "()B" } : Jvm.MethodName) jdk_42_method_152_code (1 : Nat) (Option.some Jvm.ClassFile.FieldType.byte), Jvm.Cond.code ({ cls := "java/lang/String", name := "charAt", desc := "(I)C" } : Jvm.MethodName) jdk_42_method_56_code (2 : Nat) (Option.some Jvm.ClassFile.FieldType.char), Jvm.Cond.code ({ cls := "java/lang/String", name := "isLatin1", desc := "()Z" } : Jvm.MethodName) jdk_42_method_154_code (1 : Nat) (Option.some Jvm.ClassFile.FieldType.boolean), Jvm.Cond.code ({ cls := "java/lang/StringLatin1", name := "charAt", desc := "([BI)C" } : Jvm.MethodName) jdk_43_method_2_code (2 : Nat) (Option.some Jvm.ClassFile.FieldType.char), Jvm.Cond.code ({ cls := "java/lang/String", name := "checkIndex", desc := "(II)V" } : Jvm.MethodName) jdk_42_method_155_code (2 : Nat) (Option.none : Option Jvm.ClassFile.FieldType), Jvm.Cond.code ({ cls := "jdk/internal/util/Preconditions", name := "checkIndex", desc := "(IILjava/util/function/BiFunction;)I" } : Jvm.MethodName) jdk_41_method_11_code (3 : Nat) (Option.some Jvm.ClassFile.FieldType.int), Jvm.Cond.code ({ cls := "com/example/gapmend/gapmend/CheckSumOfPinLaw", name := "digit", desc := "(C)Z" } : Jvm.MethodName) method_3_code (1 : Nat) (Option.some Jvm.ClassFile.FieldType.boolean)]
set_option maxRecDepth 65536 in
theorem codes_eq : words1.filter isCode = codes1 := rfl
theorem w_codes : ∀ c ∈ words1.filter isCode, c.before args0 about1 = true := by
  rw [codes_eq]
  intro c hc
  simp only [codes1, List.mem_cons, List.not_mem_nil, or_false] at hc
  rcases hc with rfl | rfl | rfl | rfl | rfl | rfl | rfl | rfl | rfl | rfl | rfl | rfl | rfl | rfl | rfl | rfl | rfl | rfl | rfl
  · exact w_c0
  · exact w_c1
  · exact w_c2
  · exact w_c3
  · exact w_c4
  · exact w_c5
  · exact w_c6
  · exact w_c7
  · exact w_c8
  · exact w_c9
  · exact w_c10
  · exact w_c11
  · exact w_c12
  · exact w_c13
  · exact w_c14
  · exact w_c15
  · exact w_c16
  · exact w_c17
  · exact w_c18
set_option maxRecDepth 65536 in
theorem w_t1 : (words1.take 24).all (fun c => isCode c || c.before args0 about1) = true := by decide +kernel
set_option maxRecDepth 65536 in
theorem w_t2 : ((words1.drop 24).take 24).all (fun c => isCode c || c.before args0 about1) = true := by decide +kernel
set_option maxRecDepth 65536 in
theorem w_t3 : (((words1.drop 24).drop 24).take 24).all (fun c => isCode c || c.before args0 about1) = true := by decide +kernel
set_option maxRecDepth 65536 in
theorem w_t4 : (((words1.drop 24).drop 24).drop 24).all (fun c => isCode c || c.before args0 about1) = true := by decide +kernel
theorem w_tables : (allAtoms (Jvm.Cond.code x code maxLocals ret :: tables_1)).before args0 about1 = true := by
  rw [allAtoms_all]
  show words1.all (fun c => c.before args0 about1) = true
  refine all_split ?_ w_codes
  rw [← List.take_append_drop 24 words1, List.all_append, w_t1, ← List.take_append_drop 24 (words1.drop 24), List.all_append, w_t2, ← List.take_append_drop 24 ((words1.drop 24).drop 24), List.all_append, w_t3, w_t4]
  rfl
set_option maxRecDepth 65536 in
theorem w_rest : rest_1_c.before args0 about1 = true := by decide +kernel
set_option maxRecDepth 65536 in
theorem w_case : (Jvm.Cond.and given_1 narrow_1).before args0 about1 = true := by decide +kernel
theorem w_applies : (headSpec (Jvm.Cond.code x code maxLocals ret :: tables_1) room_1).applies x e0.platform about1 = true :=
  (Spec.applies_iff w_frames).mpr ⟨w_running, w_runnable, w_alone, w_named, w_hears, w_ripe, w_room, w_tables⟩
theorem atStart : AtStart classFile x code maxLocals ret World_1 tables_1 room_1 Calls_1 rest_1 Pre_1 launch0 p0 e0 about1 theMethod args0 below0 :=
  ⟨lists_1, trivial, launch0.admits_env _ _ _, launch0.least_env, fairChoices_fair.cas, fairChoices_fair.clock, w_frames, w_args, w_heap, w_applies, trivial, w_rest, w_case⟩
end start1
theorem witness_1 : WitnessClaimed_1 := ⟨start1.p0, start1.e0, start1.about1, start1.theMethod, start1.args0, start1.below0, start1.atStart⟩
end Jvm.Pilot.@@N@@
