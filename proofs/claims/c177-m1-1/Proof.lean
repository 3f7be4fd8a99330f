import JvmDerived
import JvmDerived.Pilot.@@N@@Statement
import JvmDerived.Pilot.@@N@@Code
set_option linter.unusedVariables false
set_option linter.unusedSimpArgs false
@@BLOCK:NumsL.lean.txt@@
namespace Jvm.RoadKit
open Sem ClassFile Op Lib Jvm.Stand Jvm.Free Jvm.LawKit
section New
variable {p : Program} {l : Launch} {e : Env} {R : Room} {s : State} {m : MethodId} {args : Array Value} {below : List Frame} {meth : Method} {c : Code} {T : State} {locs : List Loc} {cells slots : Nat}
theorem retI (X : Stand p l e R s m args below meth c T locs cells slots) (hx : p.tables.exec = Jvm.exec) {pc : Nat} {Ls : Array Slot} {z : Int32} {rest : List Value} (hret : meth.sig.returnType = some .int) (hd : decode c.code pc = .ok (.ireturn, 1)) {fs : List Frame}
    (hl : ∀ (f : JFrame) (acts : List Action), f.method = m → f.locked = none → f.entered = [] → (doReturn e (T.setTop f) acts (some (.int z))).1 = T.setFrames fs) : Steps p.tables e below (T.setTop (mkF m pc Ls (.int z :: rest))) (T.setFrames fs) := by
  have hm' : T.vm.method? m = some meth := X.method'
  have hn : narrow .int (.int z) = .int z := rfl
  show Steps p.tables e below (T.setTop { method := m, pc := pc, locals := Ls, stack := _ :: rest, locked := none }) _
  jvm_step X.here [X.here.top, hx, hd, hm', hret, hn]
  first | (intro acts; rw [hl _ acts rfl rfl rfl]) | rw [hl _ _ rfl rfl rfl]
  exact Steps.refl _
end New
end Jvm.RoadKit
namespace Jvm.Pilot.@@N@@
open Jvm Jvm.ClassFile Sem Op Lib Jvm.Free Jvm.Stand Jvm.LawKit Jvm.RoadKit Bundle Jvm.Pilot.@@N@@.Jvm.D
/-- from here the run comes to an end of which G holds -/
def Go (tb : Tables) (e : Env) (below : List Frame) (G : State → Outcome → Prop) (U : State) : Prop := ∃ t o, Steps tb e below U t ∧ G t o
theorem Go.st {tb : Tables} {e : Env} {below : List Frame} {G : State → Outcome → Prop} {U U' : State} (h : ∀ t, Steps tb e below U' t → Steps tb e below U t) (k : Go tb e below G U') : Go tb e below G U :=
  let ⟨t, o, a, b⟩ := k
  ⟨t, o, h t a, b⟩
theorem Go.start {tb : Tables} {e : Env} {below : List Frame} {G0 : State → Outcome → Prop} {U : State} (h : ∀ G, G = G0 → Go tb e below G U) : Go tb e below G0 U := h _ rfl
theorem Go.join {tb : Tables} {e : Env} {below : List Frame} {G : State → Outcome → Prop} {U : State} {α : Type} {F : α → State} (k : ∀ z, Go tb e below G (F z)) (h : (∀ z, Go tb e below G (F z)) → Go tb e below G U) : Go tb e below G U := h k
theorem Go.joinR {tb : Tables} {e : Env} {below : List Frame} {G : State → Outcome → Prop} {U : State} {α : Type} {F : α → State} {R : α → Prop} (k : ∀ z, R z → Go tb e below G (F z)) (h : (∀ z, R z → Go tb e below G (F z)) → Go tb e below G U) : Go tb e below G U := h k
theorem own_lrem {tb : Tables} {e : Env} {below : List Frame} {T target : State} {g : JFrame} {n : Nat} {x y : Int64} {rest : List Value} (k : Steps tb e below (T.setTop { g with pc := n, stack := .long (x % y) :: rest }) target) :
    Steps tb e below (T.setTop { g with pc := n, stack := .long (x - (x / y) * y) :: rest }) target := by
  rw [lrem_mod]
  exact k
theorem i64_addc (x y : Int64) : (x + y).toInt = x.toInt + y.toInt ∧ -2 ^ 63 ≤ x.toInt + y.toInt ∧ x.toInt + y.toInt < 2 ^ 63 ∨ (x + y).toInt = x.toInt + y.toInt - 2 ^ 64 ∧ 2 ^ 63 ≤ x.toInt + y.toInt ∨ (x + y).toInt = x.toInt + y.toInt + 2 ^ 64 ∧ x.toInt + y.toInt < -2 ^ 63 := by
  have h := Int64.toInt_add x y
  have a1 := Int64.le_toInt x
  have a2 := Int64.toInt_lt x
  have b1 := Int64.le_toInt y
  have b2 := Int64.toInt_lt y
  rw [Int.bmod_def] at h
  split at h <;> omega
theorem i64_subc (x y : Int64) : (x - y).toInt = x.toInt - y.toInt ∧ -2 ^ 63 ≤ x.toInt - y.toInt ∧ x.toInt - y.toInt < 2 ^ 63 ∨ (x - y).toInt = x.toInt - y.toInt - 2 ^ 64 ∧ 2 ^ 63 ≤ x.toInt - y.toInt ∨ (x - y).toInt = x.toInt - y.toInt + 2 ^ 64 ∧ x.toInt - y.toInt < -2 ^ 63 := by
  have h := Int64.toInt_sub x y
  have a1 := Int64.le_toInt x
  have a2 := Int64.toInt_lt x
  have b1 := Int64.le_toInt y
  have b2 := Int64.toInt_lt y
  rw [Int.bmod_def] at h
  split at h <;> omega
theorem i32_i2c (x : Int32) : (x.toUInt32.toUInt16.toUInt32.toInt32).toInt = x.toInt % 65536 := by
  have h1 : (x.toUInt32.toUInt16.toUInt32.toInt32).toInt = ((x.toUInt32.toUInt16.toUInt32).toNat : Int).bmod (2 ^ 32) := by
    rw [← Int32.toInt_toBitVec, BitVec.toInt_eq_toNat_bmod]; rfl
  have h2 : (x.toUInt32.toUInt16.toUInt32).toNat = x.toBitVec.toNat % 65536 := by
    simp [UInt32.toNat_toUInt16, UInt16.toNat_toUInt32]; rfl
  have h3 : x.toInt = (x.toBitVec.toNat : Int).bmod (2 ^ 32) := by
    rw [← Int32.toInt_toBitVec, BitVec.toInt_eq_toNat_bmod]
  have h4 := x.toBitVec.isLt
  rw [h1, h2, h3, Int.bmod_def, Int.bmod_def]
  split <;> split <;> omega
theorem i32_addc (x y : Int32) : (x + y).toInt = x.toInt + y.toInt ∧ -2 ^ 31 ≤ x.toInt + y.toInt ∧ x.toInt + y.toInt < 2 ^ 31 ∨ (x + y).toInt = x.toInt + y.toInt - 2 ^ 32 ∧ 2 ^ 31 ≤ x.toInt + y.toInt ∨ (x + y).toInt = x.toInt + y.toInt + 2 ^ 32 ∧ x.toInt + y.toInt < -2 ^ 31 := by
  have h := Int32.toInt_add x y
  have a1 := Int32.le_toInt x
  have a2 := Int32.toInt_lt x
  have b1 := Int32.le_toInt y
  have b2 := Int32.toInt_lt y
  rw [Int.bmod_def] at h
  split at h <;> omega
theorem i32_subc (x y : Int32) : (x - y).toInt = x.toInt - y.toInt ∧ -2 ^ 31 ≤ x.toInt - y.toInt ∧ x.toInt - y.toInt < 2 ^ 31 ∨ (x - y).toInt = x.toInt - y.toInt - 2 ^ 32 ∧ 2 ^ 31 ≤ x.toInt - y.toInt ∨ (x - y).toInt = x.toInt - y.toInt + 2 ^ 32 ∧ x.toInt - y.toInt < -2 ^ 31 := by
  have h := Int32.toInt_sub x y
  have a1 := Int32.le_toInt x
  have a2 := Int32.toInt_lt x
  have b1 := Int32.le_toInt y
  have b2 := Int32.toInt_lt y
  rw [Int.bmod_def] at h
  split at h <;> omega
theorem own_eq32 {a b : Int32} (h : a.toInt = b.toInt) : a = b := Int32.toInt_inj.mp h
theorem own_eq64 {a b : Int64} (h : a.toInt = b.toInt) : a = b := Int64.toInt_inj.mp h
theorem own_lt64 {a b : Int64} (h : a.toInt < b.toInt) : a < b := Int64.lt_iff_toInt_lt.mpr h
theorem own_lt32 {a b : Int32} (h : a.toInt < b.toInt) : a < b := Int32.lt_iff_toInt_lt.mpr h
theorem own_nlt64 {a b : Int64} (h : b.toInt ≤ a.toInt) : ¬ a < b := fun z => by have := Int64.lt_iff_toInt_lt.mp z; omega
theorem own_nlt32 {a b : Int32} (h : b.toInt ≤ a.toInt) : ¬ a < b := fun z => by have := Int32.lt_iff_toInt_lt.mp z; omega
theorem own_ne32 {a b : Int32} (h : a.toInt ≠ b.toInt) : ¬ a = b := fun z => h (by rw [z])
theorem own_ne64 {a b : Int64} (h : a.toInt ≠ b.toInt) : ¬ a = b := fun z => h (by rw [z])
def dg (n : Int64) : Int32 := (((48 : Int64) + (n % (10 : Int64))).toInt32).toInt8.toInt32
def putD : List Int32 → Nat → Nat → Int64 → List Int32
  | bl, _, 0, _ => bl
  | bl, a, w + 1, n => putD (bl.set (a + w) (dg n)) a w (n / (10 : Int64))
def divs : Int64 → Nat → Int64
  | n, 0 => n
  | n, j + 1 => divs (n / (10 : Int64)) j
theorem own_put_len : ∀ (w : Nat) (bl : List Int32) (a : Nat) (n : Int64), (putD bl a w n).length = bl.length
  | 0, bl, a, n => rfl
  | w + 1, bl, a, n => by rw [putD, own_put_len w, List.length_set]
theorem own_put_get (a i : Nat) : ∀ (w : Nat) (bl : List Int32) (n : Int64), a + w ≤ bl.length → (putD bl a w n).getD i 0 = if a ≤ i ∧ i < a + w then dg (divs n (a + w - 1 - i)) else bl.getD i 0
  | 0, bl, n, _ => by rw [putD, if_neg (by omega)]
  | w + 1, bl, n, h => by
    rw [putD, own_put_get a i w _ _ (by rw [List.length_set]; omega)]
    by_cases c1 : a ≤ i ∧ i < a + w
    · rw [if_pos c1, if_pos (by omega), show a + (w + 1) - 1 - i = (a + w - 1 - i) + 1 by omega, divs]
    · rw [if_neg c1]
      by_cases c2 : i = a + w
      · subst c2
        rw [if_pos (by omega), show a + (w + 1) - 1 - (a + w) = 0 by omega, divs]
        rw [List.getD_eq_getElem?_getD, List.getElem?_set_self (by omega)]; rfl
      · rw [if_neg (by omega), List.getD_eq_getElem?_getD, List.getD_eq_getElem?_getD, List.getElem?_set_ne (by omega)]
theorem own_divs : ∀ (j : Nat) (n : Int64), 0 ≤ n.toInt → (divs n j).toInt = n.toInt / 10 ^ j
  | 0, n, h => by simp [divs]
  | j + 1, n, h => by
    have e10 : (10 : Int64).toInt = 10 := by decide
    have h1 : (n / (10 : Int64)).toInt = n.toInt / 10 := by rw [Jvm.Kit.i64_div (by omega), e10, Int.tdiv_eq_ediv_of_nonneg h]
    rw [divs, own_divs j _ (by rw [h1]; omega), h1, Int.ediv_ediv_of_nonneg (by decide), Int.pow_succ, Int.mul_comm]
def p10F (k : Int32) : Int64 := if k = 0 then 1 else if k = 1 then 10 else if k = 2 then 100 else if k = 3 then 1000 else if k = 4 then 10000 else if k = 5 then 100000 else if k = 6 then 1000000 else 10000000
theorem own_p10 (k : Int32) : p10F k ≠ 0 := by
  unfold p10F
  repeat' split
  all_goals decide
theorem own_p10v {k : Int32} (h : 0 ≤ k.toInt ∧ k.toInt < 8) : (p10F k).toInt = 10 ^ k.toInt.toNat := by
  obtain ⟨h1, h2⟩ := h
  have hz : ∀ z : Int32, k = z ↔ k.toInt = z.toInt := fun z => Int32.toInt_inj.symm
  have : k.toInt = 0 ∨ k.toInt = 1 ∨ k.toInt = 2 ∨ k.toInt = 3 ∨ k.toInt = 4 ∨ k.toInt = 5 ∨ k.toInt = 6 ∨ k.toInt = 7 := by omega
  simp only [p10F, hz]
  rcases this with e | e | e | e | e | e | e | e <;> rw [e] <;> decide
def okF (i a w : Int32) (n : Int64) (f x : Int32) : Int32 := if i < a then (if x = f then 1 else 0) else if i < a + w then (if x = dg (n / p10F (((a + w) - 1) - i)) then 1 else 0) else (if x = f then 1 else 0)
theorem own_ok {i a w : Int32} {n : Int64} {f : Int32} {bl : List Int32} (hi : 0 ≤ i.toInt ∧ i.toInt < 8) (ha : 0 ≤ a.toInt) (hw : 0 ≤ w.toInt) (hs : a.toInt + w.toInt ≤ 8) (hn : 0 ≤ n.toInt) (hl : bl.length = 8) (hb : ∀ j, j < 8 → bl.getD j 0 = f)
    (ei : i.toInt = (i.toNatClampNeg : Int)) (ea : a.toInt = (a.toNatClampNeg : Int)) (ew : w.toInt = (w.toNatClampNeg : Int)) :
    okF i a w n f ((putD bl a.toNatClampNeg w.toNatClampNeg n).getD i.toNatClampNeg 0) = 1 := by
  have hx := own_put_get a.toNatClampNeg i.toNatClampNeg w.toNatClampNeg bl n (by omega)
  generalize (putD bl a.toNatClampNeg w.toNatClampNeg n).getD i.toNatClampNeg 0 = x at *
  have e1 : (1 : Int32).toInt = 1 := by decide
  have s1 : (a + w).toInt = a.toInt + w.toInt := Jvm.Kit.i32_add (by omega) (by omega)
  have s2 : ((a + w) - 1).toInt = a.toInt + w.toInt - 1 := by rw [Jvm.Kit.i32_sub (by omega) (by omega), s1, e1]
  have s3 : (((a + w) - 1) - i).toInt = a.toInt + w.toInt - 1 - i.toInt := by rw [Jvm.Kit.i32_sub (by omega) (by omega), s2]
  have l1 : i < a ↔ i.toInt < a.toInt := Int32.lt_iff_toInt_lt
  have l2 : i < a + w ↔ i.toInt < a.toInt + w.toInt := by rw [← s1]; exact Int32.lt_iff_toInt_lt
  unfold okF
  by_cases c1 : i < a
  · have d1 := l1.mp c1
    rw [if_neg (by omega), hb _ (by omega)] at hx
    rw [if_pos c1, if_pos hx]
  · have d1 : ¬ i.toInt < a.toInt := fun z => c1 (l1.mpr z)
    rw [if_neg c1]
    by_cases c2 : i < a + w
    · have d2 := l2.mp c2
      rw [if_pos (by omega)] at hx
      rw [if_pos c2]
      have hk := own_p10v (k := ((a + w) - 1) - i) (by omega)
      have hd : divs n (a.toNatClampNeg + w.toNatClampNeg - 1 - i.toNatClampNeg) = n / p10F (((a + w) - 1) - i) := by
        rw [← Int64.toInt_inj, own_divs _ _ hn]
        have hp : (0 : Int) < 10 ^ (((a + w) - 1) - i).toInt.toNat := Int.pow_pos (by decide)
        rw [Jvm.Kit.i64_div (by rw [hk]; omega), hk, Int.tdiv_eq_ediv_of_nonneg hn]
        congr 2
        omega
      rw [hd] at hx
      rw [if_pos hx]
    · have d2 : ¬ i.toInt < a.toInt + w.toInt := fun z => c2 (l2.mpr z)
      rw [if_neg (by omega), hb _ (by omega)] at hx
      rw [if_neg c2, if_pos hx]

theorem own_narb (y : Int32) : nar .byte (y.toInt8.toInt32) = y.toInt8.toInt32 := by
  show (y.toInt8.toInt32).toInt8.toInt32 = y.toInt8.toInt32
  simp
theorem own_narb2 (y : Int32) : y.toInt8.toInt32.toInt8.toInt32 = y.toInt8.toInt32 := by simp
def bvs (bl : List Int32) : List Value := bl.map Value.int
theorem own_bset (bl : List Int32) (i : Nat) (x : Int32) : (bvs bl).set i (.int x) = bvs (bl.set i x) := by
  unfold bvs
  rw [List.map_set]
theorem own_bget (bl : List Int32) (i : Nat) : (bvs bl).getD i (.int 0) = .int (bl.getD i 0) := by
  unfold bvs
  rw [List.getD_eq_getElem?_getD, List.getD_eq_getElem?_getD, List.getElem?_map]
  cases bl[i]? <;> rfl
theorem own_blen (bl : List Int32) : (bvs bl).length = bl.length := by
  unfold bvs
  rw [List.length_map]
theorem own_at {m v : Int32} (h : (m &&& (2147483647 : Int32)) % (9 : Int32) = v) : 0 ≤ v.toInt ∧ v.toInt < 9 := by
  have h1 := Jvm.Kit.i32_mask m (2147483647 : Int32) (k := 31) (by decide) (by decide)
  have h5 : (9 : Int32).toInt = 9 := by decide
  rw [← h, Jvm.Kit.i32_rem_nonneg (by omega), h5]
  omega
theorem own_nz {v : Int32} (h : 0 ≤ v.toInt ∧ v.toInt < 9) : (9 : Int32) - v ≠ 0 := by
  have h5 : (9 : Int32).toInt = 9 := by decide
  have h6 : (0 : Int32).toInt = 0 := by decide
  intro z
  have h7 : ((9 : Int32) - v).toInt = 9 - v.toInt := by rw [Jvm.Kit.i32_sub (by omega) (by omega), h5]
  rw [z] at h7
  omega
theorem own_wd {m a v : Int32} (ha : 0 ≤ a.toInt ∧ a.toInt < 9) (h : (m &&& (2147483647 : Int32)) % ((9 : Int32) - a) = v) : 0 ≤ v.toInt ∧ a.toInt + v.toInt ≤ 8 := by
  have h1 := Jvm.Kit.i32_mask m (2147483647 : Int32) (k := 31) (by decide) (by decide)
  have h5 : (9 : Int32).toInt = 9 := by decide
  have h7 : ((9 : Int32) - a).toInt = 9 - a.toInt := by rw [Jvm.Kit.i32_sub (by omega) (by omega), h5]
  rw [← h, Jvm.Kit.i32_rem_nonneg (by omega), h7]
  have := Int.emod_nonneg (m &&& (2147483647 : Int32)).toInt (show 9 - a.toInt ≠ 0 by omega)
  have := Int.emod_lt_of_pos (m &&& (2147483647 : Int32)).toInt (show 0 < 9 - a.toInt by omega)
  omega
theorem pn_0 : plainName "com/example/gapmend/gapmend/Message" = true := by first | (simp [plainName, overriddenIn]; done) | decide +kernel
theorem d_putd_0 : decode prog_18_method_5_code 0 = .ok (.lload_n 3, 1) := by decide +kernel
theorem d_putd_1 : decode prog_18_method_5_code 1 = .ok (.lstore 5, 2) := by decide +kernel
theorem d_putd_3 : decode prog_18_method_5_code 3 = .ok (.iload_n 1, 1) := by decide +kernel
theorem d_putd_4 : decode prog_18_method_5_code 4 = .ok (.iload_n 2, 1) := by decide +kernel
theorem d_putd_5 : decode prog_18_method_5_code 5 = .ok (.iadd, 1) := by decide +kernel
theorem d_putd_6 : decode prog_18_method_5_code 6 = .ok (.iconst 1, 1) := by decide +kernel
theorem d_putd_7 : decode prog_18_method_5_code 7 = .ok (.isub, 1) := by decide +kernel
theorem d_putd_8 : decode prog_18_method_5_code 8 = .ok (.istore 7, 2) := by decide +kernel
theorem d_putd_10 : decode prog_18_method_5_code 10 = .ok (.iload 7, 2) := by decide +kernel
theorem d_putd_12 : decode prog_18_method_5_code 12 = .ok (.iload_n 1, 1) := by decide +kernel
theorem d_putd_13 : decode prog_18_method_5_code 13 = .ok (.if_icmp .lt 33, 3) := by decide +kernel
theorem d_putd_16 : decode prog_18_method_5_code 16 = .ok (.aload_n 0, 1) := by decide +kernel
theorem d_putd_17 : decode prog_18_method_5_code 17 = .ok (.iload 7, 2) := by decide +kernel
theorem d_putd_19 : decode prog_18_method_5_code 19 = .ok (.ldc2_w 123, 3) := by decide +kernel
theorem d_putd_22 : decode prog_18_method_5_code 22 = .ok (.lload 5, 2) := by decide +kernel
theorem d_putd_24 : decode prog_18_method_5_code 24 = .ok (.ldc2_w 125, 3) := by decide +kernel
theorem d_putd_27 : decode prog_18_method_5_code 27 = .ok (.lrem, 1) := by decide +kernel
theorem d_putd_28 : decode prog_18_method_5_code 28 = .ok (.ladd, 1) := by decide +kernel
theorem d_putd_29 : decode prog_18_method_5_code 29 = .ok (.l2i, 1) := by decide +kernel
theorem d_putd_30 : decode prog_18_method_5_code 30 = .ok (.i2b, 1) := by decide +kernel
theorem d_putd_31 : decode prog_18_method_5_code 31 = .ok (.bastore, 1) := by decide +kernel
theorem d_putd_32 : decode prog_18_method_5_code 32 = .ok (.lload 5, 2) := by decide +kernel
theorem d_putd_34 : decode prog_18_method_5_code 34 = .ok (.ldc2_w 125, 3) := by decide +kernel
theorem d_putd_37 : decode prog_18_method_5_code 37 = .ok (.ldiv, 1) := by decide +kernel
theorem d_putd_38 : decode prog_18_method_5_code 38 = .ok (.lstore 5, 2) := by decide +kernel
theorem d_putd_40 : decode prog_18_method_5_code 40 = .ok (.iinc 7 (-1), 3) := by decide +kernel
theorem d_putd_43 : decode prog_18_method_5_code 43 = .ok (.goto (-33), 3) := by decide +kernel
theorem d_putd_46 : decode prog_18_method_5_code 46 = .ok (.return_, 1) := by decide +kernel
theorem ef_putd (m : MethodId) (ao : Addr) (pat : Int32) (pw : Int32) (qn : Int64) : entryFrame m #[(.ref ao), (.int pat), (.int pw), (.long qn)] 8 = mkF m 0 #[.val (.ref ao), .val (.int pat), .val (.int pw), .val (.long qn), .second, .unset, .unset, .unset] [] := by first | (simp [entryFrame, mkF, argsToLocals, Value.category]; done) | rfl
def Q_putd (Z : State) (ao : Addr) (pat : Int32) (pw : Int32) (qn : Int64) (kk : ClassId) (bl : List Int32) (h0 : Heap) (n0 : Nat) (v : Option Value) (h : Heap) (L : List Loc) : Prop := v = none ∧ Fr n0 L ∧ Keep h0 h [ao] ∧ Arv Z h ao kk .byte (8 : Int32) (bvs (putD bl pat.toNatClampNeg pw.toNatClampNeg qn)) (.int (0 : Int32))
set_option maxRecDepth 65536 in
set_option maxHeartbeats 40000000 in
theorem rm_putd (l : Launch) (Z : State) (a0 : Array Value) (hw : ∀ d ∈ tables_1, d.before a0 Z = true) (ws : List Jvm.Cond) (ao : Addr) (pat : Int32) (pw : Int32) (qn : Int64) (kk : ClassId) (bl : List Int32) (h0 : Heap) (n0 : Nat) (Z0 : n0 ≤ h0.size) (P0 : Arv Z h0 ao kk .byte (8 : Int32) (bvs bl) (.int (0 : Int32))) (P1 : n0 ≤ ao) (hat : 0 ≤ pat.toInt ∧ 0 ≤ pw.toInt ∧ pat.toInt + pw.toInt ≤ 8) (hlen : bl.length = 8) :
    MetFree l (⟨"com/example/gapmend/gapmend/Message", "putDigits", "([BIIJ)V"⟩ : MethodName) (head1 (Jvm.Cond.code (⟨"com/example/gapmend/gapmend/Message", "putDigits", "([BIIJ)V"⟩ : MethodName) prog_18_method_5_code 8 none :: ws) ({ frames := 0, cells := 0, slots := 0, locals := 0 } : Room)) (fun a U => a = #[(.ref ao), (.int pat), (.int pw), (.long qn)] ∧ Z.Warmed39 U.vm ∧ U.heap = h0) (fun _ _ _ _ _ => True) (fun _ U o U' => ∃ v L, o = .returned v ∧ Q_putd Z ao pat pw qn kk bl h0 n0 v U'.heap L ∧ FrameEnd U o U' L ({ frames := 0, cells := 0, slots := 0, locals := 0 } : Room).cells ({ frames := 0, cells := 0, slots := 0, locals := 0 } : Room).slots) := by
  refine MetFree.of_bodySF (plainFor_of_name pn_0) hisR ?_
  intro p e s m args below meth c s₁ Bd hml0 hP hK
  obtain ⟨rfl, hZ, hh⟩ := hP
  have hx := Bd.exec
  have hby := Bd.bytes
  have hml : c.maxLocals = 8 := hml0
  have hown : s.vm.findClass "com/example/gapmend/gapmend/Message" = some m.cls := findClass_of_methodNamed Bd.named
  have hnm := (name_of_methodNamed Bd.named Bd.method).1
  have X0 : Stand p l e ({ frames := 0, cells := 0, slots := 0, locals := 0 } : Room) s m #[(.ref ao), (.int pat), (.int pw), (.long qn)] below meth c s₁ [] 0 0 := Stand.of_body Bd
  have e0 : s₁.heap = h0 := by rw [← hh, Bd.state]; rfl
  have N0 := Fr.nil n0
  have K0 : Keep h0 h0 [ao] := Keep.refl h0 [ao]
  show Go p.tables e below _ (s₁.setTop (entryFrame m #[(.ref ao), (.int pat), (.int pw), (.long qn)] 8))
  refine Go.start ?_
  intro G hG
  refine Go.st (fun t k => castTop (ef_putd m ao pat pw qn) k) ?_
  have i_0 : (0 : Int32).toInt = 0 := by decide
  have nat_w : ((pw.toNatClampNeg : Nat) : Int) = pw.toInt := (nat_of (own_nlt32 (by omega))).symm
  have nat_a := nat_of (j := pat) (own_nlt32 (by omega))
  have i_1 : (1 : Int32).toInt = 1 := by decide
  have i_8 : (8 : Int32).toInt = 8 := by decide
  have em1 : (-1 : Int32).toInt = -1 := by decide
  have hs8 : ((pat + pw) - (1 : Int32)).toInt = pat.toInt + pw.toInt - 1 := by rw [Jvm.Kit.i32_sub (by rw [Jvm.Kit.i32_add (by omega) (by omega)]; omega) (by rw [Jvm.Kit.i32_add (by omega) (by omega)]; omega), Jvm.Kit.i32_add (by omega) (by omega), i_1]
  show Go p.tables e below _ (s₁.setTop (mkF m 0 #[.val (.ref ao), .val (.int pat), .val (.int pw), .val (.long qn), .second, .unset, .unset, .unset] []))
  refine Go.st (fun _ k => XS.lloadN X0.here hx rfl (hb hby d_putd_0) rfl k) ?_
  show Go p.tables e below _ (s₁.setTop (mkF m 1 #[.val (.ref ao), .val (.int pat), .val (.int pw), .val (.long qn), .second, .unset, .unset, .unset] [(.long qn)]))
  refine Go.st (fun _ k => XS.lstore X0.here hx rfl (hb hby d_putd_1) rfl (l' := #[.val (.ref ao), .val (.int pat), .val (.int pw), .val (.long qn), .second, .val (.long qn), .second, .unset]) rfl k) ?_
  show Go p.tables e below _ (s₁.setTop (mkF m 3 #[.val (.ref ao), .val (.int pat), .val (.int pw), .val (.long qn), .second, .val (.long qn), .second, .unset] []))
  show Go p.tables e below _ (s₁.setTop (mkF m 3 #[.val (.ref ao), .val (.int pat), .val (.int pw), .val (.long qn), .second, .val (.long qn), .second, .unset] []))
  refine Go.st (fun _ k => XS.iloadN X0.here hx rfl (hb hby d_putd_3) rfl k) ?_
  show Go p.tables e below _ (s₁.setTop (mkF m 4 #[.val (.ref ao), .val (.int pat), .val (.int pw), .val (.long qn), .second, .val (.long qn), .second, .unset] [(.int pat)]))
  refine Go.st (fun _ k => XS.iloadN X0.here hx rfl (hb hby d_putd_4) rfl k) ?_
  show Go p.tables e below _ (s₁.setTop (mkF m 5 #[.val (.ref ao), .val (.int pat), .val (.int pw), .val (.long qn), .second, .val (.long qn), .second, .unset] [(.int pw), (.int pat)]))
  refine Go.st (fun _ k => XS.iadd X0.here hx rfl (hb hby d_putd_5) rfl k) ?_
  show Go p.tables e below _ (s₁.setTop (mkF m 6 #[.val (.ref ao), .val (.int pat), .val (.int pw), .val (.long qn), .second, .val (.long qn), .second, .unset] [(.int (pat + pw))]))
  refine Go.st (fun _ k => XS.iconst X0.here hx rfl (hb hby d_putd_6) k) ?_
  show Go p.tables e below _ (s₁.setTop (mkF m 7 #[.val (.ref ao), .val (.int pat), .val (.int pw), .val (.long qn), .second, .val (.long qn), .second, .unset] [(.int (1 : Int32)), (.int (pat + pw))]))
  refine Go.st (fun _ k => XS.isub X0.here hx rfl (hb hby d_putd_7) rfl k) ?_
  show Go p.tables e below _ (s₁.setTop (mkF m 8 #[.val (.ref ao), .val (.int pat), .val (.int pw), .val (.long qn), .second, .val (.long qn), .second, .unset] [(.int ((pat + pw) - (1 : Int32)))]))
  refine Go.st (fun _ k => XS.istore X0.here hx rfl (hb hby d_putd_8) rfl (l' := #[.val (.ref ao), .val (.int pat), .val (.int pw), .val (.long qn), .second, .val (.long qn), .second, .val (.int ((pat + pw) - (1 : Int32)))]) rfl k) ?_
  show Go p.tables e below _ (s₁.setTop (mkF m 10 #[.val (.ref ao), .val (.int pat), .val (.int pw), .val (.long qn), .second, .val (.long qn), .second, .val (.int ((pat + pw) - (1 : Int32)))] []))
  generalize hqv8 : ((pat + pw) - (1 : Int32)) = v8
  have lp10 : ∀ (kz : Nat) (T : State) (h : Heap) (lc : List Loc) (iv : Int32) (rv : Int64) (blv : List Int32), Stand p l e ({ frames := 0, cells := 0, slots := 0, locals := 0 } : Room) s m #[(.ref ao), (.int pat), (.int pw), (.long qn)] below meth c T lc 0 0 → T.heap = h → Fr n0 lc → Keep h0 h [ao] → n0 ≤ h.size → Arv Z h ao kk .byte (8 : Int32) (bvs blv) (.int (0 : Int32)) → (iv.toInt = pat.toInt + (kz : Int) - 1) → (blv.length = 8) → (putD blv pat.toNatClampNeg kz rv = putD bl pat.toNatClampNeg pw.toNatClampNeg qn) → ((kz : Int) ≤ pw.toInt) → Go p.tables e below G (T.setTop (mkF m 10 #[.val (.ref ao), .val (.int pat), .val (.int pw), .val (.long qn), .second, .val (.long rv), .second, .val (.int iv)] [])) := by
    intro kz
    induction kz with
    | zero =>
      intro T h lc iv rv blv XT eT NT KT ZT FT0 h1 h2 h3 h4
      have h1' : iv.toInt = pat.toInt - 1 := by omega
      show Go p.tables e below _ (T.setTop (mkF m 10 #[.val (.ref ao), .val (.int pat), .val (.int pw), .val (.long qn), .second, .val (.long rv), .second, .val (.int iv)] []))
      refine Go.st (fun _ k => XS.iload XT.here hx rfl (hb hby d_putd_10) rfl k) ?_
      show Go p.tables e below _ (T.setTop (mkF m 12 #[.val (.ref ao), .val (.int pat), .val (.int pw), .val (.long qn), .second, .val (.long rv), .second, .val (.int iv)] [(.int iv)]))
      refine Go.st (fun _ k => XS.iloadN XT.here hx rfl (hb hby d_putd_12) rfl k) ?_
      show Go p.tables e below _ (T.setTop (mkF m 13 #[.val (.ref ao), .val (.int pat), .val (.int pw), .val (.long qn), .second, .val (.long rv), .second, .val (.int iv)] [(.int pat), (.int iv)]))
      have hc13 : iv < pat := own_lt32 (by omega)
      have hi13 : (iv).toInt < (pat).toInt := Int32.lt_iff_toInt_lt.mp hc13
      refine Go.st (fun _ k => XS.icmpYes XT.here hx rfl (pc0 := 13) (pc' := 46) rfl (hb hby d_putd_13) rfl (Jvm.Free.XT.ii_lt_t hc13) (by decide) (by decide) k) ?_
      show Go p.tables e below _ (T.setTop (mkF m 46 #[.val (.ref ao), .val (.int pat), .val (.int pw), .val (.long qn), .second, .val (.long rv), .second, .val (.int iv)] []))
      subst hG
      obtain ⟨fs, hr, hrun, hended, hW, hsame⟩ := XT.leave (v := none) (fun _ => rfl)
      refine ⟨_, _, ?_, hrun, hended, _, _, rfl, ?_, ⟨_, rfl⟩, hW, hsame.mono (by decide) (by decide)⟩
      · exact XT.returnOut hx Bd.returns (hb hby d_putd_46) hr
      · show Q_putd Z ao pat pw qn kk bl h0 n0 _ T.heap _
        rw [eT]
        exact ⟨rfl, NT, KT, (by have h_ := FT0; rw [show blv = _ from h3] at h_; exact h_)⟩
    | succ kz ih =>
      intro T h lc iv rv blv XT eT NT KT ZT FT0 h1 h2 h3 h4
      have h1' : iv.toInt = pat.toInt + kz := by omega
      have h4' : (kz : Int) + 1 ≤ pw.toInt := by omega
      show Go p.tables e below _ (T.setTop (mkF m 10 #[.val (.ref ao), .val (.int pat), .val (.int pw), .val (.long qn), .second, .val (.long rv), .second, .val (.int iv)] []))
      refine Go.st (fun _ k => XS.iload XT.here hx rfl (hb hby d_putd_10) rfl k) ?_
      show Go p.tables e below _ (T.setTop (mkF m 12 #[.val (.ref ao), .val (.int pat), .val (.int pw), .val (.long qn), .second, .val (.long rv), .second, .val (.int iv)] [(.int iv)]))
      refine Go.st (fun _ k => XS.iloadN XT.here hx rfl (hb hby d_putd_12) rfl k) ?_
      show Go p.tables e below _ (T.setTop (mkF m 13 #[.val (.ref ao), .val (.int pat), .val (.int pw), .val (.long qn), .second, .val (.long rv), .second, .val (.int iv)] [(.int pat), (.int iv)]))
      have hc13 : ¬ (iv < pat) := own_nlt32 (by omega)
      have hi13 : ¬ ((iv).toInt < (pat).toInt) := fun z => hc13 (Int32.lt_iff_toInt_lt.mpr z)
      refine Go.st (fun _ k => XS.icmpNo XT.here hx rfl (hb hby d_putd_13) rfl (Jvm.Free.XT.ii_lt_f hc13) k) ?_
      show Go p.tables e below _ (T.setTop (mkF m 16 #[.val (.ref ao), .val (.int pat), .val (.int pw), .val (.long qn), .second, .val (.long rv), .second, .val (.int iv)] []))
      refine Go.st (fun _ k => XS.aloadN XT.here hx rfl (hb hby d_putd_16) rfl rfl k) ?_
      show Go p.tables e below _ (T.setTop (mkF m 17 #[.val (.ref ao), .val (.int pat), .val (.int pw), .val (.long qn), .second, .val (.long rv), .second, .val (.int iv)] [(.ref ao)]))
      refine Go.st (fun _ k => XS.iload XT.here hx rfl (hb hby d_putd_17) rfl k) ?_
      show Go p.tables e below _ (T.setTop (mkF m 19 #[.val (.ref ao), .val (.int pat), .val (.int pw), .val (.long qn), .second, .val (.long rv), .second, .val (.int iv)] [(.int iv), (.ref ao)]))
      refine Go.st (fun _ k => XT.ldc2Long hx hown (mvT hZ (hw _ (List.mem_of_getElem? (i := 7) rfl))) (g := (mkF m 19 #[.val (.ref ao), .val (.int pat), .val (.int pw), .val (.long qn), .second, .val (.long rv), .second, .val (.int iv)] [(.int iv), (.ref ao)])) rfl (hb hby d_putd_19) _ k) ?_
      show Go p.tables e below _ (T.setTop (mkF m 22 #[.val (.ref ao), .val (.int pat), .val (.int pw), .val (.long qn), .second, .val (.long rv), .second, .val (.int iv)] [(.long (48 : Int64)), (.int iv), (.ref ao)]))
      refine Go.st (fun _ k => XS.lload XT.here hx rfl (hb hby d_putd_22) rfl k) ?_
      show Go p.tables e below _ (T.setTop (mkF m 24 #[.val (.ref ao), .val (.int pat), .val (.int pw), .val (.long qn), .second, .val (.long rv), .second, .val (.int iv)] [(.long rv), (.long (48 : Int64)), (.int iv), (.ref ao)]))
      refine Go.st (fun _ k => XT.ldc2Long hx hown (mvT hZ (hw _ (List.mem_of_getElem? (i := 8) rfl))) (g := (mkF m 24 #[.val (.ref ao), .val (.int pat), .val (.int pw), .val (.long qn), .second, .val (.long rv), .second, .val (.int iv)] [(.long rv), (.long (48 : Int64)), (.int iv), (.ref ao)])) rfl (hb hby d_putd_24) _ k) ?_
      show Go p.tables e below _ (T.setTop (mkF m 27 #[.val (.ref ao), .val (.int pat), .val (.int pw), .val (.long qn), .second, .val (.long rv), .second, .val (.int iv)] [(.long (10 : Int64)), (.long rv), (.long (48 : Int64)), (.int iv), (.ref ao)]))
      refine Go.st (fun _ k => XS.lrem XT.here hx rfl (hb hby d_putd_27) rfl (by decide) (own_lrem k)) ?_
      show Go p.tables e below _ (T.setTop (mkF m 28 #[.val (.ref ao), .val (.int pat), .val (.int pw), .val (.long qn), .second, .val (.long rv), .second, .val (.int iv)] [(.long (rv % (10 : Int64))), (.long (48 : Int64)), (.int iv), (.ref ao)]))
      refine Go.st (fun _ k => XS.ladd XT.here hx rfl (hb hby d_putd_28) rfl k) ?_
      show Go p.tables e below _ (T.setTop (mkF m 29 #[.val (.ref ao), .val (.int pat), .val (.int pw), .val (.long qn), .second, .val (.long rv), .second, .val (.int iv)] [(.long ((48 : Int64) + (rv % (10 : Int64)))), (.int iv), (.ref ao)]))
      refine Go.st (fun _ k => XS.l2i XT.here hx rfl (hb hby d_putd_29) rfl k) ?_
      show Go p.tables e below _ (T.setTop (mkF m 30 #[.val (.ref ao), .val (.int pat), .val (.int pw), .val (.long qn), .second, .val (.long rv), .second, .val (.int iv)] [(.int (((48 : Int64) + (rv % (10 : Int64))).toInt32)), (.int iv), (.ref ao)]))
      refine Go.st (fun _ k => XS.i2b XT.here hx rfl (hb hby d_putd_30) rfl k) ?_
      show Go p.tables e below _ (T.setTop (mkF m 31 #[.val (.ref ao), .val (.int pat), .val (.int pw), .val (.long qn), .second, .val (.long rv), .second, .val (.int iv)] [(.int ((((48 : Int64) + (rv % (10 : Int64))).toInt32).toInt8.toInt32)), (.int iv), (.ref ao)]))
      obtain ⟨cl1, Ar1, q1, S1, M1, H1, G1⟩ := id FT0
      have ivn := nat_of (j := iv) (own_nlt32 (by omega))
      have hin1 : ¬ (iv < 0 ∨ cl1.slots.size ≤ (iv).toNatClampNeg) := inb_of S1 ⟨own_nlt32 (by omega), own_lt32 (by omega)⟩
      obtain ⟨T1, h1, X1, e1, W1, st1⟩ := stB XT hx hZ eT Ar1 (j := iv) hin1 (g := (mkF m 31 #[.val (.ref ao), .val (.int pat), .val (.int pw), .val (.long qn), .second, .val (.long rv), .second, .val (.int iv)] [(.int ((((48 : Int64) + (rv % (10 : Int64))).toInt32).toInt8.toInt32)), (.int iv), (.ref ao)])) rfl rfl (hb hby d_putd_31)
      refine Go.st st1 ?_
      have F2 : Arv Z h1 ao kk .byte (8 : Int32) (bvs (blv.set iv.toNatClampNeg (dg rv))) (.int (0 : Int32)) := (by
          have h_ := Arv.set Ar1 q1 S1 M1 H1 G1 (fits_nar_byte _) W1 iv.toNatClampNeg rfl (by rw [own_blen]; omega)
          first | rw [own_narb2, own_bset] at h_ | rw [own_narb, own_bset] at h_
          exact h_)
      have K3 : Keep h0 h1 [ao] := KT.wr W1 (Or.inl (List.mem_of_getElem? (i := 0) rfl))
      have Z4 : n0 ≤ h1.size := Nat.le_trans ZT (Nat.le_of_eq W1.size.symm)
      have N5 := Fr.snoc X1 NT P1
      show Go p.tables e below _ (T1.setTop (mkF m 32 #[.val (.ref ao), .val (.int pat), .val (.int pw), .val (.long qn), .second, .val (.long rv), .second, .val (.int iv)] []))
      refine Go.st (fun _ k => XS.lload X1.here hx rfl (hb hby d_putd_32) rfl k) ?_
      show Go p.tables e below _ (T1.setTop (mkF m 34 #[.val (.ref ao), .val (.int pat), .val (.int pw), .val (.long qn), .second, .val (.long rv), .second, .val (.int iv)] [(.long rv)]))
      refine Go.st (fun _ k => X1.ldc2Long hx hown (mvT hZ (hw _ (List.mem_of_getElem? (i := 8) rfl))) (g := (mkF m 34 #[.val (.ref ao), .val (.int pat), .val (.int pw), .val (.long qn), .second, .val (.long rv), .second, .val (.int iv)] [(.long rv)])) rfl (hb hby d_putd_34) _ k) ?_
      show Go p.tables e below _ (T1.setTop (mkF m 37 #[.val (.ref ao), .val (.int pat), .val (.int pw), .val (.long qn), .second, .val (.long rv), .second, .val (.int iv)] [(.long (10 : Int64)), (.long rv)]))
      refine Go.st (fun _ k => XS.ldiv X1.here hx rfl (hb hby d_putd_37) rfl (by decide) k) ?_
      show Go p.tables e below _ (T1.setTop (mkF m 38 #[.val (.ref ao), .val (.int pat), .val (.int pw), .val (.long qn), .second, .val (.long rv), .second, .val (.int iv)] [(.long (rv / (10 : Int64)))]))
      refine Go.st (fun _ k => XS.lstore X1.here hx rfl (hb hby d_putd_38) rfl (l' := #[.val (.ref ao), .val (.int pat), .val (.int pw), .val (.long qn), .second, .val (.long (rv / (10 : Int64))), .second, .val (.int iv)]) rfl k) ?_
      show Go p.tables e below _ (T1.setTop (mkF m 40 #[.val (.ref ao), .val (.int pat), .val (.int pw), .val (.long qn), .second, .val (.long (rv / (10 : Int64))), .second, .val (.int iv)] []))
      generalize hqv38 : (rv / (10 : Int64)) = v38
      show Go p.tables e below _ (T1.setTop (mkF m 40 #[.val (.ref ao), .val (.int pat), .val (.int pw), .val (.long qn), .second, .val (.long v38), .second, .val (.int iv)] []))
      refine Go.st (fun _ k => XS.iinc X1.here hx rfl (hb hby d_putd_40) rfl (l' := #[.val (.ref ao), .val (.int pat), .val (.int pw), .val (.long qn), .second, .val (.long v38), .second, .val (.int (iv + (-1 : Int32)))]) rfl k) ?_
      show Go p.tables e below _ (T1.setTop (mkF m 43 #[.val (.ref ao), .val (.int pat), .val (.int pw), .val (.long qn), .second, .val (.long v38), .second, .val (.int (iv + (-1 : Int32)))] []))
      generalize hqv40 : (iv + (-1 : Int32)) = v40
      show Go p.tables e below _ (T1.setTop (mkF m 43 #[.val (.ref ao), .val (.int pat), .val (.int pw), .val (.long qn), .second, .val (.long v38), .second, .val (.int v40)] []))
      refine Go.st (fun _ k => XS.goto X1.here hx rfl (pc0 := 43) (pc' := 10) rfl (hb hby d_putd_43) (by decide) (by decide) k) ?_
      show Go p.tables e below _ (T1.setTop (mkF m 10 #[.val (.ref ao), .val (.int pat), .val (.int pw), .val (.long qn), .second, .val (.long v38), .second, .val (.int v40)] []))
      have hi40 := i32_addc iv (-1 : Int32)
      rw [hqv40] at hi40
      have hj : pat.toNatClampNeg + kz = iv.toNatClampNeg := by omega
      exact ih T1 h1 _ v40 v38 (blv.set iv.toNatClampNeg (dg rv)) X1 e1 N5 K3 Z4 F2 (by omega) (by rw [List.length_set]; exact h2) (by rw [← h3, putD, hj, hqv38]) (by omega)
  exact lp10 pw.toNatClampNeg s₁ h0 _ v8 qn bl X0 e0 N0 K0 Z0 P0 (by have q := hs8; rw [hqv8] at q; omega) hlen rfl (by omega)
theorem pn_1 : plainName "com/example/gapmend/gapmend/MessagePutDigitsPinLaw" = true := by first | (simp [plainName, overriddenIn]; done) | decide +kernel
theorem d_pow10_0 : decode method_4_code 0 = .ok (.iload_n 0, 1) := by decide +kernel
theorem d_pow10_1 : decode method_4_code 1 = .ok (.ifCond .ne 5, 3) := by decide +kernel
theorem d_pow10_4 : decode method_4_code 4 = .ok (.lconst 1, 1) := by decide +kernel
theorem d_pow10_5 : decode method_4_code 5 = .ok (.lreturn, 1) := by decide +kernel
theorem d_pow10_6 : decode method_4_code 6 = .ok (.iload_n 0, 1) := by decide +kernel
theorem d_pow10_7 : decode method_4_code 7 = .ok (.iconst 1, 1) := by decide +kernel
theorem d_pow10_8 : decode method_4_code 8 = .ok (.if_icmp .ne 7, 3) := by decide +kernel
theorem d_pow10_11 : decode method_4_code 11 = .ok (.ldc2_w 30, 3) := by decide +kernel
theorem d_pow10_14 : decode method_4_code 14 = .ok (.lreturn, 1) := by decide +kernel
theorem d_pow10_15 : decode method_4_code 15 = .ok (.iload_n 0, 1) := by decide +kernel
theorem d_pow10_16 : decode method_4_code 16 = .ok (.iconst 2, 1) := by decide +kernel
theorem d_pow10_17 : decode method_4_code 17 = .ok (.if_icmp .ne 7, 3) := by decide +kernel
theorem d_pow10_20 : decode method_4_code 20 = .ok (.ldc2_w 32, 3) := by decide +kernel
theorem d_pow10_23 : decode method_4_code 23 = .ok (.lreturn, 1) := by decide +kernel
theorem d_pow10_24 : decode method_4_code 24 = .ok (.iload_n 0, 1) := by decide +kernel
theorem d_pow10_25 : decode method_4_code 25 = .ok (.iconst 3, 1) := by decide +kernel
theorem d_pow10_26 : decode method_4_code 26 = .ok (.if_icmp .ne 7, 3) := by decide +kernel
theorem d_pow10_29 : decode method_4_code 29 = .ok (.ldc2_w 34, 3) := by decide +kernel
theorem d_pow10_32 : decode method_4_code 32 = .ok (.lreturn, 1) := by decide +kernel
theorem d_pow10_33 : decode method_4_code 33 = .ok (.iload_n 0, 1) := by decide +kernel
theorem d_pow10_34 : decode method_4_code 34 = .ok (.iconst 4, 1) := by decide +kernel
theorem d_pow10_35 : decode method_4_code 35 = .ok (.if_icmp .ne 7, 3) := by decide +kernel
theorem d_pow10_38 : decode method_4_code 38 = .ok (.ldc2_w 36, 3) := by decide +kernel
theorem d_pow10_41 : decode method_4_code 41 = .ok (.lreturn, 1) := by decide +kernel
theorem d_pow10_42 : decode method_4_code 42 = .ok (.iload_n 0, 1) := by decide +kernel
theorem d_pow10_43 : decode method_4_code 43 = .ok (.iconst 5, 1) := by decide +kernel
theorem d_pow10_44 : decode method_4_code 44 = .ok (.if_icmp .ne 7, 3) := by decide +kernel
theorem d_pow10_47 : decode method_4_code 47 = .ok (.ldc2_w 38, 3) := by decide +kernel
theorem d_pow10_50 : decode method_4_code 50 = .ok (.lreturn, 1) := by decide +kernel
theorem d_pow10_51 : decode method_4_code 51 = .ok (.iload_n 0, 1) := by decide +kernel
theorem d_pow10_52 : decode method_4_code 52 = .ok (.bipush 6, 2) := by decide +kernel
theorem d_pow10_54 : decode method_4_code 54 = .ok (.if_icmp .ne 7, 3) := by decide +kernel
theorem d_pow10_57 : decode method_4_code 57 = .ok (.ldc2_w 40, 3) := by decide +kernel
theorem d_pow10_60 : decode method_4_code 60 = .ok (.lreturn, 1) := by decide +kernel
theorem d_pow10_61 : decode method_4_code 61 = .ok (.ldc2_w 42, 3) := by decide +kernel
theorem d_pow10_64 : decode method_4_code 64 = .ok (.lreturn, 1) := by decide +kernel
theorem ef_pow10 (m : MethodId) (pk : Int32) : entryFrame m #[(.int pk)] 1 = mkF m 0 #[.val (.int pk)] [] := by first | (simp [entryFrame, mkF, argsToLocals, Value.category]; done) | rfl
def Q_pow10 (Z : State) (pk : Int32) (h0 : Heap) (n0 : Nat) (v : Option Value) (h : Heap) (L : List Loc) : Prop := v = some (.long (p10F pk)) ∧ Fr n0 L ∧ h = h0
set_option maxRecDepth 65536 in
set_option maxHeartbeats 40000000 in
theorem rm_pow10 (l : Launch) (Z : State) (a0 : Array Value) (hw : ∀ d ∈ tables_1, d.before a0 Z = true) (ws : List Jvm.Cond) (pk : Int32) (h0 : Heap) (n0 : Nat) (Z0 : n0 ≤ h0.size)  :
    MetFree l (⟨"com/example/gapmend/gapmend/MessagePutDigitsPinLaw", "pow10", "(I)J"⟩ : MethodName) (head1 (Jvm.Cond.code (⟨"com/example/gapmend/gapmend/MessagePutDigitsPinLaw", "pow10", "(I)J"⟩ : MethodName) method_4_code 1 (some .long) :: ws) ({ frames := 0, cells := 0, slots := 0, locals := 0 } : Room)) (fun a U => a = #[(.int pk)] ∧ Z.Warmed39 U.vm ∧ U.heap = h0) (fun _ _ _ _ _ => True) (fun _ U o U' => ∃ v L, o = .returned v ∧ Q_pow10 Z pk h0 n0 v U'.heap L ∧ FrameEnd U o U' L ({ frames := 0, cells := 0, slots := 0, locals := 0 } : Room).cells ({ frames := 0, cells := 0, slots := 0, locals := 0 } : Room).slots) := by
  refine MetFree.of_bodySF (plainFor_of_name pn_1) hisR ?_
  intro p e s m args below meth c s₁ Bd hml0 hP hK
  obtain ⟨rfl, hZ, hh⟩ := hP
  have hx := Bd.exec
  have hby := Bd.bytes
  have hml : c.maxLocals = 1 := hml0
  have hown : s.vm.findClass "com/example/gapmend/gapmend/MessagePutDigitsPinLaw" = some m.cls := findClass_of_methodNamed Bd.named
  have hnm := (name_of_methodNamed Bd.named Bd.method).1
  have X0 : Stand p l e ({ frames := 0, cells := 0, slots := 0, locals := 0 } : Room) s m #[(.int pk)] below meth c s₁ [] 0 0 := Stand.of_body Bd
  have e0 : s₁.heap = h0 := by rw [← hh, Bd.state]; rfl
  have N0 := Fr.nil n0
  have K0 : Keep h0 h0 [] := Keep.refl h0 []
  show Go p.tables e below _ (s₁.setTop (entryFrame m #[(.int pk)] 1))
  refine Go.start ?_
  intro G hG
  refine Go.st (fun t k => castTop (ef_pow10 m pk) k) ?_
  show Go p.tables e below _ (s₁.setTop (mkF m 0 #[.val (.int pk)] []))
  refine Go.st (fun _ k => XS.iloadN X0.here hx rfl (hb hby d_pow10_0) rfl k) ?_
  show Go p.tables e below _ (s₁.setTop (mkF m 1 #[.val (.int pk)] [(.int pk)]))
  by_cases hc1 : pk = (0 : Int32)
  · skip
    refine Go.st (fun _ k => XS.ifNo X0.here hx rfl (hb hby d_pow10_1) rfl (Jvm.Free.XT.i0_ne_f hc1) k) ?_
    show Go p.tables e below _ (s₁.setTop (mkF m 4 #[.val (.int pk)] []))
    refine Go.st (fun _ k => XS.lconst X0.here hx rfl (hb hby d_pow10_4) k) ?_
    show Go p.tables e below _ (s₁.setTop (mkF m 5 #[.val (.int pk)] [(.long (1 : Int64))]))
    subst hG
    obtain ⟨fs, hr, hrun, hended, hW, hsame⟩ := X0.leave (v := some (.long (1 : Int64))) (fun h => by rw [Bd.returns] at h; cases h)
    refine ⟨_, _, ?_, hrun, hended, _, _, rfl, ?_, ⟨_, rfl⟩, hW, hsame.mono (by decide) (by decide)⟩
    · exact retOut X0 hx Bd.returns rfl (Or.inr (Or.inl ⟨rfl, rfl, _, rfl⟩)) (hb hby d_pow10_5) hr
    · show Q_pow10 Z pk h0 n0 _ s₁.heap _
      rw [e0]
      exact ⟨(by simp [p10F, hc1]), N0, rfl⟩
  · skip
    refine Go.st (fun _ k => XS.ifYes X0.here hx rfl (pc0 := 1) (pc' := 6) rfl (hb hby d_pow10_1) rfl (Jvm.Free.XT.i0_ne_t hc1) (by decide) (by decide) k) ?_
    show Go p.tables e below _ (s₁.setTop (mkF m 6 #[.val (.int pk)] []))
    refine Go.st (fun _ k => XS.iloadN X0.here hx rfl (hb hby d_pow10_6) rfl k) ?_
    show Go p.tables e below _ (s₁.setTop (mkF m 7 #[.val (.int pk)] [(.int pk)]))
    refine Go.st (fun _ k => XS.iconst X0.here hx rfl (hb hby d_pow10_7) k) ?_
    show Go p.tables e below _ (s₁.setTop (mkF m 8 #[.val (.int pk)] [(.int (1 : Int32)), (.int pk)]))
    by_cases hc8 : pk = (1 : Int32)
    · skip
      refine Go.st (fun _ k => XS.icmpNo X0.here hx rfl (hb hby d_pow10_8) rfl (Jvm.Free.XT.ii_ne_f hc8) k) ?_
      show Go p.tables e below _ (s₁.setTop (mkF m 11 #[.val (.int pk)] []))
      refine Go.st (fun _ k => X0.ldc2Long hx hown (mvT hZ (hw _ (List.mem_of_getElem? (i := 18) rfl))) (g := (mkF m 11 #[.val (.int pk)] [])) rfl (hb hby d_pow10_11) _ k) ?_
      show Go p.tables e below _ (s₁.setTop (mkF m 14 #[.val (.int pk)] [(.long (10 : Int64))]))
      subst hG
      obtain ⟨fs, hr, hrun, hended, hW, hsame⟩ := X0.leave (v := some (.long (10 : Int64))) (fun h => by rw [Bd.returns] at h; cases h)
      refine ⟨_, _, ?_, hrun, hended, _, _, rfl, ?_, ⟨_, rfl⟩, hW, hsame.mono (by decide) (by decide)⟩
      · exact retOut X0 hx Bd.returns rfl (Or.inr (Or.inl ⟨rfl, rfl, _, rfl⟩)) (hb hby d_pow10_14) hr
      · show Q_pow10 Z pk h0 n0 _ s₁.heap _
        rw [e0]
        exact ⟨(by simp [p10F, hc1, hc8]), N0, rfl⟩
    · skip
      refine Go.st (fun _ k => XS.icmpYes X0.here hx rfl (pc0 := 8) (pc' := 15) rfl (hb hby d_pow10_8) rfl (Jvm.Free.XT.ii_ne_t hc8) (by decide) (by decide) k) ?_
      show Go p.tables e below _ (s₁.setTop (mkF m 15 #[.val (.int pk)] []))
      refine Go.st (fun _ k => XS.iloadN X0.here hx rfl (hb hby d_pow10_15) rfl k) ?_
      show Go p.tables e below _ (s₁.setTop (mkF m 16 #[.val (.int pk)] [(.int pk)]))
      refine Go.st (fun _ k => XS.iconst X0.here hx rfl (hb hby d_pow10_16) k) ?_
      show Go p.tables e below _ (s₁.setTop (mkF m 17 #[.val (.int pk)] [(.int (2 : Int32)), (.int pk)]))
      by_cases hc17 : pk = (2 : Int32)
      · skip
        refine Go.st (fun _ k => XS.icmpNo X0.here hx rfl (hb hby d_pow10_17) rfl (Jvm.Free.XT.ii_ne_f hc17) k) ?_
        show Go p.tables e below _ (s₁.setTop (mkF m 20 #[.val (.int pk)] []))
        refine Go.st (fun _ k => X0.ldc2Long hx hown (mvT hZ (hw _ (List.mem_of_getElem? (i := 17) rfl))) (g := (mkF m 20 #[.val (.int pk)] [])) rfl (hb hby d_pow10_20) _ k) ?_
        show Go p.tables e below _ (s₁.setTop (mkF m 23 #[.val (.int pk)] [(.long (100 : Int64))]))
        subst hG
        obtain ⟨fs, hr, hrun, hended, hW, hsame⟩ := X0.leave (v := some (.long (100 : Int64))) (fun h => by rw [Bd.returns] at h; cases h)
        refine ⟨_, _, ?_, hrun, hended, _, _, rfl, ?_, ⟨_, rfl⟩, hW, hsame.mono (by decide) (by decide)⟩
        · exact retOut X0 hx Bd.returns rfl (Or.inr (Or.inl ⟨rfl, rfl, _, rfl⟩)) (hb hby d_pow10_23) hr
        · show Q_pow10 Z pk h0 n0 _ s₁.heap _
          rw [e0]
          exact ⟨(by simp [p10F, hc1, hc8, hc17]), N0, rfl⟩
      · skip
        refine Go.st (fun _ k => XS.icmpYes X0.here hx rfl (pc0 := 17) (pc' := 24) rfl (hb hby d_pow10_17) rfl (Jvm.Free.XT.ii_ne_t hc17) (by decide) (by decide) k) ?_
        show Go p.tables e below _ (s₁.setTop (mkF m 24 #[.val (.int pk)] []))
        refine Go.st (fun _ k => XS.iloadN X0.here hx rfl (hb hby d_pow10_24) rfl k) ?_
        show Go p.tables e below _ (s₁.setTop (mkF m 25 #[.val (.int pk)] [(.int pk)]))
        refine Go.st (fun _ k => XS.iconst X0.here hx rfl (hb hby d_pow10_25) k) ?_
        show Go p.tables e below _ (s₁.setTop (mkF m 26 #[.val (.int pk)] [(.int (3 : Int32)), (.int pk)]))
        by_cases hc26 : pk = (3 : Int32)
        · skip
          refine Go.st (fun _ k => XS.icmpNo X0.here hx rfl (hb hby d_pow10_26) rfl (Jvm.Free.XT.ii_ne_f hc26) k) ?_
          show Go p.tables e below _ (s₁.setTop (mkF m 29 #[.val (.int pk)] []))
          refine Go.st (fun _ k => X0.ldc2Long hx hown (mvT hZ (hw _ (List.mem_of_getElem? (i := 19) rfl))) (g := (mkF m 29 #[.val (.int pk)] [])) rfl (hb hby d_pow10_29) _ k) ?_
          show Go p.tables e below _ (s₁.setTop (mkF m 32 #[.val (.int pk)] [(.long (1000 : Int64))]))
          subst hG
          obtain ⟨fs, hr, hrun, hended, hW, hsame⟩ := X0.leave (v := some (.long (1000 : Int64))) (fun h => by rw [Bd.returns] at h; cases h)
          refine ⟨_, _, ?_, hrun, hended, _, _, rfl, ?_, ⟨_, rfl⟩, hW, hsame.mono (by decide) (by decide)⟩
          · exact retOut X0 hx Bd.returns rfl (Or.inr (Or.inl ⟨rfl, rfl, _, rfl⟩)) (hb hby d_pow10_32) hr
          · show Q_pow10 Z pk h0 n0 _ s₁.heap _
            rw [e0]
            exact ⟨(by simp [p10F, hc1, hc8, hc17, hc26]), N0, rfl⟩
        · skip
          refine Go.st (fun _ k => XS.icmpYes X0.here hx rfl (pc0 := 26) (pc' := 33) rfl (hb hby d_pow10_26) rfl (Jvm.Free.XT.ii_ne_t hc26) (by decide) (by decide) k) ?_
          show Go p.tables e below _ (s₁.setTop (mkF m 33 #[.val (.int pk)] []))
          refine Go.st (fun _ k => XS.iloadN X0.here hx rfl (hb hby d_pow10_33) rfl k) ?_
          show Go p.tables e below _ (s₁.setTop (mkF m 34 #[.val (.int pk)] [(.int pk)]))
          refine Go.st (fun _ k => XS.iconst X0.here hx rfl (hb hby d_pow10_34) k) ?_
          show Go p.tables e below _ (s₁.setTop (mkF m 35 #[.val (.int pk)] [(.int (4 : Int32)), (.int pk)]))
          by_cases hc35 : pk = (4 : Int32)
          · skip
            refine Go.st (fun _ k => XS.icmpNo X0.here hx rfl (hb hby d_pow10_35) rfl (Jvm.Free.XT.ii_ne_f hc35) k) ?_
            show Go p.tables e below _ (s₁.setTop (mkF m 38 #[.val (.int pk)] []))
            refine Go.st (fun _ k => X0.ldc2Long hx hown (mvT hZ (hw _ (List.mem_of_getElem? (i := 22) rfl))) (g := (mkF m 38 #[.val (.int pk)] [])) rfl (hb hby d_pow10_38) _ k) ?_
            show Go p.tables e below _ (s₁.setTop (mkF m 41 #[.val (.int pk)] [(.long (10000 : Int64))]))
            subst hG
            obtain ⟨fs, hr, hrun, hended, hW, hsame⟩ := X0.leave (v := some (.long (10000 : Int64))) (fun h => by rw [Bd.returns] at h; cases h)
            refine ⟨_, _, ?_, hrun, hended, _, _, rfl, ?_, ⟨_, rfl⟩, hW, hsame.mono (by decide) (by decide)⟩
            · exact retOut X0 hx Bd.returns rfl (Or.inr (Or.inl ⟨rfl, rfl, _, rfl⟩)) (hb hby d_pow10_41) hr
            · show Q_pow10 Z pk h0 n0 _ s₁.heap _
              rw [e0]
              exact ⟨(by simp [p10F, hc1, hc8, hc17, hc26, hc35]), N0, rfl⟩
          · skip
            refine Go.st (fun _ k => XS.icmpYes X0.here hx rfl (pc0 := 35) (pc' := 42) rfl (hb hby d_pow10_35) rfl (Jvm.Free.XT.ii_ne_t hc35) (by decide) (by decide) k) ?_
            show Go p.tables e below _ (s₁.setTop (mkF m 42 #[.val (.int pk)] []))
            refine Go.st (fun _ k => XS.iloadN X0.here hx rfl (hb hby d_pow10_42) rfl k) ?_
            show Go p.tables e below _ (s₁.setTop (mkF m 43 #[.val (.int pk)] [(.int pk)]))
            refine Go.st (fun _ k => XS.iconst X0.here hx rfl (hb hby d_pow10_43) k) ?_
            show Go p.tables e below _ (s₁.setTop (mkF m 44 #[.val (.int pk)] [(.int (5 : Int32)), (.int pk)]))
            by_cases hc44 : pk = (5 : Int32)
            · skip
              refine Go.st (fun _ k => XS.icmpNo X0.here hx rfl (hb hby d_pow10_44) rfl (Jvm.Free.XT.ii_ne_f hc44) k) ?_
              show Go p.tables e below _ (s₁.setTop (mkF m 47 #[.val (.int pk)] []))
              refine Go.st (fun _ k => X0.ldc2Long hx hown (mvT hZ (hw _ (List.mem_of_getElem? (i := 21) rfl))) (g := (mkF m 47 #[.val (.int pk)] [])) rfl (hb hby d_pow10_47) _ k) ?_
              show Go p.tables e below _ (s₁.setTop (mkF m 50 #[.val (.int pk)] [(.long (100000 : Int64))]))
              subst hG
              obtain ⟨fs, hr, hrun, hended, hW, hsame⟩ := X0.leave (v := some (.long (100000 : Int64))) (fun h => by rw [Bd.returns] at h; cases h)
              refine ⟨_, _, ?_, hrun, hended, _, _, rfl, ?_, ⟨_, rfl⟩, hW, hsame.mono (by decide) (by decide)⟩
              · exact retOut X0 hx Bd.returns rfl (Or.inr (Or.inl ⟨rfl, rfl, _, rfl⟩)) (hb hby d_pow10_50) hr
              · show Q_pow10 Z pk h0 n0 _ s₁.heap _
                rw [e0]
                exact ⟨(by simp [p10F, hc1, hc8, hc17, hc26, hc35, hc44]), N0, rfl⟩
            · skip
              refine Go.st (fun _ k => XS.icmpYes X0.here hx rfl (pc0 := 44) (pc' := 51) rfl (hb hby d_pow10_44) rfl (Jvm.Free.XT.ii_ne_t hc44) (by decide) (by decide) k) ?_
              show Go p.tables e below _ (s₁.setTop (mkF m 51 #[.val (.int pk)] []))
              refine Go.st (fun _ k => XS.iloadN X0.here hx rfl (hb hby d_pow10_51) rfl k) ?_
              show Go p.tables e below _ (s₁.setTop (mkF m 52 #[.val (.int pk)] [(.int pk)]))
              refine Go.st (fun _ k => XS.bipush X0.here hx rfl (hb hby d_pow10_52) k) ?_
              show Go p.tables e below _ (s₁.setTop (mkF m 54 #[.val (.int pk)] [(.int (6 : Int32)), (.int pk)]))
              by_cases hc54 : pk = (6 : Int32)
              · skip
                refine Go.st (fun _ k => XS.icmpNo X0.here hx rfl (hb hby d_pow10_54) rfl (Jvm.Free.XT.ii_ne_f hc54) k) ?_
                show Go p.tables e below _ (s₁.setTop (mkF m 57 #[.val (.int pk)] []))
                refine Go.st (fun _ k => X0.ldc2Long hx hown (mvT hZ (hw _ (List.mem_of_getElem? (i := 20) rfl))) (g := (mkF m 57 #[.val (.int pk)] [])) rfl (hb hby d_pow10_57) _ k) ?_
                show Go p.tables e below _ (s₁.setTop (mkF m 60 #[.val (.int pk)] [(.long (1000000 : Int64))]))
                subst hG
                obtain ⟨fs, hr, hrun, hended, hW, hsame⟩ := X0.leave (v := some (.long (1000000 : Int64))) (fun h => by rw [Bd.returns] at h; cases h)
                refine ⟨_, _, ?_, hrun, hended, _, _, rfl, ?_, ⟨_, rfl⟩, hW, hsame.mono (by decide) (by decide)⟩
                · exact retOut X0 hx Bd.returns rfl (Or.inr (Or.inl ⟨rfl, rfl, _, rfl⟩)) (hb hby d_pow10_60) hr
                · show Q_pow10 Z pk h0 n0 _ s₁.heap _
                  rw [e0]
                  exact ⟨(by simp [p10F, hc1, hc8, hc17, hc26, hc35, hc44, hc54]), N0, rfl⟩
              · skip
                refine Go.st (fun _ k => XS.icmpYes X0.here hx rfl (pc0 := 54) (pc' := 61) rfl (hb hby d_pow10_54) rfl (Jvm.Free.XT.ii_ne_t hc54) (by decide) (by decide) k) ?_
                show Go p.tables e below _ (s₁.setTop (mkF m 61 #[.val (.int pk)] []))
                refine Go.st (fun _ k => X0.ldc2Long hx hown (mvT hZ (hw _ (List.mem_of_getElem? (i := 23) rfl))) (g := (mkF m 61 #[.val (.int pk)] [])) rfl (hb hby d_pow10_61) _ k) ?_
                show Go p.tables e below _ (s₁.setTop (mkF m 64 #[.val (.int pk)] [(.long (10000000 : Int64))]))
                subst hG
                obtain ⟨fs, hr, hrun, hended, hW, hsame⟩ := X0.leave (v := some (.long (10000000 : Int64))) (fun h => by rw [Bd.returns] at h; cases h)
                refine ⟨_, _, ?_, hrun, hended, _, _, rfl, ?_, ⟨_, rfl⟩, hW, hsame.mono (by decide) (by decide)⟩
                · exact retOut X0 hx Bd.returns rfl (Or.inr (Or.inl ⟨rfl, rfl, _, rfl⟩)) (hb hby d_pow10_64) hr
                · show Q_pow10 Z pk h0 n0 _ s₁.heap _
                  rw [e0]
                  exact ⟨(by simp [p10F, hc1, hc8, hc17, hc26, hc35, hc44, hc54]), N0, rfl⟩
theorem pd_0 : parseMethodDescriptor "(I)J" = some ⟨[.int], some .long⟩ := by decide +kernel
theorem d_ok_0 : decode method_3_code 0 = .ok (.iload_n 1, 1) := by decide +kernel
theorem d_ok_1 : decode method_3_code 1 = .ok (.iload_n 2, 1) := by decide +kernel
theorem d_ok_2 : decode method_3_code 2 = .ok (.if_icmp .lt 10, 3) := by decide +kernel
theorem d_ok_5 : decode method_3_code 5 = .ok (.iload_n 1, 1) := by decide +kernel
theorem d_ok_6 : decode method_3_code 6 = .ok (.iload_n 2, 1) := by decide +kernel
theorem d_ok_7 : decode method_3_code 7 = .ok (.iload_n 3, 1) := by decide +kernel
theorem d_ok_8 : decode method_3_code 8 = .ok (.iadd, 1) := by decide +kernel
theorem d_ok_9 : decode method_3_code 9 = .ok (.if_icmp .lt 17, 3) := by decide +kernel
theorem d_ok_12 : decode method_3_code 12 = .ok (.aload_n 0, 1) := by decide +kernel
theorem d_ok_13 : decode method_3_code 13 = .ok (.iload_n 1, 1) := by decide +kernel
theorem d_ok_14 : decode method_3_code 14 = .ok (.baload, 1) := by decide +kernel
theorem d_ok_15 : decode method_3_code 15 = .ok (.iload 6, 2) := by decide +kernel
theorem d_ok_17 : decode method_3_code 17 = .ok (.if_icmp .ne 7, 3) := by decide +kernel
theorem d_ok_20 : decode method_3_code 20 = .ok (.iconst 1, 1) := by decide +kernel
theorem d_ok_21 : decode method_3_code 21 = .ok (.goto 4, 3) := by decide +kernel
theorem d_ok_24 : decode method_3_code 24 = .ok (.iconst 0, 1) := by decide +kernel
theorem d_ok_25 : decode method_3_code 25 = .ok (.ireturn, 1) := by decide +kernel
theorem d_ok_26 : decode method_3_code 26 = .ok (.iload_n 2, 1) := by decide +kernel
theorem d_ok_27 : decode method_3_code 27 = .ok (.iload_n 3, 1) := by decide +kernel
theorem d_ok_28 : decode method_3_code 28 = .ok (.iadd, 1) := by decide +kernel
theorem d_ok_29 : decode method_3_code 29 = .ok (.iconst 1, 1) := by decide +kernel
theorem d_ok_30 : decode method_3_code 30 = .ok (.isub, 1) := by decide +kernel
theorem d_ok_31 : decode method_3_code 31 = .ok (.iload_n 1, 1) := by decide +kernel
theorem d_ok_32 : decode method_3_code 32 = .ok (.isub, 1) := by decide +kernel
theorem d_ok_33 : decode method_3_code 33 = .ok (.istore 7, 2) := by decide +kernel
theorem d_ok_35 : decode method_3_code 35 = .ok (.aload_n 0, 1) := by decide +kernel
theorem d_ok_36 : decode method_3_code 36 = .ok (.iload_n 1, 1) := by decide +kernel
theorem d_ok_37 : decode method_3_code 37 = .ok (.baload, 1) := by decide +kernel
theorem d_ok_38 : decode method_3_code 38 = .ok (.ldc2_w 24, 3) := by decide +kernel
theorem d_ok_41 : decode method_3_code 41 = .ok (.lload 4, 2) := by decide +kernel
theorem d_ok_43 : decode method_3_code 43 = .ok (.iload 7, 2) := by decide +kernel
theorem d_ok_45 : decode method_3_code 45 = .ok (.invokestatic 26, 3) := by decide +kernel
theorem d_ok_48 : decode method_3_code 48 = .ok (.ldiv, 1) := by decide +kernel
theorem d_ok_49 : decode method_3_code 49 = .ok (.ldc2_w 30, 3) := by decide +kernel
theorem d_ok_52 : decode method_3_code 52 = .ok (.lrem, 1) := by decide +kernel
theorem d_ok_53 : decode method_3_code 53 = .ok (.ladd, 1) := by decide +kernel
theorem d_ok_54 : decode method_3_code 54 = .ok (.l2i, 1) := by decide +kernel
theorem d_ok_55 : decode method_3_code 55 = .ok (.i2b, 1) := by decide +kernel
theorem d_ok_56 : decode method_3_code 56 = .ok (.if_icmp .ne 7, 3) := by decide +kernel
theorem d_ok_59 : decode method_3_code 59 = .ok (.iconst 1, 1) := by decide +kernel
theorem d_ok_60 : decode method_3_code 60 = .ok (.goto 4, 3) := by decide +kernel
theorem d_ok_63 : decode method_3_code 63 = .ok (.iconst 0, 1) := by decide +kernel
theorem d_ok_64 : decode method_3_code 64 = .ok (.ireturn, 1) := by decide +kernel
theorem ef_ok (m : MethodId) (ao : Addr) (pi : Int32) (pat : Int32) (pw : Int32) (qn : Int64) (pf : Int32) : entryFrame m #[(.ref ao), (.int pi), (.int pat), (.int pw), (.long qn), (.int pf)] 8 = mkF m 0 #[.val (.ref ao), .val (.int pi), .val (.int pat), .val (.int pw), .val (.long qn), .second, .val (.int pf), .unset] [] := by first | (simp [entryFrame, mkF, argsToLocals, Value.category]; done) | rfl
def Q_ok (Z : State) (ao : Addr) (pi : Int32) (pat : Int32) (pw : Int32) (qn : Int64) (pf : Int32) (kk : ClassId) (bl : List Int32) (h0 : Heap) (n0 : Nat) (v : Option Value) (h : Heap) (L : List Loc) : Prop := v = some (.int (okF pi pat pw qn pf (bl.getD pi.toNatClampNeg 0))) ∧ Fr n0 L ∧ h = h0
set_option maxRecDepth 65536 in
set_option maxHeartbeats 40000000 in
theorem rm_ok (l : Launch) (Z : State) (a0 : Array Value) (hw : ∀ d ∈ tables_1, d.before a0 Z = true) (ws : List Jvm.Cond) (ao : Addr) (pi : Int32) (pat : Int32) (pw : Int32) (qn : Int64) (pf : Int32) (kk : ClassId) (bl : List Int32) (h0 : Heap) (n0 : Nat) (Z0 : n0 ≤ h0.size) (P0 : Arv Z h0 ao kk .byte (8 : Int32) (bvs bl) (.int (0 : Int32))) (hpi : 0 ≤ pi.toInt ∧ pi.toInt < 8) :
    MetFree l (⟨"com/example/gapmend/gapmend/MessagePutDigitsPinLaw", "ok", "([BIIIJB)Z"⟩ : MethodName) (head1 (Jvm.Cond.code (⟨"com/example/gapmend/gapmend/MessagePutDigitsPinLaw", "ok", "([BIIIJB)Z"⟩ : MethodName) method_3_code 8 (some .boolean) :: ws) ({ frames := 1, cells := 0, slots := 0, locals := 17 } : Room)) (fun a U => a = #[(.ref ao), (.int pi), (.int pat), (.int pw), (.long qn), (.int pf)] ∧ Z.Warmed39 U.vm ∧ U.heap = h0) (fun _ _ _ _ _ => True) (fun _ U o U' => ∃ v L, o = .returned v ∧ Q_ok Z ao pi pat pw qn pf kk bl h0 n0 v U'.heap L ∧ FrameEnd U o U' L ({ frames := 1, cells := 0, slots := 0, locals := 17 } : Room).cells ({ frames := 1, cells := 0, slots := 0, locals := 17 } : Room).slots) := by
  refine MetFree.of_bodySF (plainFor_of_name pn_1) hisR ?_
  intro p e s m args below meth c s₁ Bd hml0 hP hK
  obtain ⟨rfl, hZ, hh⟩ := hP
  have hx := Bd.exec
  have hby := Bd.bytes
  have hml : c.maxLocals = 8 := hml0
  have hown : s.vm.findClass "com/example/gapmend/gapmend/MessagePutDigitsPinLaw" = some m.cls := findClass_of_methodNamed Bd.named
  have hnm := (name_of_methodNamed Bd.named Bd.method).1
  have X0 : Stand p l e ({ frames := 1, cells := 0, slots := 0, locals := 17 } : Room) s m #[(.ref ao), (.int pi), (.int pat), (.int pw), (.long qn), (.int pf)] below meth c s₁ [] 0 0 := Stand.of_body Bd
  have e0 : s₁.heap = h0 := by rw [← hh, Bd.state]; rfl
  have N0 := Fr.nil n0
  have K0 : Keep h0 h0 [] := Keep.refl h0 []
  show Go p.tables e below _ (s₁.setTop (entryFrame m #[(.ref ao), (.int pi), (.int pat), (.int pw), (.long qn), (.int pf)] 8))
  refine Go.start ?_
  intro G hG
  refine Go.st (fun t k => castTop (ef_ok m ao pi pat pw qn pf) k) ?_
  have i_8 : (8 : Int32).toInt = 8 := by decide
  have i_0 : (0 : Int32).toInt = 0 := by decide
  show Go p.tables e below _ (s₁.setTop (mkF m 0 #[.val (.ref ao), .val (.int pi), .val (.int pat), .val (.int pw), .val (.long qn), .second, .val (.int pf), .unset] []))
  refine Go.st (fun _ k => XS.iloadN X0.here hx rfl (hb hby d_ok_0) rfl k) ?_
  show Go p.tables e below _ (s₁.setTop (mkF m 1 #[.val (.ref ao), .val (.int pi), .val (.int pat), .val (.int pw), .val (.long qn), .second, .val (.int pf), .unset] [(.int pi)]))
  refine Go.st (fun _ k => XS.iloadN X0.here hx rfl (hb hby d_ok_1) rfl k) ?_
  show Go p.tables e below _ (s₁.setTop (mkF m 2 #[.val (.ref ao), .val (.int pi), .val (.int pat), .val (.int pw), .val (.long qn), .second, .val (.int pf), .unset] [(.int pat), (.int pi)]))
  by_cases hc2 : pi < pat
  · skip
    refine Go.st (fun _ k => XS.icmpYes X0.here hx rfl (pc0 := 2) (pc' := 12) rfl (hb hby d_ok_2) rfl (Jvm.Free.XT.ii_lt_t hc2) (by decide) (by decide) k) ?_
    show Go p.tables e below _ (s₁.setTop (mkF m 12 #[.val (.ref ao), .val (.int pi), .val (.int pat), .val (.int pw), .val (.long qn), .second, .val (.int pf), .unset] []))
    refine Go.st (fun _ k => XS.aloadN X0.here hx rfl (hb hby d_ok_12) rfl rfl k) ?_
    show Go p.tables e below _ (s₁.setTop (mkF m 13 #[.val (.ref ao), .val (.int pi), .val (.int pat), .val (.int pw), .val (.long qn), .second, .val (.int pf), .unset] [(.ref ao)]))
    refine Go.st (fun _ k => XS.iloadN X0.here hx rfl (hb hby d_ok_13) rfl k) ?_
    show Go p.tables e below _ (s₁.setTop (mkF m 14 #[.val (.ref ao), .val (.int pi), .val (.int pat), .val (.int pw), .val (.long qn), .second, .val (.int pf), .unset] [(.int pi), (.ref ao)]))
    obtain ⟨cl1, Ar1, q1, S1, M1, H1, G1⟩ := id P0
    have hin1 : ¬ (pi < 0 ∨ cl1.slots.size ≤ (pi).toNatClampNeg) := inb_of S1 ⟨own_nlt32 (by omega), own_lt32 (by omega)⟩
    have hat1 : cl1.slots[(pi).toNatClampNeg]? = some (.int (bl.getD pi.toNatClampNeg 0)) := Has.at H1 hin1 (own_bget _ _)
    refine Go.st (fun _ k => X0.baloadBytes hx (j := pi) (v := (.int (bl.getD pi.toNatClampNeg 0))) (by rw [e0]; exact Ar1.1) (State.isArrayOf_alike hZ.alike Ar1.2.1) Ar1.2.2 hin1 hat1 (g := (mkF m 14 #[.val (.ref ao), .val (.int pi), .val (.int pat), .val (.int pw), .val (.long qn), .second, .val (.int pf), .unset] [(.int pi), (.ref ao)])) rfl rfl (hb hby d_ok_14) _ k) ?_
    show Go p.tables e below _ (s₁.setTop (mkF m 15 #[.val (.ref ao), .val (.int pi), .val (.int pat), .val (.int pw), .val (.long qn), .second, .val (.int pf), .unset] [(.int (bl.getD pi.toNatClampNeg 0))]))
    refine Go.st (fun _ k => XS.iload X0.here hx rfl (hb hby d_ok_15) rfl k) ?_
    show Go p.tables e below _ (s₁.setTop (mkF m 17 #[.val (.ref ao), .val (.int pi), .val (.int pat), .val (.int pw), .val (.long qn), .second, .val (.int pf), .unset] [(.int pf), (.int (bl.getD pi.toNatClampNeg 0))]))
    by_cases hc17 : (bl.getD pi.toNatClampNeg 0) = pf
    · skip
      refine Go.st (fun _ k => XS.icmpNo X0.here hx rfl (hb hby d_ok_17) rfl (Jvm.Free.XT.ii_ne_f hc17) k) ?_
      show Go p.tables e below _ (s₁.setTop (mkF m 20 #[.val (.ref ao), .val (.int pi), .val (.int pat), .val (.int pw), .val (.long qn), .second, .val (.int pf), .unset] []))
      refine Go.st (fun _ k => XS.iconst X0.here hx rfl (hb hby d_ok_20) k) ?_
      show Go p.tables e below _ (s₁.setTop (mkF m 21 #[.val (.ref ao), .val (.int pi), .val (.int pat), .val (.int pw), .val (.long qn), .second, .val (.int pf), .unset] [(.int (1 : Int32))]))
      refine Go.st (fun _ k => XS.goto X0.here hx rfl (pc0 := 21) (pc' := 25) rfl (hb hby d_ok_21) (by decide) (by decide) k) ?_
      show Go p.tables e below _ (s₁.setTop (mkF m 25 #[.val (.ref ao), .val (.int pi), .val (.int pat), .val (.int pw), .val (.long qn), .second, .val (.int pf), .unset] [(.int (1 : Int32))]))
      subst hG
      obtain ⟨fs, hr, hrun, hended, hW, hsame⟩ := X0.leave (v := some (.int (nar .boolean (1 : Int32)))) (fun h => by rw [Bd.returns] at h; cases h)
      refine ⟨_, _, ?_, hrun, hended, _, _, rfl, ?_, ⟨_, rfl⟩, hW, hsame.mono (by decide) (by decide)⟩
      · exact retN X0 hx (t := .boolean) Bd.returns (by simp) (hb hby d_ok_25) hr
      · show Q_ok Z ao pi pat pw qn pf kk bl h0 n0 _ s₁.heap _
        rw [e0]
        exact ⟨(by show some (Value.int (1 : Int32)) = some (Value.int (okF pi pat pw qn pf (bl.getD pi.toNatClampNeg 0))); unfold okF; rw [if_pos hc2, if_pos hc17]), N0, rfl⟩
    · skip
      refine Go.st (fun _ k => XS.icmpYes X0.here hx rfl (pc0 := 17) (pc' := 24) rfl (hb hby d_ok_17) rfl (Jvm.Free.XT.ii_ne_t hc17) (by decide) (by decide) k) ?_
      show Go p.tables e below _ (s₁.setTop (mkF m 24 #[.val (.ref ao), .val (.int pi), .val (.int pat), .val (.int pw), .val (.long qn), .second, .val (.int pf), .unset] []))
      refine Go.st (fun _ k => XS.iconst X0.here hx rfl (hb hby d_ok_24) k) ?_
      show Go p.tables e below _ (s₁.setTop (mkF m 25 #[.val (.ref ao), .val (.int pi), .val (.int pat), .val (.int pw), .val (.long qn), .second, .val (.int pf), .unset] [(.int (0 : Int32))]))
      subst hG
      obtain ⟨fs, hr, hrun, hended, hW, hsame⟩ := X0.leave (v := some (.int (nar .boolean (0 : Int32)))) (fun h => by rw [Bd.returns] at h; cases h)
      refine ⟨_, _, ?_, hrun, hended, _, _, rfl, ?_, ⟨_, rfl⟩, hW, hsame.mono (by decide) (by decide)⟩
      · exact retN X0 hx (t := .boolean) Bd.returns (by simp) (hb hby d_ok_25) hr
      · show Q_ok Z ao pi pat pw qn pf kk bl h0 n0 _ s₁.heap _
        rw [e0]
        exact ⟨(by show some (Value.int (0 : Int32)) = some (Value.int (okF pi pat pw qn pf (bl.getD pi.toNatClampNeg 0))); unfold okF; rw [if_pos hc2, if_neg hc17]), N0, rfl⟩
  · skip
    refine Go.st (fun _ k => XS.icmpNo X0.here hx rfl (hb hby d_ok_2) rfl (Jvm.Free.XT.ii_lt_f hc2) k) ?_
    show Go p.tables e below _ (s₁.setTop (mkF m 5 #[.val (.ref ao), .val (.int pi), .val (.int pat), .val (.int pw), .val (.long qn), .second, .val (.int pf), .unset] []))
    refine Go.st (fun _ k => XS.iloadN X0.here hx rfl (hb hby d_ok_5) rfl k) ?_
    show Go p.tables e below _ (s₁.setTop (mkF m 6 #[.val (.ref ao), .val (.int pi), .val (.int pat), .val (.int pw), .val (.long qn), .second, .val (.int pf), .unset] [(.int pi)]))
    refine Go.st (fun _ k => XS.iloadN X0.here hx rfl (hb hby d_ok_6) rfl k) ?_
    show Go p.tables e below _ (s₁.setTop (mkF m 7 #[.val (.ref ao), .val (.int pi), .val (.int pat), .val (.int pw), .val (.long qn), .second, .val (.int pf), .unset] [(.int pat), (.int pi)]))
    refine Go.st (fun _ k => XS.iloadN X0.here hx rfl (hb hby d_ok_7) rfl k) ?_
    show Go p.tables e below _ (s₁.setTop (mkF m 8 #[.val (.ref ao), .val (.int pi), .val (.int pat), .val (.int pw), .val (.long qn), .second, .val (.int pf), .unset] [(.int pw), (.int pat), (.int pi)]))
    refine Go.st (fun _ k => XS.iadd X0.here hx rfl (hb hby d_ok_8) rfl k) ?_
    show Go p.tables e below _ (s₁.setTop (mkF m 9 #[.val (.ref ao), .val (.int pi), .val (.int pat), .val (.int pw), .val (.long qn), .second, .val (.int pf), .unset] [(.int (pat + pw)), (.int pi)]))
    by_cases hc9 : pi < (pat + pw)
    · skip
      refine Go.st (fun _ k => XS.icmpYes X0.here hx rfl (pc0 := 9) (pc' := 26) rfl (hb hby d_ok_9) rfl (Jvm.Free.XT.ii_lt_t hc9) (by decide) (by decide) k) ?_
      show Go p.tables e below _ (s₁.setTop (mkF m 26 #[.val (.ref ao), .val (.int pi), .val (.int pat), .val (.int pw), .val (.long qn), .second, .val (.int pf), .unset] []))
      refine Go.st (fun _ k => XS.iloadN X0.here hx rfl (hb hby d_ok_26) rfl k) ?_
      show Go p.tables e below _ (s₁.setTop (mkF m 27 #[.val (.ref ao), .val (.int pi), .val (.int pat), .val (.int pw), .val (.long qn), .second, .val (.int pf), .unset] [(.int pat)]))
      refine Go.st (fun _ k => XS.iloadN X0.here hx rfl (hb hby d_ok_27) rfl k) ?_
      show Go p.tables e below _ (s₁.setTop (mkF m 28 #[.val (.ref ao), .val (.int pi), .val (.int pat), .val (.int pw), .val (.long qn), .second, .val (.int pf), .unset] [(.int pw), (.int pat)]))
      refine Go.st (fun _ k => XS.iadd X0.here hx rfl (hb hby d_ok_28) rfl k) ?_
      show Go p.tables e below _ (s₁.setTop (mkF m 29 #[.val (.ref ao), .val (.int pi), .val (.int pat), .val (.int pw), .val (.long qn), .second, .val (.int pf), .unset] [(.int (pat + pw))]))
      refine Go.st (fun _ k => XS.iconst X0.here hx rfl (hb hby d_ok_29) k) ?_
      show Go p.tables e below _ (s₁.setTop (mkF m 30 #[.val (.ref ao), .val (.int pi), .val (.int pat), .val (.int pw), .val (.long qn), .second, .val (.int pf), .unset] [(.int (1 : Int32)), (.int (pat + pw))]))
      refine Go.st (fun _ k => XS.isub X0.here hx rfl (hb hby d_ok_30) rfl k) ?_
      show Go p.tables e below _ (s₁.setTop (mkF m 31 #[.val (.ref ao), .val (.int pi), .val (.int pat), .val (.int pw), .val (.long qn), .second, .val (.int pf), .unset] [(.int ((pat + pw) - (1 : Int32)))]))
      refine Go.st (fun _ k => XS.iloadN X0.here hx rfl (hb hby d_ok_31) rfl k) ?_
      show Go p.tables e below _ (s₁.setTop (mkF m 32 #[.val (.ref ao), .val (.int pi), .val (.int pat), .val (.int pw), .val (.long qn), .second, .val (.int pf), .unset] [(.int pi), (.int ((pat + pw) - (1 : Int32)))]))
      refine Go.st (fun _ k => XS.isub X0.here hx rfl (hb hby d_ok_32) rfl k) ?_
      show Go p.tables e below _ (s₁.setTop (mkF m 33 #[.val (.ref ao), .val (.int pi), .val (.int pat), .val (.int pw), .val (.long qn), .second, .val (.int pf), .unset] [(.int (((pat + pw) - (1 : Int32)) - pi))]))
      refine Go.st (fun _ k => XS.istore X0.here hx rfl (hb hby d_ok_33) rfl (l' := #[.val (.ref ao), .val (.int pi), .val (.int pat), .val (.int pw), .val (.long qn), .second, .val (.int pf), .val (.int (((pat + pw) - (1 : Int32)) - pi))]) rfl k) ?_
      show Go p.tables e below _ (s₁.setTop (mkF m 35 #[.val (.ref ao), .val (.int pi), .val (.int pat), .val (.int pw), .val (.long qn), .second, .val (.int pf), .val (.int (((pat + pw) - (1 : Int32)) - pi))] []))
      refine Go.st (fun _ k => XS.aloadN X0.here hx rfl (hb hby d_ok_35) rfl rfl k) ?_
      show Go p.tables e below _ (s₁.setTop (mkF m 36 #[.val (.ref ao), .val (.int pi), .val (.int pat), .val (.int pw), .val (.long qn), .second, .val (.int pf), .val (.int (((pat + pw) - (1 : Int32)) - pi))] [(.ref ao)]))
      refine Go.st (fun _ k => XS.iloadN X0.here hx rfl (hb hby d_ok_36) rfl k) ?_
      show Go p.tables e below _ (s₁.setTop (mkF m 37 #[.val (.ref ao), .val (.int pi), .val (.int pat), .val (.int pw), .val (.long qn), .second, .val (.int pf), .val (.int (((pat + pw) - (1 : Int32)) - pi))] [(.int pi), (.ref ao)]))
      obtain ⟨cl2, Ar2, q2, S2, M2, H2, G2⟩ := id P0
      have hin2 : ¬ (pi < 0 ∨ cl2.slots.size ≤ (pi).toNatClampNeg) := inb_of S2 ⟨own_nlt32 (by omega), own_lt32 (by omega)⟩
      have hat2 : cl2.slots[(pi).toNatClampNeg]? = some (.int (bl.getD pi.toNatClampNeg 0)) := Has.at H2 hin2 (own_bget _ _)
      refine Go.st (fun _ k => X0.baloadBytes hx (j := pi) (v := (.int (bl.getD pi.toNatClampNeg 0))) (by rw [e0]; exact Ar2.1) (State.isArrayOf_alike hZ.alike Ar2.2.1) Ar2.2.2 hin2 hat2 (g := (mkF m 37 #[.val (.ref ao), .val (.int pi), .val (.int pat), .val (.int pw), .val (.long qn), .second, .val (.int pf), .val (.int (((pat + pw) - (1 : Int32)) - pi))] [(.int pi), (.ref ao)])) rfl rfl (hb hby d_ok_37) _ k) ?_
      show Go p.tables e below _ (s₁.setTop (mkF m 38 #[.val (.ref ao), .val (.int pi), .val (.int pat), .val (.int pw), .val (.long qn), .second, .val (.int pf), .val (.int (((pat + pw) - (1 : Int32)) - pi))] [(.int (bl.getD pi.toNatClampNeg 0))]))
      refine Go.st (fun _ k => X0.ldc2Long hx hown (mvT hZ (hw _ (List.mem_of_getElem? (i := 13) rfl))) (g := (mkF m 38 #[.val (.ref ao), .val (.int pi), .val (.int pat), .val (.int pw), .val (.long qn), .second, .val (.int pf), .val (.int (((pat + pw) - (1 : Int32)) - pi))] [(.int (bl.getD pi.toNatClampNeg 0))])) rfl (hb hby d_ok_38) _ k) ?_
      show Go p.tables e below _ (s₁.setTop (mkF m 41 #[.val (.ref ao), .val (.int pi), .val (.int pat), .val (.int pw), .val (.long qn), .second, .val (.int pf), .val (.int (((pat + pw) - (1 : Int32)) - pi))] [(.long (48 : Int64)), (.int (bl.getD pi.toNatClampNeg 0))]))
      refine Go.st (fun _ k => XS.lload X0.here hx rfl (hb hby d_ok_41) rfl k) ?_
      show Go p.tables e below _ (s₁.setTop (mkF m 43 #[.val (.ref ao), .val (.int pi), .val (.int pat), .val (.int pw), .val (.long qn), .second, .val (.int pf), .val (.int (((pat + pw) - (1 : Int32)) - pi))] [(.long qn), (.long (48 : Int64)), (.int (bl.getD pi.toNatClampNeg 0))]))
      refine Go.st (fun _ k => XS.iload X0.here hx rfl (hb hby d_ok_43) rfl k) ?_
      show Go p.tables e below _ (s₁.setTop (mkF m 45 #[.val (.ref ao), .val (.int pi), .val (.int pat), .val (.int pw), .val (.long qn), .second, .val (.int pf), .val (.int (((pat + pw) - (1 : Int32)) - pi))] [(.int (((pat + pw) - (1 : Int32)) - pi)), (.long qn), (.long (48 : Int64)), (.int (bl.getD pi.toNatClampNeg 0))]))
      obtain ⟨_, _, ⟨T3, L3, k3, n3⟩, -, X3, ⟨Lc3, hQ3, l3, y3, z3⟩, st3⟩ := Jvm.LawKit.callS X0 hx (y := (⟨"com/example/gapmend/gapmend/MessagePutDigitsPinLaw", "pow10", "(I)J"⟩ : MethodName)) hown (mvT hZ (hw _ (List.mem_of_getElem? (i := 14) rfl))) (mvT hZ (hw _ (List.mem_of_getElem? (i := 15) rfl))) (mvT hZ (hw _ (List.mem_of_getElem? (i := 11) rfl))) (mvT hZ (hw _ (List.mem_of_getElem? (i := 16) rfl))) (by decide) (backOf (W := 5) (rm_pow10 l Z a0 hw [] (((pat + pw) - (1 : Int32)) - pi) h0 n0 Z0 ) hZ (hw _ (List.mem_of_getElem? (i := 16) rfl)) (hw _ (List.mem_of_getElem? (i := 11) rfl)) (by decide) (by decide)) (g := (mkF m 45 #[.val (.ref ao), .val (.int pi), .val (.int pat), .val (.int pw), .val (.long qn), .second, .val (.int pf), .val (.int (((pat + pw) - (1 : Int32)) - pi))] [(.int (((pat + pw) - (1 : Int32)) - pi)), (.long qn), (.long (48 : Int64)), (.int (bl.getD pi.toNatClampNeg 0))])) rfl (by rw [hml]; rfl) (argsL := [(.int (((pat + pw) - (1 : Int32)) - pi))]) (rest := [(.long qn), (.long (48 : Int64)), (.int (bl.getD pi.toNatClampNeg 0))]) (lenOf pd_0 rfl) rfl (by show 2 * 0 + _ ≤ _; exact Nat.le_of_eq rfl) (hb hby d_ok_45) (fun _ _ => ⟨rfl, e0, (by decide : 0 + 0 ≤ _), (by decide : 0 + 0 ≤ _)⟩)
      dsimp only [Pt.U, Pt.locs, Pt.cells, Pt.slots] at X3 l3 y3 z3 st3 hQ3
      subst l3 y3 z3
      obtain ⟨rfl, N3q, e3⟩ := hQ3
      have N3 := Fr.app N0 N3q
      refine Go.st st3 ?_
      show Go p.tables e below _ (T3.setTop (mkF m 48 #[.val (.ref ao), .val (.int pi), .val (.int pat), .val (.int pw), .val (.long qn), .second, .val (.int pf), .val (.int (((pat + pw) - (1 : Int32)) - pi))] [(.long (p10F (((pat + pw) - (1 : Int32)) - pi))), (.long qn), (.long (48 : Int64)), (.int (bl.getD pi.toNatClampNeg 0))]))
      refine Go.st (fun _ k => XS.ldiv X3.here hx rfl (hb hby d_ok_48) rfl (own_p10 _) k) ?_
      show Go p.tables e below _ (T3.setTop (mkF m 49 #[.val (.ref ao), .val (.int pi), .val (.int pat), .val (.int pw), .val (.long qn), .second, .val (.int pf), .val (.int (((pat + pw) - (1 : Int32)) - pi))] [(.long (qn / (p10F (((pat + pw) - (1 : Int32)) - pi)))), (.long (48 : Int64)), (.int (bl.getD pi.toNatClampNeg 0))]))
      refine Go.st (fun _ k => X3.ldc2Long hx hown (mvT hZ (hw _ (List.mem_of_getElem? (i := 18) rfl))) (g := (mkF m 49 #[.val (.ref ao), .val (.int pi), .val (.int pat), .val (.int pw), .val (.long qn), .second, .val (.int pf), .val (.int (((pat + pw) - (1 : Int32)) - pi))] [(.long (qn / (p10F (((pat + pw) - (1 : Int32)) - pi)))), (.long (48 : Int64)), (.int (bl.getD pi.toNatClampNeg 0))])) rfl (hb hby d_ok_49) _ k) ?_
      show Go p.tables e below _ (T3.setTop (mkF m 52 #[.val (.ref ao), .val (.int pi), .val (.int pat), .val (.int pw), .val (.long qn), .second, .val (.int pf), .val (.int (((pat + pw) - (1 : Int32)) - pi))] [(.long (10 : Int64)), (.long (qn / (p10F (((pat + pw) - (1 : Int32)) - pi)))), (.long (48 : Int64)), (.int (bl.getD pi.toNatClampNeg 0))]))
      refine Go.st (fun _ k => XS.lrem X3.here hx rfl (hb hby d_ok_52) rfl (by decide) (own_lrem k)) ?_
      show Go p.tables e below _ (T3.setTop (mkF m 53 #[.val (.ref ao), .val (.int pi), .val (.int pat), .val (.int pw), .val (.long qn), .second, .val (.int pf), .val (.int (((pat + pw) - (1 : Int32)) - pi))] [(.long ((qn / (p10F (((pat + pw) - (1 : Int32)) - pi))) % (10 : Int64))), (.long (48 : Int64)), (.int (bl.getD pi.toNatClampNeg 0))]))
      refine Go.st (fun _ k => XS.ladd X3.here hx rfl (hb hby d_ok_53) rfl k) ?_
      show Go p.tables e below _ (T3.setTop (mkF m 54 #[.val (.ref ao), .val (.int pi), .val (.int pat), .val (.int pw), .val (.long qn), .second, .val (.int pf), .val (.int (((pat + pw) - (1 : Int32)) - pi))] [(.long ((48 : Int64) + ((qn / (p10F (((pat + pw) - (1 : Int32)) - pi))) % (10 : Int64)))), (.int (bl.getD pi.toNatClampNeg 0))]))
      refine Go.st (fun _ k => XS.l2i X3.here hx rfl (hb hby d_ok_54) rfl k) ?_
      show Go p.tables e below _ (T3.setTop (mkF m 55 #[.val (.ref ao), .val (.int pi), .val (.int pat), .val (.int pw), .val (.long qn), .second, .val (.int pf), .val (.int (((pat + pw) - (1 : Int32)) - pi))] [(.int (((48 : Int64) + ((qn / (p10F (((pat + pw) - (1 : Int32)) - pi))) % (10 : Int64))).toInt32)), (.int (bl.getD pi.toNatClampNeg 0))]))
      refine Go.st (fun _ k => XS.i2b X3.here hx rfl (hb hby d_ok_55) rfl k) ?_
      show Go p.tables e below _ (T3.setTop (mkF m 56 #[.val (.ref ao), .val (.int pi), .val (.int pat), .val (.int pw), .val (.long qn), .second, .val (.int pf), .val (.int (((pat + pw) - (1 : Int32)) - pi))] [(.int ((((48 : Int64) + ((qn / (p10F (((pat + pw) - (1 : Int32)) - pi))) % (10 : Int64))).toInt32).toInt8.toInt32)), (.int (bl.getD pi.toNatClampNeg 0))]))
      by_cases hc56 : (bl.getD pi.toNatClampNeg 0) = ((((48 : Int64) + ((qn / (p10F (((pat + pw) - (1 : Int32)) - pi))) % (10 : Int64))).toInt32).toInt8.toInt32)
      · skip
        refine Go.st (fun _ k => XS.icmpNo X3.here hx rfl (hb hby d_ok_56) rfl (Jvm.Free.XT.ii_ne_f hc56) k) ?_
        show Go p.tables e below _ (T3.setTop (mkF m 59 #[.val (.ref ao), .val (.int pi), .val (.int pat), .val (.int pw), .val (.long qn), .second, .val (.int pf), .val (.int (((pat + pw) - (1 : Int32)) - pi))] []))
        refine Go.st (fun _ k => XS.iconst X3.here hx rfl (hb hby d_ok_59) k) ?_
        show Go p.tables e below _ (T3.setTop (mkF m 60 #[.val (.ref ao), .val (.int pi), .val (.int pat), .val (.int pw), .val (.long qn), .second, .val (.int pf), .val (.int (((pat + pw) - (1 : Int32)) - pi))] [(.int (1 : Int32))]))
        refine Go.st (fun _ k => XS.goto X3.here hx rfl (pc0 := 60) (pc' := 64) rfl (hb hby d_ok_60) (by decide) (by decide) k) ?_
        show Go p.tables e below _ (T3.setTop (mkF m 64 #[.val (.ref ao), .val (.int pi), .val (.int pat), .val (.int pw), .val (.long qn), .second, .val (.int pf), .val (.int (((pat + pw) - (1 : Int32)) - pi))] [(.int (1 : Int32))]))
        subst hG
        obtain ⟨fs, hr, hrun, hended, hW, hsame⟩ := X3.leave (v := some (.int (nar .boolean (1 : Int32)))) (fun h => by rw [Bd.returns] at h; cases h)
        refine ⟨_, _, ?_, hrun, hended, _, _, rfl, ?_, ⟨_, rfl⟩, hW, hsame.mono (by decide) (by decide)⟩
        · exact retN X3 hx (t := .boolean) Bd.returns (by simp) (hb hby d_ok_64) hr
        · show Q_ok Z ao pi pat pw qn pf kk bl h0 n0 _ T3.heap _
          rw [e3]
          exact ⟨(by show some (Value.int (1 : Int32)) = some (Value.int (okF pi pat pw qn pf (bl.getD pi.toNatClampNeg 0))); unfold okF; rw [if_neg hc2, if_pos hc9, if_pos (show bl.getD pi.toNatClampNeg 0 = dg (qn / p10F (((pat + pw) - 1) - pi)) from hc56)]), N3, rfl⟩
      · skip
        refine Go.st (fun _ k => XS.icmpYes X3.here hx rfl (pc0 := 56) (pc' := 63) rfl (hb hby d_ok_56) rfl (Jvm.Free.XT.ii_ne_t hc56) (by decide) (by decide) k) ?_
        show Go p.tables e below _ (T3.setTop (mkF m 63 #[.val (.ref ao), .val (.int pi), .val (.int pat), .val (.int pw), .val (.long qn), .second, .val (.int pf), .val (.int (((pat + pw) - (1 : Int32)) - pi))] []))
        refine Go.st (fun _ k => XS.iconst X3.here hx rfl (hb hby d_ok_63) k) ?_
        show Go p.tables e below _ (T3.setTop (mkF m 64 #[.val (.ref ao), .val (.int pi), .val (.int pat), .val (.int pw), .val (.long qn), .second, .val (.int pf), .val (.int (((pat + pw) - (1 : Int32)) - pi))] [(.int (0 : Int32))]))
        subst hG
        obtain ⟨fs, hr, hrun, hended, hW, hsame⟩ := X3.leave (v := some (.int (nar .boolean (0 : Int32)))) (fun h => by rw [Bd.returns] at h; cases h)
        refine ⟨_, _, ?_, hrun, hended, _, _, rfl, ?_, ⟨_, rfl⟩, hW, hsame.mono (by decide) (by decide)⟩
        · exact retN X3 hx (t := .boolean) Bd.returns (by simp) (hb hby d_ok_64) hr
        · show Q_ok Z ao pi pat pw qn pf kk bl h0 n0 _ T3.heap _
          rw [e3]
          exact ⟨(by show some (Value.int (0 : Int32)) = some (Value.int (okF pi pat pw qn pf (bl.getD pi.toNatClampNeg 0))); unfold okF; rw [if_neg hc2, if_pos hc9, if_neg (show ¬ (bl.getD pi.toNatClampNeg 0 = dg (qn / p10F (((pat + pw) - 1) - pi))) from hc56)]), N3, rfl⟩
    · skip
      refine Go.st (fun _ k => XS.icmpNo X0.here hx rfl (hb hby d_ok_9) rfl (Jvm.Free.XT.ii_lt_f hc9) k) ?_
      show Go p.tables e below _ (s₁.setTop (mkF m 12 #[.val (.ref ao), .val (.int pi), .val (.int pat), .val (.int pw), .val (.long qn), .second, .val (.int pf), .unset] []))
      refine Go.st (fun _ k => XS.aloadN X0.here hx rfl (hb hby d_ok_12) rfl rfl k) ?_
      show Go p.tables e below _ (s₁.setTop (mkF m 13 #[.val (.ref ao), .val (.int pi), .val (.int pat), .val (.int pw), .val (.long qn), .second, .val (.int pf), .unset] [(.ref ao)]))
      refine Go.st (fun _ k => XS.iloadN X0.here hx rfl (hb hby d_ok_13) rfl k) ?_
      show Go p.tables e below _ (s₁.setTop (mkF m 14 #[.val (.ref ao), .val (.int pi), .val (.int pat), .val (.int pw), .val (.long qn), .second, .val (.int pf), .unset] [(.int pi), (.ref ao)]))
      obtain ⟨cl4, Ar4, q4, S4, M4, H4, G4⟩ := id P0
      have hin4 : ¬ (pi < 0 ∨ cl4.slots.size ≤ (pi).toNatClampNeg) := inb_of S4 ⟨own_nlt32 (by omega), own_lt32 (by omega)⟩
      have hat4 : cl4.slots[(pi).toNatClampNeg]? = some (.int (bl.getD pi.toNatClampNeg 0)) := Has.at H4 hin4 (own_bget _ _)
      refine Go.st (fun _ k => X0.baloadBytes hx (j := pi) (v := (.int (bl.getD pi.toNatClampNeg 0))) (by rw [e0]; exact Ar4.1) (State.isArrayOf_alike hZ.alike Ar4.2.1) Ar4.2.2 hin4 hat4 (g := (mkF m 14 #[.val (.ref ao), .val (.int pi), .val (.int pat), .val (.int pw), .val (.long qn), .second, .val (.int pf), .unset] [(.int pi), (.ref ao)])) rfl rfl (hb hby d_ok_14) _ k) ?_
      show Go p.tables e below _ (s₁.setTop (mkF m 15 #[.val (.ref ao), .val (.int pi), .val (.int pat), .val (.int pw), .val (.long qn), .second, .val (.int pf), .unset] [(.int (bl.getD pi.toNatClampNeg 0))]))
      refine Go.st (fun _ k => XS.iload X0.here hx rfl (hb hby d_ok_15) rfl k) ?_
      show Go p.tables e below _ (s₁.setTop (mkF m 17 #[.val (.ref ao), .val (.int pi), .val (.int pat), .val (.int pw), .val (.long qn), .second, .val (.int pf), .unset] [(.int pf), (.int (bl.getD pi.toNatClampNeg 0))]))
      by_cases hc17 : (bl.getD pi.toNatClampNeg 0) = pf
      · skip
        refine Go.st (fun _ k => XS.icmpNo X0.here hx rfl (hb hby d_ok_17) rfl (Jvm.Free.XT.ii_ne_f hc17) k) ?_
        show Go p.tables e below _ (s₁.setTop (mkF m 20 #[.val (.ref ao), .val (.int pi), .val (.int pat), .val (.int pw), .val (.long qn), .second, .val (.int pf), .unset] []))
        refine Go.st (fun _ k => XS.iconst X0.here hx rfl (hb hby d_ok_20) k) ?_
        show Go p.tables e below _ (s₁.setTop (mkF m 21 #[.val (.ref ao), .val (.int pi), .val (.int pat), .val (.int pw), .val (.long qn), .second, .val (.int pf), .unset] [(.int (1 : Int32))]))
        refine Go.st (fun _ k => XS.goto X0.here hx rfl (pc0 := 21) (pc' := 25) rfl (hb hby d_ok_21) (by decide) (by decide) k) ?_
        show Go p.tables e below _ (s₁.setTop (mkF m 25 #[.val (.ref ao), .val (.int pi), .val (.int pat), .val (.int pw), .val (.long qn), .second, .val (.int pf), .unset] [(.int (1 : Int32))]))
        subst hG
        obtain ⟨fs, hr, hrun, hended, hW, hsame⟩ := X0.leave (v := some (.int (nar .boolean (1 : Int32)))) (fun h => by rw [Bd.returns] at h; cases h)
        refine ⟨_, _, ?_, hrun, hended, _, _, rfl, ?_, ⟨_, rfl⟩, hW, hsame.mono (by decide) (by decide)⟩
        · exact retN X0 hx (t := .boolean) Bd.returns (by simp) (hb hby d_ok_25) hr
        · show Q_ok Z ao pi pat pw qn pf kk bl h0 n0 _ s₁.heap _
          rw [e0]
          exact ⟨(by show some (Value.int (1 : Int32)) = some (Value.int (okF pi pat pw qn pf (bl.getD pi.toNatClampNeg 0))); unfold okF; rw [if_neg hc2, if_neg hc9, if_pos hc17]), N0, rfl⟩
      · skip
        refine Go.st (fun _ k => XS.icmpYes X0.here hx rfl (pc0 := 17) (pc' := 24) rfl (hb hby d_ok_17) rfl (Jvm.Free.XT.ii_ne_t hc17) (by decide) (by decide) k) ?_
        show Go p.tables e below _ (s₁.setTop (mkF m 24 #[.val (.ref ao), .val (.int pi), .val (.int pat), .val (.int pw), .val (.long qn), .second, .val (.int pf), .unset] []))
        refine Go.st (fun _ k => XS.iconst X0.here hx rfl (hb hby d_ok_24) k) ?_
        show Go p.tables e below _ (s₁.setTop (mkF m 25 #[.val (.ref ao), .val (.int pi), .val (.int pat), .val (.int pw), .val (.long qn), .second, .val (.int pf), .unset] [(.int (0 : Int32))]))
        subst hG
        obtain ⟨fs, hr, hrun, hended, hW, hsame⟩ := X0.leave (v := some (.int (nar .boolean (0 : Int32)))) (fun h => by rw [Bd.returns] at h; cases h)
        refine ⟨_, _, ?_, hrun, hended, _, _, rfl, ?_, ⟨_, rfl⟩, hW, hsame.mono (by decide) (by decide)⟩
        · exact retN X0 hx (t := .boolean) Bd.returns (by simp) (hb hby d_ok_25) hr
        · show Q_ok Z ao pi pat pw qn pf kk bl h0 n0 _ s₁.heap _
          rw [e0]
          exact ⟨(by show some (Value.int (0 : Int32)) = some (Value.int (okF pi pat pw qn pf (bl.getD pi.toNatClampNeg 0))); unfold okF; rw [if_neg hc2, if_neg hc9, if_neg hc17]), N0, rfl⟩
theorem own_n {x v : Int64} (h : x &&& (9223372036854775807 : Int64) = v) : 0 ≤ v.toInt := by
  have := Jvm.Kit.i64_mask x (9223372036854775807 : Int64) (k := 63) (by decide) (by decide)
  rw [← h]
  omega
theorem own_all {v : Int32} : ∀ j, j < 8 → [v, v, v, v, v, v, v, v].getD j 0 = v
  | 0, _ => rfl
  | 1, _ => rfl
  | 2, _ => rfl
  | 3, _ => rfl
  | 4, _ => rfl
  | 5, _ => rfl
  | 6, _ => rfl
  | 7, _ => rfl
  | _ + 8, h => absurd h (by omega)
theorem pd_1 : parseMethodDescriptor "([BIIJ)V" = some ⟨[(.array .byte), .int, .int, .long], none⟩ := by decide +kernel
theorem pd_2 : parseMethodDescriptor "([BIIIJB)Z" = some ⟨[(.array .byte), .int, .int, .int, .long, .byte], some .boolean⟩ := by decide +kernel
theorem ef_law (m : MethodId) (pa : Int32) (pw : Int32) (qn : Int64) (pf : Int32) : entryFrame m #[(.int pa), (.int pw), (.long qn), (.int pf)] maxLocals = mkF m 0 #[.val (.int pa), .val (.int pw), .val (.long qn), .second, .val (.int pf), .unset, .unset, .unset, .unset, .unset, .unset] [] := by first | (simp [entryFrame, mkF, argsToLocals, Value.category, maxLocals]; done) | rfl
def Q_law (Z : State) (pa : Int32) (pw : Int32) (qn : Int64) (pf : Int32) (h0 : Heap) (n0 : Nat) (v : Option Value) (h : Heap) (L : List Loc) : Prop := v = some (.int (1 : Int32)) ∧ Fr n0 L ∧ Keep h0 h []
set_option maxRecDepth 65536 in
set_option maxHeartbeats 40000000 in
theorem rm_law (l : Launch) (Z : State) (a0 : Array Value) (hw : ∀ d ∈ tables_1, d.before a0 Z = true) (ws : List Jvm.Cond) (pa : Int32) (pw : Int32) (qn : Int64) (pf : Int32) (h0 : Heap) (n0 : Nat) (Z0 : n0 ≤ h0.size)  :
    MetFree l x (head1 (Jvm.Cond.code x code maxLocals ret :: ws) room_1) (fun a U => a = #[(.int pa), (.int pw), (.long qn), (.int pf)] ∧ Z.Warmed39 U.vm ∧ U.heap = h0) (fun _ _ _ _ _ => True) (fun _ U o U' => ∃ v L, o = .returned v ∧ Q_law Z pa pw qn pf h0 n0 v U'.heap L ∧ FrameEnd U o U' L room_1.cells room_1.slots) := by
  refine MetFree.of_bodySF (plainFor_of_name pn_1) hisR ?_
  intro p e s m args below meth c s₁ Bd hml0 hP hK
  obtain ⟨rfl, hZ, hh⟩ := hP
  have hx := Bd.exec
  have hby := Bd.bytes
  have hml : c.maxLocals = 11 := hml0
  have hown : s.vm.findClass "com/example/gapmend/gapmend/MessagePutDigitsPinLaw" = some m.cls := findClass_of_methodNamed Bd.named
  have hnm := (name_of_methodNamed Bd.named Bd.method).1
  have X0 : Stand p l e room_1 s m #[(.int pa), (.int pw), (.long qn), (.int pf)] below meth c s₁ [] 0 0 := Stand.of_body Bd
  have e0 : s₁.heap = h0 := by rw [← hh, Bd.state]; rfl
  have N0 := Fr.nil n0
  have K0 : Keep h0 h0 [] := Keep.refl h0 []
  show Go p.tables e below _ (s₁.setTop (entryFrame m #[(.int pa), (.int pw), (.long qn), (.int pf)] maxLocals))
  refine Go.start ?_
  intro G hG
  refine Go.st (fun t k => castTop (ef_law m pa pw qn pf) k) ?_
  show Go p.tables e below _ (s₁.setTop (mkF m 0 #[.val (.int pa), .val (.int pw), .val (.long qn), .second, .val (.int pf), .unset, .unset, .unset, .unset, .unset, .unset] []))
  refine Go.st (fun _ k => XS.lloadN X0.here hx rfl (hb hby at_0) rfl k) ?_
  show Go p.tables e below _ (s₁.setTop (mkF m 1 #[.val (.int pa), .val (.int pw), .val (.long qn), .second, .val (.int pf), .unset, .unset, .unset, .unset, .unset, .unset] [(.long qn)]))
  refine Go.st (fun _ k => X0.ldc2Long hx hown (mvT hZ (hw _ (List.mem_of_getElem? (i := 0) rfl))) (g := (mkF m 1 #[.val (.int pa), .val (.int pw), .val (.long qn), .second, .val (.int pf), .unset, .unset, .unset, .unset, .unset, .unset] [(.long qn)])) rfl (hb hby at_1) _ k) ?_
  show Go p.tables e below _ (s₁.setTop (mkF m 4 #[.val (.int pa), .val (.int pw), .val (.long qn), .second, .val (.int pf), .unset, .unset, .unset, .unset, .unset, .unset] [(.long (9223372036854775807 : Int64)), (.long qn)]))
  refine Go.st (fun _ k => XS.land X0.here hx rfl (hb hby at_4) rfl k) ?_
  show Go p.tables e below _ (s₁.setTop (mkF m 5 #[.val (.int pa), .val (.int pw), .val (.long qn), .second, .val (.int pf), .unset, .unset, .unset, .unset, .unset, .unset] [(.long (qn &&& (9223372036854775807 : Int64)))]))
  refine Go.st (fun _ k => XS.lstore X0.here hx rfl (hb hby at_5) rfl (l' := #[.val (.int pa), .val (.int pw), .val (.long qn), .second, .val (.int pf), .val (.long (qn &&& (9223372036854775807 : Int64))), .second, .unset, .unset, .unset, .unset]) rfl k) ?_
  show Go p.tables e below _ (s₁.setTop (mkF m 7 #[.val (.int pa), .val (.int pw), .val (.long qn), .second, .val (.int pf), .val (.long (qn &&& (9223372036854775807 : Int64))), .second, .unset, .unset, .unset, .unset] []))
  generalize hqv5 : (qn &&& (9223372036854775807 : Int64)) = v5
  show Go p.tables e below _ (s₁.setTop (mkF m 7 #[.val (.int pa), .val (.int pw), .val (.long qn), .second, .val (.int pf), .val (.long v5), .second, .unset, .unset, .unset, .unset] []))
  refine Go.st (fun _ k => XS.iloadN X0.here hx rfl (hb hby at_7) rfl k) ?_
  show Go p.tables e below _ (s₁.setTop (mkF m 8 #[.val (.int pa), .val (.int pw), .val (.long qn), .second, .val (.int pf), .val (.long v5), .second, .unset, .unset, .unset, .unset] [(.int pa)]))
  refine Go.st (fun _ k => X0.ldcInt hx hown (mvT hZ (hw _ (List.mem_of_getElem? (i := 1) rfl))) (g := (mkF m 8 #[.val (.int pa), .val (.int pw), .val (.long qn), .second, .val (.int pf), .val (.long v5), .second, .unset, .unset, .unset, .unset] [(.int pa)])) rfl (hb hby at_8) _ k) ?_
  show Go p.tables e below _ (s₁.setTop (mkF m 10 #[.val (.int pa), .val (.int pw), .val (.long qn), .second, .val (.int pf), .val (.long v5), .second, .unset, .unset, .unset, .unset] [(.int (2147483647 : Int32)), (.int pa)]))
  refine Go.st (fun _ k => XS.iand X0.here hx rfl (hb hby at_10) rfl k) ?_
  show Go p.tables e below _ (s₁.setTop (mkF m 11 #[.val (.int pa), .val (.int pw), .val (.long qn), .second, .val (.int pf), .val (.long v5), .second, .unset, .unset, .unset, .unset] [(.int (pa &&& (2147483647 : Int32)))]))
  refine Go.st (fun _ k => XS.bipush X0.here hx rfl (hb hby at_11) k) ?_
  show Go p.tables e below _ (s₁.setTop (mkF m 13 #[.val (.int pa), .val (.int pw), .val (.long qn), .second, .val (.int pf), .val (.long v5), .second, .unset, .unset, .unset, .unset] [(.int (9 : Int32)), (.int (pa &&& (2147483647 : Int32)))]))
  refine Go.st (fun _ k => iremM X0 hx rfl (hb hby at_13) rfl (by decide) k) ?_
  show Go p.tables e below _ (s₁.setTop (mkF m 14 #[.val (.int pa), .val (.int pw), .val (.long qn), .second, .val (.int pf), .val (.long v5), .second, .unset, .unset, .unset, .unset] [(.int ((pa &&& (2147483647 : Int32)) % (9 : Int32)))]))
  refine Go.st (fun _ k => XS.istore X0.here hx rfl (hb hby at_14) rfl (l' := #[.val (.int pa), .val (.int pw), .val (.long qn), .second, .val (.int pf), .val (.long v5), .second, .val (.int ((pa &&& (2147483647 : Int32)) % (9 : Int32))), .unset, .unset, .unset]) rfl k) ?_
  show Go p.tables e below _ (s₁.setTop (mkF m 16 #[.val (.int pa), .val (.int pw), .val (.long qn), .second, .val (.int pf), .val (.long v5), .second, .val (.int ((pa &&& (2147483647 : Int32)) % (9 : Int32))), .unset, .unset, .unset] []))
  generalize hqv14 : ((pa &&& (2147483647 : Int32)) % (9 : Int32)) = v14
  show Go p.tables e below _ (s₁.setTop (mkF m 16 #[.val (.int pa), .val (.int pw), .val (.long qn), .second, .val (.int pf), .val (.long v5), .second, .val (.int v14), .unset, .unset, .unset] []))
  refine Go.st (fun _ k => XS.iloadN X0.here hx rfl (hb hby at_16) rfl k) ?_
  show Go p.tables e below _ (s₁.setTop (mkF m 17 #[.val (.int pa), .val (.int pw), .val (.long qn), .second, .val (.int pf), .val (.long v5), .second, .val (.int v14), .unset, .unset, .unset] [(.int pw)]))
  refine Go.st (fun _ k => X0.ldcInt hx hown (mvT hZ (hw _ (List.mem_of_getElem? (i := 1) rfl))) (g := (mkF m 17 #[.val (.int pa), .val (.int pw), .val (.long qn), .second, .val (.int pf), .val (.long v5), .second, .val (.int v14), .unset, .unset, .unset] [(.int pw)])) rfl (hb hby at_17) _ k) ?_
  show Go p.tables e below _ (s₁.setTop (mkF m 19 #[.val (.int pa), .val (.int pw), .val (.long qn), .second, .val (.int pf), .val (.long v5), .second, .val (.int v14), .unset, .unset, .unset] [(.int (2147483647 : Int32)), (.int pw)]))
  refine Go.st (fun _ k => XS.iand X0.here hx rfl (hb hby at_19) rfl k) ?_
  show Go p.tables e below _ (s₁.setTop (mkF m 20 #[.val (.int pa), .val (.int pw), .val (.long qn), .second, .val (.int pf), .val (.long v5), .second, .val (.int v14), .unset, .unset, .unset] [(.int (pw &&& (2147483647 : Int32)))]))
  refine Go.st (fun _ k => XS.bipush X0.here hx rfl (hb hby at_20) k) ?_
  show Go p.tables e below _ (s₁.setTop (mkF m 22 #[.val (.int pa), .val (.int pw), .val (.long qn), .second, .val (.int pf), .val (.long v5), .second, .val (.int v14), .unset, .unset, .unset] [(.int (9 : Int32)), (.int (pw &&& (2147483647 : Int32)))]))
  refine Go.st (fun _ k => XS.iload X0.here hx rfl (hb hby at_22) rfl k) ?_
  show Go p.tables e below _ (s₁.setTop (mkF m 24 #[.val (.int pa), .val (.int pw), .val (.long qn), .second, .val (.int pf), .val (.long v5), .second, .val (.int v14), .unset, .unset, .unset] [(.int v14), (.int (9 : Int32)), (.int (pw &&& (2147483647 : Int32)))]))
  refine Go.st (fun _ k => XS.isub X0.here hx rfl (hb hby at_24) rfl k) ?_
  show Go p.tables e below _ (s₁.setTop (mkF m 25 #[.val (.int pa), .val (.int pw), .val (.long qn), .second, .val (.int pf), .val (.long v5), .second, .val (.int v14), .unset, .unset, .unset] [(.int ((9 : Int32) - v14)), (.int (pw &&& (2147483647 : Int32)))]))
  refine Go.st (fun _ k => iremM X0 hx rfl (hb hby at_25) rfl (own_nz (own_at hqv14)) k) ?_
  show Go p.tables e below _ (s₁.setTop (mkF m 26 #[.val (.int pa), .val (.int pw), .val (.long qn), .second, .val (.int pf), .val (.long v5), .second, .val (.int v14), .unset, .unset, .unset] [(.int ((pw &&& (2147483647 : Int32)) % ((9 : Int32) - v14)))]))
  refine Go.st (fun _ k => XS.istore X0.here hx rfl (hb hby at_26) rfl (l' := #[.val (.int pa), .val (.int pw), .val (.long qn), .second, .val (.int pf), .val (.long v5), .second, .val (.int v14), .val (.int ((pw &&& (2147483647 : Int32)) % ((9 : Int32) - v14))), .unset, .unset]) rfl k) ?_
  show Go p.tables e below _ (s₁.setTop (mkF m 28 #[.val (.int pa), .val (.int pw), .val (.long qn), .second, .val (.int pf), .val (.long v5), .second, .val (.int v14), .val (.int ((pw &&& (2147483647 : Int32)) % ((9 : Int32) - v14))), .unset, .unset] []))
  generalize hqv26 : ((pw &&& (2147483647 : Int32)) % ((9 : Int32) - v14)) = v26
  show Go p.tables e below _ (s₁.setTop (mkF m 28 #[.val (.int pa), .val (.int pw), .val (.long qn), .second, .val (.int pf), .val (.long v5), .second, .val (.int v14), .val (.int v26), .unset, .unset] []))
  refine Go.st (fun _ k => XS.iload X0.here hx rfl (hb hby at_28) rfl k) ?_
  show Go p.tables e below _ (s₁.setTop (mkF m 30 #[.val (.int pa), .val (.int pw), .val (.long qn), .second, .val (.int pf), .val (.long v5), .second, .val (.int v14), .val (.int v26), .unset, .unset] [(.int pf)]))
  refine Go.st (fun _ k => XS.i2b X0.here hx rfl (hb hby at_30) rfl k) ?_
  show Go p.tables e below _ (s₁.setTop (mkF m 31 #[.val (.int pa), .val (.int pw), .val (.long qn), .second, .val (.int pf), .val (.long v5), .second, .val (.int v14), .val (.int v26), .unset, .unset] [(.int (pf.toInt8.toInt32))]))
  refine Go.st (fun _ k => XS.istore X0.here hx rfl (hb hby at_31) rfl (l' := #[.val (.int pa), .val (.int pw), .val (.long qn), .second, .val (.int pf), .val (.long v5), .second, .val (.int v14), .val (.int v26), .val (.int (pf.toInt8.toInt32)), .unset]) rfl k) ?_
  show Go p.tables e below _ (s₁.setTop (mkF m 33 #[.val (.int pa), .val (.int pw), .val (.long qn), .second, .val (.int pf), .val (.long v5), .second, .val (.int v14), .val (.int v26), .val (.int (pf.toInt8.toInt32)), .unset] []))
  generalize hqv31 : (pf.toInt8.toInt32) = v31
  show Go p.tables e below _ (s₁.setTop (mkF m 33 #[.val (.int pa), .val (.int pw), .val (.long qn), .second, .val (.int pf), .val (.long v5), .second, .val (.int v14), .val (.int v26), .val (.int v31), .unset] []))
  refine Go.st (fun _ k => XS.bipush X0.here hx rfl (hb hby at_33) k) ?_
  show Go p.tables e below _ (s₁.setTop (mkF m 35 #[.val (.int pa), .val (.int pw), .val (.long qn), .second, .val (.int pf), .val (.long v5), .second, .val (.int v14), .val (.int v26), .val (.int v31), .unset] [(.int (8 : Int32))]))
  obtain ⟨T1, h1, k1, X1, e1, E1, A1, C1, st1⟩ := newPE X0 hx hZ (hw _ (List.mem_of_getElem? (i := 2) rfl)) e0 (g := (mkF m 35 #[.val (.int pa), .val (.int pw), .val (.long qn), .second, .val (.int pf), .val (.long v5), .second, .val (.int v14), .val (.int v26), .val (.int v31), .unset] [(.int (8 : Int32))])) rfl (hb hby at_35) rfl (by decide) (cap := 8) (by decide) (by decide) (by decide) (by decide) (ad := "[B") (by decide)
  obtain ⟨b1, g1⟩ : ∃ z, z = h0.size := ⟨_, rfl⟩
  rw [← g1] at A1 C1 st1
  refine Go.st st1 ?_
  have ge2 : n0 ≤ b1 := Nat.le_trans Z0 (Nat.le_of_eq g1.symm)
  have sz3 : h0.size ≤ b1 := Nat.le_trans K0.1 (Nat.le_of_eq g1.symm)
  have Z4 : n0 ≤ h1.size := Nat.le_trans Z0 E1.1
  have K5 : Keep h0 h1 [] := K0.ext E1
  have F6 : Arv Z h1 b1 k1 .byte (8 : Int32) [(.int (0 : Int32)), (.int (0 : Int32)), (.int (0 : Int32)), (.int (0 : Int32)), (.int (0 : Int32)), (.int (0 : Int32)), (.int (0 : Int32)), (.int (0 : Int32))] (.int (0 : Int32)) := (Arv.new A1 (by decide)).pad (pad_rep [] (.int (0 : Int32)) 8)
  show Go p.tables e below _ (T1.setTop (mkF m 37 #[.val (.int pa), .val (.int pw), .val (.long qn), .second, .val (.int pf), .val (.long v5), .second, .val (.int v14), .val (.int v26), .val (.int v31), .unset] [(.ref b1)]))
  refine Go.st (fun _ k => XS.dup X1.here hx rfl (hb hby at_37) rfl rfl k) ?_
  show Go p.tables e below _ (T1.setTop (mkF m 38 #[.val (.int pa), .val (.int pw), .val (.long qn), .second, .val (.int pf), .val (.long v5), .second, .val (.int v14), .val (.int v26), .val (.int v31), .unset] [(.ref b1), (.ref b1)]))
  refine Go.st (fun _ k => XS.iconst X1.here hx rfl (hb hby at_38) k) ?_
  show Go p.tables e below _ (T1.setTop (mkF m 39 #[.val (.int pa), .val (.int pw), .val (.long qn), .second, .val (.int pf), .val (.long v5), .second, .val (.int v14), .val (.int v26), .val (.int v31), .unset] [(.int (0 : Int32)), (.ref b1), (.ref b1)]))
  refine Go.st (fun _ k => XS.iload X1.here hx rfl (hb hby at_39) rfl k) ?_
  show Go p.tables e below _ (T1.setTop (mkF m 41 #[.val (.int pa), .val (.int pw), .val (.long qn), .second, .val (.int pf), .val (.long v5), .second, .val (.int v14), .val (.int v26), .val (.int v31), .unset] [(.int v31), (.int (0 : Int32)), (.ref b1), (.ref b1)]))
  obtain ⟨cl7, Ar7, q7, S7, M7, H7, G7⟩ := id F6
  have hin7 : ¬ ((0 : Int32) < 0 ∨ cl7.slots.size ≤ ((0 : Int32)).toNatClampNeg) := inb_of S7 ⟨by decide, by decide⟩
  obtain ⟨T7, h7, X7, e7, W7, st7⟩ := stB X1 hx hZ e1 Ar7 (j := (0 : Int32)) hin7 (g := (mkF m 41 #[.val (.int pa), .val (.int pw), .val (.long qn), .second, .val (.int pf), .val (.long v5), .second, .val (.int v14), .val (.int v26), .val (.int v31), .unset] [(.int v31), (.int (0 : Int32)), (.ref b1), (.ref b1)])) rfl rfl (hb hby at_41)
  rw [(show nar .byte v31 = v31 from (by rw [← hqv31]; exact own_narb _))] at W7
  refine Go.st st7 ?_
  have F8 : Arv Z h7 b1 k1 .byte (8 : Int32) [(.int v31), (.int (0 : Int32)), (.int (0 : Int32)), (.int (0 : Int32)), (.int (0 : Int32)), (.int (0 : Int32)), (.int (0 : Int32)), (.int (0 : Int32))] (.int (0 : Int32)) := Arv.set Ar7 q7 S7 M7 H7 G7 (by have h_ : fits .byte (.int (nar .byte v31)) = true := fits_nar_byte v31; rw [(show nar .byte v31 = v31 from (by rw [← hqv31]; exact own_narb _))] at h_; exact h_) W7 0 rfl (Nat.le_of_ble_eq_true rfl)
  have F9 : Exa Z h7 b1 "[B" := C1.wr W7
  have K10 : Keep h0 h7 [] := K5.wr W7 (Or.inr sz3)
  have Z11 : n0 ≤ h7.size := Nat.le_trans Z4 (Nat.le_of_eq W7.size.symm)
  have N12 := Fr.snoc X7 N0 ge2
  show Go p.tables e below _ (T7.setTop (mkF m 42 #[.val (.int pa), .val (.int pw), .val (.long qn), .second, .val (.int pf), .val (.long v5), .second, .val (.int v14), .val (.int v26), .val (.int v31), .unset] [(.ref b1)]))
  refine Go.st (fun _ k => XS.dup X7.here hx rfl (hb hby at_42) rfl rfl k) ?_
  show Go p.tables e below _ (T7.setTop (mkF m 43 #[.val (.int pa), .val (.int pw), .val (.long qn), .second, .val (.int pf), .val (.long v5), .second, .val (.int v14), .val (.int v26), .val (.int v31), .unset] [(.ref b1), (.ref b1)]))
  refine Go.st (fun _ k => XS.iconst X7.here hx rfl (hb hby at_43) k) ?_
  show Go p.tables e below _ (T7.setTop (mkF m 44 #[.val (.int pa), .val (.int pw), .val (.long qn), .second, .val (.int pf), .val (.long v5), .second, .val (.int v14), .val (.int v26), .val (.int v31), .unset] [(.int (1 : Int32)), (.ref b1), (.ref b1)]))
  refine Go.st (fun _ k => XS.iload X7.here hx rfl (hb hby at_44) rfl k) ?_
  show Go p.tables e below _ (T7.setTop (mkF m 46 #[.val (.int pa), .val (.int pw), .val (.long qn), .second, .val (.int pf), .val (.long v5), .second, .val (.int v14), .val (.int v26), .val (.int v31), .unset] [(.int v31), (.int (1 : Int32)), (.ref b1), (.ref b1)]))
  obtain ⟨cl13, Ar13, q13, S13, M13, H13, G13⟩ := id F8
  have hin13 : ¬ ((1 : Int32) < 0 ∨ cl13.slots.size ≤ ((1 : Int32)).toNatClampNeg) := inb_of S13 ⟨by decide, by decide⟩
  obtain ⟨T13, h13, X13, e13, W13, st13⟩ := stB X7 hx hZ e7 Ar13 (j := (1 : Int32)) hin13 (g := (mkF m 46 #[.val (.int pa), .val (.int pw), .val (.long qn), .second, .val (.int pf), .val (.long v5), .second, .val (.int v14), .val (.int v26), .val (.int v31), .unset] [(.int v31), (.int (1 : Int32)), (.ref b1), (.ref b1)])) rfl rfl (hb hby at_46)
  rw [(show nar .byte v31 = v31 from (by rw [← hqv31]; exact own_narb _))] at W13
  refine Go.st st13 ?_
  have F14 : Arv Z h13 b1 k1 .byte (8 : Int32) [(.int v31), (.int v31), (.int (0 : Int32)), (.int (0 : Int32)), (.int (0 : Int32)), (.int (0 : Int32)), (.int (0 : Int32)), (.int (0 : Int32))] (.int (0 : Int32)) := Arv.set Ar13 q13 S13 M13 H13 G13 (by have h_ : fits .byte (.int (nar .byte v31)) = true := fits_nar_byte v31; rw [(show nar .byte v31 = v31 from (by rw [← hqv31]; exact own_narb _))] at h_; exact h_) W13 1 rfl (Nat.le_of_ble_eq_true rfl)
  have F15 : Exa Z h13 b1 "[B" := F9.wr W13
  have K16 : Keep h0 h13 [] := K10.wr W13 (Or.inr sz3)
  have Z17 : n0 ≤ h13.size := Nat.le_trans Z11 (Nat.le_of_eq W13.size.symm)
  have N18 := Fr.snoc X13 N12 ge2
  show Go p.tables e below _ (T13.setTop (mkF m 47 #[.val (.int pa), .val (.int pw), .val (.long qn), .second, .val (.int pf), .val (.long v5), .second, .val (.int v14), .val (.int v26), .val (.int v31), .unset] [(.ref b1)]))
  refine Go.st (fun _ k => XS.dup X13.here hx rfl (hb hby at_47) rfl rfl k) ?_
  show Go p.tables e below _ (T13.setTop (mkF m 48 #[.val (.int pa), .val (.int pw), .val (.long qn), .second, .val (.int pf), .val (.long v5), .second, .val (.int v14), .val (.int v26), .val (.int v31), .unset] [(.ref b1), (.ref b1)]))
  refine Go.st (fun _ k => XS.iconst X13.here hx rfl (hb hby at_48) k) ?_
  show Go p.tables e below _ (T13.setTop (mkF m 49 #[.val (.int pa), .val (.int pw), .val (.long qn), .second, .val (.int pf), .val (.long v5), .second, .val (.int v14), .val (.int v26), .val (.int v31), .unset] [(.int (2 : Int32)), (.ref b1), (.ref b1)]))
  refine Go.st (fun _ k => XS.iload X13.here hx rfl (hb hby at_49) rfl k) ?_
  show Go p.tables e below _ (T13.setTop (mkF m 51 #[.val (.int pa), .val (.int pw), .val (.long qn), .second, .val (.int pf), .val (.long v5), .second, .val (.int v14), .val (.int v26), .val (.int v31), .unset] [(.int v31), (.int (2 : Int32)), (.ref b1), (.ref b1)]))
  obtain ⟨cl19, Ar19, q19, S19, M19, H19, G19⟩ := id F14
  have hin19 : ¬ ((2 : Int32) < 0 ∨ cl19.slots.size ≤ ((2 : Int32)).toNatClampNeg) := inb_of S19 ⟨by decide, by decide⟩
  obtain ⟨T19, h19, X19, e19, W19, st19⟩ := stB X13 hx hZ e13 Ar19 (j := (2 : Int32)) hin19 (g := (mkF m 51 #[.val (.int pa), .val (.int pw), .val (.long qn), .second, .val (.int pf), .val (.long v5), .second, .val (.int v14), .val (.int v26), .val (.int v31), .unset] [(.int v31), (.int (2 : Int32)), (.ref b1), (.ref b1)])) rfl rfl (hb hby at_51)
  rw [(show nar .byte v31 = v31 from (by rw [← hqv31]; exact own_narb _))] at W19
  refine Go.st st19 ?_
  have F20 : Arv Z h19 b1 k1 .byte (8 : Int32) [(.int v31), (.int v31), (.int v31), (.int (0 : Int32)), (.int (0 : Int32)), (.int (0 : Int32)), (.int (0 : Int32)), (.int (0 : Int32))] (.int (0 : Int32)) := Arv.set Ar19 q19 S19 M19 H19 G19 (by have h_ : fits .byte (.int (nar .byte v31)) = true := fits_nar_byte v31; rw [(show nar .byte v31 = v31 from (by rw [← hqv31]; exact own_narb _))] at h_; exact h_) W19 2 rfl (Nat.le_of_ble_eq_true rfl)
  have F21 : Exa Z h19 b1 "[B" := F15.wr W19
  have K22 : Keep h0 h19 [] := K16.wr W19 (Or.inr sz3)
  have Z23 : n0 ≤ h19.size := Nat.le_trans Z17 (Nat.le_of_eq W19.size.symm)
  have N24 := Fr.snoc X19 N18 ge2
  show Go p.tables e below _ (T19.setTop (mkF m 52 #[.val (.int pa), .val (.int pw), .val (.long qn), .second, .val (.int pf), .val (.long v5), .second, .val (.int v14), .val (.int v26), .val (.int v31), .unset] [(.ref b1)]))
  refine Go.st (fun _ k => XS.dup X19.here hx rfl (hb hby at_52) rfl rfl k) ?_
  show Go p.tables e below _ (T19.setTop (mkF m 53 #[.val (.int pa), .val (.int pw), .val (.long qn), .second, .val (.int pf), .val (.long v5), .second, .val (.int v14), .val (.int v26), .val (.int v31), .unset] [(.ref b1), (.ref b1)]))
  refine Go.st (fun _ k => XS.iconst X19.here hx rfl (hb hby at_53) k) ?_
  show Go p.tables e below _ (T19.setTop (mkF m 54 #[.val (.int pa), .val (.int pw), .val (.long qn), .second, .val (.int pf), .val (.long v5), .second, .val (.int v14), .val (.int v26), .val (.int v31), .unset] [(.int (3 : Int32)), (.ref b1), (.ref b1)]))
  refine Go.st (fun _ k => XS.iload X19.here hx rfl (hb hby at_54) rfl k) ?_
  show Go p.tables e below _ (T19.setTop (mkF m 56 #[.val (.int pa), .val (.int pw), .val (.long qn), .second, .val (.int pf), .val (.long v5), .second, .val (.int v14), .val (.int v26), .val (.int v31), .unset] [(.int v31), (.int (3 : Int32)), (.ref b1), (.ref b1)]))
  obtain ⟨cl25, Ar25, q25, S25, M25, H25, G25⟩ := id F20
  have hin25 : ¬ ((3 : Int32) < 0 ∨ cl25.slots.size ≤ ((3 : Int32)).toNatClampNeg) := inb_of S25 ⟨by decide, by decide⟩
  obtain ⟨T25, h25, X25, e25, W25, st25⟩ := stB X19 hx hZ e19 Ar25 (j := (3 : Int32)) hin25 (g := (mkF m 56 #[.val (.int pa), .val (.int pw), .val (.long qn), .second, .val (.int pf), .val (.long v5), .second, .val (.int v14), .val (.int v26), .val (.int v31), .unset] [(.int v31), (.int (3 : Int32)), (.ref b1), (.ref b1)])) rfl rfl (hb hby at_56)
  rw [(show nar .byte v31 = v31 from (by rw [← hqv31]; exact own_narb _))] at W25
  refine Go.st st25 ?_
  have F26 : Arv Z h25 b1 k1 .byte (8 : Int32) [(.int v31), (.int v31), (.int v31), (.int v31), (.int (0 : Int32)), (.int (0 : Int32)), (.int (0 : Int32)), (.int (0 : Int32))] (.int (0 : Int32)) := Arv.set Ar25 q25 S25 M25 H25 G25 (by have h_ : fits .byte (.int (nar .byte v31)) = true := fits_nar_byte v31; rw [(show nar .byte v31 = v31 from (by rw [← hqv31]; exact own_narb _))] at h_; exact h_) W25 3 rfl (Nat.le_of_ble_eq_true rfl)
  have F27 : Exa Z h25 b1 "[B" := F21.wr W25
  have K28 : Keep h0 h25 [] := K22.wr W25 (Or.inr sz3)
  have Z29 : n0 ≤ h25.size := Nat.le_trans Z23 (Nat.le_of_eq W25.size.symm)
  have N30 := Fr.snoc X25 N24 ge2
  show Go p.tables e below _ (T25.setTop (mkF m 57 #[.val (.int pa), .val (.int pw), .val (.long qn), .second, .val (.int pf), .val (.long v5), .second, .val (.int v14), .val (.int v26), .val (.int v31), .unset] [(.ref b1)]))
  refine Go.st (fun _ k => XS.dup X25.here hx rfl (hb hby at_57) rfl rfl k) ?_
  show Go p.tables e below _ (T25.setTop (mkF m 58 #[.val (.int pa), .val (.int pw), .val (.long qn), .second, .val (.int pf), .val (.long v5), .second, .val (.int v14), .val (.int v26), .val (.int v31), .unset] [(.ref b1), (.ref b1)]))
  refine Go.st (fun _ k => XS.iconst X25.here hx rfl (hb hby at_58) k) ?_
  show Go p.tables e below _ (T25.setTop (mkF m 59 #[.val (.int pa), .val (.int pw), .val (.long qn), .second, .val (.int pf), .val (.long v5), .second, .val (.int v14), .val (.int v26), .val (.int v31), .unset] [(.int (4 : Int32)), (.ref b1), (.ref b1)]))
  refine Go.st (fun _ k => XS.iload X25.here hx rfl (hb hby at_59) rfl k) ?_
  show Go p.tables e below _ (T25.setTop (mkF m 61 #[.val (.int pa), .val (.int pw), .val (.long qn), .second, .val (.int pf), .val (.long v5), .second, .val (.int v14), .val (.int v26), .val (.int v31), .unset] [(.int v31), (.int (4 : Int32)), (.ref b1), (.ref b1)]))
  obtain ⟨cl31, Ar31, q31, S31, M31, H31, G31⟩ := id F26
  have hin31 : ¬ ((4 : Int32) < 0 ∨ cl31.slots.size ≤ ((4 : Int32)).toNatClampNeg) := inb_of S31 ⟨by decide, by decide⟩
  obtain ⟨T31, h31, X31, e31, W31, st31⟩ := stB X25 hx hZ e25 Ar31 (j := (4 : Int32)) hin31 (g := (mkF m 61 #[.val (.int pa), .val (.int pw), .val (.long qn), .second, .val (.int pf), .val (.long v5), .second, .val (.int v14), .val (.int v26), .val (.int v31), .unset] [(.int v31), (.int (4 : Int32)), (.ref b1), (.ref b1)])) rfl rfl (hb hby at_61)
  rw [(show nar .byte v31 = v31 from (by rw [← hqv31]; exact own_narb _))] at W31
  refine Go.st st31 ?_
  have F32 : Arv Z h31 b1 k1 .byte (8 : Int32) [(.int v31), (.int v31), (.int v31), (.int v31), (.int v31), (.int (0 : Int32)), (.int (0 : Int32)), (.int (0 : Int32))] (.int (0 : Int32)) := Arv.set Ar31 q31 S31 M31 H31 G31 (by have h_ : fits .byte (.int (nar .byte v31)) = true := fits_nar_byte v31; rw [(show nar .byte v31 = v31 from (by rw [← hqv31]; exact own_narb _))] at h_; exact h_) W31 4 rfl (Nat.le_of_ble_eq_true rfl)
  have F33 : Exa Z h31 b1 "[B" := F27.wr W31
  have K34 : Keep h0 h31 [] := K28.wr W31 (Or.inr sz3)
  have Z35 : n0 ≤ h31.size := Nat.le_trans Z29 (Nat.le_of_eq W31.size.symm)
  have N36 := Fr.snoc X31 N30 ge2
  show Go p.tables e below _ (T31.setTop (mkF m 62 #[.val (.int pa), .val (.int pw), .val (.long qn), .second, .val (.int pf), .val (.long v5), .second, .val (.int v14), .val (.int v26), .val (.int v31), .unset] [(.ref b1)]))
  refine Go.st (fun _ k => XS.dup X31.here hx rfl (hb hby at_62) rfl rfl k) ?_
  show Go p.tables e below _ (T31.setTop (mkF m 63 #[.val (.int pa), .val (.int pw), .val (.long qn), .second, .val (.int pf), .val (.long v5), .second, .val (.int v14), .val (.int v26), .val (.int v31), .unset] [(.ref b1), (.ref b1)]))
  refine Go.st (fun _ k => XS.iconst X31.here hx rfl (hb hby at_63) k) ?_
  show Go p.tables e below _ (T31.setTop (mkF m 64 #[.val (.int pa), .val (.int pw), .val (.long qn), .second, .val (.int pf), .val (.long v5), .second, .val (.int v14), .val (.int v26), .val (.int v31), .unset] [(.int (5 : Int32)), (.ref b1), (.ref b1)]))
  refine Go.st (fun _ k => XS.iload X31.here hx rfl (hb hby at_64) rfl k) ?_
  show Go p.tables e below _ (T31.setTop (mkF m 66 #[.val (.int pa), .val (.int pw), .val (.long qn), .second, .val (.int pf), .val (.long v5), .second, .val (.int v14), .val (.int v26), .val (.int v31), .unset] [(.int v31), (.int (5 : Int32)), (.ref b1), (.ref b1)]))
  obtain ⟨cl37, Ar37, q37, S37, M37, H37, G37⟩ := id F32
  have hin37 : ¬ ((5 : Int32) < 0 ∨ cl37.slots.size ≤ ((5 : Int32)).toNatClampNeg) := inb_of S37 ⟨by decide, by decide⟩
  obtain ⟨T37, h37, X37, e37, W37, st37⟩ := stB X31 hx hZ e31 Ar37 (j := (5 : Int32)) hin37 (g := (mkF m 66 #[.val (.int pa), .val (.int pw), .val (.long qn), .second, .val (.int pf), .val (.long v5), .second, .val (.int v14), .val (.int v26), .val (.int v31), .unset] [(.int v31), (.int (5 : Int32)), (.ref b1), (.ref b1)])) rfl rfl (hb hby at_66)
  rw [(show nar .byte v31 = v31 from (by rw [← hqv31]; exact own_narb _))] at W37
  refine Go.st st37 ?_
  have F38 : Arv Z h37 b1 k1 .byte (8 : Int32) [(.int v31), (.int v31), (.int v31), (.int v31), (.int v31), (.int v31), (.int (0 : Int32)), (.int (0 : Int32))] (.int (0 : Int32)) := Arv.set Ar37 q37 S37 M37 H37 G37 (by have h_ : fits .byte (.int (nar .byte v31)) = true := fits_nar_byte v31; rw [(show nar .byte v31 = v31 from (by rw [← hqv31]; exact own_narb _))] at h_; exact h_) W37 5 rfl (Nat.le_of_ble_eq_true rfl)
  have F39 : Exa Z h37 b1 "[B" := F33.wr W37
  have K40 : Keep h0 h37 [] := K34.wr W37 (Or.inr sz3)
  have Z41 : n0 ≤ h37.size := Nat.le_trans Z35 (Nat.le_of_eq W37.size.symm)
  have N42 := Fr.snoc X37 N36 ge2
  show Go p.tables e below _ (T37.setTop (mkF m 67 #[.val (.int pa), .val (.int pw), .val (.long qn), .second, .val (.int pf), .val (.long v5), .second, .val (.int v14), .val (.int v26), .val (.int v31), .unset] [(.ref b1)]))
  refine Go.st (fun _ k => XS.dup X37.here hx rfl (hb hby at_67) rfl rfl k) ?_
  show Go p.tables e below _ (T37.setTop (mkF m 68 #[.val (.int pa), .val (.int pw), .val (.long qn), .second, .val (.int pf), .val (.long v5), .second, .val (.int v14), .val (.int v26), .val (.int v31), .unset] [(.ref b1), (.ref b1)]))
  refine Go.st (fun _ k => XS.bipush X37.here hx rfl (hb hby at_68) k) ?_
  show Go p.tables e below _ (T37.setTop (mkF m 70 #[.val (.int pa), .val (.int pw), .val (.long qn), .second, .val (.int pf), .val (.long v5), .second, .val (.int v14), .val (.int v26), .val (.int v31), .unset] [(.int (6 : Int32)), (.ref b1), (.ref b1)]))
  refine Go.st (fun _ k => XS.iload X37.here hx rfl (hb hby at_70) rfl k) ?_
  show Go p.tables e below _ (T37.setTop (mkF m 72 #[.val (.int pa), .val (.int pw), .val (.long qn), .second, .val (.int pf), .val (.long v5), .second, .val (.int v14), .val (.int v26), .val (.int v31), .unset] [(.int v31), (.int (6 : Int32)), (.ref b1), (.ref b1)]))
  obtain ⟨cl43, Ar43, q43, S43, M43, H43, G43⟩ := id F38
  have hin43 : ¬ ((6 : Int32) < 0 ∨ cl43.slots.size ≤ ((6 : Int32)).toNatClampNeg) := inb_of S43 ⟨by decide, by decide⟩
  obtain ⟨T43, h43, X43, e43, W43, st43⟩ := stB X37 hx hZ e37 Ar43 (j := (6 : Int32)) hin43 (g := (mkF m 72 #[.val (.int pa), .val (.int pw), .val (.long qn), .second, .val (.int pf), .val (.long v5), .second, .val (.int v14), .val (.int v26), .val (.int v31), .unset] [(.int v31), (.int (6 : Int32)), (.ref b1), (.ref b1)])) rfl rfl (hb hby at_72)
  rw [(show nar .byte v31 = v31 from (by rw [← hqv31]; exact own_narb _))] at W43
  refine Go.st st43 ?_
  have F44 : Arv Z h43 b1 k1 .byte (8 : Int32) [(.int v31), (.int v31), (.int v31), (.int v31), (.int v31), (.int v31), (.int v31), (.int (0 : Int32))] (.int (0 : Int32)) := Arv.set Ar43 q43 S43 M43 H43 G43 (by have h_ : fits .byte (.int (nar .byte v31)) = true := fits_nar_byte v31; rw [(show nar .byte v31 = v31 from (by rw [← hqv31]; exact own_narb _))] at h_; exact h_) W43 6 rfl (Nat.le_of_ble_eq_true rfl)
  have F45 : Exa Z h43 b1 "[B" := F39.wr W43
  have K46 : Keep h0 h43 [] := K40.wr W43 (Or.inr sz3)
  have Z47 : n0 ≤ h43.size := Nat.le_trans Z41 (Nat.le_of_eq W43.size.symm)
  have N48 := Fr.snoc X43 N42 ge2
  show Go p.tables e below _ (T43.setTop (mkF m 73 #[.val (.int pa), .val (.int pw), .val (.long qn), .second, .val (.int pf), .val (.long v5), .second, .val (.int v14), .val (.int v26), .val (.int v31), .unset] [(.ref b1)]))
  refine Go.st (fun _ k => XS.dup X43.here hx rfl (hb hby at_73) rfl rfl k) ?_
  show Go p.tables e below _ (T43.setTop (mkF m 74 #[.val (.int pa), .val (.int pw), .val (.long qn), .second, .val (.int pf), .val (.long v5), .second, .val (.int v14), .val (.int v26), .val (.int v31), .unset] [(.ref b1), (.ref b1)]))
  refine Go.st (fun _ k => XS.bipush X43.here hx rfl (hb hby at_74) k) ?_
  show Go p.tables e below _ (T43.setTop (mkF m 76 #[.val (.int pa), .val (.int pw), .val (.long qn), .second, .val (.int pf), .val (.long v5), .second, .val (.int v14), .val (.int v26), .val (.int v31), .unset] [(.int (7 : Int32)), (.ref b1), (.ref b1)]))
  refine Go.st (fun _ k => XS.iload X43.here hx rfl (hb hby at_76) rfl k) ?_
  show Go p.tables e below _ (T43.setTop (mkF m 78 #[.val (.int pa), .val (.int pw), .val (.long qn), .second, .val (.int pf), .val (.long v5), .second, .val (.int v14), .val (.int v26), .val (.int v31), .unset] [(.int v31), (.int (7 : Int32)), (.ref b1), (.ref b1)]))
  obtain ⟨cl49, Ar49, q49, S49, M49, H49, G49⟩ := id F44
  have hin49 : ¬ ((7 : Int32) < 0 ∨ cl49.slots.size ≤ ((7 : Int32)).toNatClampNeg) := inb_of S49 ⟨by decide, by decide⟩
  obtain ⟨T49, h49, X49, e49, W49, st49⟩ := stB X43 hx hZ e43 Ar49 (j := (7 : Int32)) hin49 (g := (mkF m 78 #[.val (.int pa), .val (.int pw), .val (.long qn), .second, .val (.int pf), .val (.long v5), .second, .val (.int v14), .val (.int v26), .val (.int v31), .unset] [(.int v31), (.int (7 : Int32)), (.ref b1), (.ref b1)])) rfl rfl (hb hby at_78)
  rw [(show nar .byte v31 = v31 from (by rw [← hqv31]; exact own_narb _))] at W49
  refine Go.st st49 ?_
  have F50 : Arv Z h49 b1 k1 .byte (8 : Int32) [(.int v31), (.int v31), (.int v31), (.int v31), (.int v31), (.int v31), (.int v31), (.int v31)] (.int (0 : Int32)) := Arv.set Ar49 q49 S49 M49 H49 G49 (by have h_ : fits .byte (.int (nar .byte v31)) = true := fits_nar_byte v31; rw [(show nar .byte v31 = v31 from (by rw [← hqv31]; exact own_narb _))] at h_; exact h_) W49 7 rfl (Nat.le_of_ble_eq_true rfl)
  have F51 : Exa Z h49 b1 "[B" := F45.wr W49
  have K52 : Keep h0 h49 [] := K46.wr W49 (Or.inr sz3)
  have Z53 : n0 ≤ h49.size := Nat.le_trans Z47 (Nat.le_of_eq W49.size.symm)
  have N54 := Fr.snoc X49 N48 ge2
  show Go p.tables e below _ (T49.setTop (mkF m 79 #[.val (.int pa), .val (.int pw), .val (.long qn), .second, .val (.int pf), .val (.long v5), .second, .val (.int v14), .val (.int v26), .val (.int v31), .unset] [(.ref b1)]))
  refine Go.st (fun _ k => XS.astore X49.here hx rfl (hb hby at_79) rfl rfl (l' := #[.val (.int pa), .val (.int pw), .val (.long qn), .second, .val (.int pf), .val (.long v5), .second, .val (.int v14), .val (.int v26), .val (.int v31), .val (.ref b1)]) rfl k) ?_
  show Go p.tables e below _ (T49.setTop (mkF m 81 #[.val (.int pa), .val (.int pw), .val (.long qn), .second, .val (.int pf), .val (.long v5), .second, .val (.int v14), .val (.int v26), .val (.int v31), .val (.ref b1)] []))
  show Go p.tables e below _ (T49.setTop (mkF m 81 #[.val (.int pa), .val (.int pw), .val (.long qn), .second, .val (.int pf), .val (.long v5), .second, .val (.int v14), .val (.int v26), .val (.int v31), .val (.ref b1)] []))
  refine Go.st (fun _ k => XS.aload X49.here hx rfl (hb hby at_81) rfl rfl k) ?_
  show Go p.tables e below _ (T49.setTop (mkF m 83 #[.val (.int pa), .val (.int pw), .val (.long qn), .second, .val (.int pf), .val (.long v5), .second, .val (.int v14), .val (.int v26), .val (.int v31), .val (.ref b1)] [(.ref b1)]))
  refine Go.st (fun _ k => XS.iload X49.here hx rfl (hb hby at_83) rfl k) ?_
  show Go p.tables e below _ (T49.setTop (mkF m 85 #[.val (.int pa), .val (.int pw), .val (.long qn), .second, .val (.int pf), .val (.long v5), .second, .val (.int v14), .val (.int v26), .val (.int v31), .val (.ref b1)] [(.int v14), (.ref b1)]))
  refine Go.st (fun _ k => XS.iload X49.here hx rfl (hb hby at_85) rfl k) ?_
  show Go p.tables e below _ (T49.setTop (mkF m 87 #[.val (.int pa), .val (.int pw), .val (.long qn), .second, .val (.int pf), .val (.long v5), .second, .val (.int v14), .val (.int v26), .val (.int v31), .val (.ref b1)] [(.int v26), (.int v14), (.ref b1)]))
  refine Go.st (fun _ k => XS.lload X49.here hx rfl (hb hby at_87) rfl k) ?_
  show Go p.tables e below _ (T49.setTop (mkF m 89 #[.val (.int pa), .val (.int pw), .val (.long qn), .second, .val (.int pf), .val (.long v5), .second, .val (.int v14), .val (.int v26), .val (.int v31), .val (.ref b1)] [(.long v5), (.int v26), (.int v14), (.ref b1)]))
  obtain ⟨_, _, ⟨T55, L55, k55, n55⟩, -, X55, ⟨Lc55, hQ55, l55, y55, z55⟩, st55⟩ := Jvm.LawKit.callS X49 hx (y := (⟨"com/example/gapmend/gapmend/Message", "putDigits", "([BIIJ)V"⟩ : MethodName)) hown (mvT hZ (hw _ (List.mem_of_getElem? (i := 3) rfl))) (mvT hZ (hw _ (List.mem_of_getElem? (i := 4) rfl))) (mvT hZ (hw _ (List.mem_of_getElem? (i := 5) rfl))) (mvT hZ (hw _ (List.mem_of_getElem? (i := 6) rfl))) (by decide) (backOf (W := 0) (rm_putd l Z a0 hw [] b1 v14 v26 v5 k1 ([v31, v31, v31, v31, v31, v31, v31, v31]) h49 n0 Z53 F50 ge2 (by show 0 ≤ v14.toInt ∧ 0 ≤ v26.toInt ∧ v14.toInt + v26.toInt ≤ 8; exact ⟨(own_at hqv14).1, own_wd (own_at hqv14) hqv26⟩) (by show [v31, v31, v31, v31, v31, v31, v31, v31].length = 8; exact rfl)) hZ (hw _ (List.mem_of_getElem? (i := 6) rfl)) (hw _ (List.mem_of_getElem? (i := 5) rfl)) (by decide) (by decide)) (g := (mkF m 89 #[.val (.int pa), .val (.int pw), .val (.long qn), .second, .val (.int pf), .val (.long v5), .second, .val (.int v14), .val (.int v26), .val (.int v31), .val (.ref b1)] [(.long v5), (.int v26), (.int v14), (.ref b1)])) rfl (by rw [hml]; rfl) (argsL := [(.ref b1), (.int v14), (.int v26), (.long v5)]) (rest := []) (lenOf pd_1 rfl) rfl (by show 2 * 0 + _ ≤ _; exact Nat.le_of_eq rfl) (hb hby at_89) (fun _ _ => ⟨rfl, e49, (by decide : 1 + 0 ≤ _), (by decide : 8 + 0 ≤ _)⟩)
  dsimp only [Pt.U, Pt.locs, Pt.cells, Pt.slots] at X55 l55 y55 z55 st55 hQ55
  subst l55 y55 z55
  obtain ⟨rfl, N55q, K55q, Fq55_0⟩ := hQ55
  have N55 := Fr.app N54 N55q
  refine Go.st st55 ?_
  have Z56 : n0 ≤ T55.heap.size := Nat.le_trans Z53 K55q.1
  have K57 : Keep h0 T55.heap [] := K52.trans K55q (fun z hz => (List.mem_cons.mp hz).elim (fun q => by rw [q]; exact Or.inr sz3) (fun hz => absurd hz List.not_mem_nil))
  have F58 : Exa Z T55.heap b1 "[B" := F51.keep K55q
  show Go p.tables e below _ (T55.setTop (mkF m 92 #[.val (.int pa), .val (.int pw), .val (.long qn), .second, .val (.int pf), .val (.long v5), .second, .val (.int v14), .val (.int v26), .val (.int v31), .val (.ref b1)] []))
  refine Go.st (fun _ k => XS.aload X55.here hx rfl (hb hby at_92) rfl rfl k) ?_
  show Go p.tables e below _ (T55.setTop (mkF m 94 #[.val (.int pa), .val (.int pw), .val (.long qn), .second, .val (.int pf), .val (.long v5), .second, .val (.int v14), .val (.int v26), .val (.int v31), .val (.ref b1)] [(.ref b1)]))
  refine Go.st (fun _ k => XS.iconst X55.here hx rfl (hb hby at_94) k) ?_
  show Go p.tables e below _ (T55.setTop (mkF m 95 #[.val (.int pa), .val (.int pw), .val (.long qn), .second, .val (.int pf), .val (.long v5), .second, .val (.int v14), .val (.int v26), .val (.int v31), .val (.ref b1)] [(.int (0 : Int32)), (.ref b1)]))
  refine Go.st (fun _ k => XS.iload X55.here hx rfl (hb hby at_95) rfl k) ?_
  show Go p.tables e below _ (T55.setTop (mkF m 97 #[.val (.int pa), .val (.int pw), .val (.long qn), .second, .val (.int pf), .val (.long v5), .second, .val (.int v14), .val (.int v26), .val (.int v31), .val (.ref b1)] [(.int v14), (.int (0 : Int32)), (.ref b1)]))
  refine Go.st (fun _ k => XS.iload X55.here hx rfl (hb hby at_97) rfl k) ?_
  show Go p.tables e below _ (T55.setTop (mkF m 99 #[.val (.int pa), .val (.int pw), .val (.long qn), .second, .val (.int pf), .val (.long v5), .second, .val (.int v14), .val (.int v26), .val (.int v31), .val (.ref b1)] [(.int v26), (.int v14), (.int (0 : Int32)), (.ref b1)]))
  refine Go.st (fun _ k => XS.lload X55.here hx rfl (hb hby at_99) rfl k) ?_
  show Go p.tables e below _ (T55.setTop (mkF m 101 #[.val (.int pa), .val (.int pw), .val (.long qn), .second, .val (.int pf), .val (.long v5), .second, .val (.int v14), .val (.int v26), .val (.int v31), .val (.ref b1)] [(.long v5), (.int v26), (.int v14), (.int (0 : Int32)), (.ref b1)]))
  refine Go.st (fun _ k => XS.iload X55.here hx rfl (hb hby at_101) rfl k) ?_
  show Go p.tables e below _ (T55.setTop (mkF m 103 #[.val (.int pa), .val (.int pw), .val (.long qn), .second, .val (.int pf), .val (.long v5), .second, .val (.int v14), .val (.int v26), .val (.int v31), .val (.ref b1)] [(.int v31), (.long v5), (.int v26), (.int v14), (.int (0 : Int32)), (.ref b1)]))
  obtain ⟨_, _, ⟨T59, L59, k59, n59⟩, -, X59, ⟨Lc59, hQ59, l59, y59, z59⟩, st59⟩ := Jvm.LawKit.callS X55 hx (y := (⟨"com/example/gapmend/gapmend/MessagePutDigitsPinLaw", "ok", "([BIIIJB)Z"⟩ : MethodName)) hown (mvT hZ (hw _ (List.mem_of_getElem? (i := 9) rfl))) (mvT hZ (hw _ (List.mem_of_getElem? (i := 10) rfl))) (mvT hZ (hw _ (List.mem_of_getElem? (i := 11) rfl))) (mvT hZ (hw _ (List.mem_of_getElem? (i := 12) rfl))) (by decide) (backOf (W := 0) (rm_ok l Z a0 hw [] b1 (0 : Int32) v14 v26 v5 v31 k1 (putD [v31, v31, v31, v31, v31, v31, v31, v31] v14.toNatClampNeg v26.toNatClampNeg v5) T55.heap n0 Z56 Fq55_0 (by show 0 ≤ (0 : Int32).toInt ∧ (0 : Int32).toInt < 8; exact (by decide))) hZ (hw _ (List.mem_of_getElem? (i := 12) rfl)) (hw _ (List.mem_of_getElem? (i := 11) rfl)) (by decide) (by decide)) (g := (mkF m 103 #[.val (.int pa), .val (.int pw), .val (.long qn), .second, .val (.int pf), .val (.long v5), .second, .val (.int v14), .val (.int v26), .val (.int v31), .val (.ref b1)] [(.int v31), (.long v5), (.int v26), (.int v14), (.int (0 : Int32)), (.ref b1)])) rfl (by rw [hml]; rfl) (argsL := [(.ref b1), (.int (0 : Int32)), (.int v14), (.int v26), (.long v5), (.int v31)]) (rest := []) (lenOf pd_2 rfl) rfl (by show 2 * 0 + _ ≤ _; exact Nat.le_of_eq rfl) (hb hby at_103) (fun _ _ => ⟨rfl, (rfl : T55.heap = T55.heap), (by decide : 1 + 0 ≤ _), (by decide : 8 + 0 ≤ _)⟩)
  dsimp only [Pt.U, Pt.locs, Pt.cells, Pt.slots] at X59 l59 y59 z59 st59 hQ59
  subst l59 y59 z59
  obtain ⟨rfl, N59q, e59⟩ := hQ59
  have N59 := Fr.app N55 N59q
  refine Go.st st59 ?_
  show Go p.tables e below _ (T59.setTop (mkF m 106 #[.val (.int pa), .val (.int pw), .val (.long qn), .second, .val (.int pf), .val (.long v5), .second, .val (.int v14), .val (.int v26), .val (.int v31), .val (.ref b1)] [(.int (okF (0 : Int32) v14 v26 v5 v31 ((putD [v31, v31, v31, v31, v31, v31, v31, v31] v14.toNatClampNeg v26.toNatClampNeg v5).getD (0 : Int32).toNatClampNeg 0)))]))
  have hc106 : ¬ ((okF (0 : Int32) v14 v26 v5 v31 ((putD [v31, v31, v31, v31, v31, v31, v31, v31] v14.toNatClampNeg v26.toNatClampNeg v5).getD (0 : Int32).toNatClampNeg 0)) = (0 : Int32)) := (by rw [own_ok (i := (0 : Int32)) (by decide) (own_at hqv14).1 (own_wd (own_at hqv14) hqv26).1 (own_wd (own_at hqv14) hqv26).2 (own_n hqv5) rfl own_all (nat_of (by decide)) (nat_of (own_nlt32 (own_at hqv14).1)) (nat_of (own_nlt32 (own_wd (own_at hqv14) hqv26).1))]; decide)
  refine Go.st (fun _ k => XS.ifNo X59.here hx rfl (hb hby at_106) rfl (Jvm.Free.XT.i0_eq_f hc106) k) ?_
  show Go p.tables e below _ (T59.setTop (mkF m 109 #[.val (.int pa), .val (.int pw), .val (.long qn), .second, .val (.int pf), .val (.long v5), .second, .val (.int v14), .val (.int v26), .val (.int v31), .val (.ref b1)] []))
  refine Go.st (fun _ k => XS.aload X59.here hx rfl (hb hby at_109) rfl rfl k) ?_
  show Go p.tables e below _ (T59.setTop (mkF m 111 #[.val (.int pa), .val (.int pw), .val (.long qn), .second, .val (.int pf), .val (.long v5), .second, .val (.int v14), .val (.int v26), .val (.int v31), .val (.ref b1)] [(.ref b1)]))
  refine Go.st (fun _ k => XS.iconst X59.here hx rfl (hb hby at_111) k) ?_
  show Go p.tables e below _ (T59.setTop (mkF m 112 #[.val (.int pa), .val (.int pw), .val (.long qn), .second, .val (.int pf), .val (.long v5), .second, .val (.int v14), .val (.int v26), .val (.int v31), .val (.ref b1)] [(.int (1 : Int32)), (.ref b1)]))
  refine Go.st (fun _ k => XS.iload X59.here hx rfl (hb hby at_112) rfl k) ?_
  show Go p.tables e below _ (T59.setTop (mkF m 114 #[.val (.int pa), .val (.int pw), .val (.long qn), .second, .val (.int pf), .val (.long v5), .second, .val (.int v14), .val (.int v26), .val (.int v31), .val (.ref b1)] [(.int v14), (.int (1 : Int32)), (.ref b1)]))
  refine Go.st (fun _ k => XS.iload X59.here hx rfl (hb hby at_114) rfl k) ?_
  show Go p.tables e below _ (T59.setTop (mkF m 116 #[.val (.int pa), .val (.int pw), .val (.long qn), .second, .val (.int pf), .val (.long v5), .second, .val (.int v14), .val (.int v26), .val (.int v31), .val (.ref b1)] [(.int v26), (.int v14), (.int (1 : Int32)), (.ref b1)]))
  refine Go.st (fun _ k => XS.lload X59.here hx rfl (hb hby at_116) rfl k) ?_
  show Go p.tables e below _ (T59.setTop (mkF m 118 #[.val (.int pa), .val (.int pw), .val (.long qn), .second, .val (.int pf), .val (.long v5), .second, .val (.int v14), .val (.int v26), .val (.int v31), .val (.ref b1)] [(.long v5), (.int v26), (.int v14), (.int (1 : Int32)), (.ref b1)]))
  refine Go.st (fun _ k => XS.iload X59.here hx rfl (hb hby at_118) rfl k) ?_
  show Go p.tables e below _ (T59.setTop (mkF m 120 #[.val (.int pa), .val (.int pw), .val (.long qn), .second, .val (.int pf), .val (.long v5), .second, .val (.int v14), .val (.int v26), .val (.int v31), .val (.ref b1)] [(.int v31), (.long v5), (.int v26), (.int v14), (.int (1 : Int32)), (.ref b1)]))
  obtain ⟨_, _, ⟨T60, L60, k60, n60⟩, -, X60, ⟨Lc60, hQ60, l60, y60, z60⟩, st60⟩ := Jvm.LawKit.callS X59 hx (y := (⟨"com/example/gapmend/gapmend/MessagePutDigitsPinLaw", "ok", "([BIIIJB)Z"⟩ : MethodName)) hown (mvT hZ (hw _ (List.mem_of_getElem? (i := 9) rfl))) (mvT hZ (hw _ (List.mem_of_getElem? (i := 10) rfl))) (mvT hZ (hw _ (List.mem_of_getElem? (i := 11) rfl))) (mvT hZ (hw _ (List.mem_of_getElem? (i := 12) rfl))) (by decide) (backOf (W := 0) (rm_ok l Z a0 hw [] b1 (1 : Int32) v14 v26 v5 v31 k1 (putD [v31, v31, v31, v31, v31, v31, v31, v31] v14.toNatClampNeg v26.toNatClampNeg v5) T55.heap n0 Z56 Fq55_0 (by show 0 ≤ (1 : Int32).toInt ∧ (1 : Int32).toInt < 8; exact (by decide))) hZ (hw _ (List.mem_of_getElem? (i := 12) rfl)) (hw _ (List.mem_of_getElem? (i := 11) rfl)) (by decide) (by decide)) (g := (mkF m 120 #[.val (.int pa), .val (.int pw), .val (.long qn), .second, .val (.int pf), .val (.long v5), .second, .val (.int v14), .val (.int v26), .val (.int v31), .val (.ref b1)] [(.int v31), (.long v5), (.int v26), (.int v14), (.int (1 : Int32)), (.ref b1)])) rfl (by rw [hml]; rfl) (argsL := [(.ref b1), (.int (1 : Int32)), (.int v14), (.int v26), (.long v5), (.int v31)]) (rest := []) (lenOf pd_2 rfl) rfl (by show 2 * 0 + _ ≤ _; exact Nat.le_of_eq rfl) (hb hby at_120) (fun _ _ => ⟨rfl, e59, (by decide : 1 + 0 ≤ _), (by decide : 8 + 0 ≤ _)⟩)
  dsimp only [Pt.U, Pt.locs, Pt.cells, Pt.slots] at X60 l60 y60 z60 st60 hQ60
  subst l60 y60 z60
  obtain ⟨rfl, N60q, e60⟩ := hQ60
  have N60 := Fr.app N59 N60q
  refine Go.st st60 ?_
  show Go p.tables e below _ (T60.setTop (mkF m 123 #[.val (.int pa), .val (.int pw), .val (.long qn), .second, .val (.int pf), .val (.long v5), .second, .val (.int v14), .val (.int v26), .val (.int v31), .val (.ref b1)] [(.int (okF (1 : Int32) v14 v26 v5 v31 ((putD [v31, v31, v31, v31, v31, v31, v31, v31] v14.toNatClampNeg v26.toNatClampNeg v5).getD (1 : Int32).toNatClampNeg 0)))]))
  have hc123 : ¬ ((okF (1 : Int32) v14 v26 v5 v31 ((putD [v31, v31, v31, v31, v31, v31, v31, v31] v14.toNatClampNeg v26.toNatClampNeg v5).getD (1 : Int32).toNatClampNeg 0)) = (0 : Int32)) := (by rw [own_ok (i := (1 : Int32)) (by decide) (own_at hqv14).1 (own_wd (own_at hqv14) hqv26).1 (own_wd (own_at hqv14) hqv26).2 (own_n hqv5) rfl own_all (nat_of (by decide)) (nat_of (own_nlt32 (own_at hqv14).1)) (nat_of (own_nlt32 (own_wd (own_at hqv14) hqv26).1))]; decide)
  refine Go.st (fun _ k => XS.ifNo X60.here hx rfl (hb hby at_123) rfl (Jvm.Free.XT.i0_eq_f hc123) k) ?_
  show Go p.tables e below _ (T60.setTop (mkF m 126 #[.val (.int pa), .val (.int pw), .val (.long qn), .second, .val (.int pf), .val (.long v5), .second, .val (.int v14), .val (.int v26), .val (.int v31), .val (.ref b1)] []))
  refine Go.st (fun _ k => XS.aload X60.here hx rfl (hb hby at_126) rfl rfl k) ?_
  show Go p.tables e below _ (T60.setTop (mkF m 128 #[.val (.int pa), .val (.int pw), .val (.long qn), .second, .val (.int pf), .val (.long v5), .second, .val (.int v14), .val (.int v26), .val (.int v31), .val (.ref b1)] [(.ref b1)]))
  refine Go.st (fun _ k => XS.iconst X60.here hx rfl (hb hby at_128) k) ?_
  show Go p.tables e below _ (T60.setTop (mkF m 129 #[.val (.int pa), .val (.int pw), .val (.long qn), .second, .val (.int pf), .val (.long v5), .second, .val (.int v14), .val (.int v26), .val (.int v31), .val (.ref b1)] [(.int (2 : Int32)), (.ref b1)]))
  refine Go.st (fun _ k => XS.iload X60.here hx rfl (hb hby at_129) rfl k) ?_
  show Go p.tables e below _ (T60.setTop (mkF m 131 #[.val (.int pa), .val (.int pw), .val (.long qn), .second, .val (.int pf), .val (.long v5), .second, .val (.int v14), .val (.int v26), .val (.int v31), .val (.ref b1)] [(.int v14), (.int (2 : Int32)), (.ref b1)]))
  refine Go.st (fun _ k => XS.iload X60.here hx rfl (hb hby at_131) rfl k) ?_
  show Go p.tables e below _ (T60.setTop (mkF m 133 #[.val (.int pa), .val (.int pw), .val (.long qn), .second, .val (.int pf), .val (.long v5), .second, .val (.int v14), .val (.int v26), .val (.int v31), .val (.ref b1)] [(.int v26), (.int v14), (.int (2 : Int32)), (.ref b1)]))
  refine Go.st (fun _ k => XS.lload X60.here hx rfl (hb hby at_133) rfl k) ?_
  show Go p.tables e below _ (T60.setTop (mkF m 135 #[.val (.int pa), .val (.int pw), .val (.long qn), .second, .val (.int pf), .val (.long v5), .second, .val (.int v14), .val (.int v26), .val (.int v31), .val (.ref b1)] [(.long v5), (.int v26), (.int v14), (.int (2 : Int32)), (.ref b1)]))
  refine Go.st (fun _ k => XS.iload X60.here hx rfl (hb hby at_135) rfl k) ?_
  show Go p.tables e below _ (T60.setTop (mkF m 137 #[.val (.int pa), .val (.int pw), .val (.long qn), .second, .val (.int pf), .val (.long v5), .second, .val (.int v14), .val (.int v26), .val (.int v31), .val (.ref b1)] [(.int v31), (.long v5), (.int v26), (.int v14), (.int (2 : Int32)), (.ref b1)]))
  obtain ⟨_, _, ⟨T61, L61, k61, n61⟩, -, X61, ⟨Lc61, hQ61, l61, y61, z61⟩, st61⟩ := Jvm.LawKit.callS X60 hx (y := (⟨"com/example/gapmend/gapmend/MessagePutDigitsPinLaw", "ok", "([BIIIJB)Z"⟩ : MethodName)) hown (mvT hZ (hw _ (List.mem_of_getElem? (i := 9) rfl))) (mvT hZ (hw _ (List.mem_of_getElem? (i := 10) rfl))) (mvT hZ (hw _ (List.mem_of_getElem? (i := 11) rfl))) (mvT hZ (hw _ (List.mem_of_getElem? (i := 12) rfl))) (by decide) (backOf (W := 0) (rm_ok l Z a0 hw [] b1 (2 : Int32) v14 v26 v5 v31 k1 (putD [v31, v31, v31, v31, v31, v31, v31, v31] v14.toNatClampNeg v26.toNatClampNeg v5) T55.heap n0 Z56 Fq55_0 (by show 0 ≤ (2 : Int32).toInt ∧ (2 : Int32).toInt < 8; exact (by decide))) hZ (hw _ (List.mem_of_getElem? (i := 12) rfl)) (hw _ (List.mem_of_getElem? (i := 11) rfl)) (by decide) (by decide)) (g := (mkF m 137 #[.val (.int pa), .val (.int pw), .val (.long qn), .second, .val (.int pf), .val (.long v5), .second, .val (.int v14), .val (.int v26), .val (.int v31), .val (.ref b1)] [(.int v31), (.long v5), (.int v26), (.int v14), (.int (2 : Int32)), (.ref b1)])) rfl (by rw [hml]; rfl) (argsL := [(.ref b1), (.int (2 : Int32)), (.int v14), (.int v26), (.long v5), (.int v31)]) (rest := []) (lenOf pd_2 rfl) rfl (by show 2 * 0 + _ ≤ _; exact Nat.le_of_eq rfl) (hb hby at_137) (fun _ _ => ⟨rfl, e60, (by decide : 1 + 0 ≤ _), (by decide : 8 + 0 ≤ _)⟩)
  dsimp only [Pt.U, Pt.locs, Pt.cells, Pt.slots] at X61 l61 y61 z61 st61 hQ61
  subst l61 y61 z61
  obtain ⟨rfl, N61q, e61⟩ := hQ61
  have N61 := Fr.app N60 N61q
  refine Go.st st61 ?_
  show Go p.tables e below _ (T61.setTop (mkF m 140 #[.val (.int pa), .val (.int pw), .val (.long qn), .second, .val (.int pf), .val (.long v5), .second, .val (.int v14), .val (.int v26), .val (.int v31), .val (.ref b1)] [(.int (okF (2 : Int32) v14 v26 v5 v31 ((putD [v31, v31, v31, v31, v31, v31, v31, v31] v14.toNatClampNeg v26.toNatClampNeg v5).getD (2 : Int32).toNatClampNeg 0)))]))
  have hc140 : ¬ ((okF (2 : Int32) v14 v26 v5 v31 ((putD [v31, v31, v31, v31, v31, v31, v31, v31] v14.toNatClampNeg v26.toNatClampNeg v5).getD (2 : Int32).toNatClampNeg 0)) = (0 : Int32)) := (by rw [own_ok (i := (2 : Int32)) (by decide) (own_at hqv14).1 (own_wd (own_at hqv14) hqv26).1 (own_wd (own_at hqv14) hqv26).2 (own_n hqv5) rfl own_all (nat_of (by decide)) (nat_of (own_nlt32 (own_at hqv14).1)) (nat_of (own_nlt32 (own_wd (own_at hqv14) hqv26).1))]; decide)
  refine Go.st (fun _ k => XS.ifNo X61.here hx rfl (hb hby at_140) rfl (Jvm.Free.XT.i0_eq_f hc140) k) ?_
  show Go p.tables e below _ (T61.setTop (mkF m 143 #[.val (.int pa), .val (.int pw), .val (.long qn), .second, .val (.int pf), .val (.long v5), .second, .val (.int v14), .val (.int v26), .val (.int v31), .val (.ref b1)] []))
  refine Go.st (fun _ k => XS.aload X61.here hx rfl (hb hby at_143) rfl rfl k) ?_
  show Go p.tables e below _ (T61.setTop (mkF m 145 #[.val (.int pa), .val (.int pw), .val (.long qn), .second, .val (.int pf), .val (.long v5), .second, .val (.int v14), .val (.int v26), .val (.int v31), .val (.ref b1)] [(.ref b1)]))
  refine Go.st (fun _ k => XS.iconst X61.here hx rfl (hb hby at_145) k) ?_
  show Go p.tables e below _ (T61.setTop (mkF m 146 #[.val (.int pa), .val (.int pw), .val (.long qn), .second, .val (.int pf), .val (.long v5), .second, .val (.int v14), .val (.int v26), .val (.int v31), .val (.ref b1)] [(.int (3 : Int32)), (.ref b1)]))
  refine Go.st (fun _ k => XS.iload X61.here hx rfl (hb hby at_146) rfl k) ?_
  show Go p.tables e below _ (T61.setTop (mkF m 148 #[.val (.int pa), .val (.int pw), .val (.long qn), .second, .val (.int pf), .val (.long v5), .second, .val (.int v14), .val (.int v26), .val (.int v31), .val (.ref b1)] [(.int v14), (.int (3 : Int32)), (.ref b1)]))
  refine Go.st (fun _ k => XS.iload X61.here hx rfl (hb hby at_148) rfl k) ?_
  show Go p.tables e below _ (T61.setTop (mkF m 150 #[.val (.int pa), .val (.int pw), .val (.long qn), .second, .val (.int pf), .val (.long v5), .second, .val (.int v14), .val (.int v26), .val (.int v31), .val (.ref b1)] [(.int v26), (.int v14), (.int (3 : Int32)), (.ref b1)]))
  refine Go.st (fun _ k => XS.lload X61.here hx rfl (hb hby at_150) rfl k) ?_
  show Go p.tables e below _ (T61.setTop (mkF m 152 #[.val (.int pa), .val (.int pw), .val (.long qn), .second, .val (.int pf), .val (.long v5), .second, .val (.int v14), .val (.int v26), .val (.int v31), .val (.ref b1)] [(.long v5), (.int v26), (.int v14), (.int (3 : Int32)), (.ref b1)]))
  refine Go.st (fun _ k => XS.iload X61.here hx rfl (hb hby at_152) rfl k) ?_
  show Go p.tables e below _ (T61.setTop (mkF m 154 #[.val (.int pa), .val (.int pw), .val (.long qn), .second, .val (.int pf), .val (.long v5), .second, .val (.int v14), .val (.int v26), .val (.int v31), .val (.ref b1)] [(.int v31), (.long v5), (.int v26), (.int v14), (.int (3 : Int32)), (.ref b1)]))
  obtain ⟨_, _, ⟨T62, L62, k62, n62⟩, -, X62, ⟨Lc62, hQ62, l62, y62, z62⟩, st62⟩ := Jvm.LawKit.callS X61 hx (y := (⟨"com/example/gapmend/gapmend/MessagePutDigitsPinLaw", "ok", "([BIIIJB)Z"⟩ : MethodName)) hown (mvT hZ (hw _ (List.mem_of_getElem? (i := 9) rfl))) (mvT hZ (hw _ (List.mem_of_getElem? (i := 10) rfl))) (mvT hZ (hw _ (List.mem_of_getElem? (i := 11) rfl))) (mvT hZ (hw _ (List.mem_of_getElem? (i := 12) rfl))) (by decide) (backOf (W := 0) (rm_ok l Z a0 hw [] b1 (3 : Int32) v14 v26 v5 v31 k1 (putD [v31, v31, v31, v31, v31, v31, v31, v31] v14.toNatClampNeg v26.toNatClampNeg v5) T55.heap n0 Z56 Fq55_0 (by show 0 ≤ (3 : Int32).toInt ∧ (3 : Int32).toInt < 8; exact (by decide))) hZ (hw _ (List.mem_of_getElem? (i := 12) rfl)) (hw _ (List.mem_of_getElem? (i := 11) rfl)) (by decide) (by decide)) (g := (mkF m 154 #[.val (.int pa), .val (.int pw), .val (.long qn), .second, .val (.int pf), .val (.long v5), .second, .val (.int v14), .val (.int v26), .val (.int v31), .val (.ref b1)] [(.int v31), (.long v5), (.int v26), (.int v14), (.int (3 : Int32)), (.ref b1)])) rfl (by rw [hml]; rfl) (argsL := [(.ref b1), (.int (3 : Int32)), (.int v14), (.int v26), (.long v5), (.int v31)]) (rest := []) (lenOf pd_2 rfl) rfl (by show 2 * 0 + _ ≤ _; exact Nat.le_of_eq rfl) (hb hby at_154) (fun _ _ => ⟨rfl, e61, (by decide : 1 + 0 ≤ _), (by decide : 8 + 0 ≤ _)⟩)
  dsimp only [Pt.U, Pt.locs, Pt.cells, Pt.slots] at X62 l62 y62 z62 st62 hQ62
  subst l62 y62 z62
  obtain ⟨rfl, N62q, e62⟩ := hQ62
  have N62 := Fr.app N61 N62q
  refine Go.st st62 ?_
  show Go p.tables e below _ (T62.setTop (mkF m 157 #[.val (.int pa), .val (.int pw), .val (.long qn), .second, .val (.int pf), .val (.long v5), .second, .val (.int v14), .val (.int v26), .val (.int v31), .val (.ref b1)] [(.int (okF (3 : Int32) v14 v26 v5 v31 ((putD [v31, v31, v31, v31, v31, v31, v31, v31] v14.toNatClampNeg v26.toNatClampNeg v5).getD (3 : Int32).toNatClampNeg 0)))]))
  have hc157 : ¬ ((okF (3 : Int32) v14 v26 v5 v31 ((putD [v31, v31, v31, v31, v31, v31, v31, v31] v14.toNatClampNeg v26.toNatClampNeg v5).getD (3 : Int32).toNatClampNeg 0)) = (0 : Int32)) := (by rw [own_ok (i := (3 : Int32)) (by decide) (own_at hqv14).1 (own_wd (own_at hqv14) hqv26).1 (own_wd (own_at hqv14) hqv26).2 (own_n hqv5) rfl own_all (nat_of (by decide)) (nat_of (own_nlt32 (own_at hqv14).1)) (nat_of (own_nlt32 (own_wd (own_at hqv14) hqv26).1))]; decide)
  refine Go.st (fun _ k => XS.ifNo X62.here hx rfl (hb hby at_157) rfl (Jvm.Free.XT.i0_eq_f hc157) k) ?_
  show Go p.tables e below _ (T62.setTop (mkF m 160 #[.val (.int pa), .val (.int pw), .val (.long qn), .second, .val (.int pf), .val (.long v5), .second, .val (.int v14), .val (.int v26), .val (.int v31), .val (.ref b1)] []))
  refine Go.st (fun _ k => XS.aload X62.here hx rfl (hb hby at_160) rfl rfl k) ?_
  show Go p.tables e below _ (T62.setTop (mkF m 162 #[.val (.int pa), .val (.int pw), .val (.long qn), .second, .val (.int pf), .val (.long v5), .second, .val (.int v14), .val (.int v26), .val (.int v31), .val (.ref b1)] [(.ref b1)]))
  refine Go.st (fun _ k => XS.iconst X62.here hx rfl (hb hby at_162) k) ?_
  show Go p.tables e below _ (T62.setTop (mkF m 163 #[.val (.int pa), .val (.int pw), .val (.long qn), .second, .val (.int pf), .val (.long v5), .second, .val (.int v14), .val (.int v26), .val (.int v31), .val (.ref b1)] [(.int (4 : Int32)), (.ref b1)]))
  refine Go.st (fun _ k => XS.iload X62.here hx rfl (hb hby at_163) rfl k) ?_
  show Go p.tables e below _ (T62.setTop (mkF m 165 #[.val (.int pa), .val (.int pw), .val (.long qn), .second, .val (.int pf), .val (.long v5), .second, .val (.int v14), .val (.int v26), .val (.int v31), .val (.ref b1)] [(.int v14), (.int (4 : Int32)), (.ref b1)]))
  refine Go.st (fun _ k => XS.iload X62.here hx rfl (hb hby at_165) rfl k) ?_
  show Go p.tables e below _ (T62.setTop (mkF m 167 #[.val (.int pa), .val (.int pw), .val (.long qn), .second, .val (.int pf), .val (.long v5), .second, .val (.int v14), .val (.int v26), .val (.int v31), .val (.ref b1)] [(.int v26), (.int v14), (.int (4 : Int32)), (.ref b1)]))
  refine Go.st (fun _ k => XS.lload X62.here hx rfl (hb hby at_167) rfl k) ?_
  show Go p.tables e below _ (T62.setTop (mkF m 169 #[.val (.int pa), .val (.int pw), .val (.long qn), .second, .val (.int pf), .val (.long v5), .second, .val (.int v14), .val (.int v26), .val (.int v31), .val (.ref b1)] [(.long v5), (.int v26), (.int v14), (.int (4 : Int32)), (.ref b1)]))
  refine Go.st (fun _ k => XS.iload X62.here hx rfl (hb hby at_169) rfl k) ?_
  show Go p.tables e below _ (T62.setTop (mkF m 171 #[.val (.int pa), .val (.int pw), .val (.long qn), .second, .val (.int pf), .val (.long v5), .second, .val (.int v14), .val (.int v26), .val (.int v31), .val (.ref b1)] [(.int v31), (.long v5), (.int v26), (.int v14), (.int (4 : Int32)), (.ref b1)]))
  obtain ⟨_, _, ⟨T63, L63, k63, n63⟩, -, X63, ⟨Lc63, hQ63, l63, y63, z63⟩, st63⟩ := Jvm.LawKit.callS X62 hx (y := (⟨"com/example/gapmend/gapmend/MessagePutDigitsPinLaw", "ok", "([BIIIJB)Z"⟩ : MethodName)) hown (mvT hZ (hw _ (List.mem_of_getElem? (i := 9) rfl))) (mvT hZ (hw _ (List.mem_of_getElem? (i := 10) rfl))) (mvT hZ (hw _ (List.mem_of_getElem? (i := 11) rfl))) (mvT hZ (hw _ (List.mem_of_getElem? (i := 12) rfl))) (by decide) (backOf (W := 0) (rm_ok l Z a0 hw [] b1 (4 : Int32) v14 v26 v5 v31 k1 (putD [v31, v31, v31, v31, v31, v31, v31, v31] v14.toNatClampNeg v26.toNatClampNeg v5) T55.heap n0 Z56 Fq55_0 (by show 0 ≤ (4 : Int32).toInt ∧ (4 : Int32).toInt < 8; exact (by decide))) hZ (hw _ (List.mem_of_getElem? (i := 12) rfl)) (hw _ (List.mem_of_getElem? (i := 11) rfl)) (by decide) (by decide)) (g := (mkF m 171 #[.val (.int pa), .val (.int pw), .val (.long qn), .second, .val (.int pf), .val (.long v5), .second, .val (.int v14), .val (.int v26), .val (.int v31), .val (.ref b1)] [(.int v31), (.long v5), (.int v26), (.int v14), (.int (4 : Int32)), (.ref b1)])) rfl (by rw [hml]; rfl) (argsL := [(.ref b1), (.int (4 : Int32)), (.int v14), (.int v26), (.long v5), (.int v31)]) (rest := []) (lenOf pd_2 rfl) rfl (by show 2 * 0 + _ ≤ _; exact Nat.le_of_eq rfl) (hb hby at_171) (fun _ _ => ⟨rfl, e62, (by decide : 1 + 0 ≤ _), (by decide : 8 + 0 ≤ _)⟩)
  dsimp only [Pt.U, Pt.locs, Pt.cells, Pt.slots] at X63 l63 y63 z63 st63 hQ63
  subst l63 y63 z63
  obtain ⟨rfl, N63q, e63⟩ := hQ63
  have N63 := Fr.app N62 N63q
  refine Go.st st63 ?_
  show Go p.tables e below _ (T63.setTop (mkF m 174 #[.val (.int pa), .val (.int pw), .val (.long qn), .second, .val (.int pf), .val (.long v5), .second, .val (.int v14), .val (.int v26), .val (.int v31), .val (.ref b1)] [(.int (okF (4 : Int32) v14 v26 v5 v31 ((putD [v31, v31, v31, v31, v31, v31, v31, v31] v14.toNatClampNeg v26.toNatClampNeg v5).getD (4 : Int32).toNatClampNeg 0)))]))
  have hc174 : ¬ ((okF (4 : Int32) v14 v26 v5 v31 ((putD [v31, v31, v31, v31, v31, v31, v31, v31] v14.toNatClampNeg v26.toNatClampNeg v5).getD (4 : Int32).toNatClampNeg 0)) = (0 : Int32)) := (by rw [own_ok (i := (4 : Int32)) (by decide) (own_at hqv14).1 (own_wd (own_at hqv14) hqv26).1 (own_wd (own_at hqv14) hqv26).2 (own_n hqv5) rfl own_all (nat_of (by decide)) (nat_of (own_nlt32 (own_at hqv14).1)) (nat_of (own_nlt32 (own_wd (own_at hqv14) hqv26).1))]; decide)
  refine Go.st (fun _ k => XS.ifNo X63.here hx rfl (hb hby at_174) rfl (Jvm.Free.XT.i0_eq_f hc174) k) ?_
  show Go p.tables e below _ (T63.setTop (mkF m 177 #[.val (.int pa), .val (.int pw), .val (.long qn), .second, .val (.int pf), .val (.long v5), .second, .val (.int v14), .val (.int v26), .val (.int v31), .val (.ref b1)] []))
  refine Go.st (fun _ k => XS.aload X63.here hx rfl (hb hby at_177) rfl rfl k) ?_
  show Go p.tables e below _ (T63.setTop (mkF m 179 #[.val (.int pa), .val (.int pw), .val (.long qn), .second, .val (.int pf), .val (.long v5), .second, .val (.int v14), .val (.int v26), .val (.int v31), .val (.ref b1)] [(.ref b1)]))
  refine Go.st (fun _ k => XS.iconst X63.here hx rfl (hb hby at_179) k) ?_
  show Go p.tables e below _ (T63.setTop (mkF m 180 #[.val (.int pa), .val (.int pw), .val (.long qn), .second, .val (.int pf), .val (.long v5), .second, .val (.int v14), .val (.int v26), .val (.int v31), .val (.ref b1)] [(.int (5 : Int32)), (.ref b1)]))
  refine Go.st (fun _ k => XS.iload X63.here hx rfl (hb hby at_180) rfl k) ?_
  show Go p.tables e below _ (T63.setTop (mkF m 182 #[.val (.int pa), .val (.int pw), .val (.long qn), .second, .val (.int pf), .val (.long v5), .second, .val (.int v14), .val (.int v26), .val (.int v31), .val (.ref b1)] [(.int v14), (.int (5 : Int32)), (.ref b1)]))
  refine Go.st (fun _ k => XS.iload X63.here hx rfl (hb hby at_182) rfl k) ?_
  show Go p.tables e below _ (T63.setTop (mkF m 184 #[.val (.int pa), .val (.int pw), .val (.long qn), .second, .val (.int pf), .val (.long v5), .second, .val (.int v14), .val (.int v26), .val (.int v31), .val (.ref b1)] [(.int v26), (.int v14), (.int (5 : Int32)), (.ref b1)]))
  refine Go.st (fun _ k => XS.lload X63.here hx rfl (hb hby at_184) rfl k) ?_
  show Go p.tables e below _ (T63.setTop (mkF m 186 #[.val (.int pa), .val (.int pw), .val (.long qn), .second, .val (.int pf), .val (.long v5), .second, .val (.int v14), .val (.int v26), .val (.int v31), .val (.ref b1)] [(.long v5), (.int v26), (.int v14), (.int (5 : Int32)), (.ref b1)]))
  refine Go.st (fun _ k => XS.iload X63.here hx rfl (hb hby at_186) rfl k) ?_
  show Go p.tables e below _ (T63.setTop (mkF m 188 #[.val (.int pa), .val (.int pw), .val (.long qn), .second, .val (.int pf), .val (.long v5), .second, .val (.int v14), .val (.int v26), .val (.int v31), .val (.ref b1)] [(.int v31), (.long v5), (.int v26), (.int v14), (.int (5 : Int32)), (.ref b1)]))
  obtain ⟨_, _, ⟨T64, L64, k64, n64⟩, -, X64, ⟨Lc64, hQ64, l64, y64, z64⟩, st64⟩ := Jvm.LawKit.callS X63 hx (y := (⟨"com/example/gapmend/gapmend/MessagePutDigitsPinLaw", "ok", "([BIIIJB)Z"⟩ : MethodName)) hown (mvT hZ (hw _ (List.mem_of_getElem? (i := 9) rfl))) (mvT hZ (hw _ (List.mem_of_getElem? (i := 10) rfl))) (mvT hZ (hw _ (List.mem_of_getElem? (i := 11) rfl))) (mvT hZ (hw _ (List.mem_of_getElem? (i := 12) rfl))) (by decide) (backOf (W := 0) (rm_ok l Z a0 hw [] b1 (5 : Int32) v14 v26 v5 v31 k1 (putD [v31, v31, v31, v31, v31, v31, v31, v31] v14.toNatClampNeg v26.toNatClampNeg v5) T55.heap n0 Z56 Fq55_0 (by show 0 ≤ (5 : Int32).toInt ∧ (5 : Int32).toInt < 8; exact (by decide))) hZ (hw _ (List.mem_of_getElem? (i := 12) rfl)) (hw _ (List.mem_of_getElem? (i := 11) rfl)) (by decide) (by decide)) (g := (mkF m 188 #[.val (.int pa), .val (.int pw), .val (.long qn), .second, .val (.int pf), .val (.long v5), .second, .val (.int v14), .val (.int v26), .val (.int v31), .val (.ref b1)] [(.int v31), (.long v5), (.int v26), (.int v14), (.int (5 : Int32)), (.ref b1)])) rfl (by rw [hml]; rfl) (argsL := [(.ref b1), (.int (5 : Int32)), (.int v14), (.int v26), (.long v5), (.int v31)]) (rest := []) (lenOf pd_2 rfl) rfl (by show 2 * 0 + _ ≤ _; exact Nat.le_of_eq rfl) (hb hby at_188) (fun _ _ => ⟨rfl, e63, (by decide : 1 + 0 ≤ _), (by decide : 8 + 0 ≤ _)⟩)
  dsimp only [Pt.U, Pt.locs, Pt.cells, Pt.slots] at X64 l64 y64 z64 st64 hQ64
  subst l64 y64 z64
  obtain ⟨rfl, N64q, e64⟩ := hQ64
  have N64 := Fr.app N63 N64q
  refine Go.st st64 ?_
  show Go p.tables e below _ (T64.setTop (mkF m 191 #[.val (.int pa), .val (.int pw), .val (.long qn), .second, .val (.int pf), .val (.long v5), .second, .val (.int v14), .val (.int v26), .val (.int v31), .val (.ref b1)] [(.int (okF (5 : Int32) v14 v26 v5 v31 ((putD [v31, v31, v31, v31, v31, v31, v31, v31] v14.toNatClampNeg v26.toNatClampNeg v5).getD (5 : Int32).toNatClampNeg 0)))]))
  have hc191 : ¬ ((okF (5 : Int32) v14 v26 v5 v31 ((putD [v31, v31, v31, v31, v31, v31, v31, v31] v14.toNatClampNeg v26.toNatClampNeg v5).getD (5 : Int32).toNatClampNeg 0)) = (0 : Int32)) := (by rw [own_ok (i := (5 : Int32)) (by decide) (own_at hqv14).1 (own_wd (own_at hqv14) hqv26).1 (own_wd (own_at hqv14) hqv26).2 (own_n hqv5) rfl own_all (nat_of (by decide)) (nat_of (own_nlt32 (own_at hqv14).1)) (nat_of (own_nlt32 (own_wd (own_at hqv14) hqv26).1))]; decide)
  refine Go.st (fun _ k => XS.ifNo X64.here hx rfl (hb hby at_191) rfl (Jvm.Free.XT.i0_eq_f hc191) k) ?_
  show Go p.tables e below _ (T64.setTop (mkF m 194 #[.val (.int pa), .val (.int pw), .val (.long qn), .second, .val (.int pf), .val (.long v5), .second, .val (.int v14), .val (.int v26), .val (.int v31), .val (.ref b1)] []))
  refine Go.st (fun _ k => XS.aload X64.here hx rfl (hb hby at_194) rfl rfl k) ?_
  show Go p.tables e below _ (T64.setTop (mkF m 196 #[.val (.int pa), .val (.int pw), .val (.long qn), .second, .val (.int pf), .val (.long v5), .second, .val (.int v14), .val (.int v26), .val (.int v31), .val (.ref b1)] [(.ref b1)]))
  refine Go.st (fun _ k => XS.bipush X64.here hx rfl (hb hby at_196) k) ?_
  show Go p.tables e below _ (T64.setTop (mkF m 198 #[.val (.int pa), .val (.int pw), .val (.long qn), .second, .val (.int pf), .val (.long v5), .second, .val (.int v14), .val (.int v26), .val (.int v31), .val (.ref b1)] [(.int (6 : Int32)), (.ref b1)]))
  refine Go.st (fun _ k => XS.iload X64.here hx rfl (hb hby at_198) rfl k) ?_
  show Go p.tables e below _ (T64.setTop (mkF m 200 #[.val (.int pa), .val (.int pw), .val (.long qn), .second, .val (.int pf), .val (.long v5), .second, .val (.int v14), .val (.int v26), .val (.int v31), .val (.ref b1)] [(.int v14), (.int (6 : Int32)), (.ref b1)]))
  refine Go.st (fun _ k => XS.iload X64.here hx rfl (hb hby at_200) rfl k) ?_
  show Go p.tables e below _ (T64.setTop (mkF m 202 #[.val (.int pa), .val (.int pw), .val (.long qn), .second, .val (.int pf), .val (.long v5), .second, .val (.int v14), .val (.int v26), .val (.int v31), .val (.ref b1)] [(.int v26), (.int v14), (.int (6 : Int32)), (.ref b1)]))
  refine Go.st (fun _ k => XS.lload X64.here hx rfl (hb hby at_202) rfl k) ?_
  show Go p.tables e below _ (T64.setTop (mkF m 204 #[.val (.int pa), .val (.int pw), .val (.long qn), .second, .val (.int pf), .val (.long v5), .second, .val (.int v14), .val (.int v26), .val (.int v31), .val (.ref b1)] [(.long v5), (.int v26), (.int v14), (.int (6 : Int32)), (.ref b1)]))
  refine Go.st (fun _ k => XS.iload X64.here hx rfl (hb hby at_204) rfl k) ?_
  show Go p.tables e below _ (T64.setTop (mkF m 206 #[.val (.int pa), .val (.int pw), .val (.long qn), .second, .val (.int pf), .val (.long v5), .second, .val (.int v14), .val (.int v26), .val (.int v31), .val (.ref b1)] [(.int v31), (.long v5), (.int v26), (.int v14), (.int (6 : Int32)), (.ref b1)]))
  obtain ⟨_, _, ⟨T65, L65, k65, n65⟩, -, X65, ⟨Lc65, hQ65, l65, y65, z65⟩, st65⟩ := Jvm.LawKit.callS X64 hx (y := (⟨"com/example/gapmend/gapmend/MessagePutDigitsPinLaw", "ok", "([BIIIJB)Z"⟩ : MethodName)) hown (mvT hZ (hw _ (List.mem_of_getElem? (i := 9) rfl))) (mvT hZ (hw _ (List.mem_of_getElem? (i := 10) rfl))) (mvT hZ (hw _ (List.mem_of_getElem? (i := 11) rfl))) (mvT hZ (hw _ (List.mem_of_getElem? (i := 12) rfl))) (by decide) (backOf (W := 0) (rm_ok l Z a0 hw [] b1 (6 : Int32) v14 v26 v5 v31 k1 (putD [v31, v31, v31, v31, v31, v31, v31, v31] v14.toNatClampNeg v26.toNatClampNeg v5) T55.heap n0 Z56 Fq55_0 (by show 0 ≤ (6 : Int32).toInt ∧ (6 : Int32).toInt < 8; exact (by decide))) hZ (hw _ (List.mem_of_getElem? (i := 12) rfl)) (hw _ (List.mem_of_getElem? (i := 11) rfl)) (by decide) (by decide)) (g := (mkF m 206 #[.val (.int pa), .val (.int pw), .val (.long qn), .second, .val (.int pf), .val (.long v5), .second, .val (.int v14), .val (.int v26), .val (.int v31), .val (.ref b1)] [(.int v31), (.long v5), (.int v26), (.int v14), (.int (6 : Int32)), (.ref b1)])) rfl (by rw [hml]; rfl) (argsL := [(.ref b1), (.int (6 : Int32)), (.int v14), (.int v26), (.long v5), (.int v31)]) (rest := []) (lenOf pd_2 rfl) rfl (by show 2 * 0 + _ ≤ _; exact Nat.le_of_eq rfl) (hb hby at_206) (fun _ _ => ⟨rfl, e64, (by decide : 1 + 0 ≤ _), (by decide : 8 + 0 ≤ _)⟩)
  dsimp only [Pt.U, Pt.locs, Pt.cells, Pt.slots] at X65 l65 y65 z65 st65 hQ65
  subst l65 y65 z65
  obtain ⟨rfl, N65q, e65⟩ := hQ65
  have N65 := Fr.app N64 N65q
  refine Go.st st65 ?_
  show Go p.tables e below _ (T65.setTop (mkF m 209 #[.val (.int pa), .val (.int pw), .val (.long qn), .second, .val (.int pf), .val (.long v5), .second, .val (.int v14), .val (.int v26), .val (.int v31), .val (.ref b1)] [(.int (okF (6 : Int32) v14 v26 v5 v31 ((putD [v31, v31, v31, v31, v31, v31, v31, v31] v14.toNatClampNeg v26.toNatClampNeg v5).getD (6 : Int32).toNatClampNeg 0)))]))
  have hc209 : ¬ ((okF (6 : Int32) v14 v26 v5 v31 ((putD [v31, v31, v31, v31, v31, v31, v31, v31] v14.toNatClampNeg v26.toNatClampNeg v5).getD (6 : Int32).toNatClampNeg 0)) = (0 : Int32)) := (by rw [own_ok (i := (6 : Int32)) (by decide) (own_at hqv14).1 (own_wd (own_at hqv14) hqv26).1 (own_wd (own_at hqv14) hqv26).2 (own_n hqv5) rfl own_all (nat_of (by decide)) (nat_of (own_nlt32 (own_at hqv14).1)) (nat_of (own_nlt32 (own_wd (own_at hqv14) hqv26).1))]; decide)
  refine Go.st (fun _ k => XS.ifNo X65.here hx rfl (hb hby at_209) rfl (Jvm.Free.XT.i0_eq_f hc209) k) ?_
  show Go p.tables e below _ (T65.setTop (mkF m 212 #[.val (.int pa), .val (.int pw), .val (.long qn), .second, .val (.int pf), .val (.long v5), .second, .val (.int v14), .val (.int v26), .val (.int v31), .val (.ref b1)] []))
  refine Go.st (fun _ k => XS.aload X65.here hx rfl (hb hby at_212) rfl rfl k) ?_
  show Go p.tables e below _ (T65.setTop (mkF m 214 #[.val (.int pa), .val (.int pw), .val (.long qn), .second, .val (.int pf), .val (.long v5), .second, .val (.int v14), .val (.int v26), .val (.int v31), .val (.ref b1)] [(.ref b1)]))
  refine Go.st (fun _ k => XS.bipush X65.here hx rfl (hb hby at_214) k) ?_
  show Go p.tables e below _ (T65.setTop (mkF m 216 #[.val (.int pa), .val (.int pw), .val (.long qn), .second, .val (.int pf), .val (.long v5), .second, .val (.int v14), .val (.int v26), .val (.int v31), .val (.ref b1)] [(.int (7 : Int32)), (.ref b1)]))
  refine Go.st (fun _ k => XS.iload X65.here hx rfl (hb hby at_216) rfl k) ?_
  show Go p.tables e below _ (T65.setTop (mkF m 218 #[.val (.int pa), .val (.int pw), .val (.long qn), .second, .val (.int pf), .val (.long v5), .second, .val (.int v14), .val (.int v26), .val (.int v31), .val (.ref b1)] [(.int v14), (.int (7 : Int32)), (.ref b1)]))
  refine Go.st (fun _ k => XS.iload X65.here hx rfl (hb hby at_218) rfl k) ?_
  show Go p.tables e below _ (T65.setTop (mkF m 220 #[.val (.int pa), .val (.int pw), .val (.long qn), .second, .val (.int pf), .val (.long v5), .second, .val (.int v14), .val (.int v26), .val (.int v31), .val (.ref b1)] [(.int v26), (.int v14), (.int (7 : Int32)), (.ref b1)]))
  refine Go.st (fun _ k => XS.lload X65.here hx rfl (hb hby at_220) rfl k) ?_
  show Go p.tables e below _ (T65.setTop (mkF m 222 #[.val (.int pa), .val (.int pw), .val (.long qn), .second, .val (.int pf), .val (.long v5), .second, .val (.int v14), .val (.int v26), .val (.int v31), .val (.ref b1)] [(.long v5), (.int v26), (.int v14), (.int (7 : Int32)), (.ref b1)]))
  refine Go.st (fun _ k => XS.iload X65.here hx rfl (hb hby at_222) rfl k) ?_
  show Go p.tables e below _ (T65.setTop (mkF m 224 #[.val (.int pa), .val (.int pw), .val (.long qn), .second, .val (.int pf), .val (.long v5), .second, .val (.int v14), .val (.int v26), .val (.int v31), .val (.ref b1)] [(.int v31), (.long v5), (.int v26), (.int v14), (.int (7 : Int32)), (.ref b1)]))
  obtain ⟨_, _, ⟨T66, L66, k66, n66⟩, -, X66, ⟨Lc66, hQ66, l66, y66, z66⟩, st66⟩ := Jvm.LawKit.callS X65 hx (y := (⟨"com/example/gapmend/gapmend/MessagePutDigitsPinLaw", "ok", "([BIIIJB)Z"⟩ : MethodName)) hown (mvT hZ (hw _ (List.mem_of_getElem? (i := 9) rfl))) (mvT hZ (hw _ (List.mem_of_getElem? (i := 10) rfl))) (mvT hZ (hw _ (List.mem_of_getElem? (i := 11) rfl))) (mvT hZ (hw _ (List.mem_of_getElem? (i := 12) rfl))) (by decide) (backOf (W := 0) (rm_ok l Z a0 hw [] b1 (7 : Int32) v14 v26 v5 v31 k1 (putD [v31, v31, v31, v31, v31, v31, v31, v31] v14.toNatClampNeg v26.toNatClampNeg v5) T55.heap n0 Z56 Fq55_0 (by show 0 ≤ (7 : Int32).toInt ∧ (7 : Int32).toInt < 8; exact (by decide))) hZ (hw _ (List.mem_of_getElem? (i := 12) rfl)) (hw _ (List.mem_of_getElem? (i := 11) rfl)) (by decide) (by decide)) (g := (mkF m 224 #[.val (.int pa), .val (.int pw), .val (.long qn), .second, .val (.int pf), .val (.long v5), .second, .val (.int v14), .val (.int v26), .val (.int v31), .val (.ref b1)] [(.int v31), (.long v5), (.int v26), (.int v14), (.int (7 : Int32)), (.ref b1)])) rfl (by rw [hml]; rfl) (argsL := [(.ref b1), (.int (7 : Int32)), (.int v14), (.int v26), (.long v5), (.int v31)]) (rest := []) (lenOf pd_2 rfl) rfl (by show 2 * 0 + _ ≤ _; exact Nat.le_of_eq rfl) (hb hby at_224) (fun _ _ => ⟨rfl, e65, (by decide : 1 + 0 ≤ _), (by decide : 8 + 0 ≤ _)⟩)
  dsimp only [Pt.U, Pt.locs, Pt.cells, Pt.slots] at X66 l66 y66 z66 st66 hQ66
  subst l66 y66 z66
  obtain ⟨rfl, N66q, e66⟩ := hQ66
  have N66 := Fr.app N65 N66q
  refine Go.st st66 ?_
  show Go p.tables e below _ (T66.setTop (mkF m 227 #[.val (.int pa), .val (.int pw), .val (.long qn), .second, .val (.int pf), .val (.long v5), .second, .val (.int v14), .val (.int v26), .val (.int v31), .val (.ref b1)] [(.int (okF (7 : Int32) v14 v26 v5 v31 ((putD [v31, v31, v31, v31, v31, v31, v31, v31] v14.toNatClampNeg v26.toNatClampNeg v5).getD (7 : Int32).toNatClampNeg 0)))]))
  have hc227 : ¬ ((okF (7 : Int32) v14 v26 v5 v31 ((putD [v31, v31, v31, v31, v31, v31, v31, v31] v14.toNatClampNeg v26.toNatClampNeg v5).getD (7 : Int32).toNatClampNeg 0)) = (0 : Int32)) := (by rw [own_ok (i := (7 : Int32)) (by decide) (own_at hqv14).1 (own_wd (own_at hqv14) hqv26).1 (own_wd (own_at hqv14) hqv26).2 (own_n hqv5) rfl own_all (nat_of (by decide)) (nat_of (own_nlt32 (own_at hqv14).1)) (nat_of (own_nlt32 (own_wd (own_at hqv14) hqv26).1))]; decide)
  refine Go.st (fun _ k => XS.ifNo X66.here hx rfl (hb hby at_227) rfl (Jvm.Free.XT.i0_eq_f hc227) k) ?_
  show Go p.tables e below _ (T66.setTop (mkF m 230 #[.val (.int pa), .val (.int pw), .val (.long qn), .second, .val (.int pf), .val (.long v5), .second, .val (.int v14), .val (.int v26), .val (.int v31), .val (.ref b1)] []))
  refine Go.st (fun _ k => XS.iconst X66.here hx rfl (hb hby at_230) k) ?_
  show Go p.tables e below _ (T66.setTop (mkF m 231 #[.val (.int pa), .val (.int pw), .val (.long qn), .second, .val (.int pf), .val (.long v5), .second, .val (.int v14), .val (.int v26), .val (.int v31), .val (.ref b1)] [(.int (1 : Int32))]))
  refine Go.st (fun _ k => XS.goto X66.here hx rfl (pc0 := 231) (pc' := 235) rfl (hb hby at_231) (by decide) (by decide) k) ?_
  show Go p.tables e below _ (T66.setTop (mkF m 235 #[.val (.int pa), .val (.int pw), .val (.long qn), .second, .val (.int pf), .val (.long v5), .second, .val (.int v14), .val (.int v26), .val (.int v31), .val (.ref b1)] [(.int (1 : Int32))]))
  subst hG
  obtain ⟨fs, hr, hrun, hended, hW, hsame⟩ := X66.leave (v := some (.int (nar .boolean (1 : Int32)))) (fun h => by rw [Bd.returns] at h; cases h)
  refine ⟨_, _, ?_, hrun, hended, _, _, rfl, ?_, ⟨_, rfl⟩, hW, hsame.mono (by decide) (by decide)⟩
  · exact retN X66 hx (t := .boolean) Bd.returns (by simp) (hb hby at_235) hr
  · show Q_law Z pa pw qn pf h0 n0 _ T66.heap _
    rw [e66]
    exact ⟨rfl, N66, K57⟩
set_option maxRecDepth 65536 in
set_option maxHeartbeats 40000000 in
theorem comes_1 {Post : Tables → Env → Array Value → State → Outcome → State → Prop} (hpost : ∀ tb e args s v u, (limb_1_1.after args s (.returned v) u = true ∧ limb_1_2.after args s (.returned v) u = true ∧ True) → FrameEnd s (.returned v) u (Jvm.fieldLocs frame_1_writes args s ++ Jvm.arrayLocs frame_1_arrays args s ++ Jvm.staticLocs frame_1_statics s) 16 128 → Post tb e args s (.returned v) u) :
    ArmFor flags0 classFile x code maxLocals ret World_1 tables_1 room_1 Calls_1 rest_1 Pre_1 Post := by
  intro l hfl _ _ p e ha hc hk s m args below hf hA hF happ hP
  obtain ⟨hcalls, hrest, hpre⟩ := hP
  obtain ⟨-, -, -, hnamed, -, -, -, hat⟩ := (Spec.applies_iff hf).mp happ
  obtain ⟨hg, hn⟩ := and_e (Cond.before_iff.mp (show (Jvm.Cond.and given_1 narrow_1).before args s = true from hpre))
  obtain ⟨hcount, hg0⟩ := and_e hg
  obtain ⟨hv0, hg1⟩ := and_e hg0
  obtain ⟨hv1, hg2⟩ := and_e hg1
  obtain ⟨hv2, hg3⟩ := and_e hg2
  obtain ⟨w0, w1, w2, w3, rfl⟩ : ∃ w0 w1 w2 w3 : Value, args = #[w0, w1, w2, w3] := by
    have hs : args.size = 4 := by simpa [Cond.value, given_1] using hcount
    obtain ⟨L⟩ := args
    match L, hs with
    | [w0, w1, w2, w3], _ => exact ⟨w0, w1, w2, w3, rfl⟩
  have hw := fun d (hd : d ∈ tables_1) => atoms_spec (ws := Jvm.Cond.code x code maxLocals ret :: tables_1) hat d (List.mem_cons_of_mem _ hd)
  have hfit : Fit s := fun {y c} hc i hi => by
    obtain ⟨ha, rfl⟩ := Array.getElem?_eq_some_iff.mp hc
    have q := List.all_eq_true.mp ((Array.all_eq_true_iff_forall_mem.mp hF) _ (Array.getElem_mem ha)) i (List.mem_range.mpr hi)
    simpa [Array.getElem?_eq_getElem hi] using q
  obtain ⟨i0, ei0⟩ := is_v hv0
  obtain rfl : w0 = (.int i0) := Option.some.inj ei0
  obtain ⟨i1, ei1⟩ := is_v hv1
  obtain rfl : w1 = (.int i1) := Option.some.inj ei1
  obtain ⟨i2, ei2⟩ := isL_v hv2
  obtain rfl : w2 = (.long i2) := Option.some.inj ei2
  obtain ⟨i3, ei3⟩ := is_v hg3
  obtain rfl : w3 = (.int i3) := Option.some.inj ei3
  obtain ⟨n, o, h1, h2, h3, _, L, rfl, ⟨rfl, N, -⟩, hq⟩ := rm_law l s _ hw tables_1 i0 i1 i2 i3 s.heap s.heap.size (Nat.le_refl _)  p e ha hc hk s m _ below hf ((Spec.applies_iff_loose hf).mp happ).1 ⟨rfl, State.Warmed39.refl s, rfl⟩ trivial
  refine ⟨n, _, h1, h2, h3, hpost _ _ _ _ _ _ ⟨Cond.after_iff.mpr rfl, Cond.after_iff.mpr (eq_i res_at (Term.int_eval (1)) rfl), trivial⟩ ⟨hq.1, hq.2.1, (hq.2.2.sift fun y hy => Or.inr (N y hy)).mono (by decide) (by decide)⟩⟩
theorem main_1_1 : Claimed_1_1 := comes_1 fun _ _ _ _ _ _ h hF => ⟨h.1, hF⟩
theorem main_1_2 : Claimed_1_2 := comes_1 fun _ _ _ _ _ _ h hF => ⟨h.2.1, hF⟩
end Jvm.Pilot.@@N@@
namespace Jvm.Pilot.@@N@@
open Jvm Jvm.ClassFile Sem Op Lib Jvm.Free Jvm.Stand Jvm.Pilot.@@N@@.Jvm.D
/-! MADE BY PROGRAM (witnessworld.py) out of the Statement's table words and the real class files: 9 classes; the members and pool entries that the words name. The judged class is class 1, her method 1. -/
namespace start1
open Jvm.ClassFile
def u (s : String) : CpInfo := .utf8 (stringToUtf16 s)
/-- a pool by its gaps: so many unusable entries, then the entry; so many at the end -/
def gap : Nat → List CpInfo → List CpInfo
  | 0, r => r
  | n + 1, r => .unusable :: gap n r
def poolList (es : List (Nat × CpInfo)) (last : Nat) : List CpInfo := es.foldr (fun e r => gap e.1 (e.2 :: r)) (gap last [])
def pool (es : List (Nat × CpInfo)) (last : Nat) : Array CpInfo := ⟨poolList es last⟩
def fileOf (pool : Array CpInfo) (this : Nat) (attrs : Array Attribute := #[]) (ms : Array MethodInfo := #[]) (fl : Nat := 33) (sup : Nat := 0) (ifs : Array Nat := #[]) (fds : Array FieldInfo := #[]) : ClassFile where
  minorVersion := 0
  majorVersion := 65
  constantPool := pool
  accessFlags := fl
  thisClass := this
  superClass := sup
  interfaces := ifs
  fields := fds
  methods := ms
  attributes := attrs
def plain (name : String) (sup : Option ClassId) : Class where
  name := name
  kind := .ordinary
  loader := none
  accessFlags := 33
  super := sup
  interfaces := #[]
  cf := none
  fields := #[]
  methods := #[]
  instanceTypes := #[]
  staticTypes := #[]
  resolved := #[]
  callSites := []
  init := .initialized
  statics := none
  mirror := none

def pool0 : Array CpInfo := pool [(5, u "<init>"), (0, u "()V"), (1, .class_ 10), (1, u "java/lang/Object")] 113

def k0m0 : Method := { name := "<init>", desc := "()V", sig := { parameters := [], returnType := none }, accessFlags := 1, code := none }
/-- java/lang/Object -/
def k0 : Class := { plain "java/lang/Object" none with
  accessFlags := 33
  interfaces := #[]
  cf := some (fileOf pool0 8 #[] #[{ accessFlags := 1, nameIndex := 5, descriptorIndex := 6, attributes := #[] }] 33 0 #[] #[])
  fields := #[]
  methods := #[k0m0]
  instanceTypes := #[]
  staticTypes := #[]
  resolved := Array.replicate 124 none
  statics := none }

def pool1 : Array CpInfo := pool [(2, .class_ 4), (1, u "java/lang/Object"), (0, u "<init>"), (0, u "()V"), (2, .long 9223372036854775807), (1, .integer 2147483647), (0, .methodref 13 14), (0, .class_ 15), (0, .nameAndType 16 17), (0, u "com/example/gapmend/gapmend/Message"), (0, u "putDigits"), (0, u "([BIIJ)V"), (0, .methodref 19 20), (0, .class_ 21), (0, .nameAndType 22 23), (0, u "com/example/gapmend/gapmend/MessagePutDigitsPinLaw"), (0, u "ok"), (0, u "([BIIIJB)Z"), (0, .long 48), (1, .methodref 19 27), (0, .nameAndType 28 29), (0, u "pow10"), (0, u "(I)J"), (0, .long 10), (1, .long 100), (1, .long 1000), (1, .long 10000), (1, .long 100000), (1, .long 1000000), (1, .long 10000000), (3, u "law"), (0, u "(IIJI)Z")] 5

def k1m0 : Method := { name := "<init>", desc := "()V", sig := { parameters := [], returnType := none }, accessFlags := 1, code := none }
def k1c1 : Code := { maxStack := 7, maxLocals := 11, code := code, exceptionTable := #[], attributes := #[] }
def k1m1 : Method := { name := "law", desc := "(IIJI)Z", sig := { parameters := [.int, .int, .long, .int], returnType := some .boolean }, accessFlags := 9, code := some k1c1 }
def k1c2 : Code := { maxStack := 7, maxLocals := 8, code := method_3_code, exceptionTable := #[], attributes := #[] }
def k1m2 : Method := { name := "ok", desc := "([BIIIJB)Z", sig := { parameters := [(.array .byte), .int, .int, .int, .long, .byte], returnType := some .boolean }, accessFlags := 10, code := some k1c2 }
def k1c3 : Code := { maxStack := 2, maxLocals := 1, code := method_4_code, exceptionTable := #[], attributes := #[] }
def k1m3 : Method := { name := "pow10", desc := "(I)J", sig := { parameters := [.int], returnType := some .long }, accessFlags := 10, code := some k1c3 }
/-- com/example/gapmend/gapmend/MessagePutDigitsPinLaw -/
def k1 : Class := { plain "com/example/gapmend/gapmend/MessagePutDigitsPinLaw" (some 0) with
  accessFlags := 49
  interfaces := #[]
  cf := some (fileOf pool1 19 #[] #[{ accessFlags := 1, nameIndex := 5, descriptorIndex := 6, attributes := #[] }, { accessFlags := 9, nameIndex := 46, descriptorIndex := 47, attributes := #[] }, { accessFlags := 10, nameIndex := 22, descriptorIndex := 23, attributes := #[] }, { accessFlags := 10, nameIndex := 28, descriptorIndex := 29, attributes := #[] }] 49 2 #[] #[])
  fields := #[]
  methods := #[k1m0, k1m1, k1m2, k1m3]
  instanceTypes := #[]
  staticTypes := #[]
  resolved := Array.replicate 53 none
  statics := none }

def pool2 : Array CpInfo := pool [(2, .class_ 4), (1, u "java/lang/Object"), (3, .class_ 10), (1, u "com/example/gapmend/gapmend/Message"), (0, u "frame"), (0, u "[B"), (8, u "fields"), (0, u "Ljava/util/List;"), (94, u "putDigits"), (0, u "([BIIJ)V"), (4, .long 48), (1, .long 10), (43, u "CHECK_SUM_FIELD_LENGTH"), (0, u "I")] 41

def k2c0 : Code := { maxStack := 8, maxLocals := 8, code := prog_18_method_5_code, exceptionTable := #[], attributes := #[] }
def k2m0 : Method := { name := "putDigits", desc := "([BIIJ)V", sig := { parameters := [(.array .byte), .int, .int, .long], returnType := none }, accessFlags := 8, code := some k2c0 }
/-- com/example/gapmend/gapmend/Message -/
def k2 : Class := { plain "com/example/gapmend/gapmend/Message" (some 0) with
  accessFlags := 33
  interfaces := #[]
  cf := some (fileOf pool2 8 #[] #[{ accessFlags := 8, nameIndex := 117, descriptorIndex := 118, attributes := #[] }] 33 2 #[] #[{ accessFlags := 24, nameIndex := 169, descriptorIndex := 170, attributes := #[] }, { accessFlags := 18, nameIndex := 11, descriptorIndex := 12, attributes := #[] }, { accessFlags := 18, nameIndex := 21, descriptorIndex := 22, attributes := #[] }])
  fields := #[{ name := "CHECK_SUM_FIELD_LENGTH", type := .int, accessFlags := 24, slot := 0, constantValue := 0 }, { name := "frame", type := (.array .byte), accessFlags := 18, slot := 0, constantValue := 0 }, { name := "fields", type := (.object "java/util/List"), accessFlags := 18, slot := 1, constantValue := 0 }]
  methods := #[k2m0]
  instanceTypes := #[(.array .byte), (.object "java/util/List")]
  staticTypes := #[.int]
  resolved := Array.replicate 212 none
  statics := none }

def pool3 : Array CpInfo := pool [(1, u "java/lang/Cloneable"), (0, .class_ 1), (0, u "java/lang/Object"), (0, .class_ 3)] 3

/-- java/lang/Cloneable -/
def k3 : Class := { plain "java/lang/Cloneable" (some 0) with
  accessFlags := 1537
  interfaces := #[]
  cf := some (fileOf pool3 2 #[] #[] 1537 4 #[] #[])
  fields := #[]
  methods := #[]
  instanceTypes := #[]
  staticTypes := #[]
  resolved := Array.replicate 8 none
  statics := none }

def pool4 : Array CpInfo := pool [(1, u "java/io/Serializable"), (0, .class_ 1), (0, u "java/lang/Object"), (0, .class_ 3)] 3

/-- java/io/Serializable -/
def k4 : Class := { plain "java/io/Serializable" (some 0) with
  accessFlags := 1537
  interfaces := #[]
  cf := some (fileOf pool4 2 #[] #[] 1537 4 #[] #[])
  fields := #[]
  methods := #[]
  instanceTypes := #[]
  staticTypes := #[]
  resolved := Array.replicate 8 none
  statics := none }

/-- the primitive byte -/
def k5 : Class := { plain "byte" none with kind := .primitive 'B', accessFlags := 0x411 }
/-- [B -/
def k6 : Class := { plain "[B" (some 0) with kind := .array 5 .byte, interfaces := #[3, 4], accessFlags := 1041 }

/-- the primitive int -/
def k7 : Class := { plain "int" none with kind := .primitive 'I', accessFlags := 0x411 }
/-- [I -/
def k8 : Class := { plain "[I" (some 0) with kind := .array 7 .int, interfaces := #[3, 4], accessFlags := 1041 }

def heap : Heap := #[]
def classes : Array Class := #[k0, k1, k2, k3, k4, k5, k6, k7, k8]
def interned : List (Array UInt16 × Addr) := []
def slotsUsed : Nat := 0
def theMethod : MethodId := ⟨1, 1⟩
def args0 : Array Value := #[.int 5, .int 7, .long 300, .int 9]
def aboutOver (below : List Frame) : State where
  vm := { classes := classes, interned := interned.toArray }
  heap := heap
  slotsUsed := slotsUsed
  threads := #[{ frames := .invoking theMethod args0 :: below }]
def below0 : List Frame := [.native { method := ⟨0, 0⟩, args := #[] }]
def about1 : State := aboutOver below0
def p0 : Program := .bare "" "" ""
def e0 : Env := launch0.env 0 0 0
theorem w_frames : about1.frames = Frame.invoking theMethod args0 :: below0 := rfl
set_option maxRecDepth 65536 in
theorem w_args : argsFit about1.vm theMethod args0 = true := by decide +kernel
set_option maxRecDepth 65536 in
theorem w_heap : heapFits about1 = true := by decide +kernel
set_option maxRecDepth 65536 in
theorem w_runnable : about1.curStatus? = some .runnable := by decide +kernel
set_option maxRecDepth 65536 in
theorem w_alone : about1.alone = true := by decide +kernel
set_option maxRecDepth 65536 in
theorem w_named : about1.methodNamed? x = some theMethod := by decide +kernel
set_option maxRecDepth 65536 in
theorem w_hears : about1.hears theMethod below0 = true := by decide +kernel
set_option maxRecDepth 65536 in
theorem w_ripe : about1.ripe theMethod args0 below0 = true := by decide +kernel
theorem w_running : about1.status = .running := rfl
set_option maxRecDepth 65536 in
theorem w_room : about1.hasRoom e0.platform room_1 = true :=
  launch0.hasRoom_least _ room_1 (by decide +kernel) (by decide +kernel) (by decide +kernel) (by decide +kernel) (by decide +kernel) (by decide +kernel)
theorem allAtoms_all (ts : List Jvm.Cond) (a : Array Jvm.Value) (st : Jvm.State) : (allAtoms ts).before a st = ts.all (fun c => c.before a st) := by
  induction ts with
  | nil => rfl
  | cons c t ih =>
    show (Jvm.Cond.and c (allAtoms t)).before a st = _
    rw [Jvm.Cond.before_and, ih, List.all_cons]
def words1 : List Jvm.Cond := Jvm.Cond.code x code maxLocals ret :: tables_1
/-- a 'code' word, met by the world's own term for the bytes: nothing is compared byte by byte -/
theorem code_word {y : MethodName} {bytes : ByteArray} {mx : Nat} {rt : Option FieldType} {a : Array Value} {s : State} {m : MethodId} {meth : Method} {c : Code} (h1 : s.methodNamed? y = some m) (h2 : s.vm.method? m = some meth) (h3 : meth.code = some c) (h4 : c.code = bytes)
    (h5 : (c.maxLocals == mx && c.exceptionTable.isEmpty && decide (c.maxStack ≤ mostOperands) && decide (meth.sig.returnType = rt) && !meth.locks && decide (parseMethodDescriptor y.desc = some meth.sig)) = true) : (Jvm.Cond.code y bytes mx rt).before a s = true := by
  simp only [Bool.and_eq_true, beq_iff_eq, Bool.not_eq_true', decide_eq_true_eq] at h5
  obtain ⟨⟨⟨⟨⟨g1, g2⟩, g3⟩, g4⟩, g5⟩, g6⟩ := h5
  simp [Cond.before, Cond.holds, Cond.value, h1, h2, h3, h4, g1, g2, g3, g4, g5, g6]
def isCode : Jvm.Cond → Bool
  | .code _ _ _ _ => true
  | _ => false
theorem all_split {L : List Jvm.Cond} {P : Jvm.Cond → Bool} (h1 : L.all (fun c => isCode c || P c) = true) (h2 : ∀ c ∈ L.filter isCode, P c = true) : L.all P = true := by
  refine List.all_eq_true.mpr fun c hc => ?_
  have h := List.all_eq_true.mp h1 c hc
  rcases Bool.eq_false_or_eq_true (isCode c) with hi | hi
  · exact h2 c (List.mem_filter.mpr ⟨hc, hi⟩)
  · simpa [hi] using h
set_option maxRecDepth 65536 in
theorem w_c0 : (Jvm.Cond.code x code maxLocals ret).before args0 about1 = true := code_word (m := ⟨1, 1⟩) (meth := k1m1) (c := k1c1) (by decide +kernel) rfl rfl rfl (by decide +kernel)
set_option maxRecDepth 65536 in
theorem w_c1 : (Jvm.Cond.code ({ cls := "com/example/gapmend/gapmend/Message", name := "putDigits", desc := "([BIIJ)V" } : Jvm.MethodName) prog_18_method_5_code (8 : Nat) (Option.none : Option Jvm.ClassFile.FieldType)).before args0 about1 = true := code_word (m := ⟨2, 0⟩) (meth := k2m0) (c := k2c0) (by decide +kernel) rfl rfl rfl (by decide +kernel)
set_option maxRecDepth 65536 in
theorem w_c2 : (Jvm.Cond.code ({ cls := "com/example/gapmend/gapmend/MessagePutDigitsPinLaw", name := "ok", desc := "([BIIIJB)Z" } : Jvm.MethodName) method_3_code (8 : Nat) (Option.some Jvm.ClassFile.FieldType.boolean)).before args0 about1 = true := code_word (m := ⟨1, 2⟩) (meth := k1m2) (c := k1c2) (by decide +kernel) rfl rfl rfl (by decide +kernel)
set_option maxRecDepth 65536 in
theorem w_c3 : (Jvm.Cond.code ({ cls := "com/example/gapmend/gapmend/MessagePutDigitsPinLaw", name := "pow10", desc := "(I)J" } : Jvm.MethodName) method_4_code (1 : Nat) (Option.some Jvm.ClassFile.FieldType.long)).before args0 about1 = true := code_word (m := ⟨1, 3⟩) (meth := k1m3) (c := k1c3) (by decide +kernel) rfl rfl rfl (by decide +kernel)
def codes1 : List Jvm.Cond := [Jvm.Cond.code x code maxLocals ret, Jvm.Cond.code ({ cls := "com/example/gapmend/gapmend/Message", name := "putDigits", desc := "([BIIJ)V" } : Jvm.MethodName) prog_18_method_5_code (8 : Nat) (Option.none : Option Jvm.ClassFile.FieldType), Jvm.Cond.code ({ cls := "com/example/gapmend/gapmend/MessagePutDigitsPinLaw", name := "ok", desc := "([BIIIJB)Z" } : Jvm.MethodName) method_3_code (8 : Nat) (Option.some Jvm.ClassFile.FieldType.boolean), Jvm.Cond.code ({ cls := "com/example/gapmend/gapmend/MessagePutDigitsPinLaw", name := "pow10", desc := "(I)J" } : Jvm.MethodName) method_4_code (1 : Nat) (Option.some Jvm.ClassFile.FieldType.long)]
set_option maxRecDepth 65536 in
theorem codes_eq : words1.filter isCode = codes1 := rfl
theorem w_codes : ∀ c ∈ words1.filter isCode, c.before args0 about1 = true := by
  rw [codes_eq]
  intro c hc
  simp only [codes1, List.mem_cons, List.not_mem_nil, or_false] at hc
  rcases hc with rfl | rfl | rfl | rfl
  · exact w_c0
  · exact w_c1
  · exact w_c2
  · exact w_c3
set_option maxRecDepth 65536 in
theorem w_t1 : (words1.take 24).all (fun c => isCode c || c.before args0 about1) = true := by decide +kernel
set_option maxRecDepth 65536 in
theorem w_t2 : (words1.drop 24).all (fun c => isCode c || c.before args0 about1) = true := by decide +kernel
theorem w_tables : (allAtoms (Jvm.Cond.code x code maxLocals ret :: tables_1)).before args0 about1 = true := by
  rw [allAtoms_all]
  show words1.all (fun c => c.before args0 about1) = true
  refine all_split ?_ w_codes
  rw [← List.take_append_drop 24 words1, List.all_append, w_t1, w_t2]
  rfl
set_option maxRecDepth 65536 in
theorem w_case : (Jvm.Cond.and given_1 narrow_1).before args0 about1 = true := by decide +kernel
theorem w_applies : (headSpec (Jvm.Cond.code x code maxLocals ret :: tables_1) room_1).applies x e0.platform about1 = true :=
  (Spec.applies_iff w_frames).mpr ⟨w_running, w_runnable, w_alone, w_named, w_hears, w_ripe, w_room, w_tables⟩
theorem atStart : AtStart classFile x code maxLocals ret World_1 tables_1 room_1 Calls_1 rest_1 Pre_1 launch0 p0 e0 about1 theMethod args0 below0 :=
  ⟨lists_1, trivial, launch0.admits_env _ _ _, launch0.least_env, fairChoices_fair.cas, fairChoices_fair.clock, w_frames, w_args, w_heap, w_applies, trivial, trivial, w_case⟩
end start1
theorem witness_1 : WitnessClaimed_1 := ⟨start1.p0, start1.e0, start1.about1, start1.theMethod, start1.args0, start1.below0, start1.atStart⟩
end Jvm.Pilot.@@N@@
