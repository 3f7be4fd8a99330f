import JvmDerived
import JvmDerived.Pilot.@@N@@Statement
import JvmDerived.Pilot.@@N@@Code
set_option linter.unusedVariables false
set_option linter.unusedSimpArgs false
@@BLOCK:NumsL.lean.txt@@
namespace Jvm.RoadKit
open Sem ClassFile Op Lib Jvm.Stand Jvm.Free Jvm.LawKit
section New
variable {p : Program} {l : Launch} {e : Env} {R : Room} {s : State} {m : MethodId} {args : Array Value} {below : List Frame} {meth : Method} {c : Code} {T : State} {locs : List Loc} {cells slots : Nat}
theorem retI (X : Stand p l e R s m args below meth c T locs cells slots) (hx : p.tables.exec = Jvm.exec) {pc : Nat} {Ls : Array Slot} {z : Int32} {rest : List Value} (hret : meth.sig.returnType = some .int) (hd : decode c.code pc = .ok (.ireturn, 1)) {fs : List Frame}
    (hl : ∀ (f : JFrame) (acts : List Action), f.method = m → f.locked = none → f.entered = [] → (doReturn e (T.setTop f) acts (some (.int z))).1 = T.setFrames fs) : Steps p.tables e below (T.setTop (mkF m pc Ls (.int z :: rest))) (T.setFrames fs) := by
  have hm' : T.vm.method? m = some meth := X.method'
  have hn : narrow .int (.int z) = .int z := rfl
  show Steps p.tables e below (T.setTop { method := m, pc := pc, locals := Ls, stack := _ :: rest, locked := none }) _
  jvm_step X.here [X.here.top, hx, hd, hm', hret, hn]
  first | (intro acts; rw [hl _ acts rfl rfl rfl]) | rw [hl _ _ rfl rfl rfl]
  exact Steps.refl _
end New
end Jvm.RoadKit
namespace Jvm.Pilot.@@N@@
open Jvm Jvm.ClassFile Sem Op Lib Jvm.Free Jvm.Stand Jvm.LawKit Jvm.RoadKit Bundle Jvm.Pilot.@@N@@.Jvm.D
/-- from here the run comes to an end of which G holds -/
def Go (tb : Tables) (e : Env) (below : List Frame) (G : State → Outcome → Prop) (U : State) : Prop := ∃ t o, Steps tb e below U t ∧ G t o
theorem Go.st {tb : Tables} {e : Env} {below : List Frame} {G : State → Outcome → Prop} {U U' : State} (h : ∀ t, Steps tb e below U' t → Steps tb e below U t) (k : Go tb e below G U') : Go tb e below G U :=
  let ⟨t, o, a, b⟩ := k
  ⟨t, o, h t a, b⟩
theorem Go.start {tb : Tables} {e : Env} {below : List Frame} {G0 : State → Outcome → Prop} {U : State} (h : ∀ G, G = G0 → Go tb e below G U) : Go tb e below G0 U := h _ rfl
theorem Go.join {tb : Tables} {e : Env} {below : List Frame} {G : State → Outcome → Prop} {U : State} {α : Type} {F : α → State} (k : ∀ z, Go tb e below G (F z)) (h : (∀ z, Go tb e below G (F z)) → Go tb e below G U) : Go tb e below G U := h k
theorem Go.joinR {tb : Tables} {e : Env} {below : List Frame} {G : State → Outcome → Prop} {U : State} {α : Type} {F : α → State} {R : α → Prop} (k : ∀ z, R z → Go tb e below G (F z)) (h : (∀ z, R z → Go tb e below G (F z)) → Go tb e below G U) : Go tb e below G U := h k
theorem own_stakeep {Z : State} {h h' : Heap} {C n d : String} {v : Value} (F : Sta Z h C n d v) (K : Keep h h' []) : Sta Z h' C n d v := F.ext ⟨K.1, fun a c q => K.2.1 a c q List.not_mem_nil⟩
theorem own_stakeepW {Z : State} {h h' : Heap} {ws : List Addr} {C n d : String} {v : Value} (F : Sta Z h C n d v) (K : Keep h h' ws) (q : ∀ x ∈ ws, ∀ c : Cell, h[x]? = some c → c.vm.isStatics = false) : Sta Z h' C n d v := by
  obtain ⟨cf, i, k, f, st, cell, t1, t2, t3, t4, t5, t6, t7⟩ := F
  exact ⟨cf, i, k, f, st, cell, t1, t2, t3, t4, K.2.1 st cell t5 (fun hm => by rw [q st hm cell t5] at t6; cases t6), t6, t7⟩
theorem own_lrem {tb : Tables} {e : Env} {below : List Frame} {T target : State} {g : JFrame} {n : Nat} {x y : Int64} {rest : List Value} (k : Steps tb e below (T.setTop { g with pc := n, stack := .long (x % y) :: rest }) target) :
    Steps tb e below (T.setTop { g with pc := n, stack := .long (x - (x / y) * y) :: rest }) target := by
  rw [lrem_mod]
  exact k
theorem i64_addc (x y : Int64) : (x + y).toInt = x.toInt + y.toInt ∧ -2 ^ 63 ≤ x.toInt + y.toInt ∧ x.toInt + y.toInt < 2 ^ 63 ∨ (x + y).toInt = x.toInt + y.toInt - 2 ^ 64 ∧ 2 ^ 63 ≤ x.toInt + y.toInt ∨ (x + y).toInt = x.toInt + y.toInt + 2 ^ 64 ∧ x.toInt + y.toInt < -2 ^ 63 := by
  have h := Int64.toInt_add x y
  have a1 := Int64.le_toInt x
  have a2 := Int64.toInt_lt x
  have b1 := Int64.le_toInt y
  have b2 := Int64.toInt_lt y
  rw [Int.bmod_def] at h
  split at h <;> omega
theorem i64_subc (x y : Int64) : (x - y).toInt = x.toInt - y.toInt ∧ -2 ^ 63 ≤ x.toInt - y.toInt ∧ x.toInt - y.toInt < 2 ^ 63 ∨ (x - y).toInt = x.toInt - y.toInt - 2 ^ 64 ∧ 2 ^ 63 ≤ x.toInt - y.toInt ∨ (x - y).toInt = x.toInt - y.toInt + 2 ^ 64 ∧ x.toInt - y.toInt < -2 ^ 63 := by
  have h := Int64.toInt_sub x y
  have a1 := Int64.le_toInt x
  have a2 := Int64.toInt_lt x
  have b1 := Int64.le_toInt y
  have b2 := Int64.toInt_lt y
  rw [Int.bmod_def] at h
  split at h <;> omega
theorem i32_i2c (x : Int32) : (x.toUInt32.toUInt16.toUInt32.toInt32).toInt = x.toInt % 65536 := by
  have h1 : (x.toUInt32.toUInt16.toUInt32.toInt32).toInt = ((x.toUInt32.toUInt16.toUInt32).toNat : Int).bmod (2 ^ 32) := by
    rw [← Int32.toInt_toBitVec, BitVec.toInt_eq_toNat_bmod]; rfl
  have h2 : (x.toUInt32.toUInt16.toUInt32).toNat = x.toBitVec.toNat % 65536 := by
    simp [UInt32.toNat_toUInt16, UInt16.toNat_toUInt32]; rfl
  have h3 : x.toInt = (x.toBitVec.toNat : Int).bmod (2 ^ 32) := by
    rw [← Int32.toInt_toBitVec, BitVec.toInt_eq_toNat_bmod]
  have h4 := x.toBitVec.isLt
  rw [h1, h2, h3, Int.bmod_def, Int.bmod_def]
  split <;> split <;> omega
theorem i32_addc (x y : Int32) : (x + y).toInt = x.toInt + y.toInt ∧ -2 ^ 31 ≤ x.toInt + y.toInt ∧ x.toInt + y.toInt < 2 ^ 31 ∨ (x + y).toInt = x.toInt + y.toInt - 2 ^ 32 ∧ 2 ^ 31 ≤ x.toInt + y.toInt ∨ (x + y).toInt = x.toInt + y.toInt + 2 ^ 32 ∧ x.toInt + y.toInt < -2 ^ 31 := by
  have h := Int32.toInt_add x y
  have a1 := Int32.le_toInt x
  have a2 := Int32.toInt_lt x
  have b1 := Int32.le_toInt y
  have b2 := Int32.toInt_lt y
  rw [Int.bmod_def] at h
  split at h <;> omega
theorem i32_subc (x y : Int32) : (x - y).toInt = x.toInt - y.toInt ∧ -2 ^ 31 ≤ x.toInt - y.toInt ∧ x.toInt - y.toInt < 2 ^ 31 ∨ (x - y).toInt = x.toInt - y.toInt - 2 ^ 32 ∧ 2 ^ 31 ≤ x.toInt - y.toInt ∨ (x - y).toInt = x.toInt - y.toInt + 2 ^ 32 ∧ x.toInt - y.toInt < -2 ^ 31 := by
  have h := Int32.toInt_sub x y
  have a1 := Int32.le_toInt x
  have a2 := Int32.toInt_lt x
  have b1 := Int32.le_toInt y
  have b2 := Int32.toInt_lt y
  rw [Int.bmod_def] at h
  split at h <;> omega
theorem own_eq32 {a b : Int32} (h : a.toInt = b.toInt) : a = b := Int32.toInt_inj.mp h
theorem own_eq64 {a b : Int64} (h : a.toInt = b.toInt) : a = b := Int64.toInt_inj.mp h
theorem own_lt64 {a b : Int64} (h : a.toInt < b.toInt) : a < b := Int64.lt_iff_toInt_lt.mpr h
theorem own_lt32 {a b : Int32} (h : a.toInt < b.toInt) : a < b := Int32.lt_iff_toInt_lt.mpr h
theorem own_nlt64 {a b : Int64} (h : b.toInt ≤ a.toInt) : ¬ a < b := fun z => by have := Int64.lt_iff_toInt_lt.mp z; omega
theorem own_nlt32 {a b : Int32} (h : b.toInt ≤ a.toInt) : ¬ a < b := fun z => by have := Int32.lt_iff_toInt_lt.mp z; omega
theorem own_ne32 {a b : Int32} (h : a.toInt ≠ b.toInt) : ¬ a = b := fun z => h (by rw [z])
theorem own_ne64 {a b : Int64} (h : a.toInt ≠ b.toInt) : ¬ a = b := fun z => h (by rw [z])
def dg (n : Int64) : Int32 := (((48 : Int64) + (n % (10 : Int64))).toInt32).toInt8.toInt32
def putD : List Int32 → Nat → Nat → Int64 → List Int32
  | bl, _, 0, _ => bl
  | bl, a, w + 1, n => putD (bl.set (a + w) (dg n)) a w (n / (10 : Int64))
def divs : Int64 → Nat → Int64
  | n, 0 => n
  | n, j + 1 => divs (n / (10 : Int64)) j
theorem own_put_len : ∀ (w : Nat) (bl : List Int32) (a : Nat) (n : Int64), (putD bl a w n).length = bl.length
  | 0, bl, a, n => rfl
  | w + 1, bl, a, n => by rw [putD, own_put_len w, List.length_set]
theorem own_put_get (a i : Nat) : ∀ (w : Nat) (bl : List Int32) (n : Int64), a + w ≤ bl.length → (putD bl a w n).getD i 0 = if a ≤ i ∧ i < a + w then dg (divs n (a + w - 1 - i)) else bl.getD i 0
  | 0, bl, n, _ => by rw [putD, if_neg (by omega)]
  | w + 1, bl, n, h => by
    rw [putD, own_put_get a i w _ _ (by rw [List.length_set]; omega)]
    by_cases c1 : a ≤ i ∧ i < a + w
    · rw [if_pos c1, if_pos (by omega), show a + (w + 1) - 1 - i = (a + w - 1 - i) + 1 by omega, divs]
    · rw [if_neg c1]
      by_cases c2 : i = a + w
      · subst c2
        rw [if_pos (by omega), show a + (w + 1) - 1 - (a + w) = 0 by omega, divs]
        rw [List.getD_eq_getElem?_getD, List.getElem?_set_self (by omega)]; rfl
      · rw [if_neg (by omega), List.getD_eq_getElem?_getD, List.getD_eq_getElem?_getD, List.getElem?_set_ne (by omega)]
theorem own_divs : ∀ (j : Nat) (n : Int64), 0 ≤ n.toInt → (divs n j).toInt = n.toInt / 10 ^ j
  | 0, n, h => by simp [divs]
  | j + 1, n, h => by
    have e10 : (10 : Int64).toInt = 10 := by decide
    have h1 : (n / (10 : Int64)).toInt = n.toInt / 10 := by rw [Jvm.Kit.i64_div (by omega), e10, Int.tdiv_eq_ediv_of_nonneg h]
    rw [divs, own_divs j _ (by rw [h1]; omega), h1, Int.ediv_ediv_of_nonneg (by decide), Int.pow_succ, Int.mul_comm]

theorem own_narb (y : Int32) : nar .byte (y.toInt8.toInt32) = y.toInt8.toInt32 := by
  show (y.toInt8.toInt32).toInt8.toInt32 = y.toInt8.toInt32
  simp
def bvs (bl : List Int32) : List Value := bl.map Value.int
theorem own_bset (bl : List Int32) (i : Nat) (x : Int32) : (bvs bl).set i (.int x) = bvs (bl.set i x) := by
  unfold bvs
  rw [List.map_set]
theorem own_bget (bl : List Int32) (i : Nat) : (bvs bl).getD i (.int 0) = .int (bl.getD i 0) := by
  unfold bvs
  rw [List.getD_eq_getElem?_getD, List.getD_eq_getElem?_getD, List.getElem?_map]
  cases bl[i]? <;> rfl
theorem own_blen (bl : List Int32) : (bvs bl).length = bl.length := by
  unfold bvs
  rw [List.length_map]

theorem own_narc (y : Int32) : nar .char (y.toUInt32.toUInt16.toUInt32.toInt32) = y.toUInt32.toUInt16.toUInt32.toInt32 := by
  show (y.toUInt32.toUInt16.toUInt32.toInt32).toUInt32.toUInt16.toUInt32.toInt32 = _
  simp only [UInt32.toUInt32_toInt32, UInt16.toUInt16_toUInt32]
def cuF (x : Int32) : Int32 := (x &&& (255 : Int32)).toUInt32.toUInt16.toUInt32.toInt32
theorem own_shr0 (z : Int32) : z >>> ((0 : Int32) &&& 31) = z := by
  rw [show ((0 : Int32) &&& 31) = 0 from by decide]
  simp
def P10 : List Int64 := [1, 10, 100, 1000, 10000, 100000, 1000000, 10000000, 100000000, 1000000000, 10000000000, 100000000000, 1000000000000, 10000000000000, 100000000000000, 1000000000000000, 10000000000000000, 100000000000000000, 1000000000000000000]
def pwF (e : Int32) : Int64 := P10.getD e.toNatClampNeg 0
theorem own_pget (e : Int32) (h : e.toNatClampNeg < 19) : ([(.long 1), (.long 10), (.long 100), (.long 1000), (.long 10000), (.long 100000), (.long 1000000), (.long 10000000), (.long 100000000), (.long 1000000000), (.long 10000000000), (.long 100000000000), (.long 1000000000000), (.long 10000000000000), (.long 100000000000000), (.long 1000000000000000), (.long 10000000000000000), (.long 100000000000000000), (.long 1000000000000000000)] : List Value).getD e.toNatClampNeg (.long 0) = .long (pwF e) := by
  unfold pwF
  generalize e.toNatClampNeg = i at h
  have : ∀ j : Fin 19, ([(.long 1), (.long 10), (.long 100), (.long 1000), (.long 10000), (.long 100000), (.long 1000000), (.long 10000000), (.long 100000000), (.long 1000000000), (.long 10000000000), (.long 100000000000), (.long 1000000000000), (.long 10000000000000), (.long 100000000000000), (.long 1000000000000000), (.long 10000000000000000), (.long 100000000000000000), (.long 1000000000000000000)] : List Value).getD j.val (.long 0) = .long (P10.getD j.val 0) := by decide
  exact this ⟨i, h⟩
theorem own_pw {e : Int32} (h : e.toNatClampNeg < 19) : (pwF e).toInt = 10 ^ e.toNatClampNeg := by
  unfold pwF
  generalize e.toNatClampNeg = i at h
  have : ∀ j : Fin 19, (P10.getD j.val 0).toInt = 10 ^ j.val := by decide
  exact this ⟨i, h⟩
theorem own_pwnz {e : Int32} (h : e.toNatClampNeg < 19) : ¬ pwF e = 0 := by
  intro z
  have h1 := own_pw h
  rw [z] at h1
  have h2 : (0 : Int) < 10 ^ e.toNatClampNeg := Int.pow_pos (by decide)
  have h3 : (0 : Int64).toInt = 0 := by decide
  omega
theorem own_dgI {n : Int64} (h : 0 ≤ n.toInt) : (dg n).toInt = 48 + n.toInt % 10 := by
  have e48 : (48 : Int64).toInt = 48 := by decide
  have e10 : (10 : Int64).toInt = 10 := by decide
  have h1 : (n % (10 : Int64)).toInt = n.toInt % 10 := by rw [← lrem_mod, Jvm.Kit.i64_rem_nonneg h, e10]
  have h2 : ((48 : Int64) + (n % (10 : Int64))).toInt = 48 + n.toInt % 10 := by rw [Jvm.Kit.i64_add (by omega) (by omega), h1, e48]
  have h3 : ((48 : Int64) + (n % (10 : Int64))).toInt32.toInt = 48 + n.toInt % 10 := by rw [Jvm.Kit.i32_of_i64 (by omega) (by omega), h2]
  unfold dg
  rw [Int8.toInt_toInt32, Int32.toInt_toInt8, h3, Int.bmod_def]
  split <;> omega
def z19 : List Int32 := List.replicate 19 0
theorem own_zpad : ∀ i, (bvs z19).getD i (.int (0 : Int32)) = ([] : List Value).getD i (.int (0 : Int32)) := by
  intro i
  rw [own_bget]
  show Value.int (z19.getD i 0) = .int 0
  congr 1
  unfold z19
  rw [List.getD_eq_getElem?_getD, List.getElem?_replicate]
  split <;> rfl
theorem own_z19 : z19.length = 19 := List.length_replicate
/-- the bytes are digits -/
theorem own_nn {n : Int64} {D i : Nat} (hn : 0 ≤ n.toInt) (hD : D ≤ 19) (hi : i < D) : ((putD z19 0 D n).getD i 0).toInt = 48 + (n.toInt / 10 ^ (D - 1 - i)) % 10 := by
  have h := own_put_get 0 i D z19 n (by rw [own_z19]; omega)
  rw [if_pos (by omega)] at h
  rw [h]
  have hd := own_divs (0 + D - 1 - i) n hn
  rw [Nat.zero_add] at hd
  have h0 : 0 ≤ n.toInt / 10 ^ (D - 1 - i) := Int.ediv_nonneg hn (Int.le_of_lt (Int.pow_pos (by decide)))
  rw [Nat.zero_add, own_dgI (by rw [hd]; exact h0), hd]
theorem own_nn0 {n : Int64} {D i : Nat} (hn : 0 ≤ n.toInt) (hD : D ≤ 19) (hi : i < D) : ¬ (putD z19 0 D n).getD i 0 < 0 := by
  have h := own_nn hn hD hi
  have h0 := Int.emod_nonneg (n.toInt / 10 ^ (D - 1 - i)) (show (10 : Int) ≠ 0 by decide)
  intro z
  have z1 := Int32.lt_iff_toInt_lt.mp z
  have e0 : (0 : Int32).toInt = 0 := by decide
  omega
theorem own_rest {n r : Int64} {D : Nat} (h : r = divs n D) (hn : 0 ≤ n.toInt) (hlt : n.toInt < 10 ^ D) : r.toInt = 0 := by
  rw [h, own_divs D n hn]
  exact Int.ediv_eq_zero_of_lt hn hlt
theorem own_cu {x : Int32} (h : 0 ≤ x.toInt) (h2 : x.toInt < 256) : (cuF x).toInt = x.toInt := by
  unfold cuF
  have h1 := Jvm.Kit.i32_mask x (255 : Int32) (k := 8) (by decide) (by decide)
  rw [i32_i2c, h1]
  omega
theorem own_fin {n v : Int64} {a : Int32} {D i : Nat} (hn : 0 ≤ n.toInt) (hD : D ≤ 19) (hi : i < D) (ha : a.toNatClampNeg = D - 1 - i) (hv : (n / pwF a) % (10 : Int64) = v) :
    cuF ((putD z19 0 D n).getD i 0) = (((48 : Int64) + v).toInt32).toUInt32.toUInt16.toUInt32.toInt32 := by
  have h := own_nn hn hD hi
  have hw := own_pw (e := a) (by omega)
  have h0 : 0 ≤ n.toInt / 10 ^ (D - 1 - i) := Int.ediv_nonneg hn (Int.le_of_lt (Int.pow_pos (by decide)))
  have e48 : (48 : Int64).toInt = 48 := by decide
  have e10 : (10 : Int64).toInt = 10 := by decide
  have d1 : (n / pwF a).toInt = n.toInt / 10 ^ (D - 1 - i) := by
    have hp : (0 : Int) < 10 ^ a.toNatClampNeg := Int.pow_pos (by decide)
    rw [Jvm.Kit.i64_div (by rw [hw]; omega), hw, Int.tdiv_eq_ediv_of_nonneg hn, ha]
  have d2 : v.toInt = (n.toInt / 10 ^ (D - 1 - i)) % 10 := by
    rw [← hv, ← lrem_mod, Jvm.Kit.i64_rem_nonneg (by rw [d1]; exact h0), d1, e10]
  generalize n.toInt / 10 ^ (D - 1 - i) = q at h d2 h0
  have d3 : ((48 : Int64) + v).toInt = 48 + q % 10 := by rw [Jvm.Kit.i64_add (by omega) (by omega), e48, d2]
  have d4 : (((48 : Int64) + v).toInt32).toInt = 48 + q % 10 := by rw [Jvm.Kit.i32_of_i64 (by omega) (by omega), d3]
  apply own_eq32
  rw [own_cu (by omega) (by omega), i32_i2c, h, d4]
  omega
theorem own_dig {d v : Int32} (h : (d &&& (2147483647 : Int32)) % (20 : Int32) = v) : 0 ≤ v.toInt ∧ v.toInt < 20 := by
  have h1 := Jvm.Kit.i32_mask d (2147483647 : Int32) (k := 31) (by decide) (by decide)
  have h5 : (20 : Int32).toInt = 20 := by decide
  rw [← h, Jvm.Kit.i32_rem_nonneg (by omega), h5]
  omega
theorem own_idx {d v w : Int32} (hv : 0 < v.toInt) (h : (d &&& (2147483647 : Int32)) % v = w) : 0 ≤ w.toInt ∧ w.toInt < v.toInt := by
  have h1 := Jvm.Kit.i32_mask d (2147483647 : Int32) (k := 31) (by decide) (by decide)
  rw [← h, Jvm.Kit.i32_rem_nonneg (by omega)]
  exact ⟨Int.emod_nonneg _ (by omega), Int.emod_lt_of_pos _ hv⟩
theorem own_num {n v : Int64} (h : n &&& (9223372036854775807 : Int64) = v) : 0 ≤ v.toInt := by
  have := Jvm.Kit.i64_mask n (9223372036854775807 : Int64) (k := 63) (by decide) (by decide)
  rw [← h]
  omega
theorem own_rem {n v : Int64} {e : Int32} (hn : 0 ≤ n.toInt) (he : e.toNatClampNeg < 19) (h : n % pwF e = v) : 0 ≤ v.toInt ∧ v.toInt < 10 ^ e.toNatClampNeg := by
  have hw := own_pw he
  have hp : (0 : Int) < 10 ^ e.toNatClampNeg := Int.pow_pos (by decide)
  rw [← h, ← lrem_mod, Jvm.Kit.i64_rem_nonneg hn, hw]
  exact ⟨Int.emod_nonneg _ (by omega), Int.emod_lt_of_pos _ hp⟩
theorem own_big {n : Int64} {D : Nat} (h : D = 19) : n.toInt < 10 ^ D := by
  subst h
  have := n.toInt_lt
  have e : (10 : Int) ^ 19 = 10000000000000000000 := by decide
  rw [e]
  omega
theorem own_q0 {v : Int32} {x : Int64} (h : v = (0 : Int32)) (hx : 0 ≤ x.toInt ∧ x.toInt < 10 ^ v.toNatClampNeg) : x.toInt = 0 := by
  subst h
  have e : ((0 : Int32).toNatClampNeg) = 0 := by decide
  rw [e] at hx
  have : (10 : Int) ^ 0 = 1 := by decide
  omega

theorem own_strAtoms : ∀ a ∈ Bundle.stringAtoms, a ∈ tables_1 := by decide +kernel
theorem own_mem_0 : (("java/lang/String", 7) : String × Nat) ∈ consts_1 := List.mem_of_getElem? (i := 0) rfl
theorem pn_0 : plainName "com/example/clotho/clotho/server/store/KeysNumberedPinLaw" = true := by first | (simp [plainName, overriddenIn]; done) | decide +kernel
theorem d_pow10_0 : decode method_2_code 0 = .ok (.bipush 19, 2) := by decide +kernel
theorem d_pow10_2 : decode method_2_code 2 = .ok (.newarray .long, 2) := by decide +kernel
theorem d_pow10_4 : decode method_2_code 4 = .ok (.dup, 1) := by decide +kernel
theorem d_pow10_5 : decode method_2_code 5 = .ok (.iconst 0, 1) := by decide +kernel
theorem d_pow10_6 : decode method_2_code 6 = .ok (.lconst 1, 1) := by decide +kernel
theorem d_pow10_7 : decode method_2_code 7 = .ok (.lastore, 1) := by decide +kernel
theorem d_pow10_8 : decode method_2_code 8 = .ok (.dup, 1) := by decide +kernel
theorem d_pow10_9 : decode method_2_code 9 = .ok (.iconst 1, 1) := by decide +kernel
theorem d_pow10_10 : decode method_2_code 10 = .ok (.ldc2_w 7, 3) := by decide +kernel
theorem d_pow10_13 : decode method_2_code 13 = .ok (.lastore, 1) := by decide +kernel
theorem d_pow10_14 : decode method_2_code 14 = .ok (.dup, 1) := by decide +kernel
theorem d_pow10_15 : decode method_2_code 15 = .ok (.iconst 2, 1) := by decide +kernel
theorem d_pow10_16 : decode method_2_code 16 = .ok (.ldc2_w 9, 3) := by decide +kernel
theorem d_pow10_19 : decode method_2_code 19 = .ok (.lastore, 1) := by decide +kernel
theorem d_pow10_20 : decode method_2_code 20 = .ok (.dup, 1) := by decide +kernel
theorem d_pow10_21 : decode method_2_code 21 = .ok (.iconst 3, 1) := by decide +kernel
theorem d_pow10_22 : decode method_2_code 22 = .ok (.ldc2_w 11, 3) := by decide +kernel
theorem d_pow10_25 : decode method_2_code 25 = .ok (.lastore, 1) := by decide +kernel
theorem d_pow10_26 : decode method_2_code 26 = .ok (.dup, 1) := by decide +kernel
theorem d_pow10_27 : decode method_2_code 27 = .ok (.iconst 4, 1) := by decide +kernel
theorem d_pow10_28 : decode method_2_code 28 = .ok (.ldc2_w 13, 3) := by decide +kernel
theorem d_pow10_31 : decode method_2_code 31 = .ok (.lastore, 1) := by decide +kernel
theorem d_pow10_32 : decode method_2_code 32 = .ok (.dup, 1) := by decide +kernel
theorem d_pow10_33 : decode method_2_code 33 = .ok (.iconst 5, 1) := by decide +kernel
theorem d_pow10_34 : decode method_2_code 34 = .ok (.ldc2_w 15, 3) := by decide +kernel
theorem d_pow10_37 : decode method_2_code 37 = .ok (.lastore, 1) := by decide +kernel
theorem d_pow10_38 : decode method_2_code 38 = .ok (.dup, 1) := by decide +kernel
theorem d_pow10_39 : decode method_2_code 39 = .ok (.bipush 6, 2) := by decide +kernel
theorem d_pow10_41 : decode method_2_code 41 = .ok (.ldc2_w 17, 3) := by decide +kernel
theorem d_pow10_44 : decode method_2_code 44 = .ok (.lastore, 1) := by decide +kernel
theorem d_pow10_45 : decode method_2_code 45 = .ok (.dup, 1) := by decide +kernel
theorem d_pow10_46 : decode method_2_code 46 = .ok (.bipush 7, 2) := by decide +kernel
theorem d_pow10_48 : decode method_2_code 48 = .ok (.ldc2_w 19, 3) := by decide +kernel
theorem d_pow10_51 : decode method_2_code 51 = .ok (.lastore, 1) := by decide +kernel
theorem d_pow10_52 : decode method_2_code 52 = .ok (.dup, 1) := by decide +kernel
theorem d_pow10_53 : decode method_2_code 53 = .ok (.bipush 8, 2) := by decide +kernel
theorem d_pow10_55 : decode method_2_code 55 = .ok (.ldc2_w 21, 3) := by decide +kernel
theorem d_pow10_58 : decode method_2_code 58 = .ok (.lastore, 1) := by decide +kernel
theorem d_pow10_59 : decode method_2_code 59 = .ok (.dup, 1) := by decide +kernel
theorem d_pow10_60 : decode method_2_code 60 = .ok (.bipush 9, 2) := by decide +kernel
theorem d_pow10_62 : decode method_2_code 62 = .ok (.ldc2_w 23, 3) := by decide +kernel
theorem d_pow10_65 : decode method_2_code 65 = .ok (.lastore, 1) := by decide +kernel
theorem d_pow10_66 : decode method_2_code 66 = .ok (.dup, 1) := by decide +kernel
theorem d_pow10_67 : decode method_2_code 67 = .ok (.bipush 10, 2) := by decide +kernel
theorem d_pow10_69 : decode method_2_code 69 = .ok (.ldc2_w 25, 3) := by decide +kernel
theorem d_pow10_72 : decode method_2_code 72 = .ok (.lastore, 1) := by decide +kernel
theorem d_pow10_73 : decode method_2_code 73 = .ok (.dup, 1) := by decide +kernel
theorem d_pow10_74 : decode method_2_code 74 = .ok (.bipush 11, 2) := by decide +kernel
theorem d_pow10_76 : decode method_2_code 76 = .ok (.ldc2_w 27, 3) := by decide +kernel
theorem d_pow10_79 : decode method_2_code 79 = .ok (.lastore, 1) := by decide +kernel
theorem d_pow10_80 : decode method_2_code 80 = .ok (.dup, 1) := by decide +kernel
theorem d_pow10_81 : decode method_2_code 81 = .ok (.bipush 12, 2) := by decide +kernel
theorem d_pow10_83 : decode method_2_code 83 = .ok (.ldc2_w 29, 3) := by decide +kernel
theorem d_pow10_86 : decode method_2_code 86 = .ok (.lastore, 1) := by decide +kernel
theorem d_pow10_87 : decode method_2_code 87 = .ok (.dup, 1) := by decide +kernel
theorem d_pow10_88 : decode method_2_code 88 = .ok (.bipush 13, 2) := by decide +kernel
theorem d_pow10_90 : decode method_2_code 90 = .ok (.ldc2_w 31, 3) := by decide +kernel
theorem d_pow10_93 : decode method_2_code 93 = .ok (.lastore, 1) := by decide +kernel
theorem d_pow10_94 : decode method_2_code 94 = .ok (.dup, 1) := by decide +kernel
theorem d_pow10_95 : decode method_2_code 95 = .ok (.bipush 14, 2) := by decide +kernel
theorem d_pow10_97 : decode method_2_code 97 = .ok (.ldc2_w 33, 3) := by decide +kernel
theorem d_pow10_100 : decode method_2_code 100 = .ok (.lastore, 1) := by decide +kernel
theorem d_pow10_101 : decode method_2_code 101 = .ok (.dup, 1) := by decide +kernel
theorem d_pow10_102 : decode method_2_code 102 = .ok (.bipush 15, 2) := by decide +kernel
theorem d_pow10_104 : decode method_2_code 104 = .ok (.ldc2_w 35, 3) := by decide +kernel
theorem d_pow10_107 : decode method_2_code 107 = .ok (.lastore, 1) := by decide +kernel
theorem d_pow10_108 : decode method_2_code 108 = .ok (.dup, 1) := by decide +kernel
theorem d_pow10_109 : decode method_2_code 109 = .ok (.bipush 16, 2) := by decide +kernel
theorem d_pow10_111 : decode method_2_code 111 = .ok (.ldc2_w 37, 3) := by decide +kernel
theorem d_pow10_114 : decode method_2_code 114 = .ok (.lastore, 1) := by decide +kernel
theorem d_pow10_115 : decode method_2_code 115 = .ok (.dup, 1) := by decide +kernel
theorem d_pow10_116 : decode method_2_code 116 = .ok (.bipush 17, 2) := by decide +kernel
theorem d_pow10_118 : decode method_2_code 118 = .ok (.ldc2_w 39, 3) := by decide +kernel
theorem d_pow10_121 : decode method_2_code 121 = .ok (.lastore, 1) := by decide +kernel
theorem d_pow10_122 : decode method_2_code 122 = .ok (.dup, 1) := by decide +kernel
theorem d_pow10_123 : decode method_2_code 123 = .ok (.bipush 18, 2) := by decide +kernel
theorem d_pow10_125 : decode method_2_code 125 = .ok (.ldc2_w 41, 3) := by decide +kernel
theorem d_pow10_128 : decode method_2_code 128 = .ok (.lastore, 1) := by decide +kernel
theorem d_pow10_129 : decode method_2_code 129 = .ok (.astore_n 1, 1) := by decide +kernel
theorem d_pow10_130 : decode method_2_code 130 = .ok (.aload_n 1, 1) := by decide +kernel
theorem d_pow10_131 : decode method_2_code 131 = .ok (.iload_n 0, 1) := by decide +kernel
theorem d_pow10_132 : decode method_2_code 132 = .ok (.laload, 1) := by decide +kernel
theorem d_pow10_133 : decode method_2_code 133 = .ok (.lreturn, 1) := by decide +kernel
theorem ef_pow10 (m : MethodId) (pe : Int32) : entryFrame m #[(.int pe)] 2 = mkF m 0 #[.val (.int pe), .unset] [] := by first | (simp [entryFrame, mkF, argsToLocals, Value.category]; done) | rfl
def Q_pow10 (Z : State) (pe : Int32) (h0 : Heap) (n0 : Nat) (v : Option Value) (h : Heap) (L : List Loc) : Prop := v = some (.long (pwF pe)) ∧ Fr n0 L ∧ Keep h0 h []
set_option maxRecDepth 65536 in
set_option maxHeartbeats 40000000 in
theorem rm_pow10 (l : Launch) (Z : State) (a0 : Array Value) (hw : ∀ d ∈ tables_1, d.before a0 Z = true) (ws : List Jvm.Cond) (pe : Int32) (h0 : Heap) (n0 : Nat) (Z0 : n0 ≤ h0.size) (hpe : 0 ≤ pe.toInt ∧ pe.toInt < 19) :
    MetFree l (⟨"com/example/clotho/clotho/server/store/KeysNumberedPinLaw", "pow10", "(I)J"⟩ : MethodName) (head1 (Jvm.Cond.code (⟨"com/example/clotho/clotho/server/store/KeysNumberedPinLaw", "pow10", "(I)J"⟩ : MethodName) method_2_code 2 (some .long) :: ws) ({ frames := 0, cells := 1, slots := 19, locals := 0 } : Room)) (fun a U => a = #[(.int pe)] ∧ Z.Warmed39 U.vm ∧ U.heap = h0) (fun _ _ _ _ _ => True) (fun _ U o U' => ∃ v L, o = .returned v ∧ Q_pow10 Z pe h0 n0 v U'.heap L ∧ FrameEnd U o U' L ({ frames := 0, cells := 1, slots := 19, locals := 0 } : Room).cells ({ frames := 0, cells := 1, slots := 19, locals := 0 } : Room).slots) := by
  refine MetFree.of_bodySF (plainFor_of_name pn_0) hisR ?_
  intro p e s m args below meth c s₁ Bd hml0 hP hK
  obtain ⟨rfl, hZ, hh⟩ := hP
  have hx := Bd.exec
  have hby := Bd.bytes
  have hml : c.maxLocals = 2 := hml0
  have hown : s.vm.findClass "com/example/clotho/clotho/server/store/KeysNumberedPinLaw" = some m.cls := findClass_of_methodNamed Bd.named
  have hnm := (name_of_methodNamed Bd.named Bd.method).1
  have X0 : Stand p l e ({ frames := 0, cells := 1, slots := 19, locals := 0 } : Room) s m #[(.int pe)] below meth c s₁ [] 0 0 := Stand.of_body Bd
  have e0 : s₁.heap = h0 := by rw [← hh, Bd.state]; rfl
  have N0 := Fr.nil n0
  have K0 : Keep h0 h0 [] := Keep.refl h0 []
  show Go p.tables e below _ (s₁.setTop (entryFrame m #[(.int pe)] 2))
  refine Go.start ?_
  intro G hG
  refine Go.st (fun t k => castTop (ef_pow10 m pe) k) ?_
  have i_0 : (0 : Int32).toInt = 0 := by decide
  have i_19 : (19 : Int32).toInt = 19 := by decide
  have nat_e := nat_of (j := pe) (own_nlt32 (by omega))
  show Go p.tables e below _ (s₁.setTop (mkF m 0 #[.val (.int pe), .unset] []))
  refine Go.st (fun _ k => XS.bipush X0.here hx rfl (hb hby d_pow10_0) k) ?_
  show Go p.tables e below _ (s₁.setTop (mkF m 2 #[.val (.int pe), .unset] [(.int (19 : Int32))]))
  obtain ⟨T1, h1, k1, X1, e1, E1, A1, C1, st1⟩ := newPE X0 hx hZ (hw _ (List.mem_of_getElem? (i := 6) rfl)) e0 (g := (mkF m 2 #[.val (.int pe), .unset] [(.int (19 : Int32))])) rfl (hb hby d_pow10_2) rfl (by decide) (cap := 19) (by decide) (by decide) (by decide) (by decide) (ad := "[J") (by decide)
  obtain ⟨b1, g1⟩ : ∃ z, z = h0.size := ⟨_, rfl⟩
  rw [← g1] at A1 C1 st1
  refine Go.st st1 ?_
  have ge2 : n0 ≤ b1 := Nat.le_trans Z0 (Nat.le_of_eq g1.symm)
  have sz3 : h0.size ≤ b1 := Nat.le_trans K0.1 (Nat.le_of_eq g1.symm)
  have Z4 : n0 ≤ h1.size := Nat.le_trans Z0 E1.1
  have K5 : Keep h0 h1 [] := K0.ext E1
  have F6 : Arv Z h1 b1 k1 .long (19 : Int32) [(.long (0 : Int64)), (.long (0 : Int64)), (.long (0 : Int64)), (.long (0 : Int64)), (.long (0 : Int64)), (.long (0 : Int64)), (.long (0 : Int64)), (.long (0 : Int64)), (.long (0 : Int64)), (.long (0 : Int64)), (.long (0 : Int64)), (.long (0 : Int64)), (.long (0 : Int64)), (.long (0 : Int64)), (.long (0 : Int64)), (.long (0 : Int64)), (.long (0 : Int64)), (.long (0 : Int64)), (.long (0 : Int64))] (.long (0 : Int64)) := (Arv.new A1 (by decide)).pad (pad_rep [] (.long (0 : Int64)) 19)
  show Go p.tables e below _ (T1.setTop (mkF m 4 #[.val (.int pe), .unset] [(.ref b1)]))
  refine Go.st (fun _ k => XS.dup X1.here hx rfl (hb hby d_pow10_4) rfl rfl k) ?_
  show Go p.tables e below _ (T1.setTop (mkF m 5 #[.val (.int pe), .unset] [(.ref b1), (.ref b1)]))
  refine Go.st (fun _ k => XS.iconst X1.here hx rfl (hb hby d_pow10_5) k) ?_
  show Go p.tables e below _ (T1.setTop (mkF m 6 #[.val (.int pe), .unset] [(.int (0 : Int32)), (.ref b1), (.ref b1)]))
  refine Go.st (fun _ k => XS.lconst X1.here hx rfl (hb hby d_pow10_6) k) ?_
  show Go p.tables e below _ (T1.setTop (mkF m 7 #[.val (.int pe), .unset] [(.long (1 : Int64)), (.int (0 : Int32)), (.ref b1), (.ref b1)]))
  obtain ⟨cl7, Ar7, q7, S7, M7, H7, G7⟩ := id F6
  have hin7 : ¬ ((0 : Int32) < 0 ∨ cl7.slots.size ≤ ((0 : Int32)).toNatClampNeg) := inb_of S7 ⟨by decide, by decide⟩
  obtain ⟨T7, h7, X7, e7, W7, st7⟩ := stJ X1 hx hZ e1 Ar7 (j := (0 : Int32)) hin7 (g := (mkF m 7 #[.val (.int pe), .unset] [(.long (1 : Int64)), (.int (0 : Int32)), (.ref b1), (.ref b1)])) rfl rfl (hb hby d_pow10_7)
  refine Go.st st7 ?_
  have F8 : Arv Z h7 b1 k1 .long (19 : Int32) [(.long (1 : Int64)), (.long (0 : Int64)), (.long (0 : Int64)), (.long (0 : Int64)), (.long (0 : Int64)), (.long (0 : Int64)), (.long (0 : Int64)), (.long (0 : Int64)), (.long (0 : Int64)), (.long (0 : Int64)), (.long (0 : Int64)), (.long (0 : Int64)), (.long (0 : Int64)), (.long (0 : Int64)), (.long (0 : Int64)), (.long (0 : Int64)), (.long (0 : Int64)), (.long (0 : Int64)), (.long (0 : Int64))] (.long (0 : Int64)) := Arv.set Ar7 q7 S7 M7 H7 G7 rfl W7 0 rfl (Nat.le_of_ble_eq_true rfl)
  have F9 : Exa Z h7 b1 "[J" := C1.wr W7
  have K10 : Keep h0 h7 [] := K5.wr W7 (Or.inr sz3)
  have Z11 : n0 ≤ h7.size := Nat.le_trans Z4 (Nat.le_of_eq W7.size.symm)
  have N12 := Fr.snoc X7 N0 ge2
  show Go p.tables e below _ (T7.setTop (mkF m 8 #[.val (.int pe), .unset] [(.ref b1)]))
  refine Go.st (fun _ k => XS.dup X7.here hx rfl (hb hby d_pow10_8) rfl rfl k) ?_
  show Go p.tables e below _ (T7.setTop (mkF m 9 #[.val (.int pe), .unset] [(.ref b1), (.ref b1)]))
  refine Go.st (fun _ k => XS.iconst X7.here hx rfl (hb hby d_pow10_9) k) ?_
  show Go p.tables e below _ (T7.setTop (mkF m 10 #[.val (.int pe), .unset] [(.int (1 : Int32)), (.ref b1), (.ref b1)]))
  refine Go.st (fun _ k => X7.ldc2Long hx hown (mvT hZ (hw _ (List.mem_of_getElem? (i := 7) rfl))) (g := (mkF m 10 #[.val (.int pe), .unset] [(.int (1 : Int32)), (.ref b1), (.ref b1)])) rfl (hb hby d_pow10_10) _ k) ?_
  show Go p.tables e below _ (T7.setTop (mkF m 13 #[.val (.int pe), .unset] [(.long (10 : Int64)), (.int (1 : Int32)), (.ref b1), (.ref b1)]))
  obtain ⟨cl13, Ar13, q13, S13, M13, H13, G13⟩ := id F8
  have hin13 : ¬ ((1 : Int32) < 0 ∨ cl13.slots.size ≤ ((1 : Int32)).toNatClampNeg) := inb_of S13 ⟨by decide, by decide⟩
  obtain ⟨T13, h13, X13, e13, W13, st13⟩ := stJ X7 hx hZ e7 Ar13 (j := (1 : Int32)) hin13 (g := (mkF m 13 #[.val (.int pe), .unset] [(.long (10 : Int64)), (.int (1 : Int32)), (.ref b1), (.ref b1)])) rfl rfl (hb hby d_pow10_13)
  refine Go.st st13 ?_
  have F14 : Arv Z h13 b1 k1 .long (19 : Int32) [(.long (1 : Int64)), (.long (10 : Int64)), (.long (0 : Int64)), (.long (0 : Int64)), (.long (0 : Int64)), (.long (0 : Int64)), (.long (0 : Int64)), (.long (0 : Int64)), (.long (0 : Int64)), (.long (0 : Int64)), (.long (0 : Int64)), (.long (0 : Int64)), (.long (0 : Int64)), (.long (0 : Int64)), (.long (0 : Int64)), (.long (0 : Int64)), (.long (0 : Int64)), (.long (0 : Int64)), (.long (0 : Int64))] (.long (0 : Int64)) := Arv.set Ar13 q13 S13 M13 H13 G13 rfl W13 1 rfl (Nat.le_of_ble_eq_true rfl)
  have F15 : Exa Z h13 b1 "[J" := F9.wr W13
  have K16 : Keep h0 h13 [] := K10.wr W13 (Or.inr sz3)
  have Z17 : n0 ≤ h13.size := Nat.le_trans Z11 (Nat.le_of_eq W13.size.symm)
  have N18 := Fr.snoc X13 N12 ge2
  show Go p.tables e below _ (T13.setTop (mkF m 14 #[.val (.int pe), .unset] [(.ref b1)]))
  refine Go.st (fun _ k => XS.dup X13.here hx rfl (hb hby d_pow10_14) rfl rfl k) ?_
  show Go p.tables e below _ (T13.setTop (mkF m 15 #[.val (.int pe), .unset] [(.ref b1), (.ref b1)]))
  refine Go.st (fun _ k => XS.iconst X13.here hx rfl (hb hby d_pow10_15) k) ?_
  show Go p.tables e below _ (T13.setTop (mkF m 16 #[.val (.int pe), .unset] [(.int (2 : Int32)), (.ref b1), (.ref b1)]))
  refine Go.st (fun _ k => X13.ldc2Long hx hown (mvT hZ (hw _ (List.mem_of_getElem? (i := 8) rfl))) (g := (mkF m 16 #[.val (.int pe), .unset] [(.int (2 : Int32)), (.ref b1), (.ref b1)])) rfl (hb hby d_pow10_16) _ k) ?_
  show Go p.tables e below _ (T13.setTop (mkF m 19 #[.val (.int pe), .unset] [(.long (100 : Int64)), (.int (2 : Int32)), (.ref b1), (.ref b1)]))
  obtain ⟨cl19, Ar19, q19, S19, M19, H19, G19⟩ := id F14
  have hin19 : ¬ ((2 : Int32) < 0 ∨ cl19.slots.size ≤ ((2 : Int32)).toNatClampNeg) := inb_of S19 ⟨by decide, by decide⟩
  obtain ⟨T19, h19, X19, e19, W19, st19⟩ := stJ X13 hx hZ e13 Ar19 (j := (2 : Int32)) hin19 (g := (mkF m 19 #[.val (.int pe), .unset] [(.long (100 : Int64)), (.int (2 : Int32)), (.ref b1), (.ref b1)])) rfl rfl (hb hby d_pow10_19)
  refine Go.st st19 ?_
  have F20 : Arv Z h19 b1 k1 .long (19 : Int32) [(.long (1 : Int64)), (.long (10 : Int64)), (.long (100 : Int64)), (.long (0 : Int64)), (.long (0 : Int64)), (.long (0 : Int64)), (.long (0 : Int64)), (.long (0 : Int64)), (.long (0 : Int64)), (.long (0 : Int64)), (.long (0 : Int64)), (.long (0 : Int64)), (.long (0 : Int64)), (.long (0 : Int64)), (.long (0 : Int64)), (.long (0 : Int64)), (.long (0 : Int64)), (.long (0 : Int64)), (.long (0 : Int64))] (.long (0 : Int64)) := Arv.set Ar19 q19 S19 M19 H19 G19 rfl W19 2 rfl (Nat.le_of_ble_eq_true rfl)
  have F21 : Exa Z h19 b1 "[J" := F15.wr W19
  have K22 : Keep h0 h19 [] := K16.wr W19 (Or.inr sz3)
  have Z23 : n0 ≤ h19.size := Nat.le_trans Z17 (Nat.le_of_eq W19.size.symm)
  have N24 := Fr.snoc X19 N18 ge2
  show Go p.tables e below _ (T19.setTop (mkF m 20 #[.val (.int pe), .unset] [(.ref b1)]))
  refine Go.st (fun _ k => XS.dup X19.here hx rfl (hb hby d_pow10_20) rfl rfl k) ?_
  show Go p.tables e below _ (T19.setTop (mkF m 21 #[.val (.int pe), .unset] [(.ref b1), (.ref b1)]))
  refine Go.st (fun _ k => XS.iconst X19.here hx rfl (hb hby d_pow10_21) k) ?_
  show Go p.tables e below _ (T19.setTop (mkF m 22 #[.val (.int pe), .unset] [(.int (3 : Int32)), (.ref b1), (.ref b1)]))
  refine Go.st (fun _ k => X19.ldc2Long hx hown (mvT hZ (hw _ (List.mem_of_getElem? (i := 9) rfl))) (g := (mkF m 22 #[.val (.int pe), .unset] [(.int (3 : Int32)), (.ref b1), (.ref b1)])) rfl (hb hby d_pow10_22) _ k) ?_
  show Go p.tables e below _ (T19.setTop (mkF m 25 #[.val (.int pe), .unset] [(.long (1000 : Int64)), (.int (3 : Int32)), (.ref b1), (.ref b1)]))
  obtain ⟨cl25, Ar25, q25, S25, M25, H25, G25⟩ := id F20
  have hin25 : ¬ ((3 : Int32) < 0 ∨ cl25.slots.size ≤ ((3 : Int32)).toNatClampNeg) := inb_of S25 ⟨by decide, by decide⟩
  obtain ⟨T25, h25, X25, e25, W25, st25⟩ := stJ X19 hx hZ e19 Ar25 (j := (3 : Int32)) hin25 (g := (mkF m 25 #[.val (.int pe), .unset] [(.long (1000 : Int64)), (.int (3 : Int32)), (.ref b1), (.ref b1)])) rfl rfl (hb hby d_pow10_25)
  refine Go.st st25 ?_
  have F26 : Arv Z h25 b1 k1 .long (19 : Int32) [(.long (1 : Int64)), (.long (10 : Int64)), (.long (100 : Int64)), (.long (1000 : Int64)), (.long (0 : Int64)), (.long (0 : Int64)), (.long (0 : Int64)), (.long (0 : Int64)), (.long (0 : Int64)), (.long (0 : Int64)), (.long (0 : Int64)), (.long (0 : Int64)), (.long (0 : Int64)), (.long (0 : Int64)), (.long (0 : Int64)), (.long (0 : Int64)), (.long (0 : Int64)), (.long (0 : Int64)), (.long (0 : Int64))] (.long (0 : Int64)) := Arv.set Ar25 q25 S25 M25 H25 G25 rfl W25 3 rfl (Nat.le_of_ble_eq_true rfl)
  have F27 : Exa Z h25 b1 "[J" := F21.wr W25
  have K28 : Keep h0 h25 [] := K22.wr W25 (Or.inr sz3)
  have Z29 : n0 ≤ h25.size := Nat.le_trans Z23 (Nat.le_of_eq W25.size.symm)
  have N30 := Fr.snoc X25 N24 ge2
  show Go p.tables e below _ (T25.setTop (mkF m 26 #[.val (.int pe), .unset] [(.ref b1)]))
  refine Go.st (fun _ k => XS.dup X25.here hx rfl (hb hby d_pow10_26) rfl rfl k) ?_
  show Go p.tables e below _ (T25.setTop (mkF m 27 #[.val (.int pe), .unset] [(.ref b1), (.ref b1)]))
  refine Go.st (fun _ k => XS.iconst X25.here hx rfl (hb hby d_pow10_27) k) ?_
  show Go p.tables e below _ (T25.setTop (mkF m 28 #[.val (.int pe), .unset] [(.int (4 : Int32)), (.ref b1), (.ref b1)]))
  refine Go.st (fun _ k => X25.ldc2Long hx hown (mvT hZ (hw _ (List.mem_of_getElem? (i := 10) rfl))) (g := (mkF m 28 #[.val (.int pe), .unset] [(.int (4 : Int32)), (.ref b1), (.ref b1)])) rfl (hb hby d_pow10_28) _ k) ?_
  show Go p.tables e below _ (T25.setTop (mkF m 31 #[.val (.int pe), .unset] [(.long (10000 : Int64)), (.int (4 : Int32)), (.ref b1), (.ref b1)]))
  obtain ⟨cl31, Ar31, q31, S31, M31, H31, G31⟩ := id F26
  have hin31 : ¬ ((4 : Int32) < 0 ∨ cl31.slots.size ≤ ((4 : Int32)).toNatClampNeg) := inb_of S31 ⟨by decide, by decide⟩
  obtain ⟨T31, h31, X31, e31, W31, st31⟩ := stJ X25 hx hZ e25 Ar31 (j := (4 : Int32)) hin31 (g := (mkF m 31 #[.val (.int pe), .unset] [(.long (10000 : Int64)), (.int (4 : Int32)), (.ref b1), (.ref b1)])) rfl rfl (hb hby d_pow10_31)
  refine Go.st st31 ?_
  have F32 : Arv Z h31 b1 k1 .long (19 : Int32) [(.long (1 : Int64)), (.long (10 : Int64)), (.long (100 : Int64)), (.long (1000 : Int64)), (.long (10000 : Int64)), (.long (0 : Int64)), (.long (0 : Int64)), (.long (0 : Int64)), (.long (0 : Int64)), (.long (0 : Int64)), (.long (0 : Int64)), (.long (0 : Int64)), (.long (0 : Int64)), (.long (0 : Int64)), (.long (0 : Int64)), (.long (0 : Int64)), (.long (0 : Int64)), (.long (0 : Int64)), (.long (0 : Int64))] (.long (0 : Int64)) := Arv.set Ar31 q31 S31 M31 H31 G31 rfl W31 4 rfl (Nat.le_of_ble_eq_true rfl)
  have F33 : Exa Z h31 b1 "[J" := F27.wr W31
  have K34 : Keep h0 h31 [] := K28.wr W31 (Or.inr sz3)
  have Z35 : n0 ≤ h31.size := Nat.le_trans Z29 (Nat.le_of_eq W31.size.symm)
  have N36 := Fr.snoc X31 N30 ge2
  show Go p.tables e below _ (T31.setTop (mkF m 32 #[.val (.int pe), .unset] [(.ref b1)]))
  refine Go.st (fun _ k => XS.dup X31.here hx rfl (hb hby d_pow10_32) rfl rfl k) ?_
  show Go p.tables e below _ (T31.setTop (mkF m 33 #[.val (.int pe), .unset] [(.ref b1), (.ref b1)]))
  refine Go.st (fun _ k => XS.iconst X31.here hx rfl (hb hby d_pow10_33) k) ?_
  show Go p.tables e below _ (T31.setTop (mkF m 34 #[.val (.int pe), .unset] [(.int (5 : Int32)), (.ref b1), (.ref b1)]))
  refine Go.st (fun _ k => X31.ldc2Long hx hown (mvT hZ (hw _ (List.mem_of_getElem? (i := 11) rfl))) (g := (mkF m 34 #[.val (.int pe), .unset] [(.int (5 : Int32)), (.ref b1), (.ref b1)])) rfl (hb hby d_pow10_34) _ k) ?_
  show Go p.tables e below _ (T31.setTop (mkF m 37 #[.val (.int pe), .unset] [(.long (100000 : Int64)), (.int (5 : Int32)), (.ref b1), (.ref b1)]))
  obtain ⟨cl37, Ar37, q37, S37, M37, H37, G37⟩ := id F32
  have hin37 : ¬ ((5 : Int32) < 0 ∨ cl37.slots.size ≤ ((5 : Int32)).toNatClampNeg) := inb_of S37 ⟨by decide, by decide⟩
  obtain ⟨T37, h37, X37, e37, W37, st37⟩ := stJ X31 hx hZ e31 Ar37 (j := (5 : Int32)) hin37 (g := (mkF m 37 #[.val (.int pe), .unset] [(.long (100000 : Int64)), (.int (5 : Int32)), (.ref b1), (.ref b1)])) rfl rfl (hb hby d_pow10_37)
  refine Go.st st37 ?_
  have F38 : Arv Z h37 b1 k1 .long (19 : Int32) [(.long (1 : Int64)), (.long (10 : Int64)), (.long (100 : Int64)), (.long (1000 : Int64)), (.long (10000 : Int64)), (.long (100000 : Int64)), (.long (0 : Int64)), (.long (0 : Int64)), (.long (0 : Int64)), (.long (0 : Int64)), (.long (0 : Int64)), (.long (0 : Int64)), (.long (0 : Int64)), (.long (0 : Int64)), (.long (0 : Int64)), (.long (0 : Int64)), (.long (0 : Int64)), (.long (0 : Int64)), (.long (0 : Int64))] (.long (0 : Int64)) := Arv.set Ar37 q37 S37 M37 H37 G37 rfl W37 5 rfl (Nat.le_of_ble_eq_true rfl)
  have F39 : Exa Z h37 b1 "[J" := F33.wr W37
  have K40 : Keep h0 h37 [] := K34.wr W37 (Or.inr sz3)
  have Z41 : n0 ≤ h37.size := Nat.le_trans Z35 (Nat.le_of_eq W37.size.symm)
  have N42 := Fr.snoc X37 N36 ge2
  show Go p.tables e below _ (T37.setTop (mkF m 38 #[.val (.int pe), .unset] [(.ref b1)]))
  refine Go.st (fun _ k => XS.dup X37.here hx rfl (hb hby d_pow10_38) rfl rfl k) ?_
  show Go p.tables e below _ (T37.setTop (mkF m 39 #[.val (.int pe), .unset] [(.ref b1), (.ref b1)]))
  refine Go.st (fun _ k => XS.bipush X37.here hx rfl (hb hby d_pow10_39) k) ?_
  show Go p.tables e below _ (T37.setTop (mkF m 41 #[.val (.int pe), .unset] [(.int (6 : Int32)), (.ref b1), (.ref b1)]))
  refine Go.st (fun _ k => X37.ldc2Long hx hown (mvT hZ (hw _ (List.mem_of_getElem? (i := 12) rfl))) (g := (mkF m 41 #[.val (.int pe), .unset] [(.int (6 : Int32)), (.ref b1), (.ref b1)])) rfl (hb hby d_pow10_41) _ k) ?_
  show Go p.tables e below _ (T37.setTop (mkF m 44 #[.val (.int pe), .unset] [(.long (1000000 : Int64)), (.int (6 : Int32)), (.ref b1), (.ref b1)]))
  obtain ⟨cl43, Ar43, q43, S43, M43, H43, G43⟩ := id F38
  have hin43 : ¬ ((6 : Int32) < 0 ∨ cl43.slots.size ≤ ((6 : Int32)).toNatClampNeg) := inb_of S43 ⟨by decide, by decide⟩
  obtain ⟨T43, h43, X43, e43, W43, st43⟩ := stJ X37 hx hZ e37 Ar43 (j := (6 : Int32)) hin43 (g := (mkF m 44 #[.val (.int pe), .unset] [(.long (1000000 : Int64)), (.int (6 : Int32)), (.ref b1), (.ref b1)])) rfl rfl (hb hby d_pow10_44)
  refine Go.st st43 ?_
  have F44 : Arv Z h43 b1 k1 .long (19 : Int32) [(.long (1 : Int64)), (.long (10 : Int64)), (.long (100 : Int64)), (.long (1000 : Int64)), (.long (10000 : Int64)), (.long (100000 : Int64)), (.long (1000000 : Int64)), (.long (0 : Int64)), (.long (0 : Int64)), (.long (0 : Int64)), (.long (0 : Int64)), (.long (0 : Int64)), (.long (0 : Int64)), (.long (0 : Int64)), (.long (0 : Int64)), (.long (0 : Int64)), (.long (0 : Int64)), (.long (0 : Int64)), (.long (0 : Int64))] (.long (0 : Int64)) := Arv.set Ar43 q43 S43 M43 H43 G43 rfl W43 6 rfl (Nat.le_of_ble_eq_true rfl)
  have F45 : Exa Z h43 b1 "[J" := F39.wr W43
  have K46 : Keep h0 h43 [] := K40.wr W43 (Or.inr sz3)
  have Z47 : n0 ≤ h43.size := Nat.le_trans Z41 (Nat.le_of_eq W43.size.symm)
  have N48 := Fr.snoc X43 N42 ge2
  show Go p.tables e below _ (T43.setTop (mkF m 45 #[.val (.int pe), .unset] [(.ref b1)]))
  refine Go.st (fun _ k => XS.dup X43.here hx rfl (hb hby d_pow10_45) rfl rfl k) ?_
  show Go p.tables e below _ (T43.setTop (mkF m 46 #[.val (.int pe), .unset] [(.ref b1), (.ref b1)]))
  refine Go.st (fun _ k => XS.bipush X43.here hx rfl (hb hby d_pow10_46) k) ?_
  show Go p.tables e below _ (T43.setTop (mkF m 48 #[.val (.int pe), .unset] [(.int (7 : Int32)), (.ref b1), (.ref b1)]))
  refine Go.st (fun _ k => X43.ldc2Long hx hown (mvT hZ (hw _ (List.mem_of_getElem? (i := 13) rfl))) (g := (mkF m 48 #[.val (.int pe), .unset] [(.int (7 : Int32)), (.ref b1), (.ref b1)])) rfl (hb hby d_pow10_48) _ k) ?_
  show Go p.tables e below _ (T43.setTop (mkF m 51 #[.val (.int pe), .unset] [(.long (10000000 : Int64)), (.int (7 : Int32)), (.ref b1), (.ref b1)]))
  obtain ⟨cl49, Ar49, q49, S49, M49, H49, G49⟩ := id F44
  have hin49 : ¬ ((7 : Int32) < 0 ∨ cl49.slots.size ≤ ((7 : Int32)).toNatClampNeg) := inb_of S49 ⟨by decide, by decide⟩
  obtain ⟨T49, h49, X49, e49, W49, st49⟩ := stJ X43 hx hZ e43 Ar49 (j := (7 : Int32)) hin49 (g := (mkF m 51 #[.val (.int pe), .unset] [(.long (10000000 : Int64)), (.int (7 : Int32)), (.ref b1), (.ref b1)])) rfl rfl (hb hby d_pow10_51)
  refine Go.st st49 ?_
  have F50 : Arv Z h49 b1 k1 .long (19 : Int32) [(.long (1 : Int64)), (.long (10 : Int64)), (.long (100 : Int64)), (.long (1000 : Int64)), (.long (10000 : Int64)), (.long (100000 : Int64)), (.long (1000000 : Int64)), (.long (10000000 : Int64)), (.long (0 : Int64)), (.long (0 : Int64)), (.long (0 : Int64)), (.long (0 : Int64)), (.long (0 : Int64)), (.long (0 : Int64)), (.long (0 : Int64)), (.long (0 : Int64)), (.long (0 : Int64)), (.long (0 : Int64)), (.long (0 : Int64))] (.long (0 : Int64)) := Arv.set Ar49 q49 S49 M49 H49 G49 rfl W49 7 rfl (Nat.le_of_ble_eq_true rfl)
  have F51 : Exa Z h49 b1 "[J" := F45.wr W49
  have K52 : Keep h0 h49 [] := K46.wr W49 (Or.inr sz3)
  have Z53 : n0 ≤ h49.size := Nat.le_trans Z47 (Nat.le_of_eq W49.size.symm)
  have N54 := Fr.snoc X49 N48 ge2
  show Go p.tables e below _ (T49.setTop (mkF m 52 #[.val (.int pe), .unset] [(.ref b1)]))
  refine Go.st (fun _ k => XS.dup X49.here hx rfl (hb hby d_pow10_52) rfl rfl k) ?_
  show Go p.tables e below _ (T49.setTop (mkF m 53 #[.val (.int pe), .unset] [(.ref b1), (.ref b1)]))
  refine Go.st (fun _ k => XS.bipush X49.here hx rfl (hb hby d_pow10_53) k) ?_
  show Go p.tables e below _ (T49.setTop (mkF m 55 #[.val (.int pe), .unset] [(.int (8 : Int32)), (.ref b1), (.ref b1)]))
  refine Go.st (fun _ k => X49.ldc2Long hx hown (mvT hZ (hw _ (List.mem_of_getElem? (i := 14) rfl))) (g := (mkF m 55 #[.val (.int pe), .unset] [(.int (8 : Int32)), (.ref b1), (.ref b1)])) rfl (hb hby d_pow10_55) _ k) ?_
  show Go p.tables e below _ (T49.setTop (mkF m 58 #[.val (.int pe), .unset] [(.long (100000000 : Int64)), (.int (8 : Int32)), (.ref b1), (.ref b1)]))
  obtain ⟨cl55, Ar55, q55, S55, M55, H55, G55⟩ := id F50
  have hin55 : ¬ ((8 : Int32) < 0 ∨ cl55.slots.size ≤ ((8 : Int32)).toNatClampNeg) := inb_of S55 ⟨by decide, by decide⟩
  obtain ⟨T55, h55, X55, e55, W55, st55⟩ := stJ X49 hx hZ e49 Ar55 (j := (8 : Int32)) hin55 (g := (mkF m 58 #[.val (.int pe), .unset] [(.long (100000000 : Int64)), (.int (8 : Int32)), (.ref b1), (.ref b1)])) rfl rfl (hb hby d_pow10_58)
  refine Go.st st55 ?_
  have F56 : Arv Z h55 b1 k1 .long (19 : Int32) [(.long (1 : Int64)), (.long (10 : Int64)), (.long (100 : Int64)), (.long (1000 : Int64)), (.long (10000 : Int64)), (.long (100000 : Int64)), (.long (1000000 : Int64)), (.long (10000000 : Int64)), (.long (100000000 : Int64)), (.long (0 : Int64)), (.long (0 : Int64)), (.long (0 : Int64)), (.long (0 : Int64)), (.long (0 : Int64)), (.long (0 : Int64)), (.long (0 : Int64)), (.long (0 : Int64)), (.long (0 : Int64)), (.long (0 : Int64))] (.long (0 : Int64)) := Arv.set Ar55 q55 S55 M55 H55 G55 rfl W55 8 rfl (Nat.le_of_ble_eq_true rfl)
  have F57 : Exa Z h55 b1 "[J" := F51.wr W55
  have K58 : Keep h0 h55 [] := K52.wr W55 (Or.inr sz3)
  have Z59 : n0 ≤ h55.size := Nat.le_trans Z53 (Nat.le_of_eq W55.size.symm)
  have N60 := Fr.snoc X55 N54 ge2
  show Go p.tables e below _ (T55.setTop (mkF m 59 #[.val (.int pe), .unset] [(.ref b1)]))
  refine Go.st (fun _ k => XS.dup X55.here hx rfl (hb hby d_pow10_59) rfl rfl k) ?_
  show Go p.tables e below _ (T55.setTop (mkF m 60 #[.val (.int pe), .unset] [(.ref b1), (.ref b1)]))
  refine Go.st (fun _ k => XS.bipush X55.here hx rfl (hb hby d_pow10_60) k) ?_
  show Go p.tables e below _ (T55.setTop (mkF m 62 #[.val (.int pe), .unset] [(.int (9 : Int32)), (.ref b1), (.ref b1)]))
  refine Go.st (fun _ k => X55.ldc2Long hx hown (mvT hZ (hw _ (List.mem_of_getElem? (i := 15) rfl))) (g := (mkF m 62 #[.val (.int pe), .unset] [(.int (9 : Int32)), (.ref b1), (.ref b1)])) rfl (hb hby d_pow10_62) _ k) ?_
  show Go p.tables e below _ (T55.setTop (mkF m 65 #[.val (.int pe), .unset] [(.long (1000000000 : Int64)), (.int (9 : Int32)), (.ref b1), (.ref b1)]))
  obtain ⟨cl61, Ar61, q61, S61, M61, H61, G61⟩ := id F56
  have hin61 : ¬ ((9 : Int32) < 0 ∨ cl61.slots.size ≤ ((9 : Int32)).toNatClampNeg) := inb_of S61 ⟨by decide, by decide⟩
  obtain ⟨T61, h61, X61, e61, W61, st61⟩ := stJ X55 hx hZ e55 Ar61 (j := (9 : Int32)) hin61 (g := (mkF m 65 #[.val (.int pe), .unset] [(.long (1000000000 : Int64)), (.int (9 : Int32)), (.ref b1), (.ref b1)])) rfl rfl (hb hby d_pow10_65)
  refine Go.st st61 ?_
  have F62 : Arv Z h61 b1 k1 .long (19 : Int32) [(.long (1 : Int64)), (.long (10 : Int64)), (.long (100 : Int64)), (.long (1000 : Int64)), (.long (10000 : Int64)), (.long (100000 : Int64)), (.long (1000000 : Int64)), (.long (10000000 : Int64)), (.long (100000000 : Int64)), (.long (1000000000 : Int64)), (.long (0 : Int64)), (.long (0 : Int64)), (.long (0 : Int64)), (.long (0 : Int64)), (.long (0 : Int64)), (.long (0 : Int64)), (.long (0 : Int64)), (.long (0 : Int64)), (.long (0 : Int64))] (.long (0 : Int64)) := Arv.set Ar61 q61 S61 M61 H61 G61 rfl W61 9 rfl (Nat.le_of_ble_eq_true rfl)
  have F63 : Exa Z h61 b1 "[J" := F57.wr W61
  have K64 : Keep h0 h61 [] := K58.wr W61 (Or.inr sz3)
  have Z65 : n0 ≤ h61.size := Nat.le_trans Z59 (Nat.le_of_eq W61.size.symm)
  have N66 := Fr.snoc X61 N60 ge2
  show Go p.tables e below _ (T61.setTop (mkF m 66 #[.val (.int pe), .unset] [(.ref b1)]))
  refine Go.st (fun _ k => XS.dup X61.here hx rfl (hb hby d_pow10_66) rfl rfl k) ?_
  show Go p.tables e below _ (T61.setTop (mkF m 67 #[.val (.int pe), .unset] [(.ref b1), (.ref b1)]))
  refine Go.st (fun _ k => XS.bipush X61.here hx rfl (hb hby d_pow10_67) k) ?_
  show Go p.tables e below _ (T61.setTop (mkF m 69 #[.val (.int pe), .unset] [(.int (10 : Int32)), (.ref b1), (.ref b1)]))
  refine Go.st (fun _ k => X61.ldc2Long hx hown (mvT hZ (hw _ (List.mem_of_getElem? (i := 16) rfl))) (g := (mkF m 69 #[.val (.int pe), .unset] [(.int (10 : Int32)), (.ref b1), (.ref b1)])) rfl (hb hby d_pow10_69) _ k) ?_
  show Go p.tables e below _ (T61.setTop (mkF m 72 #[.val (.int pe), .unset] [(.long (10000000000 : Int64)), (.int (10 : Int32)), (.ref b1), (.ref b1)]))
  obtain ⟨cl67, Ar67, q67, S67, M67, H67, G67⟩ := id F62
  have hin67 : ¬ ((10 : Int32) < 0 ∨ cl67.slots.size ≤ ((10 : Int32)).toNatClampNeg) := inb_of S67 ⟨by decide, by decide⟩
  obtain ⟨T67, h67, X67, e67, W67, st67⟩ := stJ X61 hx hZ e61 Ar67 (j := (10 : Int32)) hin67 (g := (mkF m 72 #[.val (.int pe), .unset] [(.long (10000000000 : Int64)), (.int (10 : Int32)), (.ref b1), (.ref b1)])) rfl rfl (hb hby d_pow10_72)
  refine Go.st st67 ?_
  have F68 : Arv Z h67 b1 k1 .long (19 : Int32) [(.long (1 : Int64)), (.long (10 : Int64)), (.long (100 : Int64)), (.long (1000 : Int64)), (.long (10000 : Int64)), (.long (100000 : Int64)), (.long (1000000 : Int64)), (.long (10000000 : Int64)), (.long (100000000 : Int64)), (.long (1000000000 : Int64)), (.long (10000000000 : Int64)), (.long (0 : Int64)), (.long (0 : Int64)), (.long (0 : Int64)), (.long (0 : Int64)), (.long (0 : Int64)), (.long (0 : Int64)), (.long (0 : Int64)), (.long (0 : Int64))] (.long (0 : Int64)) := Arv.set Ar67 q67 S67 M67 H67 G67 rfl W67 10 rfl (Nat.le_of_ble_eq_true rfl)
  have F69 : Exa Z h67 b1 "[J" := F63.wr W67
  have K70 : Keep h0 h67 [] := K64.wr W67 (Or.inr sz3)
  have Z71 : n0 ≤ h67.size := Nat.le_trans Z65 (Nat.le_of_eq W67.size.symm)
  have N72 := Fr.snoc X67 N66 ge2
  show Go p.tables e below _ (T67.setTop (mkF m 73 #[.val (.int pe), .unset] [(.ref b1)]))
  refine Go.st (fun _ k => XS.dup X67.here hx rfl (hb hby d_pow10_73) rfl rfl k) ?_
  show Go p.tables e below _ (T67.setTop (mkF m 74 #[.val (.int pe), .unset] [(.ref b1), (.ref b1)]))
  refine Go.st (fun _ k => XS.bipush X67.here hx rfl (hb hby d_pow10_74) k) ?_
  show Go p.tables e below _ (T67.setTop (mkF m 76 #[.val (.int pe), .unset] [(.int (11 : Int32)), (.ref b1), (.ref b1)]))
  refine Go.st (fun _ k => X67.ldc2Long hx hown (mvT hZ (hw _ (List.mem_of_getElem? (i := 17) rfl))) (g := (mkF m 76 #[.val (.int pe), .unset] [(.int (11 : Int32)), (.ref b1), (.ref b1)])) rfl (hb hby d_pow10_76) _ k) ?_
  show Go p.tables e below _ (T67.setTop (mkF m 79 #[.val (.int pe), .unset] [(.long (100000000000 : Int64)), (.int (11 : Int32)), (.ref b1), (.ref b1)]))
  obtain ⟨cl73, Ar73, q73, S73, M73, H73, G73⟩ := id F68
  have hin73 : ¬ ((11 : Int32) < 0 ∨ cl73.slots.size ≤ ((11 : Int32)).toNatClampNeg) := inb_of S73 ⟨by decide, by decide⟩
  obtain ⟨T73, h73, X73, e73, W73, st73⟩ := stJ X67 hx hZ e67 Ar73 (j := (11 : Int32)) hin73 (g := (mkF m 79 #[.val (.int pe), .unset] [(.long (100000000000 : Int64)), (.int (11 : Int32)), (.ref b1), (.ref b1)])) rfl rfl (hb hby d_pow10_79)
  refine Go.st st73 ?_
  have F74 : Arv Z h73 b1 k1 .long (19 : Int32) [(.long (1 : Int64)), (.long (10 : Int64)), (.long (100 : Int64)), (.long (1000 : Int64)), (.long (10000 : Int64)), (.long (100000 : Int64)), (.long (1000000 : Int64)), (.long (10000000 : Int64)), (.long (100000000 : Int64)), (.long (1000000000 : Int64)), (.long (10000000000 : Int64)), (.long (100000000000 : Int64)), (.long (0 : Int64)), (.long (0 : Int64)), (.long (0 : Int64)), (.long (0 : Int64)), (.long (0 : Int64)), (.long (0 : Int64)), (.long (0 : Int64))] (.long (0 : Int64)) := Arv.set Ar73 q73 S73 M73 H73 G73 rfl W73 11 rfl (Nat.le_of_ble_eq_true rfl)
  have F75 : Exa Z h73 b1 "[J" := F69.wr W73
  have K76 : Keep h0 h73 [] := K70.wr W73 (Or.inr sz3)
  have Z77 : n0 ≤ h73.size := Nat.le_trans Z71 (Nat.le_of_eq W73.size.symm)
  have N78 := Fr.snoc X73 N72 ge2
  show Go p.tables e below _ (T73.setTop (mkF m 80 #[.val (.int pe), .unset] [(.ref b1)]))
  refine Go.st (fun _ k => XS.dup X73.here hx rfl (hb hby d_pow10_80) rfl rfl k) ?_
  show Go p.tables e below _ (T73.setTop (mkF m 81 #[.val (.int pe), .unset] [(.ref b1), (.ref b1)]))
  refine Go.st (fun _ k => XS.bipush X73.here hx rfl (hb hby d_pow10_81) k) ?_
  show Go p.tables e below _ (T73.setTop (mkF m 83 #[.val (.int pe), .unset] [(.int (12 : Int32)), (.ref b1), (.ref b1)]))
  refine Go.st (fun _ k => X73.ldc2Long hx hown (mvT hZ (hw _ (List.mem_of_getElem? (i := 18) rfl))) (g := (mkF m 83 #[.val (.int pe), .unset] [(.int (12 : Int32)), (.ref b1), (.ref b1)])) rfl (hb hby d_pow10_83) _ k) ?_
  show Go p.tables e below _ (T73.setTop (mkF m 86 #[.val (.int pe), .unset] [(.long (1000000000000 : Int64)), (.int (12 : Int32)), (.ref b1), (.ref b1)]))
  obtain ⟨cl79, Ar79, q79, S79, M79, H79, G79⟩ := id F74
  have hin79 : ¬ ((12 : Int32) < 0 ∨ cl79.slots.size ≤ ((12 : Int32)).toNatClampNeg) := inb_of S79 ⟨by decide, by decide⟩
  obtain ⟨T79, h79, X79, e79, W79, st79⟩ := stJ X73 hx hZ e73 Ar79 (j := (12 : Int32)) hin79 (g := (mkF m 86 #[.val (.int pe), .unset] [(.long (1000000000000 : Int64)), (.int (12 : Int32)), (.ref b1), (.ref b1)])) rfl rfl (hb hby d_pow10_86)
  refine Go.st st79 ?_
  have F80 : Arv Z h79 b1 k1 .long (19 : Int32) [(.long (1 : Int64)), (.long (10 : Int64)), (.long (100 : Int64)), (.long (1000 : Int64)), (.long (10000 : Int64)), (.long (100000 : Int64)), (.long (1000000 : Int64)), (.long (10000000 : Int64)), (.long (100000000 : Int64)), (.long (1000000000 : Int64)), (.long (10000000000 : Int64)), (.long (100000000000 : Int64)), (.long (1000000000000 : Int64)), (.long (0 : Int64)), (.long (0 : Int64)), (.long (0 : Int64)), (.long (0 : Int64)), (.long (0 : Int64)), (.long (0 : Int64))] (.long (0 : Int64)) := Arv.set Ar79 q79 S79 M79 H79 G79 rfl W79 12 rfl (Nat.le_of_ble_eq_true rfl)
  have F81 : Exa Z h79 b1 "[J" := F75.wr W79
  have K82 : Keep h0 h79 [] := K76.wr W79 (Or.inr sz3)
  have Z83 : n0 ≤ h79.size := Nat.le_trans Z77 (Nat.le_of_eq W79.size.symm)
  have N84 := Fr.snoc X79 N78 ge2
  show Go p.tables e below _ (T79.setTop (mkF m 87 #[.val (.int pe), .unset] [(.ref b1)]))
  refine Go.st (fun _ k => XS.dup X79.here hx rfl (hb hby d_pow10_87) rfl rfl k) ?_
  show Go p.tables e below _ (T79.setTop (mkF m 88 #[.val (.int pe), .unset] [(.ref b1), (.ref b1)]))
  refine Go.st (fun _ k => XS.bipush X79.here hx rfl (hb hby d_pow10_88) k) ?_
  show Go p.tables e below _ (T79.setTop (mkF m 90 #[.val (.int pe), .unset] [(.int (13 : Int32)), (.ref b1), (.ref b1)]))
  refine Go.st (fun _ k => X79.ldc2Long hx hown (mvT hZ (hw _ (List.mem_of_getElem? (i := 19) rfl))) (g := (mkF m 90 #[.val (.int pe), .unset] [(.int (13 : Int32)), (.ref b1), (.ref b1)])) rfl (hb hby d_pow10_90) _ k) ?_
  show Go p.tables e below _ (T79.setTop (mkF m 93 #[.val (.int pe), .unset] [(.long (10000000000000 : Int64)), (.int (13 : Int32)), (.ref b1), (.ref b1)]))
  obtain ⟨cl85, Ar85, q85, S85, M85, H85, G85⟩ := id F80
  have hin85 : ¬ ((13 : Int32) < 0 ∨ cl85.slots.size ≤ ((13 : Int32)).toNatClampNeg) := inb_of S85 ⟨by decide, by decide⟩
  obtain ⟨T85, h85, X85, e85, W85, st85⟩ := stJ X79 hx hZ e79 Ar85 (j := (13 : Int32)) hin85 (g := (mkF m 93 #[.val (.int pe), .unset] [(.long (10000000000000 : Int64)), (.int (13 : Int32)), (.ref b1), (.ref b1)])) rfl rfl (hb hby d_pow10_93)
  refine Go.st st85 ?_
  have F86 : Arv Z h85 b1 k1 .long (19 : Int32) [(.long (1 : Int64)), (.long (10 : Int64)), (.long (100 : Int64)), (.long (1000 : Int64)), (.long (10000 : Int64)), (.long (100000 : Int64)), (.long (1000000 : Int64)), (.long (10000000 : Int64)), (.long (100000000 : Int64)), (.long (1000000000 : Int64)), (.long (10000000000 : Int64)), (.long (100000000000 : Int64)), (.long (1000000000000 : Int64)), (.long (10000000000000 : Int64)), (.long (0 : Int64)), (.long (0 : Int64)), (.long (0 : Int64)), (.long (0 : Int64)), (.long (0 : Int64))] (.long (0 : Int64)) := Arv.set Ar85 q85 S85 M85 H85 G85 rfl W85 13 rfl (Nat.le_of_ble_eq_true rfl)
  have F87 : Exa Z h85 b1 "[J" := F81.wr W85
  have K88 : Keep h0 h85 [] := K82.wr W85 (Or.inr sz3)
  have Z89 : n0 ≤ h85.size := Nat.le_trans Z83 (Nat.le_of_eq W85.size.symm)
  have N90 := Fr.snoc X85 N84 ge2
  show Go p.tables e below _ (T85.setTop (mkF m 94 #[.val (.int pe), .unset] [(.ref b1)]))
  refine Go.st (fun _ k => XS.dup X85.here hx rfl (hb hby d_pow10_94) rfl rfl k) ?_
  show Go p.tables e below _ (T85.setTop (mkF m 95 #[.val (.int pe), .unset] [(.ref b1), (.ref b1)]))
  refine Go.st (fun _ k => XS.bipush X85.here hx rfl (hb hby d_pow10_95) k) ?_
  show Go p.tables e below _ (T85.setTop (mkF m 97 #[.val (.int pe), .unset] [(.int (14 : Int32)), (.ref b1), (.ref b1)]))
  refine Go.st (fun _ k => X85.ldc2Long hx hown (mvT hZ (hw _ (List.mem_of_getElem? (i := 20) rfl))) (g := (mkF m 97 #[.val (.int pe), .unset] [(.int (14 : Int32)), (.ref b1), (.ref b1)])) rfl (hb hby d_pow10_97) _ k) ?_
  show Go p.tables e below _ (T85.setTop (mkF m 100 #[.val (.int pe), .unset] [(.long (100000000000000 : Int64)), (.int (14 : Int32)), (.ref b1), (.ref b1)]))
  obtain ⟨cl91, Ar91, q91, S91, M91, H91, G91⟩ := id F86
  have hin91 : ¬ ((14 : Int32) < 0 ∨ cl91.slots.size ≤ ((14 : Int32)).toNatClampNeg) := inb_of S91 ⟨by decide, by decide⟩
  obtain ⟨T91, h91, X91, e91, W91, st91⟩ := stJ X85 hx hZ e85 Ar91 (j := (14 : Int32)) hin91 (g := (mkF m 100 #[.val (.int pe), .unset] [(.long (100000000000000 : Int64)), (.int (14 : Int32)), (.ref b1), (.ref b1)])) rfl rfl (hb hby d_pow10_100)
  refine Go.st st91 ?_
  have F92 : Arv Z h91 b1 k1 .long (19 : Int32) [(.long (1 : Int64)), (.long (10 : Int64)), (.long (100 : Int64)), (.long (1000 : Int64)), (.long (10000 : Int64)), (.long (100000 : Int64)), (.long (1000000 : Int64)), (.long (10000000 : Int64)), (.long (100000000 : Int64)), (.long (1000000000 : Int64)), (.long (10000000000 : Int64)), (.long (100000000000 : Int64)), (.long (1000000000000 : Int64)), (.long (10000000000000 : Int64)), (.long (100000000000000 : Int64)), (.long (0 : Int64)), (.long (0 : Int64)), (.long (0 : Int64)), (.long (0 : Int64))] (.long (0 : Int64)) := Arv.set Ar91 q91 S91 M91 H91 G91 rfl W91 14 rfl (Nat.le_of_ble_eq_true rfl)
  have F93 : Exa Z h91 b1 "[J" := F87.wr W91
  have K94 : Keep h0 h91 [] := K88.wr W91 (Or.inr sz3)
  have Z95 : n0 ≤ h91.size := Nat.le_trans Z89 (Nat.le_of_eq W91.size.symm)
  have N96 := Fr.snoc X91 N90 ge2
  show Go p.tables e below _ (T91.setTop (mkF m 101 #[.val (.int pe), .unset] [(.ref b1)]))
  refine Go.st (fun _ k => XS.dup X91.here hx rfl (hb hby d_pow10_101) rfl rfl k) ?_
  show Go p.tables e below _ (T91.setTop (mkF m 102 #[.val (.int pe), .unset] [(.ref b1), (.ref b1)]))
  refine Go.st (fun _ k => XS.bipush X91.here hx rfl (hb hby d_pow10_102) k) ?_
  show Go p.tables e below _ (T91.setTop (mkF m 104 #[.val (.int pe), .unset] [(.int (15 : Int32)), (.ref b1), (.ref b1)]))
  refine Go.st (fun _ k => X91.ldc2Long hx hown (mvT hZ (hw _ (List.mem_of_getElem? (i := 21) rfl))) (g := (mkF m 104 #[.val (.int pe), .unset] [(.int (15 : Int32)), (.ref b1), (.ref b1)])) rfl (hb hby d_pow10_104) _ k) ?_
  show Go p.tables e below _ (T91.setTop (mkF m 107 #[.val (.int pe), .unset] [(.long (1000000000000000 : Int64)), (.int (15 : Int32)), (.ref b1), (.ref b1)]))
  obtain ⟨cl97, Ar97, q97, S97, M97, H97, G97⟩ := id F92
  have hin97 : ¬ ((15 : Int32) < 0 ∨ cl97.slots.size ≤ ((15 : Int32)).toNatClampNeg) := inb_of S97 ⟨by decide, by decide⟩
  obtain ⟨T97, h97, X97, e97, W97, st97⟩ := stJ X91 hx hZ e91 Ar97 (j := (15 : Int32)) hin97 (g := (mkF m 107 #[.val (.int pe), .unset] [(.long (1000000000000000 : Int64)), (.int (15 : Int32)), (.ref b1), (.ref b1)])) rfl rfl (hb hby d_pow10_107)
  refine Go.st st97 ?_
  have F98 : Arv Z h97 b1 k1 .long (19 : Int32) [(.long (1 : Int64)), (.long (10 : Int64)), (.long (100 : Int64)), (.long (1000 : Int64)), (.long (10000 : Int64)), (.long (100000 : Int64)), (.long (1000000 : Int64)), (.long (10000000 : Int64)), (.long (100000000 : Int64)), (.long (1000000000 : Int64)), (.long (10000000000 : Int64)), (.long (100000000000 : Int64)), (.long (1000000000000 : Int64)), (.long (10000000000000 : Int64)), (.long (100000000000000 : Int64)), (.long (1000000000000000 : Int64)), (.long (0 : Int64)), (.long (0 : Int64)), (.long (0 : Int64))] (.long (0 : Int64)) := Arv.set Ar97 q97 S97 M97 H97 G97 rfl W97 15 rfl (Nat.le_of_ble_eq_true rfl)
  have F99 : Exa Z h97 b1 "[J" := F93.wr W97
  have K100 : Keep h0 h97 [] := K94.wr W97 (Or.inr sz3)
  have Z101 : n0 ≤ h97.size := Nat.le_trans Z95 (Nat.le_of_eq W97.size.symm)
  have N102 := Fr.snoc X97 N96 ge2
  show Go p.tables e below _ (T97.setTop (mkF m 108 #[.val (.int pe), .unset] [(.ref b1)]))
  refine Go.st (fun _ k => XS.dup X97.here hx rfl (hb hby d_pow10_108) rfl rfl k) ?_
  show Go p.tables e below _ (T97.setTop (mkF m 109 #[.val (.int pe), .unset] [(.ref b1), (.ref b1)]))
  refine Go.st (fun _ k => XS.bipush X97.here hx rfl (hb hby d_pow10_109) k) ?_
  show Go p.tables e below _ (T97.setTop (mkF m 111 #[.val (.int pe), .unset] [(.int (16 : Int32)), (.ref b1), (.ref b1)]))
  refine Go.st (fun _ k => X97.ldc2Long hx hown (mvT hZ (hw _ (List.mem_of_getElem? (i := 22) rfl))) (g := (mkF m 111 #[.val (.int pe), .unset] [(.int (16 : Int32)), (.ref b1), (.ref b1)])) rfl (hb hby d_pow10_111) _ k) ?_
  show Go p.tables e below _ (T97.setTop (mkF m 114 #[.val (.int pe), .unset] [(.long (10000000000000000 : Int64)), (.int (16 : Int32)), (.ref b1), (.ref b1)]))
  obtain ⟨cl103, Ar103, q103, S103, M103, H103, G103⟩ := id F98
  have hin103 : ¬ ((16 : Int32) < 0 ∨ cl103.slots.size ≤ ((16 : Int32)).toNatClampNeg) := inb_of S103 ⟨by decide, by decide⟩
  obtain ⟨T103, h103, X103, e103, W103, st103⟩ := stJ X97 hx hZ e97 Ar103 (j := (16 : Int32)) hin103 (g := (mkF m 114 #[.val (.int pe), .unset] [(.long (10000000000000000 : Int64)), (.int (16 : Int32)), (.ref b1), (.ref b1)])) rfl rfl (hb hby d_pow10_114)
  refine Go.st st103 ?_
  have F104 : Arv Z h103 b1 k1 .long (19 : Int32) [(.long (1 : Int64)), (.long (10 : Int64)), (.long (100 : Int64)), (.long (1000 : Int64)), (.long (10000 : Int64)), (.long (100000 : Int64)), (.long (1000000 : Int64)), (.long (10000000 : Int64)), (.long (100000000 : Int64)), (.long (1000000000 : Int64)), (.long (10000000000 : Int64)), (.long (100000000000 : Int64)), (.long (1000000000000 : Int64)), (.long (10000000000000 : Int64)), (.long (100000000000000 : Int64)), (.long (1000000000000000 : Int64)), (.long (10000000000000000 : Int64)), (.long (0 : Int64)), (.long (0 : Int64))] (.long (0 : Int64)) := Arv.set Ar103 q103 S103 M103 H103 G103 rfl W103 16 rfl (Nat.le_of_ble_eq_true rfl)
  have F105 : Exa Z h103 b1 "[J" := F99.wr W103
  have K106 : Keep h0 h103 [] := K100.wr W103 (Or.inr sz3)
  have Z107 : n0 ≤ h103.size := Nat.le_trans Z101 (Nat.le_of_eq W103.size.symm)
  have N108 := Fr.snoc X103 N102 ge2
  show Go p.tables e below _ (T103.setTop (mkF m 115 #[.val (.int pe), .unset] [(.ref b1)]))
  refine Go.st (fun _ k => XS.dup X103.here hx rfl (hb hby d_pow10_115) rfl rfl k) ?_
  show Go p.tables e below _ (T103.setTop (mkF m 116 #[.val (.int pe), .unset] [(.ref b1), (.ref b1)]))
  refine Go.st (fun _ k => XS.bipush X103.here hx rfl (hb hby d_pow10_116) k) ?_
  show Go p.tables e below _ (T103.setTop (mkF m 118 #[.val (.int pe), .unset] [(.int (17 : Int32)), (.ref b1), (.ref b1)]))
  refine Go.st (fun _ k => X103.ldc2Long hx hown (mvT hZ (hw _ (List.mem_of_getElem? (i := 23) rfl))) (g := (mkF m 118 #[.val (.int pe), .unset] [(.int (17 : Int32)), (.ref b1), (.ref b1)])) rfl (hb hby d_pow10_118) _ k) ?_
  show Go p.tables e below _ (T103.setTop (mkF m 121 #[.val (.int pe), .unset] [(.long (100000000000000000 : Int64)), (.int (17 : Int32)), (.ref b1), (.ref b1)]))
  obtain ⟨cl109, Ar109, q109, S109, M109, H109, G109⟩ := id F104
  have hin109 : ¬ ((17 : Int32) < 0 ∨ cl109.slots.size ≤ ((17 : Int32)).toNatClampNeg) := inb_of S109 ⟨by decide, by decide⟩
  obtain ⟨T109, h109, X109, e109, W109, st109⟩ := stJ X103 hx hZ e103 Ar109 (j := (17 : Int32)) hin109 (g := (mkF m 121 #[.val (.int pe), .unset] [(.long (100000000000000000 : Int64)), (.int (17 : Int32)), (.ref b1), (.ref b1)])) rfl rfl (hb hby d_pow10_121)
  refine Go.st st109 ?_
  have F110 : Arv Z h109 b1 k1 .long (19 : Int32) [(.long (1 : Int64)), (.long (10 : Int64)), (.long (100 : Int64)), (.long (1000 : Int64)), (.long (10000 : Int64)), (.long (100000 : Int64)), (.long (1000000 : Int64)), (.long (10000000 : Int64)), (.long (100000000 : Int64)), (.long (1000000000 : Int64)), (.long (10000000000 : Int64)), (.long (100000000000 : Int64)), (.long (1000000000000 : Int64)), (.long (10000000000000 : Int64)), (.long (100000000000000 : Int64)), (.long (1000000000000000 : Int64)), (.long (10000000000000000 : Int64)), (.long (100000000000000000 : Int64)), (.long (0 : Int64))] (.long (0 : Int64)) := Arv.set Ar109 q109 S109 M109 H109 G109 rfl W109 17 rfl (Nat.le_of_ble_eq_true rfl)
  have F111 : Exa Z h109 b1 "[J" := F105.wr W109
  have K112 : Keep h0 h109 [] := K106.wr W109 (Or.inr sz3)
  have Z113 : n0 ≤ h109.size := Nat.le_trans Z107 (Nat.le_of_eq W109.size.symm)
  have N114 := Fr.snoc X109 N108 ge2
  show Go p.tables e below _ (T109.setTop (mkF m 122 #[.val (.int pe), .unset] [(.ref b1)]))
  refine Go.st (fun _ k => XS.dup X109.here hx rfl (hb hby d_pow10_122) rfl rfl k) ?_
  show Go p.tables e below _ (T109.setTop (mkF m 123 #[.val (.int pe), .unset] [(.ref b1), (.ref b1)]))
  refine Go.st (fun _ k => XS.bipush X109.here hx rfl (hb hby d_pow10_123) k) ?_
  show Go p.tables e below _ (T109.setTop (mkF m 125 #[.val (.int pe), .unset] [(.int (18 : Int32)), (.ref b1), (.ref b1)]))
  refine Go.st (fun _ k => X109.ldc2Long hx hown (mvT hZ (hw _ (List.mem_of_getElem? (i := 24) rfl))) (g := (mkF m 125 #[.val (.int pe), .unset] [(.int (18 : Int32)), (.ref b1), (.ref b1)])) rfl (hb hby d_pow10_125) _ k) ?_
  show Go p.tables e below _ (T109.setTop (mkF m 128 #[.val (.int pe), .unset] [(.long (1000000000000000000 : Int64)), (.int (18 : Int32)), (.ref b1), (.ref b1)]))
  obtain ⟨cl115, Ar115, q115, S115, M115, H115, G115⟩ := id F110
  have hin115 : ¬ ((18 : Int32) < 0 ∨ cl115.slots.size ≤ ((18 : Int32)).toNatClampNeg) := inb_of S115 ⟨by decide, by decide⟩
  obtain ⟨T115, h115, X115, e115, W115, st115⟩ := stJ X109 hx hZ e109 Ar115 (j := (18 : Int32)) hin115 (g := (mkF m 128 #[.val (.int pe), .unset] [(.long (1000000000000000000 : Int64)), (.int (18 : Int32)), (.ref b1), (.ref b1)])) rfl rfl (hb hby d_pow10_128)
  refine Go.st st115 ?_
  have F116 : Arv Z h115 b1 k1 .long (19 : Int32) [(.long (1 : Int64)), (.long (10 : Int64)), (.long (100 : Int64)), (.long (1000 : Int64)), (.long (10000 : Int64)), (.long (100000 : Int64)), (.long (1000000 : Int64)), (.long (10000000 : Int64)), (.long (100000000 : Int64)), (.long (1000000000 : Int64)), (.long (10000000000 : Int64)), (.long (100000000000 : Int64)), (.long (1000000000000 : Int64)), (.long (10000000000000 : Int64)), (.long (100000000000000 : Int64)), (.long (1000000000000000 : Int64)), (.long (10000000000000000 : Int64)), (.long (100000000000000000 : Int64)), (.long (1000000000000000000 : Int64))] (.long (0 : Int64)) := Arv.set Ar115 q115 S115 M115 H115 G115 rfl W115 18 rfl (Nat.le_of_ble_eq_true rfl)
  have F117 : Exa Z h115 b1 "[J" := F111.wr W115
  have K118 : Keep h0 h115 [] := K112.wr W115 (Or.inr sz3)
  have Z119 : n0 ≤ h115.size := Nat.le_trans Z113 (Nat.le_of_eq W115.size.symm)
  have N120 := Fr.snoc X115 N114 ge2
  show Go p.tables e below _ (T115.setTop (mkF m 129 #[.val (.int pe), .unset] [(.ref b1)]))
  refine Go.st (fun _ k => XS.astoreN X115.here hx rfl (hb hby d_pow10_129) rfl rfl (l' := #[.val (.int pe), .val (.ref b1)]) rfl k) ?_
  show Go p.tables e below _ (T115.setTop (mkF m 130 #[.val (.int pe), .val (.ref b1)] []))
  refine Go.st (fun _ k => XS.aloadN X115.here hx rfl (hb hby d_pow10_130) rfl rfl k) ?_
  show Go p.tables e below _ (T115.setTop (mkF m 131 #[.val (.int pe), .val (.ref b1)] [(.ref b1)]))
  refine Go.st (fun _ k => XS.iloadN X115.here hx rfl (hb hby d_pow10_131) rfl k) ?_
  show Go p.tables e below _ (T115.setTop (mkF m 132 #[.val (.int pe), .val (.ref b1)] [(.int pe), (.ref b1)]))
  obtain ⟨cl121, Ar121, q121, S121, M121, H121, G121⟩ := id F116
  have hin121 : ¬ (pe < 0 ∨ cl121.slots.size ≤ (pe).toNatClampNeg) := inb_of S121 ⟨own_nlt32 (by omega), own_lt32 (by omega)⟩
  have hat121 : cl121.slots[(pe).toNatClampNeg]? = some (.long (pwF pe)) := Has.at H121 hin121 (own_pget _ (by omega))
  refine Go.st (fun _ k => X115.laload hx (j := pe) (v := (.long (pwF pe))) (by rw [e115]; exact Ar121.1) (State.isArrayOf_alike hZ.alike Ar121.2.1) Ar121.2.2 hin121 hat121 (g := (mkF m 132 #[.val (.int pe), .val (.ref b1)] [(.int pe), (.ref b1)])) rfl rfl (hb hby d_pow10_132) _ k) ?_
  show Go p.tables e below _ (T115.setTop (mkF m 133 #[.val (.int pe), .val (.ref b1)] [(.long (pwF pe))]))
  subst hG
  obtain ⟨fs, hr, hrun, hended, hW, hsame⟩ := X115.leave (v := some (.long (pwF pe))) (fun h => by rw [Bd.returns] at h; cases h)
  refine ⟨_, _, ?_, hrun, hended, _, _, rfl, ?_, ⟨_, rfl⟩, hW, hsame.mono (by decide) (by decide)⟩
  · exact retOut X115 hx Bd.returns rfl (Or.inr (Or.inl ⟨rfl, rfl, _, rfl⟩)) (hb hby d_pow10_133) hr
  · show Q_pow10 Z pe h0 n0 _ T115.heap _
    rw [e115]
    exact ⟨rfl, N120, K118⟩
theorem pn_1 : plainName "java/lang/String" = true := by first | (simp [plainName, overriddenIn]; done) | decide +kernel
theorem d_coder_0 : decode jdk_42_method_152_code 0 = .ok (.getstatic 38, 3) := by decide +kernel
theorem d_coder_3 : decode jdk_42_method_152_code 3 = .ok (.ifCond .eq 10, 3) := by decide +kernel
theorem d_coder_6 : decode jdk_42_method_152_code 6 = .ok (.aload_n 0, 1) := by decide +kernel
theorem d_coder_7 : decode jdk_42_method_152_code 7 = .ok (.getfield 15, 3) := by decide +kernel
theorem d_coder_10 : decode jdk_42_method_152_code 10 = .ok (.goto 4, 3) := by decide +kernel
theorem d_coder_14 : decode jdk_42_method_152_code 14 = .ok (.ireturn, 1) := by decide +kernel
theorem ef_coder (m : MethodId) (so : Addr) : entryFrame m #[(.ref so)] 1 = mkF m 0 #[.val (.ref so)] [] := by first | (simp [entryFrame, mkF, argsToLocals, Value.category]; done) | rfl
def Q_coder (Z : State) (so : Addr) (G1 : Int32) (h0 : Heap) (n0 : Nat) (v : Option Value) (h : Heap) (L : List Loc) : Prop := v = some (.int (0 : Int32)) ∧ Fr n0 L ∧ h = h0
set_option maxRecDepth 65536 in
set_option maxHeartbeats 40000000 in
theorem rm_coder (l : Launch) (Z : State) (a0 : Array Value) (hw : ∀ d ∈ tables_1, d.before a0 Z = true) (ws : List Jvm.Cond) (so : Addr) (G1 : Int32) (h0 : Heap) (n0 : Nat) (Z0 : n0 ≤ h0.size) (Pf0 : Exa Z h0 so "java/lang/String") (Pf1 : Fld Z h0 so "java/lang/String" "coder" "B" (.int (0 : Int32))) (Pf2 : Sta Z h0 "java/lang/String" "COMPACT_STRINGS" "Z" (.int G1)) (P5 : ¬ (G1 = (0 : Int32))) :
    MetFree l (⟨"java/lang/String", "coder", "()B"⟩ : MethodName) (head1 (Jvm.Cond.code (⟨"java/lang/String", "coder", "()B"⟩ : MethodName) jdk_42_method_152_code 1 (some .byte) :: ws) ({ frames := 0, cells := 0, slots := 0, locals := 0 } : Room)) (fun a U => a = #[(.ref so)] ∧ Z.Warmed39 U.vm ∧ U.heap = h0) (fun _ _ _ _ _ => True) (fun _ U o U' => ∃ v L, o = .returned v ∧ Q_coder Z so G1 h0 n0 v U'.heap L ∧ FrameEnd U o U' L ({ frames := 0, cells := 0, slots := 0, locals := 0 } : Room).cells ({ frames := 0, cells := 0, slots := 0, locals := 0 } : Room).slots) := by
  refine MetFree.of_bodySF (plainFor_of_name pn_1) hisR ?_
  intro p e s m args below meth c s₁ Bd hml0 hP hK
  obtain ⟨rfl, hZ, hh⟩ := hP
  have hx := Bd.exec
  have hby := Bd.bytes
  have hml : c.maxLocals = 1 := hml0
  have hown : s.vm.findClass "java/lang/String" = some m.cls := findClass_of_methodNamed Bd.named
  have hnm := (name_of_methodNamed Bd.named Bd.method).1
  have X0 : Stand p l e ({ frames := 0, cells := 0, slots := 0, locals := 0 } : Room) s m #[(.ref so)] below meth c s₁ [] 0 0 := Stand.of_body Bd
  have e0 : s₁.heap = h0 := by rw [← hh, Bd.state]; rfl
  have N0 := Fr.nil n0
  have K0 : Keep h0 h0 [] := Keep.refl h0 []
  show Go p.tables e below _ (s₁.setTop (entryFrame m #[(.ref so)] 1))
  refine Go.start ?_
  intro G hG
  refine Go.st (fun t k => castTop (ef_coder m so) k) ?_
  show Go p.tables e below _ (s₁.setTop (mkF m 0 #[.val (.ref so)] []))
  obtain ⟨T1, X1, e1, st1⟩ := getS2 X0 hx hZ hown (host := "") (Or.inl (hw _ (List.mem_of_getElem? (i := 59) rfl))) Via.refl e0 Pf2 (g := (mkF m 0 #[.val (.ref so)] [])) rfl (hb hby d_coder_0)
  refine Go.st st1 ?_
  show Go p.tables e below _ (T1.setTop (mkF m 3 #[.val (.ref so)] [(.int G1)]))
  have hc3 : ¬ (G1 = (0 : Int32)) := P5
  refine Go.st (fun _ k => XS.ifNo X1.here hx rfl (hb hby d_coder_3) rfl (Jvm.Free.XT.i0_eq_f hc3) k) ?_
  show Go p.tables e below _ (T1.setTop (mkF m 6 #[.val (.ref so)] []))
  refine Go.st (fun _ k => XS.aloadN X1.here hx rfl (hb hby d_coder_6) rfl rfl k) ?_
  show Go p.tables e below _ (T1.setTop (mkF m 7 #[.val (.ref so)] [(.ref so)]))
  obtain ⟨T2, X2, e2, st2⟩ := getF X1 hx hZ hown (host := "") (Or.inl (hw _ (List.mem_of_getElem? (i := 82) rfl))) Via.refl e1 Pf1 (g := (mkF m 7 #[.val (.ref so)] [(.ref so)])) rfl rfl (hb hby d_coder_7)
  refine Go.st st2 ?_
  show Go p.tables e below _ (T2.setTop (mkF m 10 #[.val (.ref so)] [(.int (0 : Int32))]))
  refine Go.st (fun _ k => XS.goto X2.here hx rfl (pc0 := 10) (pc' := 14) rfl (hb hby d_coder_10) (by decide) (by decide) k) ?_
  show Go p.tables e below _ (T2.setTop (mkF m 14 #[.val (.ref so)] [(.int (0 : Int32))]))
  subst hG
  obtain ⟨fs, hr, hrun, hended, hW, hsame⟩ := X2.leave (v := some (.int (nar .byte (0 : Int32)))) (fun h => by rw [Bd.returns] at h; cases h)
  refine ⟨_, _, ?_, hrun, hended, _, _, rfl, ?_, ⟨_, rfl⟩, hW, hsame.mono (by decide) (by decide)⟩
  · exact retN X2 hx (t := .byte) Bd.returns (by simp) (hb hby d_coder_14) hr
  · show Q_coder Z so G1 h0 n0 _ T2.heap _
    rw [e2]
    exact ⟨rfl, N0, rfl⟩
theorem pd_0 : parseMethodDescriptor "()B" = some ⟨[], some .byte⟩ := by decide +kernel
theorem d_slen_0 : decode jdk_42_method_54_code 0 = .ok (.aload_n 0, 1) := by decide +kernel
theorem d_slen_1 : decode jdk_42_method_54_code 1 = .ok (.getfield 9, 3) := by decide +kernel
theorem d_slen_4 : decode jdk_42_method_54_code 4 = .ok (.arraylength, 1) := by decide +kernel
theorem d_slen_5 : decode jdk_42_method_54_code 5 = .ok (.aload_n 0, 1) := by decide +kernel
theorem d_slen_6 : decode jdk_42_method_54_code 6 = .ok (.invokevirtual 335, 3) := by decide +kernel
theorem d_slen_9 : decode jdk_42_method_54_code 9 = .ok (.ishr, 1) := by decide +kernel
theorem d_slen_10 : decode jdk_42_method_54_code 10 = .ok (.ireturn, 1) := by decide +kernel
theorem ef_slen (m : MethodId) (so : Addr) : entryFrame m #[(.ref so)] 1 = mkF m 0 #[.val (.ref so)] [] := by first | (simp [entryFrame, mkF, argsToLocals, Value.category]; done) | rfl
def Q_slen (Z : State) (so : Addr) (tb : Addr) (kb : ClassId) (zz : Int32) (bl : List Int32) (G1 : Int32) (h0 : Heap) (n0 : Nat) (v : Option Value) (h : Heap) (L : List Loc) : Prop := v = some (.int zz) ∧ Fr n0 L ∧ h = h0
set_option maxRecDepth 65536 in
set_option maxHeartbeats 40000000 in
theorem rm_slen (l : Launch) (Z : State) (a0 : Array Value) (hw : ∀ d ∈ tables_1, d.before a0 Z = true) (ws : List Jvm.Cond) (so : Addr) (tb : Addr) (kb : ClassId) (zz : Int32) (bl : List Int32) (G1 : Int32) (h0 : Heap) (n0 : Nat) (Z0 : n0 ≤ h0.size) (Pf0 : Exa Z h0 so "java/lang/String") (Pf1 : Fld Z h0 so "java/lang/String" "coder" "B" (.int (0 : Int32))) (Pf2 : Fld Z h0 so "java/lang/String" "value" "[B" (.ref tb)) (Pf3 : Arv Z h0 tb kb .byte zz (bvs bl) (.int (0 : Int32))) (Pf4 : Sta Z h0 "java/lang/String" "COMPACT_STRINGS" "Z" (.int G1)) (P5 : ¬ (G1 = (0 : Int32))) :
    MetFree l (⟨"java/lang/String", "length", "()I"⟩ : MethodName) (head1 (Jvm.Cond.code (⟨"java/lang/String", "length", "()I"⟩ : MethodName) jdk_42_method_54_code 1 (some .int) :: ws) ({ frames := 1, cells := 0, slots := 0, locals := 13 } : Room)) (fun a U => a = #[(.ref so)] ∧ Z.Warmed39 U.vm ∧ U.heap = h0) (fun _ _ _ _ _ => True) (fun _ U o U' => ∃ v L, o = .returned v ∧ Q_slen Z so tb kb zz bl G1 h0 n0 v U'.heap L ∧ FrameEnd U o U' L ({ frames := 1, cells := 0, slots := 0, locals := 13 } : Room).cells ({ frames := 1, cells := 0, slots := 0, locals := 13 } : Room).slots) := by
  refine MetFree.of_bodySF (plainFor_of_name pn_1) hisR ?_
  intro p e s m args below meth c s₁ Bd hml0 hP hK
  obtain ⟨rfl, hZ, hh⟩ := hP
  have hx := Bd.exec
  have hby := Bd.bytes
  have hml : c.maxLocals = 1 := hml0
  have hown : s.vm.findClass "java/lang/String" = some m.cls := findClass_of_methodNamed Bd.named
  have hnm := (name_of_methodNamed Bd.named Bd.method).1
  have X0 : Stand p l e ({ frames := 1, cells := 0, slots := 0, locals := 13 } : Room) s m #[(.ref so)] below meth c s₁ [] 0 0 := Stand.of_body Bd
  have e0 : s₁.heap = h0 := by rw [← hh, Bd.state]; rfl
  have N0 := Fr.nil n0
  have K0 : Keep h0 h0 [] := Keep.refl h0 []
  show Go p.tables e below _ (s₁.setTop (entryFrame m #[(.ref so)] 1))
  refine Go.start ?_
  intro G hG
  refine Go.st (fun t k => castTop (ef_slen m so) k) ?_
  show Go p.tables e below _ (s₁.setTop (mkF m 0 #[.val (.ref so)] []))
  refine Go.st (fun _ k => XS.aloadN X0.here hx rfl (hb hby d_slen_0) rfl rfl k) ?_
  show Go p.tables e below _ (s₁.setTop (mkF m 1 #[.val (.ref so)] [(.ref so)]))
  obtain ⟨T1, X1, e1, st1⟩ := getF X0 hx hZ hown (host := "") (Or.inl (hw _ (List.mem_of_getElem? (i := 80) rfl))) Via.refl e0 Pf2 (g := (mkF m 1 #[.val (.ref so)] [(.ref so)])) rfl rfl (hb hby d_slen_1)
  refine Go.st st1 ?_
  show Go p.tables e below _ (T1.setTop (mkF m 4 #[.val (.ref so)] [(.ref tb)]))
  obtain ⟨cl2, Ar2, -, S2, M2, -, -⟩ := id Pf3
  refine Go.st (fun _ k => X1.arraylength hx (by rw [e1]; exact Ar2.1) (State.isArrayOf_alike hZ.alike Ar2.2.1) (g := (mkF m 4 #[.val (.ref so)] [(.ref tb)])) rfl rfl (hb hby d_slen_4) _ k) ?_
  rw [len_of S2 M2]
  show Go p.tables e below _ (T1.setTop (mkF m 5 #[.val (.ref so)] [(.int zz)]))
  refine Go.st (fun _ k => XS.aloadN X1.here hx rfl (hb hby d_slen_5) rfl rfl k) ?_
  show Go p.tables e below _ (T1.setTop (mkF m 6 #[.val (.ref so)] [(.ref so), (.int zz)]))
  obtain ⟨cq3, kq3, q3a, q3b, q3c⟩ := isOf hZ e1 Pf0
  obtain ⟨_, _, ⟨T3, L3, k3, n3⟩, -, X3, ⟨Lc3, hQ3, l3, y3, z3⟩, st3⟩ := X1.virtualBack hx (y := (⟨"java/lang/String", "coder", "()B"⟩ : MethodName)) (z := (⟨"java/lang/String", "coder", "()B"⟩ : MethodName)) hown (mvT hZ (hw _ (List.mem_of_getElem? (i := 89) rfl))) (mvT hZ (hw _ (List.mem_of_getElem? (i := 90) rfl))) (notFace_of_selects (args := #[]) (mvT hZ (hw _ (List.mem_of_getElem? (i := 92) rfl)))) (mvT hZ (hw _ (List.mem_of_getElem? (i := 92) rfl))) (mvT hZ (hw _ (List.mem_of_getElem? (i := 91) rfl))) (by decide) (backOf (W := 1) (rm_coder l Z a0 hw [] so G1 h0 n0 Z0 Pf0 Pf1 Pf4 (by show ¬ (G1 = (0 : Int32)); exact P5)) hZ (hw _ (List.mem_of_getElem? (i := 93) rfl)) (hw _ (List.mem_of_getElem? (i := 34) rfl)) (by decide) (by decide)) q3a q3c (g := (mkF m 6 #[.val (.ref so)] [(.ref so), (.int zz)])) rfl (by rw [hml]; rfl) (Steps.refl _) (argsL := []) (rest := [(.int zz)]) (lenOf pd_0 rfl) rfl (by show 2 * 0 + _ ≤ _; exact Nat.le_of_eq rfl) (hb hby d_slen_6) (fun _ _ => ⟨rfl, e1, (by decide : 0 + 0 ≤ _), (by decide : 0 + 0 ≤ _)⟩)
  dsimp only [Pt.U, Pt.locs, Pt.cells, Pt.slots] at X3 l3 y3 z3 st3 hQ3
  rw [l3, y3, z3] at X3
  obtain ⟨rfl, N3q, e3⟩ := hQ3
  have N3 := Fr.app N0 N3q
  refine Go.st (fun _ k => st3.trans k) ?_
  show Go p.tables e below _ (T3.setTop (mkF m 9 #[.val (.ref so)] [(.int (0 : Int32)), (.int zz)]))
  refine Go.st (fun _ k => XS.ishr X3.here hx rfl (hb hby d_slen_9) rfl k) ?_
  show Go p.tables e below _ (T3.setTop (mkF m 10 #[.val (.ref so)] [(.int (zz >>> ((0 : Int32) &&& 31)))]))
  subst hG
  obtain ⟨fs, hr, hrun, hended, hW, hsame⟩ := X3.leave (v := some (.int (zz >>> ((0 : Int32) &&& 31)))) (fun h => by rw [Bd.returns] at h; cases h)
  refine ⟨_, _, ?_, hrun, hended, _, _, rfl, ?_, ⟨_, rfl⟩, hW, hsame.mono (by decide) (by decide)⟩
  · exact retI X3 hx Bd.returns (hb hby d_slen_10) hr
  · show Q_slen Z so tb kb zz bl G1 h0 n0 _ T3.heap _
    rw [e3]
    exact ⟨(by rw [own_shr0]), N3, rfl⟩
theorem d_islat_0 : decode jdk_42_method_154_code 0 = .ok (.getstatic 38, 3) := by decide +kernel
theorem d_islat_3 : decode jdk_42_method_154_code 3 = .ok (.ifCond .eq 14, 3) := by decide +kernel
theorem d_islat_6 : decode jdk_42_method_154_code 6 = .ok (.aload_n 0, 1) := by decide +kernel
theorem d_islat_7 : decode jdk_42_method_154_code 7 = .ok (.getfield 15, 3) := by decide +kernel
theorem d_islat_10 : decode jdk_42_method_154_code 10 = .ok (.ifCond .ne 7, 3) := by decide +kernel
theorem d_islat_13 : decode jdk_42_method_154_code 13 = .ok (.iconst 1, 1) := by decide +kernel
theorem d_islat_14 : decode jdk_42_method_154_code 14 = .ok (.goto 4, 3) := by decide +kernel
theorem d_islat_18 : decode jdk_42_method_154_code 18 = .ok (.ireturn, 1) := by decide +kernel
theorem ef_islat (m : MethodId) (so : Addr) : entryFrame m #[(.ref so)] 1 = mkF m 0 #[.val (.ref so)] [] := by first | (simp [entryFrame, mkF, argsToLocals, Value.category]; done) | rfl
def Q_islat (Z : State) (so : Addr) (G1 : Int32) (h0 : Heap) (n0 : Nat) (v : Option Value) (h : Heap) (L : List Loc) : Prop := v = some (.int (1 : Int32)) ∧ Fr n0 L ∧ h = h0
set_option maxRecDepth 65536 in
set_option maxHeartbeats 40000000 in
theorem rm_islat (l : Launch) (Z : State) (a0 : Array Value) (hw : ∀ d ∈ tables_1, d.before a0 Z = true) (ws : List Jvm.Cond) (so : Addr) (G1 : Int32) (h0 : Heap) (n0 : Nat) (Z0 : n0 ≤ h0.size) (Pf0 : Exa Z h0 so "java/lang/String") (Pf1 : Fld Z h0 so "java/lang/String" "coder" "B" (.int (0 : Int32))) (Pf2 : Sta Z h0 "java/lang/String" "COMPACT_STRINGS" "Z" (.int G1)) (P5 : ¬ (G1 = (0 : Int32))) :
    MetFree l (⟨"java/lang/String", "isLatin1", "()Z"⟩ : MethodName) (head1 (Jvm.Cond.code (⟨"java/lang/String", "isLatin1", "()Z"⟩ : MethodName) jdk_42_method_154_code 1 (some .boolean) :: ws) ({ frames := 0, cells := 0, slots := 0, locals := 0 } : Room)) (fun a U => a = #[(.ref so)] ∧ Z.Warmed39 U.vm ∧ U.heap = h0) (fun _ _ _ _ _ => True) (fun _ U o U' => ∃ v L, o = .returned v ∧ Q_islat Z so G1 h0 n0 v U'.heap L ∧ FrameEnd U o U' L ({ frames := 0, cells := 0, slots := 0, locals := 0 } : Room).cells ({ frames := 0, cells := 0, slots := 0, locals := 0 } : Room).slots) := by
  refine MetFree.of_bodySF (plainFor_of_name pn_1) hisR ?_
  intro p e s m args below meth c s₁ Bd hml0 hP hK
  obtain ⟨rfl, hZ, hh⟩ := hP
  have hx := Bd.exec
  have hby := Bd.bytes
  have hml : c.maxLocals = 1 := hml0
  have hown : s.vm.findClass "java/lang/String" = some m.cls := findClass_of_methodNamed Bd.named
  have hnm := (name_of_methodNamed Bd.named Bd.method).1
  have X0 : Stand p l e ({ frames := 0, cells := 0, slots := 0, locals := 0 } : Room) s m #[(.ref so)] below meth c s₁ [] 0 0 := Stand.of_body Bd
  have e0 : s₁.heap = h0 := by rw [← hh, Bd.state]; rfl
  have N0 := Fr.nil n0
  have K0 : Keep h0 h0 [] := Keep.refl h0 []
  show Go p.tables e below _ (s₁.setTop (entryFrame m #[(.ref so)] 1))
  refine Go.start ?_
  intro G hG
  refine Go.st (fun t k => castTop (ef_islat m so) k) ?_
  show Go p.tables e below _ (s₁.setTop (mkF m 0 #[.val (.ref so)] []))
  obtain ⟨T1, X1, e1, st1⟩ := getS2 X0 hx hZ hown (host := "") (Or.inl (hw _ (List.mem_of_getElem? (i := 59) rfl))) Via.refl e0 Pf2 (g := (mkF m 0 #[.val (.ref so)] [])) rfl (hb hby d_islat_0)
  refine Go.st st1 ?_
  show Go p.tables e below _ (T1.setTop (mkF m 3 #[.val (.ref so)] [(.int G1)]))
  have hc3 : ¬ (G1 = (0 : Int32)) := P5
  refine Go.st (fun _ k => XS.ifNo X1.here hx rfl (hb hby d_islat_3) rfl (Jvm.Free.XT.i0_eq_f hc3) k) ?_
  show Go p.tables e below _ (T1.setTop (mkF m 6 #[.val (.ref so)] []))
  refine Go.st (fun _ k => XS.aloadN X1.here hx rfl (hb hby d_islat_6) rfl rfl k) ?_
  show Go p.tables e below _ (T1.setTop (mkF m 7 #[.val (.ref so)] [(.ref so)]))
  obtain ⟨T2, X2, e2, st2⟩ := getF X1 hx hZ hown (host := "") (Or.inl (hw _ (List.mem_of_getElem? (i := 82) rfl))) Via.refl e1 Pf1 (g := (mkF m 7 #[.val (.ref so)] [(.ref so)])) rfl rfl (hb hby d_islat_7)
  refine Go.st st2 ?_
  show Go p.tables e below _ (T2.setTop (mkF m 10 #[.val (.ref so)] [(.int (0 : Int32))]))
  have hl3 : (0 : Int32) = (0 : Int32) := by decide
  refine Go.st (fun _ k => XS.ifNo X2.here hx rfl (hb hby d_islat_10) rfl (Jvm.Free.XT.i0_ne_f hl3) k) ?_
  show Go p.tables e below _ (T2.setTop (mkF m 13 #[.val (.ref so)] []))
  refine Go.st (fun _ k => XS.iconst X2.here hx rfl (hb hby d_islat_13) k) ?_
  show Go p.tables e below _ (T2.setTop (mkF m 14 #[.val (.ref so)] [(.int (1 : Int32))]))
  refine Go.st (fun _ k => XS.goto X2.here hx rfl (pc0 := 14) (pc' := 18) rfl (hb hby d_islat_14) (by decide) (by decide) k) ?_
  show Go p.tables e below _ (T2.setTop (mkF m 18 #[.val (.ref so)] [(.int (1 : Int32))]))
  subst hG
  obtain ⟨fs, hr, hrun, hended, hW, hsame⟩ := X2.leave (v := some (.int (nar .boolean (1 : Int32)))) (fun h => by rw [Bd.returns] at h; cases h)
  refine ⟨_, _, ?_, hrun, hended, _, _, rfl, ?_, ⟨_, rfl⟩, hW, hsame.mono (by decide) (by decide)⟩
  · exact retN X2 hx (t := .boolean) Bd.returns (by simp) (hb hby d_islat_18) hr
  · show Q_islat Z so G1 h0 n0 _ T2.heap _
    rw [e2]
    exact ⟨rfl, N0, rfl⟩
theorem pn_2 : plainName "jdk/internal/util/Preconditions" = true := by first | (simp [plainName, overriddenIn]; done) | decide +kernel
theorem d_pchk_0 : decode jdk_41_method_11_code 0 = .ok (.iload_n 0, 1) := by decide +kernel
theorem d_pchk_1 : decode jdk_41_method_11_code 1 = .ok (.ifCond .lt 8, 3) := by decide +kernel
theorem d_pchk_4 : decode jdk_41_method_11_code 4 = .ok (.iload_n 0, 1) := by decide +kernel
theorem d_pchk_5 : decode jdk_41_method_11_code 5 = .ok (.iload_n 1, 1) := by decide +kernel
theorem d_pchk_6 : decode jdk_41_method_11_code 6 = .ok (.if_icmp .lt 10, 3) := by decide +kernel
theorem d_pchk_16 : decode jdk_41_method_11_code 16 = .ok (.iload_n 0, 1) := by decide +kernel
theorem d_pchk_17 : decode jdk_41_method_11_code 17 = .ok (.ireturn, 1) := by decide +kernel
theorem ef_pchk (m : MethodId) (pi : Int32) (pz : Int32) (Gf : Value) (hv_Gf : Gf.isRef = true) : entryFrame m #[(.int pi), (.int pz), Gf] 3 = mkF m 0 #[.val (.int pi), .val (.int pz), .val Gf] [] := by
  rcases ref_cases hv_Gf with rfl | ⟨_, rfl⟩ <;> first | (simp [entryFrame, mkF, argsToLocals, Value.category]; done) | rfl
def Q_pchk (Z : State) (pi : Int32) (pz : Int32) (Gf : Value) (h0 : Heap) (n0 : Nat) (v : Option Value) (h : Heap) (L : List Loc) : Prop := v = some (.int pi) ∧ Fr n0 L ∧ h = h0
set_option maxRecDepth 65536 in
set_option maxHeartbeats 40000000 in
theorem rm_pchk (l : Launch) (Z : State) (a0 : Array Value) (hw : ∀ d ∈ tables_1, d.before a0 Z = true) (ws : List Jvm.Cond) (pi : Int32) (pz : Int32) (Gf : Value) (h0 : Heap) (n0 : Nat) (Z0 : n0 ≤ h0.size) (hpi : 0 ≤ pi.toInt ∧ pi.toInt < pz.toInt) (rG3 : Gf.isRef = true) :
    MetFree l (⟨"jdk/internal/util/Preconditions", "checkIndex", "(IILjava/util/function/BiFunction;)I"⟩ : MethodName) (head1 (Jvm.Cond.code (⟨"jdk/internal/util/Preconditions", "checkIndex", "(IILjava/util/function/BiFunction;)I"⟩ : MethodName) jdk_41_method_11_code 3 (some .int) :: ws) ({ frames := 0, cells := 0, slots := 0, locals := 0 } : Room)) (fun a U => a = #[(.int pi), (.int pz), Gf] ∧ Z.Warmed39 U.vm ∧ U.heap = h0) (fun _ _ _ _ _ => True) (fun _ U o U' => ∃ v L, o = .returned v ∧ Q_pchk Z pi pz Gf h0 n0 v U'.heap L ∧ FrameEnd U o U' L ({ frames := 0, cells := 0, slots := 0, locals := 0 } : Room).cells ({ frames := 0, cells := 0, slots := 0, locals := 0 } : Room).slots) := by
  refine MetFree.of_bodySF (plainFor_of_name pn_2) hisR ?_
  intro p e s m args below meth c s₁ Bd hml0 hP hK
  obtain ⟨rfl, hZ, hh⟩ := hP
  have hx := Bd.exec
  have hby := Bd.bytes
  have hml : c.maxLocals = 3 := hml0
  have hown : s.vm.findClass "jdk/internal/util/Preconditions" = some m.cls := findClass_of_methodNamed Bd.named
  have hnm := (name_of_methodNamed Bd.named Bd.method).1
  have X0 : Stand p l e ({ frames := 0, cells := 0, slots := 0, locals := 0 } : Room) s m #[(.int pi), (.int pz), Gf] below meth c s₁ [] 0 0 := Stand.of_body Bd
  have e0 : s₁.heap = h0 := by rw [← hh, Bd.state]; rfl
  have N0 := Fr.nil n0
  have K0 : Keep h0 h0 [] := Keep.refl h0 []
  show Go p.tables e below _ (s₁.setTop (entryFrame m #[(.int pi), (.int pz), Gf] 3))
  refine Go.start ?_
  intro G hG
  refine Go.st (fun t k => castTop (ef_pchk m pi pz Gf rG3) k) ?_
  have i_0 : (0 : Int32).toInt = 0 := by decide
  show Go p.tables e below _ (s₁.setTop (mkF m 0 #[.val (.int pi), .val (.int pz), .val Gf] []))
  refine Go.st (fun _ k => XS.iloadN X0.here hx rfl (hb hby d_pchk_0) rfl k) ?_
  show Go p.tables e below _ (s₁.setTop (mkF m 1 #[.val (.int pi), .val (.int pz), .val Gf] [(.int pi)]))
  have hc1 : ¬ (pi < (0 : Int32)) := own_nlt32 (by omega)
  refine Go.st (fun _ k => XS.ifNo X0.here hx rfl (hb hby d_pchk_1) rfl (Jvm.Free.XT.i0_lt_f hc1) k) ?_
  show Go p.tables e below _ (s₁.setTop (mkF m 4 #[.val (.int pi), .val (.int pz), .val Gf] []))
  refine Go.st (fun _ k => XS.iloadN X0.here hx rfl (hb hby d_pchk_4) rfl k) ?_
  show Go p.tables e below _ (s₁.setTop (mkF m 5 #[.val (.int pi), .val (.int pz), .val Gf] [(.int pi)]))
  refine Go.st (fun _ k => XS.iloadN X0.here hx rfl (hb hby d_pchk_5) rfl k) ?_
  show Go p.tables e below _ (s₁.setTop (mkF m 6 #[.val (.int pi), .val (.int pz), .val Gf] [(.int pz), (.int pi)]))
  have hc6 : pi < pz := own_lt32 (by omega)
  refine Go.st (fun _ k => XS.icmpYes X0.here hx rfl (pc0 := 6) (pc' := 16) rfl (hb hby d_pchk_6) rfl (Jvm.Free.XT.ii_lt_t hc6) (by decide) (by decide) k) ?_
  show Go p.tables e below _ (s₁.setTop (mkF m 16 #[.val (.int pi), .val (.int pz), .val Gf] []))
  refine Go.st (fun _ k => XS.iloadN X0.here hx rfl (hb hby d_pchk_16) rfl k) ?_
  show Go p.tables e below _ (s₁.setTop (mkF m 17 #[.val (.int pi), .val (.int pz), .val Gf] [(.int pi)]))
  subst hG
  obtain ⟨fs, hr, hrun, hended, hW, hsame⟩ := X0.leave (v := some (.int pi)) (fun h => by rw [Bd.returns] at h; cases h)
  refine ⟨_, _, ?_, hrun, hended, _, _, rfl, ?_, ⟨_, rfl⟩, hW, hsame.mono (by decide) (by decide)⟩
  · exact retI X0 hx Bd.returns (hb hby d_pchk_17) hr
  · show Q_pchk Z pi pz Gf h0 n0 _ s₁.heap _
    rw [e0]
    exact ⟨rfl, N0, rfl⟩
theorem pd_1 : parseMethodDescriptor "(IILjava/util/function/BiFunction;)I" = some ⟨[.int, .int, (.object "java/util/function/BiFunction")], some .int⟩ := by decide +kernel
theorem d_schk_0 : decode jdk_42_method_155_code 0 = .ok (.iload_n 0, 1) := by decide +kernel
theorem d_schk_1 : decode jdk_42_method_155_code 1 = .ok (.iload_n 1, 1) := by decide +kernel
theorem d_schk_2 : decode jdk_42_method_155_code 2 = .ok (.getstatic 1053, 3) := by decide +kernel
theorem d_schk_5 : decode jdk_42_method_155_code 5 = .ok (.invokestatic 1059, 3) := by decide +kernel
theorem d_schk_8 : decode jdk_42_method_155_code 8 = .ok (.pop, 1) := by decide +kernel
theorem d_schk_9 : decode jdk_42_method_155_code 9 = .ok (.return_, 1) := by decide +kernel
theorem ef_schk (m : MethodId) (pi : Int32) (pz : Int32) : entryFrame m #[(.int pi), (.int pz)] 2 = mkF m 0 #[.val (.int pi), .val (.int pz)] [] := by first | (simp [entryFrame, mkF, argsToLocals, Value.category]; done) | rfl
def Q_schk (Z : State) (pi : Int32) (pz : Int32) (Gf : Value) (h0 : Heap) (n0 : Nat) (v : Option Value) (h : Heap) (L : List Loc) : Prop := v = none ∧ Fr n0 L ∧ h = h0
set_option maxRecDepth 65536 in
set_option maxHeartbeats 40000000 in
theorem rm_schk (l : Launch) (Z : State) (a0 : Array Value) (hw : ∀ d ∈ tables_1, d.before a0 Z = true) (ws : List Jvm.Cond) (pi : Int32) (pz : Int32) (Gf : Value) (h0 : Heap) (n0 : Nat) (Z0 : n0 ≤ h0.size) (hpi : 0 ≤ pi.toInt ∧ pi.toInt < pz.toInt) (Pf1 : Sta Z h0 "jdk/internal/util/Preconditions" "SIOOBE_FORMATTER" "Ljava/util/function/BiFunction;" Gf) (rG3 : Gf.isRef = true) :
    MetFree l (⟨"java/lang/String", "checkIndex", "(II)V"⟩ : MethodName) (head1 (Jvm.Cond.code (⟨"java/lang/String", "checkIndex", "(II)V"⟩ : MethodName) jdk_42_method_155_code 2 none :: ws) ({ frames := 1, cells := 0, slots := 0, locals := 14 } : Room)) (fun a U => a = #[(.int pi), (.int pz)] ∧ Z.Warmed39 U.vm ∧ U.heap = h0) (fun _ _ _ _ _ => True) (fun _ U o U' => ∃ v L, o = .returned v ∧ Q_schk Z pi pz Gf h0 n0 v U'.heap L ∧ FrameEnd U o U' L ({ frames := 1, cells := 0, slots := 0, locals := 14 } : Room).cells ({ frames := 1, cells := 0, slots := 0, locals := 14 } : Room).slots) := by
  refine MetFree.of_bodySF (plainFor_of_name pn_1) hisR ?_
  intro p e s m args below meth c s₁ Bd hml0 hP hK
  obtain ⟨rfl, hZ, hh⟩ := hP
  have hx := Bd.exec
  have hby := Bd.bytes
  have hml : c.maxLocals = 2 := hml0
  have hown : s.vm.findClass "java/lang/String" = some m.cls := findClass_of_methodNamed Bd.named
  have hnm := (name_of_methodNamed Bd.named Bd.method).1
  have X0 : Stand p l e ({ frames := 1, cells := 0, slots := 0, locals := 14 } : Room) s m #[(.int pi), (.int pz)] below meth c s₁ [] 0 0 := Stand.of_body Bd
  have e0 : s₁.heap = h0 := by rw [← hh, Bd.state]; rfl
  have N0 := Fr.nil n0
  have K0 : Keep h0 h0 [] := Keep.refl h0 []
  show Go p.tables e below _ (s₁.setTop (entryFrame m #[(.int pi), (.int pz)] 2))
  refine Go.start ?_
  intro G hG
  refine Go.st (fun t k => castTop (ef_schk m pi pz) k) ?_
  show Go p.tables e below _ (s₁.setTop (mkF m 0 #[.val (.int pi), .val (.int pz)] []))
  refine Go.st (fun _ k => XS.iloadN X0.here hx rfl (hb hby d_schk_0) rfl k) ?_
  show Go p.tables e below _ (s₁.setTop (mkF m 1 #[.val (.int pi), .val (.int pz)] [(.int pi)]))
  refine Go.st (fun _ k => XS.iloadN X0.here hx rfl (hb hby d_schk_1) rfl k) ?_
  show Go p.tables e below _ (s₁.setTop (mkF m 2 #[.val (.int pi), .val (.int pz)] [(.int pz), (.int pi)]))
  obtain ⟨T1, X1, e1, st1⟩ := getS2 X0 hx hZ hown (host := "") (Or.inl (hw _ (List.mem_of_getElem? (i := 111) rfl))) Via.refl e0 Pf1 (g := (mkF m 2 #[.val (.int pi), .val (.int pz)] [(.int pz), (.int pi)])) rfl (hb hby d_schk_2)
  refine Go.st st1 ?_
  show Go p.tables e below _ (T1.setTop (mkF m 5 #[.val (.int pi), .val (.int pz)] [Gf, (.int pz), (.int pi)]))
  obtain ⟨_, _, ⟨T2, L2, k2, n2⟩, -, X2, ⟨Lc2, hQ2, l2, y2, z2⟩, st2⟩ := Jvm.LawKit.callS X1 hx (y := (⟨"jdk/internal/util/Preconditions", "checkIndex", "(IILjava/util/function/BiFunction;)I"⟩ : MethodName)) hown (mvT hZ (hw _ (List.mem_of_getElem? (i := 113) rfl))) (mvT hZ (hw _ (List.mem_of_getElem? (i := 114) rfl))) (mvT hZ (hw _ (List.mem_of_getElem? (i := 112) rfl))) (mvT hZ (hw _ (List.mem_of_getElem? (i := 115) rfl))) (by decide) (backOf (W := 0) (rm_pchk l Z a0 hw [] pi pz Gf h0 n0 Z0 (by show 0 ≤ pi.toInt ∧ pi.toInt < pz.toInt; exact hpi) (by show Gf.isRef = true; exact rG3)) hZ (hw _ (List.mem_of_getElem? (i := 115) rfl)) (hw _ (List.mem_of_getElem? (i := 112) rfl)) (by decide) (by decide)) (g := (mkF m 5 #[.val (.int pi), .val (.int pz)] [Gf, (.int pz), (.int pi)])) rfl (by rw [hml]; rfl) (argsL := [(.int pi), (.int pz), Gf]) (rest := []) (lenOf pd_1 rfl) rfl (by show 2 * 0 + _ ≤ _; exact Nat.le_of_eq rfl) (hb hby d_schk_5) (fun _ _ => ⟨rfl, e1, (by decide : 0 + 0 ≤ _), (by decide : 0 + 0 ≤ _)⟩)
  dsimp only [Pt.U, Pt.locs, Pt.cells, Pt.slots] at X2 l2 y2 z2 st2 hQ2
  rw [l2, y2, z2] at X2
  obtain ⟨rfl, N2q, e2⟩ := hQ2
  have N2 := Fr.app N0 N2q
  refine Go.st st2 ?_
  show Go p.tables e below _ (T2.setTop (mkF m 8 #[.val (.int pi), .val (.int pz)] [(.int pi)]))
  refine Go.st (fun _ k => XS.pop X2.here hx rfl (hb hby d_schk_8) rfl rfl k) ?_
  show Go p.tables e below _ (T2.setTop (mkF m 9 #[.val (.int pi), .val (.int pz)] []))
  subst hG
  obtain ⟨fs, hr, hrun, hended, hW, hsame⟩ := X2.leave (v := none) (fun _ => rfl)
  refine ⟨_, _, ?_, hrun, hended, _, _, rfl, ?_, ⟨_, rfl⟩, hW, hsame.mono (by decide) (by decide)⟩
  · exact X2.returnOut hx Bd.returns (hb hby d_schk_9) hr
  · show Q_schk Z pi pz Gf h0 n0 _ T2.heap _
    rw [e2]
    exact ⟨rfl, N2, rfl⟩
theorem pd_2 : parseMethodDescriptor "(II)V" = some ⟨[.int, .int], none⟩ := by decide +kernel
theorem pn_3 : plainName "java/lang/StringLatin1" = true := by first | (simp [plainName, overriddenIn]; done) | decide +kernel
theorem d_lchar_0 : decode jdk_43_method_2_code 0 = .ok (.iload_n 1, 1) := by decide +kernel
theorem d_lchar_1 : decode jdk_43_method_2_code 1 = .ok (.aload_n 0, 1) := by decide +kernel
theorem d_lchar_2 : decode jdk_43_method_2_code 2 = .ok (.arraylength, 1) := by decide +kernel
theorem d_lchar_3 : decode jdk_43_method_2_code 3 = .ok (.invokestatic 9, 3) := by decide +kernel
theorem d_lchar_6 : decode jdk_43_method_2_code 6 = .ok (.aload_n 0, 1) := by decide +kernel
theorem d_lchar_7 : decode jdk_43_method_2_code 7 = .ok (.iload_n 1, 1) := by decide +kernel
theorem d_lchar_8 : decode jdk_43_method_2_code 8 = .ok (.baload, 1) := by decide +kernel
theorem d_lchar_9 : decode jdk_43_method_2_code 9 = .ok (.sipush 255, 3) := by decide +kernel
theorem d_lchar_12 : decode jdk_43_method_2_code 12 = .ok (.iand, 1) := by decide +kernel
theorem d_lchar_13 : decode jdk_43_method_2_code 13 = .ok (.i2c, 1) := by decide +kernel
theorem d_lchar_14 : decode jdk_43_method_2_code 14 = .ok (.ireturn, 1) := by decide +kernel
theorem ef_lchar (m : MethodId) (ao : Addr) (pi : Int32) : entryFrame m #[(.ref ao), (.int pi)] 2 = mkF m 0 #[.val (.ref ao), .val (.int pi)] [] := by first | (simp [entryFrame, mkF, argsToLocals, Value.category]; done) | rfl
def Q_lchar (Z : State) (ao : Addr) (pi : Int32) (kb : ClassId) (zz : Int32) (bl : List Int32) (Gf : Value) (h0 : Heap) (n0 : Nat) (v : Option Value) (h : Heap) (L : List Loc) : Prop := v = some (.int (cuF (bl.getD pi.toNatClampNeg 0))) ∧ Fr n0 L ∧ h = h0
set_option maxRecDepth 65536 in
set_option maxHeartbeats 40000000 in
theorem rm_lchar (l : Launch) (Z : State) (a0 : Array Value) (hw : ∀ d ∈ tables_1, d.before a0 Z = true) (ws : List Jvm.Cond) (ao : Addr) (pi : Int32) (kb : ClassId) (zz : Int32) (bl : List Int32) (Gf : Value) (h0 : Heap) (n0 : Nat) (Z0 : n0 ≤ h0.size) (Pf0 : Arv Z h0 ao kb .byte zz (bvs bl) (.int (0 : Int32))) (Pf1 : Sta Z h0 "jdk/internal/util/Preconditions" "SIOOBE_FORMATTER" "Ljava/util/function/BiFunction;" Gf) (rG3 : Gf.isRef = true) (hpi : 0 ≤ pi.toInt ∧ pi.toInt < zz.toInt) :
    MetFree l (⟨"java/lang/StringLatin1", "charAt", "([BI)C"⟩ : MethodName) (head1 (Jvm.Cond.code (⟨"java/lang/StringLatin1", "charAt", "([BI)C"⟩ : MethodName) jdk_43_method_2_code 2 (some .char) :: ws) ({ frames := 2, cells := 0, slots := 0, locals := 27 } : Room)) (fun a U => a = #[(.ref ao), (.int pi)] ∧ Z.Warmed39 U.vm ∧ U.heap = h0) (fun _ _ _ _ _ => True) (fun _ U o U' => ∃ v L, o = .returned v ∧ Q_lchar Z ao pi kb zz bl Gf h0 n0 v U'.heap L ∧ FrameEnd U o U' L ({ frames := 2, cells := 0, slots := 0, locals := 27 } : Room).cells ({ frames := 2, cells := 0, slots := 0, locals := 27 } : Room).slots) := by
  refine MetFree.of_bodySF (plainFor_of_name pn_3) hisR ?_
  intro p e s m args below meth c s₁ Bd hml0 hP hK
  obtain ⟨rfl, hZ, hh⟩ := hP
  have hx := Bd.exec
  have hby := Bd.bytes
  have hml : c.maxLocals = 2 := hml0
  have hown : s.vm.findClass "java/lang/StringLatin1" = some m.cls := findClass_of_methodNamed Bd.named
  have hnm := (name_of_methodNamed Bd.named Bd.method).1
  have X0 : Stand p l e ({ frames := 2, cells := 0, slots := 0, locals := 27 } : Room) s m #[(.ref ao), (.int pi)] below meth c s₁ [] 0 0 := Stand.of_body Bd
  have e0 : s₁.heap = h0 := by rw [← hh, Bd.state]; rfl
  have N0 := Fr.nil n0
  have K0 : Keep h0 h0 [] := Keep.refl h0 []
  show Go p.tables e below _ (s₁.setTop (entryFrame m #[(.ref ao), (.int pi)] 2))
  refine Go.start ?_
  intro G hG
  refine Go.st (fun t k => castTop (ef_lchar m ao pi) k) ?_
  have i_0 : (0 : Int32).toInt = 0 := by decide
  show Go p.tables e below _ (s₁.setTop (mkF m 0 #[.val (.ref ao), .val (.int pi)] []))
  refine Go.st (fun _ k => XS.iloadN X0.here hx rfl (hb hby d_lchar_0) rfl k) ?_
  show Go p.tables e below _ (s₁.setTop (mkF m 1 #[.val (.ref ao), .val (.int pi)] [(.int pi)]))
  refine Go.st (fun _ k => XS.aloadN X0.here hx rfl (hb hby d_lchar_1) rfl rfl k) ?_
  show Go p.tables e below _ (s₁.setTop (mkF m 2 #[.val (.ref ao), .val (.int pi)] [(.ref ao), (.int pi)]))
  obtain ⟨cl1, Ar1, -, S1, M1, -, -⟩ := id Pf0
  refine Go.st (fun _ k => X0.arraylength hx (by rw [e0]; exact Ar1.1) (State.isArrayOf_alike hZ.alike Ar1.2.1) (g := (mkF m 2 #[.val (.ref ao), .val (.int pi)] [(.ref ao), (.int pi)])) rfl rfl (hb hby d_lchar_2) _ k) ?_
  rw [len_of S1 M1]
  show Go p.tables e below _ (s₁.setTop (mkF m 3 #[.val (.ref ao), .val (.int pi)] [(.int zz), (.int pi)]))
  obtain ⟨_, _, ⟨T2, L2, k2, n2⟩, -, X2, ⟨Lc2, hQ2, l2, y2, z2⟩, st2⟩ := Jvm.LawKit.callS X0 hx (y := (⟨"java/lang/String", "checkIndex", "(II)V"⟩ : MethodName)) hown (mvT hZ (hw _ (List.mem_of_getElem? (i := 108) rfl))) (mvT hZ (hw _ (List.mem_of_getElem? (i := 109) rfl))) (mvT hZ (hw _ (List.mem_of_getElem? (i := 34) rfl))) (mvT hZ (hw _ (List.mem_of_getElem? (i := 110) rfl))) (by decide) (backOf (W := 0) (rm_schk l Z a0 hw [] pi zz Gf h0 n0 Z0 (by show 0 ≤ pi.toInt ∧ pi.toInt < zz.toInt; exact hpi) Pf1 (by show Gf.isRef = true; exact rG3)) hZ (hw _ (List.mem_of_getElem? (i := 110) rfl)) (hw _ (List.mem_of_getElem? (i := 34) rfl)) (by decide) (by decide)) (g := (mkF m 3 #[.val (.ref ao), .val (.int pi)] [(.int zz), (.int pi)])) rfl (by rw [hml]; rfl) (argsL := [(.int pi), (.int zz)]) (rest := []) (lenOf pd_2 rfl) rfl (by show 2 * 0 + _ ≤ _; exact Nat.le_of_eq rfl) (hb hby d_lchar_3) (fun _ _ => ⟨rfl, e0, (by decide : 0 + 0 ≤ _), (by decide : 0 + 0 ≤ _)⟩)
  dsimp only [Pt.U, Pt.locs, Pt.cells, Pt.slots] at X2 l2 y2 z2 st2 hQ2
  rw [l2, y2, z2] at X2
  obtain ⟨rfl, N2q, e2⟩ := hQ2
  have N2 := Fr.app N0 N2q
  refine Go.st st2 ?_
  show Go p.tables e below _ (T2.setTop (mkF m 6 #[.val (.ref ao), .val (.int pi)] []))
  refine Go.st (fun _ k => XS.aloadN X2.here hx rfl (hb hby d_lchar_6) rfl rfl k) ?_
  show Go p.tables e below _ (T2.setTop (mkF m 7 #[.val (.ref ao), .val (.int pi)] [(.ref ao)]))
  refine Go.st (fun _ k => XS.iloadN X2.here hx rfl (hb hby d_lchar_7) rfl k) ?_
  show Go p.tables e below _ (T2.setTop (mkF m 8 #[.val (.ref ao), .val (.int pi)] [(.int pi), (.ref ao)]))
  obtain ⟨cl3, Ar3, q3, S3, M3, H3, G3⟩ := id Pf0
  have hin3 : ¬ (pi < 0 ∨ cl3.slots.size ≤ (pi).toNatClampNeg) := inb_of S3 ⟨own_nlt32 (by omega), own_lt32 (by omega)⟩
  have hat3 : cl3.slots[(pi).toNatClampNeg]? = some (.int (bl.getD pi.toNatClampNeg 0)) := Has.at H3 hin3 (own_bget _ _)
  refine Go.st (fun _ k => X2.baloadBytes hx (j := pi) (v := (.int (bl.getD pi.toNatClampNeg 0))) (by rw [e2]; exact Ar3.1) (State.isArrayOf_alike hZ.alike Ar3.2.1) Ar3.2.2 hin3 hat3 (g := (mkF m 8 #[.val (.ref ao), .val (.int pi)] [(.int pi), (.ref ao)])) rfl rfl (hb hby d_lchar_8) _ k) ?_
  show Go p.tables e below _ (T2.setTop (mkF m 9 #[.val (.ref ao), .val (.int pi)] [(.int (bl.getD pi.toNatClampNeg 0))]))
  refine Go.st (fun _ k => XS.sipush X2.here hx rfl (hb hby d_lchar_9) k) ?_
  show Go p.tables e below _ (T2.setTop (mkF m 12 #[.val (.ref ao), .val (.int pi)] [(.int (255 : Int32)), (.int (bl.getD pi.toNatClampNeg 0))]))
  refine Go.st (fun _ k => XS.iand X2.here hx rfl (hb hby d_lchar_12) rfl k) ?_
  show Go p.tables e below _ (T2.setTop (mkF m 13 #[.val (.ref ao), .val (.int pi)] [(.int ((bl.getD pi.toNatClampNeg 0) &&& (255 : Int32)))]))
  refine Go.st (fun _ k => XS.i2c X2.here hx rfl (hb hby d_lchar_13) rfl k) ?_
  show Go p.tables e below _ (T2.setTop (mkF m 14 #[.val (.ref ao), .val (.int pi)] [(.int (((bl.getD pi.toNatClampNeg 0) &&& (255 : Int32)).toUInt32.toUInt16.toUInt32.toInt32))]))
  subst hG
  obtain ⟨fs, hr, hrun, hended, hW, hsame⟩ := X2.leave (v := some (.int (nar .char (((bl.getD pi.toNatClampNeg 0) &&& (255 : Int32)).toUInt32.toUInt16.toUInt32.toInt32)))) (fun h => by rw [Bd.returns] at h; cases h)
  refine ⟨_, _, ?_, hrun, hended, _, _, rfl, ?_, ⟨_, rfl⟩, hW, hsame.mono (by decide) (by decide)⟩
  · exact retN X2 hx (t := .char) Bd.returns (by simp) (hb hby d_lchar_14) hr
  · show Q_lchar Z ao pi kb zz bl Gf h0 n0 _ T2.heap _
    rw [e2]
    exact ⟨(by rw [own_narc]; rfl), N2, rfl⟩
theorem pd_3 : parseMethodDescriptor "()Z" = some ⟨[], some .boolean⟩ := by decide +kernel
theorem pd_4 : parseMethodDescriptor "([BI)C" = some ⟨[(.array .byte), .int], some .char⟩ := by decide +kernel
theorem d_schar_0 : decode jdk_42_method_56_code 0 = .ok (.aload_n 0, 1) := by decide +kernel
theorem d_schar_1 : decode jdk_42_method_56_code 1 = .ok (.invokevirtual 492, 3) := by decide +kernel
theorem d_schar_4 : decode jdk_42_method_56_code 4 = .ok (.ifCond .eq 12, 3) := by decide +kernel
theorem d_schar_7 : decode jdk_42_method_56_code 7 = .ok (.aload_n 0, 1) := by decide +kernel
theorem d_schar_8 : decode jdk_42_method_56_code 8 = .ok (.getfield 9, 3) := by decide +kernel
theorem d_schar_11 : decode jdk_42_method_56_code 11 = .ok (.iload_n 1, 1) := by decide +kernel
theorem d_schar_12 : decode jdk_42_method_56_code 12 = .ok (.invokestatic 495, 3) := by decide +kernel
theorem d_schar_15 : decode jdk_42_method_56_code 15 = .ok (.ireturn, 1) := by decide +kernel
theorem ef_schar (m : MethodId) (so : Addr) (pi : Int32) : entryFrame m #[(.ref so), (.int pi)] 2 = mkF m 0 #[.val (.ref so), .val (.int pi)] [] := by first | (simp [entryFrame, mkF, argsToLocals, Value.category]; done) | rfl
def Q_schar (Z : State) (so : Addr) (pi : Int32) (tb : Addr) (kb : ClassId) (zz : Int32) (bl : List Int32) (G1 : Int32) (Gf : Value) (h0 : Heap) (n0 : Nat) (v : Option Value) (h : Heap) (L : List Loc) : Prop := v = some (.int (cuF (bl.getD pi.toNatClampNeg 0))) ∧ Fr n0 L ∧ h = h0
set_option maxRecDepth 65536 in
set_option maxHeartbeats 40000000 in
theorem rm_schar (l : Launch) (Z : State) (a0 : Array Value) (hw : ∀ d ∈ tables_1, d.before a0 Z = true) (ws : List Jvm.Cond) (so : Addr) (pi : Int32) (tb : Addr) (kb : ClassId) (zz : Int32) (bl : List Int32) (G1 : Int32) (Gf : Value) (h0 : Heap) (n0 : Nat) (Z0 : n0 ≤ h0.size) (Pf0 : Exa Z h0 so "java/lang/String") (Pf1 : Fld Z h0 so "java/lang/String" "coder" "B" (.int (0 : Int32))) (Pf2 : Fld Z h0 so "java/lang/String" "value" "[B" (.ref tb)) (Pf3 : Arv Z h0 tb kb .byte zz (bvs bl) (.int (0 : Int32))) (Pf4 : Sta Z h0 "java/lang/String" "COMPACT_STRINGS" "Z" (.int G1)) (P5 : ¬ (G1 = (0 : Int32))) (Pf6 : Sta Z h0 "jdk/internal/util/Preconditions" "SIOOBE_FORMATTER" "Ljava/util/function/BiFunction;" Gf) (rG3 : Gf.isRef = true) (hpi : 0 ≤ pi.toInt ∧ pi.toInt < zz.toInt) :
    MetFree l (⟨"java/lang/String", "charAt", "(I)C"⟩ : MethodName) (head1 (Jvm.Cond.code (⟨"java/lang/String", "charAt", "(I)C"⟩ : MethodName) jdk_42_method_56_code 2 (some .char) :: ws) ({ frames := 3, cells := 0, slots := 0, locals := 40 } : Room)) (fun a U => a = #[(.ref so), (.int pi)] ∧ Z.Warmed39 U.vm ∧ U.heap = h0) (fun _ _ _ _ _ => True) (fun _ U o U' => ∃ v L, o = .returned v ∧ Q_schar Z so pi tb kb zz bl G1 Gf h0 n0 v U'.heap L ∧ FrameEnd U o U' L ({ frames := 3, cells := 0, slots := 0, locals := 40 } : Room).cells ({ frames := 3, cells := 0, slots := 0, locals := 40 } : Room).slots) := by
  refine MetFree.of_bodySF (plainFor_of_name pn_1) hisR ?_
  intro p e s m args below meth c s₁ Bd hml0 hP hK
  obtain ⟨rfl, hZ, hh⟩ := hP
  have hx := Bd.exec
  have hby := Bd.bytes
  have hml : c.maxLocals = 2 := hml0
  have hown : s.vm.findClass "java/lang/String" = some m.cls := findClass_of_methodNamed Bd.named
  have hnm := (name_of_methodNamed Bd.named Bd.method).1
  have X0 : Stand p l e ({ frames := 3, cells := 0, slots := 0, locals := 40 } : Room) s m #[(.ref so), (.int pi)] below meth c s₁ [] 0 0 := Stand.of_body Bd
  have e0 : s₁.heap = h0 := by rw [← hh, Bd.state]; rfl
  have N0 := Fr.nil n0
  have K0 : Keep h0 h0 [] := Keep.refl h0 []
  show Go p.tables e below _ (s₁.setTop (entryFrame m #[(.ref so), (.int pi)] 2))
  refine Go.start ?_
  intro G hG
  refine Go.st (fun t k => castTop (ef_schar m so pi) k) ?_
  show Go p.tables e below _ (s₁.setTop (mkF m 0 #[.val (.ref so), .val (.int pi)] []))
  refine Go.st (fun _ k => XS.aloadN X0.here hx rfl (hb hby d_schar_0) rfl rfl k) ?_
  show Go p.tables e below _ (s₁.setTop (mkF m 1 #[.val (.ref so), .val (.int pi)] [(.ref so)]))
  obtain ⟨cq1, kq1, q1a, q1b, q1c⟩ := isOf hZ e0 Pf0
  obtain ⟨_, _, ⟨T1, L1, k1, n1⟩, -, X1, ⟨Lc1, hQ1, l1, y1, z1⟩, st1⟩ := X0.virtualBack hx (y := (⟨"java/lang/String", "isLatin1", "()Z"⟩ : MethodName)) (z := (⟨"java/lang/String", "isLatin1", "()Z"⟩ : MethodName)) hown (mvT hZ (hw _ (List.mem_of_getElem? (i := 99) rfl))) (mvT hZ (hw _ (List.mem_of_getElem? (i := 100) rfl))) (notFace_of_selects (args := #[]) (mvT hZ (hw _ (List.mem_of_getElem? (i := 102) rfl)))) (mvT hZ (hw _ (List.mem_of_getElem? (i := 102) rfl))) (mvT hZ (hw _ (List.mem_of_getElem? (i := 101) rfl))) (by decide) (backOf (W := 0) (rm_islat l Z a0 hw [] so G1 h0 n0 Z0 Pf0 Pf1 Pf4 (by show ¬ (G1 = (0 : Int32)); exact P5)) hZ (hw _ (List.mem_of_getElem? (i := 103) rfl)) (hw _ (List.mem_of_getElem? (i := 34) rfl)) (by decide) (by decide)) q1a q1c (g := (mkF m 1 #[.val (.ref so), .val (.int pi)] [(.ref so)])) rfl (by rw [hml]; rfl) (Steps.refl _) (argsL := []) (rest := []) (lenOf pd_3 rfl) rfl (by show 2 * 0 + _ ≤ _; exact Nat.le_of_eq rfl) (hb hby d_schar_1) (fun _ _ => ⟨rfl, e0, (by decide : 0 + 0 ≤ _), (by decide : 0 + 0 ≤ _)⟩)
  dsimp only [Pt.U, Pt.locs, Pt.cells, Pt.slots] at X1 l1 y1 z1 st1 hQ1
  rw [l1, y1, z1] at X1
  obtain ⟨rfl, N1q, e1⟩ := hQ1
  have N1 := Fr.app N0 N1q
  refine Go.st (fun _ k => st1.trans k) ?_
  show Go p.tables e below _ (T1.setTop (mkF m 4 #[.val (.ref so), .val (.int pi)] [(.int (1 : Int32))]))
  have hl2 : ¬ ((1 : Int32) = (0 : Int32)) := by decide
  refine Go.st (fun _ k => XS.ifNo X1.here hx rfl (hb hby d_schar_4) rfl (Jvm.Free.XT.i0_eq_f hl2) k) ?_
  show Go p.tables e below _ (T1.setTop (mkF m 7 #[.val (.ref so), .val (.int pi)] []))
  refine Go.st (fun _ k => XS.aloadN X1.here hx rfl (hb hby d_schar_7) rfl rfl k) ?_
  show Go p.tables e below _ (T1.setTop (mkF m 8 #[.val (.ref so), .val (.int pi)] [(.ref so)]))
  obtain ⟨T3, X3, e3, st3⟩ := getF X1 hx hZ hown (host := "") (Or.inl (hw _ (List.mem_of_getElem? (i := 80) rfl))) Via.refl e1 Pf2 (g := (mkF m 8 #[.val (.ref so), .val (.int pi)] [(.ref so)])) rfl rfl (hb hby d_schar_8)
  refine Go.st st3 ?_
  show Go p.tables e below _ (T3.setTop (mkF m 11 #[.val (.ref so), .val (.int pi)] [(.ref tb)]))
  refine Go.st (fun _ k => XS.iloadN X3.here hx rfl (hb hby d_schar_11) rfl k) ?_
  show Go p.tables e below _ (T3.setTop (mkF m 12 #[.val (.ref so), .val (.int pi)] [(.int pi), (.ref tb)]))
  obtain ⟨_, _, ⟨T4, L4, k4, n4⟩, -, X4, ⟨Lc4, hQ4, l4, y4, z4⟩, st4⟩ := Jvm.LawKit.callS X3 hx (y := (⟨"java/lang/StringLatin1", "charAt", "([BI)C"⟩ : MethodName)) hown (mvT hZ (hw _ (List.mem_of_getElem? (i := 104) rfl))) (mvT hZ (hw _ (List.mem_of_getElem? (i := 105) rfl))) (mvT hZ (hw _ (List.mem_of_getElem? (i := 106) rfl))) (mvT hZ (hw _ (List.mem_of_getElem? (i := 107) rfl))) (by decide) (backOf (W := 0) (rm_lchar l Z a0 hw [] tb pi kb zz bl Gf h0 n0 Z0 Pf3 Pf6 (by show Gf.isRef = true; exact rG3) (by show 0 ≤ pi.toInt ∧ pi.toInt < zz.toInt; exact hpi)) hZ (hw _ (List.mem_of_getElem? (i := 107) rfl)) (hw _ (List.mem_of_getElem? (i := 106) rfl)) (by decide) (by decide)) (g := (mkF m 12 #[.val (.ref so), .val (.int pi)] [(.int pi), (.ref tb)])) rfl (by rw [hml]; rfl) (argsL := [(.ref tb), (.int pi)]) (rest := []) (lenOf pd_4 rfl) rfl (by show 2 * 0 + _ ≤ _; exact Nat.le_of_eq rfl) (hb hby d_schar_12) (fun _ _ => ⟨rfl, e3, (by decide : 0 + 0 ≤ _), (by decide : 0 + 0 ≤ _)⟩)
  dsimp only [Pt.U, Pt.locs, Pt.cells, Pt.slots] at X4 l4 y4 z4 st4 hQ4
  rw [l4, y4, z4] at X4
  obtain ⟨rfl, N4q, e4⟩ := hQ4
  have N4 := Fr.app N1 N4q
  refine Go.st st4 ?_
  show Go p.tables e below _ (T4.setTop (mkF m 15 #[.val (.ref so), .val (.int pi)] [(.int (cuF (bl.getD pi.toNatClampNeg 0)))]))
  subst hG
  obtain ⟨fs, hr, hrun, hended, hW, hsame⟩ := X4.leave (v := some (.int (nar .char (cuF (bl.getD pi.toNatClampNeg 0))))) (fun h => by rw [Bd.returns] at h; cases h)
  refine ⟨_, _, ?_, hrun, hended, _, _, rfl, ?_, ⟨_, rfl⟩, hW, hsame.mono (by decide) (by decide)⟩
  · exact retN X4 hx (t := .char) Bd.returns (by simp) (hb hby d_schar_15) hr
  · show Q_schar Z so pi tb kb zz bl G1 Gf h0 n0 _ T4.heap _
    rw [e4]
    exact ⟨(by rw [show nar .char (cuF (bl.getD pi.toNatClampNeg 0)) = _ from own_narc _]; rfl), N4, rfl⟩
theorem pn_4 : plainName "java/lang/StringCoding" = true := by first | (simp [plainName, overriddenIn]; done) | decide +kernel
theorem d_cpos_0 : decode jdk_123_method_3_code 0 = .ok (.iload_n 1, 1) := by decide +kernel
theorem d_cpos_1 : decode jdk_123_method_3_code 1 = .ok (.iload_n 2, 1) := by decide +kernel
theorem d_cpos_2 : decode jdk_123_method_3_code 2 = .ok (.iadd, 1) := by decide +kernel
theorem d_cpos_3 : decode jdk_123_method_3_code 3 = .ok (.istore_n 3, 1) := by decide +kernel
theorem d_cpos_4 : decode jdk_123_method_3_code 4 = .ok (.iload_n 1, 1) := by decide +kernel
theorem d_cpos_5 : decode jdk_123_method_3_code 5 = .ok (.istore 4, 2) := by decide +kernel
theorem d_cpos_7 : decode jdk_123_method_3_code 7 = .ok (.iload 4, 2) := by decide +kernel
theorem d_cpos_9 : decode jdk_123_method_3_code 9 = .ok (.iload_n 3, 1) := by decide +kernel
theorem d_cpos_10 : decode jdk_123_method_3_code 10 = .ok (.if_icmp .ge 21, 3) := by decide +kernel
theorem d_cpos_13 : decode jdk_123_method_3_code 13 = .ok (.aload_n 0, 1) := by decide +kernel
theorem d_cpos_14 : decode jdk_123_method_3_code 14 = .ok (.iload 4, 2) := by decide +kernel
theorem d_cpos_16 : decode jdk_123_method_3_code 16 = .ok (.baload, 1) := by decide +kernel
theorem d_cpos_17 : decode jdk_123_method_3_code 17 = .ok (.ifCond .ge 8, 3) := by decide +kernel
theorem d_cpos_25 : decode jdk_123_method_3_code 25 = .ok (.iinc 4 1, 3) := by decide +kernel
theorem d_cpos_28 : decode jdk_123_method_3_code 28 = .ok (.goto (-21), 3) := by decide +kernel
theorem d_cpos_31 : decode jdk_123_method_3_code 31 = .ok (.iload_n 2, 1) := by decide +kernel
theorem d_cpos_32 : decode jdk_123_method_3_code 32 = .ok (.ireturn, 1) := by decide +kernel
theorem ef_cpos (m : MethodId) (ao : Addr) (po : Int32) (pl : Int32) : entryFrame m #[(.ref ao), (.int po), (.int pl)] 5 = mkF m 0 #[.val (.ref ao), .val (.int po), .val (.int pl), .unset, .unset] [] := by first | (simp [entryFrame, mkF, argsToLocals, Value.category]; done) | rfl
def Q_cpos (Z : State) (ao : Addr) (po : Int32) (pl : Int32) (kb : ClassId) (zz : Int32) (bl : List Int32) (h0 : Heap) (n0 : Nat) (v : Option Value) (h : Heap) (L : List Loc) : Prop := v = some (.int pl) ∧ Fr n0 L ∧ h = h0
set_option maxRecDepth 65536 in
set_option maxHeartbeats 40000000 in
theorem rm_cpos (l : Launch) (Z : State) (a0 : Array Value) (hw : ∀ d ∈ tables_1, d.before a0 Z = true) (ws : List Jvm.Cond) (ao : Addr) (po : Int32) (pl : Int32) (kb : ClassId) (zz : Int32) (bl : List Int32) (h0 : Heap) (n0 : Nat) (Z0 : n0 ≤ h0.size) (Pf0 : Arv Z h0 ao kb .byte zz (bvs bl) (.int (0 : Int32))) (hnn : ∀ i, i < zz.toNatClampNeg → ¬ (bl.getD i 0) < 0) (hz0 : ¬ zz < 0) (hpo : po.toInt = 0 ∧ pl.toInt = zz.toInt) :
    MetFree l (⟨"java/lang/StringCoding", "countPositives", "([BII)I"⟩ : MethodName) (head1 (Jvm.Cond.code (⟨"java/lang/StringCoding", "countPositives", "([BII)I"⟩ : MethodName) jdk_123_method_3_code 5 (some .int) :: ws) ({ frames := 0, cells := 0, slots := 0, locals := 0 } : Room)) (fun a U => a = #[(.ref ao), (.int po), (.int pl)] ∧ Z.Warmed39 U.vm ∧ U.heap = h0) (fun _ _ _ _ _ => True) (fun _ U o U' => ∃ v L, o = .returned v ∧ Q_cpos Z ao po pl kb zz bl h0 n0 v U'.heap L ∧ FrameEnd U o U' L ({ frames := 0, cells := 0, slots := 0, locals := 0 } : Room).cells ({ frames := 0, cells := 0, slots := 0, locals := 0 } : Room).slots) := by
  refine MetFree.of_bodySF (plainFor_of_name pn_4) hisR ?_
  intro p e s m args below meth c s₁ Bd hml0 hP hK
  obtain ⟨rfl, hZ, hh⟩ := hP
  have hx := Bd.exec
  have hby := Bd.bytes
  have hml : c.maxLocals = 5 := hml0
  have hown : s.vm.findClass "java/lang/StringCoding" = some m.cls := findClass_of_methodNamed Bd.named
  have hnm := (name_of_methodNamed Bd.named Bd.method).1
  have X0 : Stand p l e ({ frames := 0, cells := 0, slots := 0, locals := 0 } : Room) s m #[(.ref ao), (.int po), (.int pl)] below meth c s₁ [] 0 0 := Stand.of_body Bd
  have e0 : s₁.heap = h0 := by rw [← hh, Bd.state]; rfl
  have N0 := Fr.nil n0
  have K0 : Keep h0 h0 [] := Keep.refl h0 []
  show Go p.tables e below _ (s₁.setTop (entryFrame m #[(.ref ao), (.int po), (.int pl)] 5))
  refine Go.start ?_
  intro G hG
  refine Go.st (fun t k => castTop (ef_cpos m ao po pl) k) ?_
  have i_0 : (0 : Int32).toInt = 0 := by decide
  have i_1 : (1 : Int32).toInt = 1 := by decide
  have hs3 := i32_addc po pl
  have hzl0 := zz.toInt_lt
  have hz0n : 0 ≤ zz.toInt := by have q := nat_of hz0; omega
  show Go p.tables e below _ (s₁.setTop (mkF m 0 #[.val (.ref ao), .val (.int po), .val (.int pl), .unset, .unset] []))
  refine Go.st (fun _ k => XS.iloadN X0.here hx rfl (hb hby d_cpos_0) rfl k) ?_
  show Go p.tables e below _ (s₁.setTop (mkF m 1 #[.val (.ref ao), .val (.int po), .val (.int pl), .unset, .unset] [(.int po)]))
  refine Go.st (fun _ k => XS.iloadN X0.here hx rfl (hb hby d_cpos_1) rfl k) ?_
  show Go p.tables e below _ (s₁.setTop (mkF m 2 #[.val (.ref ao), .val (.int po), .val (.int pl), .unset, .unset] [(.int pl), (.int po)]))
  refine Go.st (fun _ k => XS.iadd X0.here hx rfl (hb hby d_cpos_2) rfl k) ?_
  show Go p.tables e below _ (s₁.setTop (mkF m 3 #[.val (.ref ao), .val (.int po), .val (.int pl), .unset, .unset] [(.int (po + pl))]))
  refine Go.st (fun _ k => XS.istoreN X0.here hx rfl (hb hby d_cpos_3) rfl (l' := #[.val (.ref ao), .val (.int po), .val (.int pl), .val (.int (po + pl)), .unset]) rfl k) ?_
  show Go p.tables e below _ (s₁.setTop (mkF m 4 #[.val (.ref ao), .val (.int po), .val (.int pl), .val (.int (po + pl)), .unset] []))
  generalize hqv3 : (po + pl) = v3
  show Go p.tables e below _ (s₁.setTop (mkF m 4 #[.val (.ref ao), .val (.int po), .val (.int pl), .val (.int v3), .unset] []))
  rw [hqv3] at hs3
  show Go p.tables e below _ (s₁.setTop (mkF m 4 #[.val (.ref ao), .val (.int po), .val (.int pl), .val (.int v3), .unset] []))
  refine Go.st (fun _ k => XS.iloadN X0.here hx rfl (hb hby d_cpos_4) rfl k) ?_
  show Go p.tables e below _ (s₁.setTop (mkF m 5 #[.val (.ref ao), .val (.int po), .val (.int pl), .val (.int v3), .unset] [(.int po)]))
  refine Go.st (fun _ k => XS.istore X0.here hx rfl (hb hby d_cpos_5) rfl (l' := #[.val (.ref ao), .val (.int po), .val (.int pl), .val (.int v3), .val (.int po)]) rfl k) ?_
  show Go p.tables e below _ (s₁.setTop (mkF m 7 #[.val (.ref ao), .val (.int po), .val (.int pl), .val (.int v3), .val (.int po)] []))
  have lp7 : ∀ (kz : Nat) (T : State) (h : Heap) (lc : List Loc) (iv : Int32), Stand p l e ({ frames := 0, cells := 0, slots := 0, locals := 0 } : Room) s m #[(.ref ao), (.int po), (.int pl)] below meth c T lc 0 0 → T.heap = h → Fr n0 lc → Keep h0 h [] → n0 ≤ h.size → Arv Z h ao kb .byte zz (bvs bl) (.int (0 : Int32)) → (iv.toInt + (kz : Int) = zz.toInt ∧ 0 ≤ iv.toInt) → (h = h0) → Go p.tables e below G (T.setTop (mkF m 7 #[.val (.ref ao), .val (.int po), .val (.int pl), .val (.int v3), .val (.int iv)] [])) := by
    intro kz
    induction kz with
    | zero =>
      intro T h lc iv XT eT NT KT ZT FT0 h1 hpu
      have h1' : iv.toInt = zz.toInt := by omega
      show Go p.tables e below _ (T.setTop (mkF m 7 #[.val (.ref ao), .val (.int po), .val (.int pl), .val (.int v3), .val (.int iv)] []))
      refine Go.st (fun _ k => XS.iload XT.here hx rfl (hb hby d_cpos_7) rfl k) ?_
      show Go p.tables e below _ (T.setTop (mkF m 9 #[.val (.ref ao), .val (.int po), .val (.int pl), .val (.int v3), .val (.int iv)] [(.int iv)]))
      refine Go.st (fun _ k => XS.iloadN XT.here hx rfl (hb hby d_cpos_9) rfl k) ?_
      show Go p.tables e below _ (T.setTop (mkF m 10 #[.val (.ref ao), .val (.int po), .val (.int pl), .val (.int v3), .val (.int iv)] [(.int v3), (.int iv)]))
      have hc10 : ¬ (iv < v3) := own_nlt32 (by omega)
      refine Go.st (fun _ k => XS.icmpYes XT.here hx rfl (pc0 := 10) (pc' := 31) rfl (hb hby d_cpos_10) rfl (Jvm.Free.XT.ii_ge_t hc10) (by decide) (by decide) k) ?_
      show Go p.tables e below _ (T.setTop (mkF m 31 #[.val (.ref ao), .val (.int po), .val (.int pl), .val (.int v3), .val (.int iv)] []))
      refine Go.st (fun _ k => XS.iloadN XT.here hx rfl (hb hby d_cpos_31) rfl k) ?_
      show Go p.tables e below _ (T.setTop (mkF m 32 #[.val (.ref ao), .val (.int po), .val (.int pl), .val (.int v3), .val (.int iv)] [(.int pl)]))
      subst hG
      obtain ⟨fs, hr, hrun, hended, hW, hsame⟩ := XT.leave (v := some (.int pl)) (fun h => by rw [Bd.returns] at h; cases h)
      refine ⟨_, _, ?_, hrun, hended, _, _, rfl, ?_, ⟨_, rfl⟩, hW, hsame.mono (by decide) (by decide)⟩
      · exact retI XT hx Bd.returns (hb hby d_cpos_32) hr
      · show Q_cpos Z ao po pl kb zz bl h0 n0 _ T.heap _
        rw [eT]
        exact ⟨rfl, NT, hpu⟩
    | succ kz ih =>
      intro T h lc iv XT eT NT KT ZT FT0 h1 hpu
      have h1' : iv.toInt + kz + 1 = zz.toInt := by omega
      have ivn := nat_of (j := iv) (own_nlt32 (by omega))
      have zzn := nat_of hz0
      show Go p.tables e below _ (T.setTop (mkF m 7 #[.val (.ref ao), .val (.int po), .val (.int pl), .val (.int v3), .val (.int iv)] []))
      refine Go.st (fun _ k => XS.iload XT.here hx rfl (hb hby d_cpos_7) rfl k) ?_
      show Go p.tables e below _ (T.setTop (mkF m 9 #[.val (.ref ao), .val (.int po), .val (.int pl), .val (.int v3), .val (.int iv)] [(.int iv)]))
      refine Go.st (fun _ k => XS.iloadN XT.here hx rfl (hb hby d_cpos_9) rfl k) ?_
      show Go p.tables e below _ (T.setTop (mkF m 10 #[.val (.ref ao), .val (.int po), .val (.int pl), .val (.int v3), .val (.int iv)] [(.int v3), (.int iv)]))
      have hc10 : iv < v3 := own_lt32 (by omega)
      refine Go.st (fun _ k => XS.icmpNo XT.here hx rfl (hb hby d_cpos_10) rfl (Jvm.Free.XT.ii_ge_f hc10) k) ?_
      show Go p.tables e below _ (T.setTop (mkF m 13 #[.val (.ref ao), .val (.int po), .val (.int pl), .val (.int v3), .val (.int iv)] []))
      refine Go.st (fun _ k => XS.aloadN XT.here hx rfl (hb hby d_cpos_13) rfl rfl k) ?_
      show Go p.tables e below _ (T.setTop (mkF m 14 #[.val (.ref ao), .val (.int po), .val (.int pl), .val (.int v3), .val (.int iv)] [(.ref ao)]))
      refine Go.st (fun _ k => XS.iload XT.here hx rfl (hb hby d_cpos_14) rfl k) ?_
      show Go p.tables e below _ (T.setTop (mkF m 16 #[.val (.ref ao), .val (.int po), .val (.int pl), .val (.int v3), .val (.int iv)] [(.int iv), (.ref ao)]))
      obtain ⟨cl1, Ar1, q1, S1, M1, H1, G1⟩ := id FT0
      have hin1 : ¬ (iv < 0 ∨ cl1.slots.size ≤ (iv).toNatClampNeg) := inb_of S1 ⟨own_nlt32 (by omega), own_lt32 (by omega)⟩
      have hat1 : cl1.slots[(iv).toNatClampNeg]? = some (.int (bl.getD iv.toNatClampNeg 0)) := Has.at H1 hin1 (own_bget _ _)
      refine Go.st (fun _ k => XT.baloadBytes hx (j := iv) (v := (.int (bl.getD iv.toNatClampNeg 0))) (by rw [eT]; exact Ar1.1) (State.isArrayOf_alike hZ.alike Ar1.2.1) Ar1.2.2 hin1 hat1 (g := (mkF m 16 #[.val (.ref ao), .val (.int po), .val (.int pl), .val (.int v3), .val (.int iv)] [(.int iv), (.ref ao)])) rfl rfl (hb hby d_cpos_16) _ k) ?_
      show Go p.tables e below _ (T.setTop (mkF m 17 #[.val (.ref ao), .val (.int po), .val (.int pl), .val (.int v3), .val (.int iv)] [(.int (bl.getD iv.toNatClampNeg 0))]))
      have hc17 : ¬ ((bl.getD iv.toNatClampNeg 0) < (0 : Int32)) := hnn _ (by omega)
      refine Go.st (fun _ k => XS.ifYes XT.here hx rfl (pc0 := 17) (pc' := 25) rfl (hb hby d_cpos_17) rfl (Jvm.Free.XT.i0_ge_t hc17) (by decide) (by decide) k) ?_
      show Go p.tables e below _ (T.setTop (mkF m 25 #[.val (.ref ao), .val (.int po), .val (.int pl), .val (.int v3), .val (.int iv)] []))
      refine Go.st (fun _ k => XS.iinc XT.here hx rfl (hb hby d_cpos_25) rfl (l' := #[.val (.ref ao), .val (.int po), .val (.int pl), .val (.int v3), .val (.int (iv + (1 : Int32)))]) rfl k) ?_
      show Go p.tables e below _ (T.setTop (mkF m 28 #[.val (.ref ao), .val (.int po), .val (.int pl), .val (.int v3), .val (.int (iv + (1 : Int32)))] []))
      generalize hqv25 : (iv + (1 : Int32)) = v25
      show Go p.tables e below _ (T.setTop (mkF m 28 #[.val (.ref ao), .val (.int po), .val (.int pl), .val (.int v3), .val (.int v25)] []))
      refine Go.st (fun _ k => XS.goto XT.here hx rfl (pc0 := 28) (pc' := 7) rfl (hb hby d_cpos_28) (by decide) (by decide) k) ?_
      show Go p.tables e below _ (T.setTop (mkF m 7 #[.val (.ref ao), .val (.int po), .val (.int pl), .val (.int v3), .val (.int v25)] []))
      have hi25 := i32_addc iv (1 : Int32)
      rw [hqv25] at hi25
      have hzl := zz.toInt_lt
      exact ih T h _ v25 XT eT NT KT ZT FT0 (by omega) hpu
  exact lp7 zz.toNatClampNeg s₁ h0 _ po X0 e0 N0 K0 Z0 Pf0 (by have q := nat_of hz0; omega) rfl
theorem pd_5 : parseMethodDescriptor "([BII)I" = some ⟨[(.array .byte), .int, .int], some .int⟩ := by decide +kernel
theorem d_hneg_0 : decode jdk_123_method_2_code 0 = .ok (.aload_n 0, 1) := by decide +kernel
theorem d_hneg_1 : decode jdk_123_method_2_code 1 = .ok (.iload_n 1, 1) := by decide +kernel
theorem d_hneg_2 : decode jdk_123_method_2_code 2 = .ok (.iload_n 2, 1) := by decide +kernel
theorem d_hneg_3 : decode jdk_123_method_2_code 3 = .ok (.invokestatic 7, 3) := by decide +kernel
theorem d_hneg_6 : decode jdk_123_method_2_code 6 = .ok (.iload_n 2, 1) := by decide +kernel
theorem d_hneg_7 : decode jdk_123_method_2_code 7 = .ok (.if_icmp .eq 7, 3) := by decide +kernel
theorem d_hneg_14 : decode jdk_123_method_2_code 14 = .ok (.iconst 0, 1) := by decide +kernel
theorem d_hneg_15 : decode jdk_123_method_2_code 15 = .ok (.ireturn, 1) := by decide +kernel
theorem ef_hneg (m : MethodId) (ao : Addr) (po : Int32) (pl : Int32) : entryFrame m #[(.ref ao), (.int po), (.int pl)] 3 = mkF m 0 #[.val (.ref ao), .val (.int po), .val (.int pl)] [] := by first | (simp [entryFrame, mkF, argsToLocals, Value.category]; done) | rfl
def Q_hneg (Z : State) (ao : Addr) (po : Int32) (pl : Int32) (kb : ClassId) (zz : Int32) (bl : List Int32) (h0 : Heap) (n0 : Nat) (v : Option Value) (h : Heap) (L : List Loc) : Prop := v = some (.int (0 : Int32)) ∧ Fr n0 L ∧ h = h0
set_option maxRecDepth 65536 in
set_option maxHeartbeats 40000000 in
theorem rm_hneg (l : Launch) (Z : State) (a0 : Array Value) (hw : ∀ d ∈ tables_1, d.before a0 Z = true) (ws : List Jvm.Cond) (ao : Addr) (po : Int32) (pl : Int32) (kb : ClassId) (zz : Int32) (bl : List Int32) (h0 : Heap) (n0 : Nat) (Z0 : n0 ≤ h0.size) (Pf0 : Arv Z h0 ao kb .byte zz (bvs bl) (.int (0 : Int32))) (hnn : ∀ i, i < zz.toNatClampNeg → ¬ (bl.getD i 0) < 0) (hz0 : ¬ zz < 0) (hpo : po.toInt = 0 ∧ pl.toInt = zz.toInt) :
    MetFree l (⟨"java/lang/StringCoding", "hasNegatives", "([BII)Z"⟩ : MethodName) (head1 (Jvm.Cond.code (⟨"java/lang/StringCoding", "hasNegatives", "([BII)Z"⟩ : MethodName) jdk_123_method_2_code 3 (some .boolean) :: ws) ({ frames := 1, cells := 0, slots := 0, locals := 16 } : Room)) (fun a U => a = #[(.ref ao), (.int po), (.int pl)] ∧ Z.Warmed39 U.vm ∧ U.heap = h0) (fun _ _ _ _ _ => True) (fun _ U o U' => ∃ v L, o = .returned v ∧ Q_hneg Z ao po pl kb zz bl h0 n0 v U'.heap L ∧ FrameEnd U o U' L ({ frames := 1, cells := 0, slots := 0, locals := 16 } : Room).cells ({ frames := 1, cells := 0, slots := 0, locals := 16 } : Room).slots) := by
  refine MetFree.of_bodySF (plainFor_of_name pn_4) hisR ?_
  intro p e s m args below meth c s₁ Bd hml0 hP hK
  obtain ⟨rfl, hZ, hh⟩ := hP
  have hx := Bd.exec
  have hby := Bd.bytes
  have hml : c.maxLocals = 3 := hml0
  have hown : s.vm.findClass "java/lang/StringCoding" = some m.cls := findClass_of_methodNamed Bd.named
  have hnm := (name_of_methodNamed Bd.named Bd.method).1
  have X0 : Stand p l e ({ frames := 1, cells := 0, slots := 0, locals := 16 } : Room) s m #[(.ref ao), (.int po), (.int pl)] below meth c s₁ [] 0 0 := Stand.of_body Bd
  have e0 : s₁.heap = h0 := by rw [← hh, Bd.state]; rfl
  have N0 := Fr.nil n0
  have K0 : Keep h0 h0 [] := Keep.refl h0 []
  show Go p.tables e below _ (s₁.setTop (entryFrame m #[(.ref ao), (.int po), (.int pl)] 3))
  refine Go.start ?_
  intro G hG
  refine Go.st (fun t k => castTop (ef_hneg m ao po pl) k) ?_
  show Go p.tables e below _ (s₁.setTop (mkF m 0 #[.val (.ref ao), .val (.int po), .val (.int pl)] []))
  refine Go.st (fun _ k => XS.aloadN X0.here hx rfl (hb hby d_hneg_0) rfl rfl k) ?_
  show Go p.tables e below _ (s₁.setTop (mkF m 1 #[.val (.ref ao), .val (.int po), .val (.int pl)] [(.ref ao)]))
  refine Go.st (fun _ k => XS.iloadN X0.here hx rfl (hb hby d_hneg_1) rfl k) ?_
  show Go p.tables e below _ (s₁.setTop (mkF m 2 #[.val (.ref ao), .val (.int po), .val (.int pl)] [(.int po), (.ref ao)]))
  refine Go.st (fun _ k => XS.iloadN X0.here hx rfl (hb hby d_hneg_2) rfl k) ?_
  show Go p.tables e below _ (s₁.setTop (mkF m 3 #[.val (.ref ao), .val (.int po), .val (.int pl)] [(.int pl), (.int po), (.ref ao)]))
  obtain ⟨_, _, ⟨T1, L1, k1, n1⟩, -, X1, ⟨Lc1, hQ1, l1, y1, z1⟩, st1⟩ := Jvm.LawKit.callS X0 hx (y := (⟨"java/lang/StringCoding", "countPositives", "([BII)I"⟩ : MethodName)) hown (mvT hZ (hw _ (List.mem_of_getElem? (i := 64) rfl))) (mvT hZ (hw _ (List.mem_of_getElem? (i := 65) rfl))) (mvT hZ (hw _ (List.mem_of_getElem? (i := 62) rfl))) (mvT hZ (hw _ (List.mem_of_getElem? (i := 66) rfl))) (by decide) (backOf (W := 0) (rm_cpos l Z a0 hw [] ao po pl kb zz bl h0 n0 Z0 Pf0 (by show ∀ i, i < zz.toNatClampNeg → ¬ (bl.getD i 0) < 0; exact hnn) (by show ¬ zz < 0; exact hz0) (by show po.toInt = 0 ∧ pl.toInt = zz.toInt; exact hpo)) hZ (hw _ (List.mem_of_getElem? (i := 66) rfl)) (hw _ (List.mem_of_getElem? (i := 62) rfl)) (by decide) (by decide)) (g := (mkF m 3 #[.val (.ref ao), .val (.int po), .val (.int pl)] [(.int pl), (.int po), (.ref ao)])) rfl (by rw [hml]; rfl) (argsL := [(.ref ao), (.int po), (.int pl)]) (rest := []) (lenOf pd_5 rfl) rfl (by show 2 * 0 + _ ≤ _; exact Nat.le_of_eq rfl) (hb hby d_hneg_3) (fun _ _ => ⟨rfl, e0, (by decide : 0 + 0 ≤ _), (by decide : 0 + 0 ≤ _)⟩)
  dsimp only [Pt.U, Pt.locs, Pt.cells, Pt.slots] at X1 l1 y1 z1 st1 hQ1
  rw [l1, y1, z1] at X1
  obtain ⟨rfl, N1q, e1⟩ := hQ1
  have N1 := Fr.app N0 N1q
  refine Go.st st1 ?_
  show Go p.tables e below _ (T1.setTop (mkF m 6 #[.val (.ref ao), .val (.int po), .val (.int pl)] [(.int pl)]))
  refine Go.st (fun _ k => XS.iloadN X1.here hx rfl (hb hby d_hneg_6) rfl k) ?_
  show Go p.tables e below _ (T1.setTop (mkF m 7 #[.val (.ref ao), .val (.int po), .val (.int pl)] [(.int pl), (.int pl)]))
  have hc7 : pl = pl := rfl
  refine Go.st (fun _ k => XS.icmpYes X1.here hx rfl (pc0 := 7) (pc' := 14) rfl (hb hby d_hneg_7) rfl (Jvm.Free.XT.ii_eq_t hc7) (by decide) (by decide) k) ?_
  show Go p.tables e below _ (T1.setTop (mkF m 14 #[.val (.ref ao), .val (.int po), .val (.int pl)] []))
  refine Go.st (fun _ k => XS.iconst X1.here hx rfl (hb hby d_hneg_14) k) ?_
  show Go p.tables e below _ (T1.setTop (mkF m 15 #[.val (.ref ao), .val (.int po), .val (.int pl)] [(.int (0 : Int32))]))
  subst hG
  obtain ⟨fs, hr, hrun, hended, hW, hsame⟩ := X1.leave (v := some (.int (nar .boolean (0 : Int32)))) (fun h => by rw [Bd.returns] at h; cases h)
  refine ⟨_, _, ?_, hrun, hended, _, _, rfl, ?_, ⟨_, rfl⟩, hW, hsame.mono (by decide) (by decide)⟩
  · exact retN X1 hx (t := .boolean) Bd.returns (by simp) (hb hby d_hneg_15) hr
  · show Q_hneg Z ao po pl kb zz bl h0 n0 _ T1.heap _
    rw [e1]
    exact ⟨rfl, N1, rfl⟩
theorem pn_5 : plainName "java/util/Arrays" = true := by first | (simp [plainName, overriddenIn]; done) | decide +kernel
theorem d_cor_0 : decode jdk_65_method_132_code 0 = .ok (.iload_n 1, 1) := by decide +kernel
theorem d_cor_1 : decode jdk_65_method_132_code 1 = .ok (.ifCond .ne 9, 3) := by decide +kernel
theorem d_cor_4 : decode jdk_65_method_132_code 4 = .ok (.iload_n 2, 1) := by decide +kernel
theorem d_cor_5 : decode jdk_65_method_132_code 5 = .ok (.aload_n 0, 1) := by decide +kernel
theorem d_cor_6 : decode jdk_65_method_132_code 6 = .ok (.arraylength, 1) := by decide +kernel
theorem d_cor_7 : decode jdk_65_method_132_code 7 = .ok (.if_icmp .eq 10, 3) := by decide +kernel
theorem d_cor_17 : decode jdk_65_method_132_code 17 = .ok (.aload_n 0, 1) := by decide +kernel
theorem d_cor_18 : decode jdk_65_method_132_code 18 = .ok (.invokevirtual 310, 3) := by decide +kernel
theorem d_cor_21 : decode jdk_65_method_132_code 21 = .ok (.checkcast 311, 3) := by decide +kernel
theorem d_cor_24 : decode jdk_65_method_132_code 24 = .ok (.areturn, 1) := by decide +kernel
theorem ef_cor (m : MethodId) (ao : Addr) (po : Int32) (pl : Int32) : entryFrame m #[(.ref ao), (.int po), (.int pl)] 3 = mkF m 0 #[.val (.ref ao), .val (.int po), .val (.int pl)] [] := by first | (simp [entryFrame, mkF, argsToLocals, Value.category]; done) | rfl
def Q_cor (Z : State) (ao : Addr) (po : Int32) (pl : Int32) (kb : ClassId) (zz : Int32) (bl : List Int32) (h0 : Heap) (n0 : Nat) (v : Option Value) (h : Heap) (L : List Loc) : Prop := ∃ fr : Addr, v = some (.ref fr) ∧ Fr n0 L ∧ Keep h0 h [] ∧ n0 ≤ fr ∧ h0.size ≤ fr ∧ Arv Z h fr kb .byte zz (bvs bl) (.int (0 : Int32))
set_option maxRecDepth 65536 in
set_option maxHeartbeats 40000000 in
theorem rm_cor (l : Launch) (Z : State) (a0 : Array Value) (hw : ∀ d ∈ tables_1, d.before a0 Z = true) (ws : List Jvm.Cond) (ao : Addr) (po : Int32) (pl : Int32) (kb : ClassId) (zz : Int32) (bl : List Int32) (h0 : Heap) (n0 : Nat) (Z0 : n0 ≤ h0.size) (Pf0 : Arv Z h0 ao kb .byte zz (bvs bl) (.int (0 : Int32))) (Pf1 : Exa Z h0 ao "[B") (hpo : po.toInt = 0 ∧ pl.toInt = zz.toInt) (hcap : zz.toNatClampNeg ≤ 19) :
    MetFree l (⟨"java/util/Arrays", "copyOfRange", "([BII)[B"⟩ : MethodName) (head1 (Jvm.Cond.code (⟨"java/util/Arrays", "copyOfRange", "([BII)[B"⟩ : MethodName) jdk_65_method_132_code 3 (some (.array .byte)) :: ws) ({ frames := 1, cells := 1, slots := 19, locals := 14 } : Room)) (fun a U => a = #[(.ref ao), (.int po), (.int pl)] ∧ Z.Warmed39 U.vm ∧ U.heap = h0) (fun _ _ _ _ _ => True) (fun _ U o U' => ∃ v L, o = .returned v ∧ Q_cor Z ao po pl kb zz bl h0 n0 v U'.heap L ∧ FrameEnd U o U' L ({ frames := 1, cells := 1, slots := 19, locals := 14 } : Room).cells ({ frames := 1, cells := 1, slots := 19, locals := 14 } : Room).slots) := by
  refine MetFree.of_bodySF (plainFor_of_name pn_5) hisR ?_
  intro p e s m args below meth c s₁ Bd hml0 hP hK
  obtain ⟨rfl, hZ, hh⟩ := hP
  have hx := Bd.exec
  have hby := Bd.bytes
  have hml : c.maxLocals = 3 := hml0
  have hown : s.vm.findClass "java/util/Arrays" = some m.cls := findClass_of_methodNamed Bd.named
  have hnm := (name_of_methodNamed Bd.named Bd.method).1
  have X0 : Stand p l e ({ frames := 1, cells := 1, slots := 19, locals := 14 } : Room) s m #[(.ref ao), (.int po), (.int pl)] below meth c s₁ [] 0 0 := Stand.of_body Bd
  have e0 : s₁.heap = h0 := by rw [← hh, Bd.state]; rfl
  have N0 := Fr.nil n0
  have K0 : Keep h0 h0 [] := Keep.refl h0 []
  show Go p.tables e below _ (s₁.setTop (entryFrame m #[(.ref ao), (.int po), (.int pl)] 3))
  refine Go.start ?_
  intro G hG
  refine Go.st (fun t k => castTop (ef_cor m ao po pl) k) ?_
  have i_0 : (0 : Int32).toInt = 0 := by decide
  show Go p.tables e below _ (s₁.setTop (mkF m 0 #[.val (.ref ao), .val (.int po), .val (.int pl)] []))
  refine Go.st (fun _ k => XS.iloadN X0.here hx rfl (hb hby d_cor_0) rfl k) ?_
  show Go p.tables e below _ (s₁.setTop (mkF m 1 #[.val (.ref ao), .val (.int po), .val (.int pl)] [(.int po)]))
  have hc1 : po = (0 : Int32) := own_eq32 (by omega)
  refine Go.st (fun _ k => XS.ifNo X0.here hx rfl (hb hby d_cor_1) rfl (Jvm.Free.XT.i0_ne_f hc1) k) ?_
  show Go p.tables e below _ (s₁.setTop (mkF m 4 #[.val (.ref ao), .val (.int po), .val (.int pl)] []))
  refine Go.st (fun _ k => XS.iloadN X0.here hx rfl (hb hby d_cor_4) rfl k) ?_
  show Go p.tables e below _ (s₁.setTop (mkF m 5 #[.val (.ref ao), .val (.int po), .val (.int pl)] [(.int pl)]))
  refine Go.st (fun _ k => XS.aloadN X0.here hx rfl (hb hby d_cor_5) rfl rfl k) ?_
  show Go p.tables e below _ (s₁.setTop (mkF m 6 #[.val (.ref ao), .val (.int po), .val (.int pl)] [(.ref ao), (.int pl)]))
  obtain ⟨cl1, Ar1, -, S1, M1, -, -⟩ := id Pf0
  refine Go.st (fun _ k => X0.arraylength hx (by rw [e0]; exact Ar1.1) (State.isArrayOf_alike hZ.alike Ar1.2.1) (g := (mkF m 6 #[.val (.ref ao), .val (.int po), .val (.int pl)] [(.ref ao), (.int pl)])) rfl rfl (hb hby d_cor_6) _ k) ?_
  rw [len_of S1 M1]
  show Go p.tables e below _ (s₁.setTop (mkF m 7 #[.val (.ref ao), .val (.int po), .val (.int pl)] [(.int zz), (.int pl)]))
  have hc7 : pl = zz := own_eq32 (by omega)
  refine Go.st (fun _ k => XS.icmpYes X0.here hx rfl (pc0 := 7) (pc' := 17) rfl (hb hby d_cor_7) rfl (Jvm.Free.XT.ii_eq_t hc7) (by decide) (by decide) k) ?_
  show Go p.tables e below _ (s₁.setTop (mkF m 17 #[.val (.ref ao), .val (.int po), .val (.int pl)] []))
  refine Go.st (fun _ k => XS.aloadN X0.here hx rfl (hb hby d_cor_17) rfl rfl k) ?_
  show Go p.tables e below _ (s₁.setTop (mkF m 18 #[.val (.ref ao), .val (.int po), .val (.int pl)] [(.ref ao)]))
  obtain ⟨T2, h2, X2, e2, E2, R2, C2, st2⟩ := cloneH X0 hx hZ (ad := "[B") hown (hw _ (List.mem_of_getElem? (i := 71) rfl)) (hw _ (List.mem_of_getElem? (i := 72) rfl)) (hw _ (List.mem_of_getElem? (i := 76) rfl)) (hw _ (List.mem_of_getElem? (i := 74) rfl)) (hw _ (List.mem_of_getElem? (i := 75) rfl)) (hw _ (List.mem_of_getElem? (i := 77) rfl)) e0 Pf0.arh Pf1 (g := (mkF m 18 #[.val (.ref ao), .val (.int po), .val (.int pl)] [(.ref ao)])) rfl (by rw [hml]; rfl) rfl (hb hby d_cor_18) (by decide) (W := 0) (cap := 19) (by show 2 * 0 + _ ≤ _; exact Nat.le_of_eq rfl) (by decide) hcap (by decide) (by decide)
  obtain ⟨b2, g2⟩ : ∃ z, z = h0.size := ⟨_, rfl⟩
  rw [← g2] at R2 C2 st2
  refine Go.st st2 ?_
  have ne3 : ao ≠ b2 := Nat.ne_of_lt (Nat.lt_of_lt_of_le Pf0.lt (Nat.le_of_eq g2.symm))
  have ge4 : n0 ≤ b2 := Nat.le_trans Z0 (Nat.le_of_eq g2.symm)
  have sz5 : h0.size ≤ b2 := Nat.le_trans K0.1 (Nat.le_of_eq g2.symm)
  have Z6 : n0 ≤ h2.size := Nat.le_trans Z0 E2.1
  have K7 : Keep h0 h2 [] := K0.ext E2
  have F8 : Arv Z h2 ao kb .byte zz (bvs bl) (.int (0 : Int32)) := Pf0.ext E2
  have F9 : Exa Z h2 ao "[B" := Pf1.ext E2
  have F10 : Arv Z h2 b2 kb .byte zz (bvs bl) (.int (0 : Int32)) := by
    obtain ⟨c_, A_, q_, S_, N_, H_, G_⟩ := R2
    exact ⟨c_, A_, q_, S_, N_, H_, G_⟩
  show Go p.tables e below _ (T2.setTop (mkF m 21 #[.val (.ref ao), .val (.int po), .val (.int pl)] [(.ref b2)]))
  obtain ⟨T11, X11, e11, st11⟩ := castY X2 hx hZ hown (hw _ (List.mem_of_getElem? (i := 78) rfl)) e2 (Ins.self C2) (g := (mkF m 21 #[.val (.ref ao), .val (.int po), .val (.int pl)] [(.ref b2)])) rfl rfl (hb hby d_cor_21)
  refine Go.st st11 ?_
  show Go p.tables e below _ (T11.setTop (mkF m 24 #[.val (.ref ao), .val (.int po), .val (.int pl)] [(.ref b2)]))
  subst hG
  obtain ⟨fs, hr, hrun, hended, hW, hsame⟩ := X11.leave (v := some (.ref b2)) (fun h => by rw [Bd.returns] at h; cases h)
  refine ⟨_, _, ?_, hrun, hended, _, _, rfl, ?_, ⟨_, rfl⟩, hW, hsame.mono (by decide) (by decide)⟩
  · exact retOut X11 hx Bd.returns rfl (Or.inr (Or.inr (Or.inr (Or.inr ⟨rfl, rfl, rfl⟩)))) (hb hby d_cor_24) hr
  · show Q_cor Z ao po pl kb zz bl h0 n0 _ T11.heap _
    rw [e11]
    exact ⟨b2, rfl, N0, K7, ge4, sz5, F10⟩
theorem pn_6 : plainName "java/util/Objects" = true := by first | (simp [plainName, overriddenIn]; done) | decide +kernel
theorem d_rnn_0 : decode jdk_31_method_10_code 0 = .ok (.aload_n 0, 1) := by decide +kernel
theorem d_rnn_1 : decode jdk_31_method_10_code 1 = .ok (.ifnonnull 11, 3) := by decide +kernel
theorem d_rnn_12 : decode jdk_31_method_10_code 12 = .ok (.aload_n 0, 1) := by decide +kernel
theorem d_rnn_13 : decode jdk_31_method_10_code 13 = .ok (.areturn, 1) := by decide +kernel
theorem ef_rnn (m : MethodId) (ao : Addr) : entryFrame m #[(.ref ao)] 1 = mkF m 0 #[.val (.ref ao)] [] := by first | (simp [entryFrame, mkF, argsToLocals, Value.category]; done) | rfl
def Q_rnn (Z : State) (ao : Addr) (h0 : Heap) (n0 : Nat) (v : Option Value) (h : Heap) (L : List Loc) : Prop := v = some (.ref ao) ∧ Fr n0 L ∧ h = h0
set_option maxRecDepth 65536 in
set_option maxHeartbeats 40000000 in
theorem rm_rnn (l : Launch) (Z : State) (a0 : Array Value) (hw : ∀ d ∈ tables_1, d.before a0 Z = true) (ws : List Jvm.Cond) (ao : Addr) (h0 : Heap) (n0 : Nat) (Z0 : n0 ≤ h0.size)  :
    MetFree l (⟨"java/util/Objects", "requireNonNull", "(Ljava/lang/Object;)Ljava/lang/Object;"⟩ : MethodName) (head1 (Jvm.Cond.code (⟨"java/util/Objects", "requireNonNull", "(Ljava/lang/Object;)Ljava/lang/Object;"⟩ : MethodName) jdk_31_method_10_code 1 (some (.object "java/lang/Object")) :: ws) ({ frames := 0, cells := 0, slots := 0, locals := 0 } : Room)) (fun a U => a = #[(.ref ao)] ∧ Z.Warmed39 U.vm ∧ U.heap = h0) (fun _ _ _ _ _ => True) (fun _ U o U' => ∃ v L, o = .returned v ∧ Q_rnn Z ao h0 n0 v U'.heap L ∧ FrameEnd U o U' L ({ frames := 0, cells := 0, slots := 0, locals := 0 } : Room).cells ({ frames := 0, cells := 0, slots := 0, locals := 0 } : Room).slots) := by
  refine MetFree.of_bodySF (plainFor_of_name pn_6) hisR ?_
  intro p e s m args below meth c s₁ Bd hml0 hP hK
  obtain ⟨rfl, hZ, hh⟩ := hP
  have hx := Bd.exec
  have hby := Bd.bytes
  have hml : c.maxLocals = 1 := hml0
  have hown : s.vm.findClass "java/util/Objects" = some m.cls := findClass_of_methodNamed Bd.named
  have hnm := (name_of_methodNamed Bd.named Bd.method).1
  have X0 : Stand p l e ({ frames := 0, cells := 0, slots := 0, locals := 0 } : Room) s m #[(.ref ao)] below meth c s₁ [] 0 0 := Stand.of_body Bd
  have e0 : s₁.heap = h0 := by rw [← hh, Bd.state]; rfl
  have N0 := Fr.nil n0
  have K0 : Keep h0 h0 [] := Keep.refl h0 []
  show Go p.tables e below _ (s₁.setTop (entryFrame m #[(.ref ao)] 1))
  refine Go.start ?_
  intro G hG
  refine Go.st (fun t k => castTop (ef_rnn m ao) k) ?_
  show Go p.tables e below _ (s₁.setTop (mkF m 0 #[.val (.ref ao)] []))
  refine Go.st (fun _ k => XS.aloadN X0.here hx rfl (hb hby d_rnn_0) rfl rfl k) ?_
  show Go p.tables e below _ (s₁.setTop (mkF m 1 #[.val (.ref ao)] [(.ref ao)]))
  refine Go.st (fun _ k => XS.ifnonnullYes X0.here hx rfl (pc0 := 1) (pc' := 12) rfl (hb hby d_rnn_1) rfl (by decide) (by decide) k) ?_
  show Go p.tables e below _ (s₁.setTop (mkF m 12 #[.val (.ref ao)] []))
  refine Go.st (fun _ k => XS.aloadN X0.here hx rfl (hb hby d_rnn_12) rfl rfl k) ?_
  show Go p.tables e below _ (s₁.setTop (mkF m 13 #[.val (.ref ao)] [(.ref ao)]))
  subst hG
  obtain ⟨fs, hr, hrun, hended, hW, hsame⟩ := X0.leave (v := some (.ref ao)) (fun h => by rw [Bd.returns] at h; cases h)
  refine ⟨_, _, ?_, hrun, hended, _, _, rfl, ?_, ⟨_, rfl⟩, hW, hsame.mono (by decide) (by decide)⟩
  · exact retOut X0 hx Bd.returns rfl (Or.inr (Or.inr (Or.inr (Or.inr ⟨rfl, rfl, rfl⟩)))) (hb hby d_rnn_13) hr
  · show Q_rnn Z ao h0 n0 _ s₁.heap _
    rw [e0]
    exact ⟨rfl, N0, rfl⟩
theorem pd_6 : parseMethodDescriptor "([BII)Z" = some ⟨[(.array .byte), .int, .int], some .boolean⟩ := by decide +kernel
theorem pd_7 : parseMethodDescriptor "([BII)[B" = some ⟨[(.array .byte), .int, .int], some (.array .byte)⟩ := by decide +kernel
theorem d_si2_0 : decode jdk_42_method_11_code 0 = .ok (.aload_n 0, 1) := by decide +kernel
theorem d_si2_1 : decode jdk_42_method_11_code 1 = .ok (.invokespecial 1, 3) := by decide +kernel
theorem d_si2_4 : decode jdk_42_method_11_code 4 = .ok (.iload 4, 2) := by decide +kernel
theorem d_si2_6 : decode jdk_42_method_11_code 6 = .ok (.ifCond .ne 24, 3) := by decide +kernel
theorem d_si2_30 : decode jdk_42_method_11_code 30 = .ok (.aload_n 1, 1) := by decide +kernel
theorem d_si2_31 : decode jdk_42_method_11_code 31 = .ok (.getstatic 86, 3) := by decide +kernel
theorem d_si2_34 : decode jdk_42_method_11_code 34 = .ok (.if_acmp .ne 312, 3) := by decide +kernel
theorem d_si2_346 : decode jdk_42_method_11_code 346 = .ok (.aload_n 1, 1) := by decide +kernel
theorem d_si2_347 : decode jdk_42_method_11_code 347 = .ok (.getstatic 116, 3) := by decide +kernel
theorem d_si2_350 : decode jdk_42_method_11_code 350 = .ok (.if_acmp .ne 49, 3) := by decide +kernel
theorem d_si2_399 : decode jdk_42_method_11_code 399 = .ok (.aload_n 1, 1) := by decide +kernel
theorem d_si2_400 : decode jdk_42_method_11_code 400 = .ok (.getstatic 123, 3) := by decide +kernel
theorem d_si2_403 : decode jdk_42_method_11_code 403 = .ok (.if_acmp .ne 105, 3) := by decide +kernel
theorem d_si2_406 : decode jdk_42_method_11_code 406 = .ok (.getstatic 38, 3) := by decide +kernel
theorem d_si2_409 : decode jdk_42_method_11_code 409 = .ok (.ifCond .eq 34, 3) := by decide +kernel
theorem d_si2_412 : decode jdk_42_method_11_code 412 = .ok (.aload_n 2, 1) := by decide +kernel
theorem d_si2_413 : decode jdk_42_method_11_code 413 = .ok (.iload_n 3, 1) := by decide +kernel
theorem d_si2_414 : decode jdk_42_method_11_code 414 = .ok (.iload 4, 2) := by decide +kernel
theorem d_si2_416 : decode jdk_42_method_11_code 416 = .ok (.invokestatic 128, 3) := by decide +kernel
theorem d_si2_419 : decode jdk_42_method_11_code 419 = .ok (.ifCond .ne 24, 3) := by decide +kernel
theorem d_si2_422 : decode jdk_42_method_11_code 422 = .ok (.aload_n 0, 1) := by decide +kernel
theorem d_si2_423 : decode jdk_42_method_11_code 423 = .ok (.aload_n 2, 1) := by decide +kernel
theorem d_si2_424 : decode jdk_42_method_11_code 424 = .ok (.iload_n 3, 1) := by decide +kernel
theorem d_si2_425 : decode jdk_42_method_11_code 425 = .ok (.iload_n 3, 1) := by decide +kernel
theorem d_si2_426 : decode jdk_42_method_11_code 426 = .ok (.iload 4, 2) := by decide +kernel
theorem d_si2_428 : decode jdk_42_method_11_code 428 = .ok (.iadd, 1) := by decide +kernel
theorem d_si2_429 : decode jdk_42_method_11_code 429 = .ok (.invokestatic 54, 3) := by decide +kernel
theorem d_si2_432 : decode jdk_42_method_11_code 432 = .ok (.putfield 9, 3) := by decide +kernel
theorem d_si2_435 : decode jdk_42_method_11_code 435 = .ok (.aload_n 0, 1) := by decide +kernel
theorem d_si2_436 : decode jdk_42_method_11_code 436 = .ok (.iconst 0, 1) := by decide +kernel
theorem d_si2_437 : decode jdk_42_method_11_code 437 = .ok (.putfield 15, 3) := by decide +kernel
theorem d_si2_440 : decode jdk_42_method_11_code 440 = .ok (.goto 439, 3) := by decide +kernel
theorem d_si2_879 : decode jdk_42_method_11_code 879 = .ok (.return_, 1) := by decide +kernel
theorem ef_si2 (m : MethodId) (so : Addr) (cs : Addr) (ao : Addr) (po : Int32) (pl : Int32) : entryFrame m #[(.ref so), (.ref cs), (.ref ao), (.int po), (.int pl)] 11 = mkF m 0 #[.val (.ref so), .val (.ref cs), .val (.ref ao), .val (.int po), .val (.int pl), .unset, .unset, .unset, .unset, .unset, .unset] [] := by first | (simp [entryFrame, mkF, argsToLocals, Value.category]; done) | rfl
def Q_si2 (Z : State) (so : Addr) (cs : Addr) (ao : Addr) (po : Int32) (pl : Int32) (u8 : Addr) (iso : Addr) (kb : ClassId) (zz : Int32) (bl : List Int32) (G1 : Int32) (h0 : Heap) (n0 : Nat) (v : Option Value) (h : Heap) (L : List Loc) : Prop := ∃ fb : Addr, v = none ∧ Fr n0 L ∧ Keep h0 h [so] ∧ n0 ≤ fb ∧ h0.size ≤ fb ∧ Exa Z h so "java/lang/String" ∧ Fld Z h so "java/lang/String" "coder" "B" (.int (0 : Int32)) ∧ Fld Z h so "java/lang/String" "value" "[B" (.ref fb) ∧ Arv Z h fb kb .byte zz (bvs bl) (.int (0 : Int32))
set_option maxRecDepth 65536 in
set_option maxHeartbeats 40000000 in
theorem rm_si2 (l : Launch) (Z : State) (a0 : Array Value) (hw : ∀ d ∈ tables_1, d.before a0 Z = true) (ws : List Jvm.Cond) (so : Addr) (cs : Addr) (ao : Addr) (po : Int32) (pl : Int32) (u8 : Addr) (iso : Addr) (kb : ClassId) (zz : Int32) (bl : List Int32) (G1 : Int32) (h0 : Heap) (n0 : Nat) (Z0 : n0 ≤ h0.size) (Pf0 : Exa Z h0 so "java/lang/String") (Pf1 : Fld Z h0 so "java/lang/String" "value" "[B" .null) (Pf2 : Fld Z h0 so "java/lang/String" "coder" "B" (.int (0 : Int32))) (Pf3 : n0 ≤ so) (Pf4 : Arv Z h0 ao kb .byte zz (bvs bl) (.int (0 : Int32))) (Pf5 : Exa Z h0 ao "[B") (Pf6 : Sta Z h0 "sun/nio/cs/UTF_8" "INSTANCE" "Lsun/nio/cs/UTF_8;" (.ref u8)) (Pf7 : Exa Z h0 u8 "sun/nio/cs/UTF_8") (Pf8 : Sta Z h0 "sun/nio/cs/ISO_8859_1" "INSTANCE" "Lsun/nio/cs/ISO_8859_1;" (.ref iso)) (Pf9 : Exa Z h0 iso "sun/nio/cs/ISO_8859_1") (Pf10 : Sta Z h0 "sun/nio/cs/US_ASCII" "INSTANCE" "Lsun/nio/cs/US_ASCII;" (.ref cs)) (Pf11 : Exa Z h0 cs "sun/nio/cs/US_ASCII") (Pf12 : Sta Z h0 "java/lang/String" "COMPACT_STRINGS" "Z" (.int G1)) (P5 : ¬ (G1 = (0 : Int32))) (hnn : ∀ i, i < zz.toNatClampNeg → ¬ (bl.getD i 0) < 0) (hz0 : ¬ zz < 0) (hcap : zz.toNatClampNeg ≤ 19) (hnz : ¬ (zz = (0 : Int32))) (hneA : ao ≠ so) (hpo : po.toInt = 0 ∧ pl.toInt = zz.toInt) :
    MetFree l (⟨"java/lang/String", "<init>", "(Ljava/nio/charset/Charset;[BII)V"⟩ : MethodName) (head1 (Jvm.Cond.codeWith (⟨"java/lang/String", "<init>", "(Ljava/nio/charset/Charset;[BII)V"⟩ : MethodName) jdk_42_method_11_code 11 none [(800, 813, 816, 202)] :: ws) ({ frames := 2, cells := 1, slots := 19, locals := 30 } : Room)) (fun a U => a = #[(.ref so), (.ref cs), (.ref ao), (.int po), (.int pl)] ∧ Z.Warmed39 U.vm ∧ U.heap = h0) (fun _ _ _ _ _ => True) (fun _ U o U' => ∃ v L, o = .returned v ∧ Q_si2 Z so cs ao po pl u8 iso kb zz bl G1 h0 n0 v U'.heap L ∧ FrameEnd U o U' L ({ frames := 2, cells := 1, slots := 19, locals := 30 } : Room).cells ({ frames := 2, cells := 1, slots := 19, locals := 30 } : Room).slots) := by
  refine MetFree.of_bodySF (plainFor_of_name pn_1) hisWith ?_
  intro p e s m args below meth c s₁ Bd hml0 hP hK
  obtain ⟨rfl, hZ, hh⟩ := hP
  have hx := Bd.exec
  have hby := Bd.bytes
  have hml : c.maxLocals = 11 := hml0
  have hown : s.vm.findClass "java/lang/String" = some m.cls := findClass_of_methodNamed Bd.named
  have hnm := (name_of_methodNamed Bd.named Bd.method).1
  have X0 : Stand p l e ({ frames := 2, cells := 1, slots := 19, locals := 30 } : Room) s m #[(.ref so), (.ref cs), (.ref ao), (.int po), (.int pl)] below meth c s₁ [] 0 0 := Stand.of_body Bd
  have e0 : s₁.heap = h0 := by rw [← hh, Bd.state]; rfl
  have N0 := Fr.nil n0
  have K0 : Keep h0 h0 [so] := Keep.refl h0 [so]
  show Go p.tables e below _ (s₁.setTop (entryFrame m #[(.ref so), (.ref cs), (.ref ao), (.int po), (.int pl)] 11))
  refine Go.start ?_
  intro G hG
  refine Go.st (fun t k => castTop (ef_si2 m so cs ao po pl) k) ?_
  have i_0 : (0 : Int32).toInt = 0 := by decide
  show Go p.tables e below _ (s₁.setTop (mkF m 0 #[.val (.ref so), .val (.ref cs), .val (.ref ao), .val (.int po), .val (.int pl), .unset, .unset, .unset, .unset, .unset, .unset] []))
  refine Go.st (fun _ k => XS.aloadN X0.here hx rfl (hb hby d_si2_0) rfl rfl k) ?_
  show Go p.tables e below _ (s₁.setTop (mkF m 1 #[.val (.ref so), .val (.ref cs), .val (.ref ao), .val (.int po), .val (.int pl), .unset, .unset, .unset, .unset, .unset, .unset] [(.ref so)]))
  obtain ⟨T1, X1, e1, st1⟩ := initO X0 hx hZ hown (hw _ (List.mem_of_getElem? (i := 50) rfl)) (hw _ (List.mem_of_getElem? (i := 51) rfl)) (hw _ (List.mem_of_getElem? (i := 52) rfl)) e0 (g := (mkF m 1 #[.val (.ref so), .val (.ref cs), .val (.ref ao), .val (.int po), .val (.int pl), .unset, .unset, .unset, .unset, .unset, .unset] [(.ref so)])) rfl (by rw [hml]; rfl) rfl (hb hby d_si2_1) (by decide) (W := 0) (by show 2 * 0 + _ ≤ _; exact Nat.le_of_eq rfl) (by decide)
  refine Go.st st1 ?_
  show Go p.tables e below _ (T1.setTop (mkF m 4 #[.val (.ref so), .val (.ref cs), .val (.ref ao), .val (.int po), .val (.int pl), .unset, .unset, .unset, .unset, .unset, .unset] []))
  refine Go.st (fun _ k => XS.iload X1.here hx rfl (hb hby d_si2_4) rfl k) ?_
  show Go p.tables e below _ (T1.setTop (mkF m 6 #[.val (.ref so), .val (.ref cs), .val (.ref ao), .val (.int po), .val (.int pl), .unset, .unset, .unset, .unset, .unset, .unset] [(.int pl)]))
  have hc6 : ¬ (pl = (0 : Int32)) := own_ne32 (by have q : zz.toInt ≠ (0 : Int32).toInt := fun z => hnz (Int32.toInt_inj.mp z); omega)
  refine Go.st (fun _ k => XS.ifYes X1.here hx rfl (pc0 := 6) (pc' := 30) rfl (hb hby d_si2_6) rfl (Jvm.Free.XT.i0_ne_t hc6) (by decide) (by decide) k) ?_
  show Go p.tables e below _ (T1.setTop (mkF m 30 #[.val (.ref so), .val (.ref cs), .val (.ref ao), .val (.int po), .val (.int pl), .unset, .unset, .unset, .unset, .unset, .unset] []))
  refine Go.st (fun _ k => XS.aloadN X1.here hx rfl (hb hby d_si2_30) rfl rfl k) ?_
  show Go p.tables e below _ (T1.setTop (mkF m 31 #[.val (.ref so), .val (.ref cs), .val (.ref ao), .val (.int po), .val (.int pl), .unset, .unset, .unset, .unset, .unset, .unset] [(.ref cs)]))
  obtain ⟨T2, X2, e2, st2⟩ := getS2 X1 hx hZ hown (host := "") (Or.inl (hw _ (List.mem_of_getElem? (i := 53) rfl))) Via.refl e1 Pf6 (g := (mkF m 31 #[.val (.ref so), .val (.ref cs), .val (.ref ao), .val (.int po), .val (.int pl), .unset, .unset, .unset, .unset, .unset, .unset] [(.ref cs)])) rfl (hb hby d_si2_31)
  refine Go.st st2 ?_
  show Go p.tables e below _ (T2.setTop (mkF m 34 #[.val (.ref so), .val (.ref cs), .val (.ref ao), .val (.int po), .val (.int pl), .unset, .unset, .unset, .unset, .unset, .unset] [(.ref u8), (.ref cs)]))
  refine Go.st (fun _ k => Jvm.RoadKit.acmp (g := (mkF m 34 #[.val (.ref so), .val (.ref cs), .val (.ref ao), .val (.int po), .val (.int pl), .unset, .unset, .unset, .unset, .unset, .unset] [(.ref u8), (.ref cs)])) X2 hx rfl rfl rfl (pc0 := 34) (pc' := 346) (same := false) rfl (hb hby d_si2_34) rfl (decide_eq_false fun q => (ne_exa Pf11 Pf7 (by decide)) (Value.ref.inj q)) (by decide) (by decide) k) ?_
  show Go p.tables e below _ (T2.setTop (mkF m 346 #[.val (.ref so), .val (.ref cs), .val (.ref ao), .val (.int po), .val (.int pl), .unset, .unset, .unset, .unset, .unset, .unset] []))
  refine Go.st (fun _ k => XS.aloadN X2.here hx rfl (hb hby d_si2_346) rfl rfl k) ?_
  show Go p.tables e below _ (T2.setTop (mkF m 347 #[.val (.ref so), .val (.ref cs), .val (.ref ao), .val (.int po), .val (.int pl), .unset, .unset, .unset, .unset, .unset, .unset] [(.ref cs)]))
  obtain ⟨T3, X3, e3, st3⟩ := getS2 X2 hx hZ hown (host := "") (Or.inl (hw _ (List.mem_of_getElem? (i := 55) rfl))) Via.refl e2 Pf8 (g := (mkF m 347 #[.val (.ref so), .val (.ref cs), .val (.ref ao), .val (.int po), .val (.int pl), .unset, .unset, .unset, .unset, .unset, .unset] [(.ref cs)])) rfl (hb hby d_si2_347)
  refine Go.st st3 ?_
  show Go p.tables e below _ (T3.setTop (mkF m 350 #[.val (.ref so), .val (.ref cs), .val (.ref ao), .val (.int po), .val (.int pl), .unset, .unset, .unset, .unset, .unset, .unset] [(.ref iso), (.ref cs)]))
  refine Go.st (fun _ k => Jvm.RoadKit.acmp (g := (mkF m 350 #[.val (.ref so), .val (.ref cs), .val (.ref ao), .val (.int po), .val (.int pl), .unset, .unset, .unset, .unset, .unset, .unset] [(.ref iso), (.ref cs)])) X3 hx rfl rfl rfl (pc0 := 350) (pc' := 399) (same := false) rfl (hb hby d_si2_350) rfl (decide_eq_false fun q => (ne_exa Pf11 Pf9 (by decide)) (Value.ref.inj q)) (by decide) (by decide) k) ?_
  show Go p.tables e below _ (T3.setTop (mkF m 399 #[.val (.ref so), .val (.ref cs), .val (.ref ao), .val (.int po), .val (.int pl), .unset, .unset, .unset, .unset, .unset, .unset] []))
  refine Go.st (fun _ k => XS.aloadN X3.here hx rfl (hb hby d_si2_399) rfl rfl k) ?_
  show Go p.tables e below _ (T3.setTop (mkF m 400 #[.val (.ref so), .val (.ref cs), .val (.ref ao), .val (.int po), .val (.int pl), .unset, .unset, .unset, .unset, .unset, .unset] [(.ref cs)]))
  obtain ⟨T4, X4, e4, st4⟩ := getS2 X3 hx hZ hown (host := "") (Or.inl (hw _ (List.mem_of_getElem? (i := 57) rfl))) Via.refl e3 Pf10 (g := (mkF m 400 #[.val (.ref so), .val (.ref cs), .val (.ref ao), .val (.int po), .val (.int pl), .unset, .unset, .unset, .unset, .unset, .unset] [(.ref cs)])) rfl (hb hby d_si2_400)
  refine Go.st st4 ?_
  show Go p.tables e below _ (T4.setTop (mkF m 403 #[.val (.ref so), .val (.ref cs), .val (.ref ao), .val (.int po), .val (.int pl), .unset, .unset, .unset, .unset, .unset, .unset] [(.ref cs), (.ref cs)]))
  refine Go.st (fun _ k => Jvm.RoadKit.acmp (g := (mkF m 403 #[.val (.ref so), .val (.ref cs), .val (.ref ao), .val (.int po), .val (.int pl), .unset, .unset, .unset, .unset, .unset, .unset] [(.ref cs), (.ref cs)])) X4 hx rfl rfl rfl (pc0 := 403) (pc' := 406) (same := true) rfl (hb hby d_si2_403) rfl (decide_eq_true rfl) (by decide) (by decide) k) ?_
  show Go p.tables e below _ (T4.setTop (mkF m 406 #[.val (.ref so), .val (.ref cs), .val (.ref ao), .val (.int po), .val (.int pl), .unset, .unset, .unset, .unset, .unset, .unset] []))
  obtain ⟨T5, X5, e5, st5⟩ := getS2 X4 hx hZ hown (host := "") (Or.inl (hw _ (List.mem_of_getElem? (i := 59) rfl))) Via.refl e4 Pf12 (g := (mkF m 406 #[.val (.ref so), .val (.ref cs), .val (.ref ao), .val (.int po), .val (.int pl), .unset, .unset, .unset, .unset, .unset, .unset] [])) rfl (hb hby d_si2_406)
  refine Go.st st5 ?_
  show Go p.tables e below _ (T5.setTop (mkF m 409 #[.val (.ref so), .val (.ref cs), .val (.ref ao), .val (.int po), .val (.int pl), .unset, .unset, .unset, .unset, .unset, .unset] [(.int G1)]))
  have hc409 : ¬ (G1 = (0 : Int32)) := P5
  refine Go.st (fun _ k => XS.ifNo X5.here hx rfl (hb hby d_si2_409) rfl (Jvm.Free.XT.i0_eq_f hc409) k) ?_
  show Go p.tables e below _ (T5.setTop (mkF m 412 #[.val (.ref so), .val (.ref cs), .val (.ref ao), .val (.int po), .val (.int pl), .unset, .unset, .unset, .unset, .unset, .unset] []))
  refine Go.st (fun _ k => XS.aloadN X5.here hx rfl (hb hby d_si2_412) rfl rfl k) ?_
  show Go p.tables e below _ (T5.setTop (mkF m 413 #[.val (.ref so), .val (.ref cs), .val (.ref ao), .val (.int po), .val (.int pl), .unset, .unset, .unset, .unset, .unset, .unset] [(.ref ao)]))
  refine Go.st (fun _ k => XS.iloadN X5.here hx rfl (hb hby d_si2_413) rfl k) ?_
  show Go p.tables e below _ (T5.setTop (mkF m 414 #[.val (.ref so), .val (.ref cs), .val (.ref ao), .val (.int po), .val (.int pl), .unset, .unset, .unset, .unset, .unset, .unset] [(.int po), (.ref ao)]))
  refine Go.st (fun _ k => XS.iload X5.here hx rfl (hb hby d_si2_414) rfl k) ?_
  show Go p.tables e below _ (T5.setTop (mkF m 416 #[.val (.ref so), .val (.ref cs), .val (.ref ao), .val (.int po), .val (.int pl), .unset, .unset, .unset, .unset, .unset, .unset] [(.int pl), (.int po), (.ref ao)]))
  obtain ⟨_, _, ⟨T6, L6, k6, n6⟩, -, X6, ⟨Lc6, hQ6, l6, y6, z6⟩, st6⟩ := Jvm.LawKit.callS X5 hx (y := (⟨"java/lang/StringCoding", "hasNegatives", "([BII)Z"⟩ : MethodName)) hown (mvT hZ (hw _ (List.mem_of_getElem? (i := 60) rfl))) (mvT hZ (hw _ (List.mem_of_getElem? (i := 61) rfl))) (mvT hZ (hw _ (List.mem_of_getElem? (i := 62) rfl))) (mvT hZ (hw _ (List.mem_of_getElem? (i := 63) rfl))) (by decide) (backOf (W := 0) (rm_hneg l Z a0 hw [] ao po pl kb zz bl h0 n0 Z0 Pf4 (by show ∀ i, i < zz.toNatClampNeg → ¬ (bl.getD i 0) < 0; exact hnn) (by show ¬ zz < 0; exact hz0) (by show po.toInt = 0 ∧ pl.toInt = zz.toInt; exact hpo)) hZ (hw _ (List.mem_of_getElem? (i := 63) rfl)) (hw _ (List.mem_of_getElem? (i := 62) rfl)) (by decide) (by decide)) (g := (mkF m 416 #[.val (.ref so), .val (.ref cs), .val (.ref ao), .val (.int po), .val (.int pl), .unset, .unset, .unset, .unset, .unset, .unset] [(.int pl), (.int po), (.ref ao)])) rfl (by rw [hml]; rfl) (argsL := [(.ref ao), (.int po), (.int pl)]) (rest := []) (lenOf pd_6 rfl) rfl (by show 2 * 0 + _ ≤ _; exact Nat.le_of_eq rfl) (hb hby d_si2_416) (fun _ _ => ⟨rfl, e5, (by decide : 0 + 0 ≤ _), (by decide : 0 + 0 ≤ _)⟩)
  dsimp only [Pt.U, Pt.locs, Pt.cells, Pt.slots] at X6 l6 y6 z6 st6 hQ6
  rw [l6, y6, z6] at X6
  obtain ⟨rfl, N6q, e6⟩ := hQ6
  have N6 := Fr.app N0 N6q
  refine Go.st st6 ?_
  show Go p.tables e below _ (T6.setTop (mkF m 419 #[.val (.ref so), .val (.ref cs), .val (.ref ao), .val (.int po), .val (.int pl), .unset, .unset, .unset, .unset, .unset, .unset] [(.int (0 : Int32))]))
  have hl7 : (0 : Int32) = (0 : Int32) := by decide
  refine Go.st (fun _ k => XS.ifNo X6.here hx rfl (hb hby d_si2_419) rfl (Jvm.Free.XT.i0_ne_f hl7) k) ?_
  show Go p.tables e below _ (T6.setTop (mkF m 422 #[.val (.ref so), .val (.ref cs), .val (.ref ao), .val (.int po), .val (.int pl), .unset, .unset, .unset, .unset, .unset, .unset] []))
  refine Go.st (fun _ k => XS.aloadN X6.here hx rfl (hb hby d_si2_422) rfl rfl k) ?_
  show Go p.tables e below _ (T6.setTop (mkF m 423 #[.val (.ref so), .val (.ref cs), .val (.ref ao), .val (.int po), .val (.int pl), .unset, .unset, .unset, .unset, .unset, .unset] [(.ref so)]))
  refine Go.st (fun _ k => XS.aloadN X6.here hx rfl (hb hby d_si2_423) rfl rfl k) ?_
  show Go p.tables e below _ (T6.setTop (mkF m 424 #[.val (.ref so), .val (.ref cs), .val (.ref ao), .val (.int po), .val (.int pl), .unset, .unset, .unset, .unset, .unset, .unset] [(.ref ao), (.ref so)]))
  refine Go.st (fun _ k => XS.iloadN X6.here hx rfl (hb hby d_si2_424) rfl k) ?_
  show Go p.tables e below _ (T6.setTop (mkF m 425 #[.val (.ref so), .val (.ref cs), .val (.ref ao), .val (.int po), .val (.int pl), .unset, .unset, .unset, .unset, .unset, .unset] [(.int po), (.ref ao), (.ref so)]))
  refine Go.st (fun _ k => XS.iloadN X6.here hx rfl (hb hby d_si2_425) rfl k) ?_
  show Go p.tables e below _ (T6.setTop (mkF m 426 #[.val (.ref so), .val (.ref cs), .val (.ref ao), .val (.int po), .val (.int pl), .unset, .unset, .unset, .unset, .unset, .unset] [(.int po), (.int po), (.ref ao), (.ref so)]))
  refine Go.st (fun _ k => XS.iload X6.here hx rfl (hb hby d_si2_426) rfl k) ?_
  show Go p.tables e below _ (T6.setTop (mkF m 428 #[.val (.ref so), .val (.ref cs), .val (.ref ao), .val (.int po), .val (.int pl), .unset, .unset, .unset, .unset, .unset, .unset] [(.int pl), (.int po), (.int po), (.ref ao), (.ref so)]))
  refine Go.st (fun _ k => XS.iadd X6.here hx rfl (hb hby d_si2_428) rfl k) ?_
  show Go p.tables e below _ (T6.setTop (mkF m 429 #[.val (.ref so), .val (.ref cs), .val (.ref ao), .val (.int po), .val (.int pl), .unset, .unset, .unset, .unset, .unset, .unset] [(.int (po + pl)), (.int po), (.ref ao), (.ref so)]))
  obtain ⟨_, _, ⟨T8, L8, k8, n8⟩, -, X8, ⟨Lc8, hQ8, l8, y8, z8⟩, st8⟩ := Jvm.LawKit.callS X6 hx (y := (⟨"java/util/Arrays", "copyOfRange", "([BII)[B"⟩ : MethodName)) hown (mvT hZ (hw _ (List.mem_of_getElem? (i := 67) rfl))) (mvT hZ (hw _ (List.mem_of_getElem? (i := 68) rfl))) (mvT hZ (hw _ (List.mem_of_getElem? (i := 69) rfl))) (mvT hZ (hw _ (List.mem_of_getElem? (i := 70) rfl))) (by decide) (backOf (W := 1) (rm_cor l Z a0 hw [] ao po (po + pl) kb zz bl h0 n0 Z0 Pf4 Pf5 (by show po.toInt = 0 ∧ (po + pl).toInt = zz.toInt; exact (by have q := i32_addc po pl; have q2 := pl.toInt_lt; have q3 := nat_of hz0; omega)) (by show zz.toNatClampNeg ≤ 19; exact hcap)) hZ (hw _ (List.mem_of_getElem? (i := 70) rfl)) (hw _ (List.mem_of_getElem? (i := 69) rfl)) (by decide) (by decide)) (g := (mkF m 429 #[.val (.ref so), .val (.ref cs), .val (.ref ao), .val (.int po), .val (.int pl), .unset, .unset, .unset, .unset, .unset, .unset] [(.int (po + pl)), (.int po), (.ref ao), (.ref so)])) rfl (by rw [hml]; rfl) (argsL := [(.ref ao), (.int po), (.int (po + pl))]) (rest := [(.ref so)]) (lenOf pd_7 rfl) rfl (by show 2 * 0 + _ ≤ _; exact Nat.le_of_eq rfl) (hb hby d_si2_429) (fun _ _ => ⟨rfl, e6, (by decide : 0 + 1 ≤ _), (by decide : 0 + 19 ≤ _)⟩)
  dsimp only [Pt.U, Pt.locs, Pt.cells, Pt.slots] at X8 l8 y8 z8 st8 hQ8
  rw [l8, y8, z8] at X8
  obtain ⟨b8_fr, rfl, N8q, K8q, g8_fr, s8_fr, Fq8_0⟩ := hQ8
  have N8 := Fr.app N6 N8q
  refine Go.st st8 ?_
  have ne9 : so ≠ b8_fr := Nat.ne_of_lt (Nat.lt_of_lt_of_le Pf0.lt s8_fr)
  have ne10 : ao ≠ b8_fr := Nat.ne_of_lt (Nat.lt_of_lt_of_le Pf4.lt s8_fr)
  have ne11 : u8 ≠ b8_fr := Nat.ne_of_lt (Nat.lt_of_lt_of_le Pf7.lt s8_fr)
  have ne12 : iso ≠ b8_fr := Nat.ne_of_lt (Nat.lt_of_lt_of_le Pf9.lt s8_fr)
  have ne13 : cs ≠ b8_fr := Nat.ne_of_lt (Nat.lt_of_lt_of_le Pf11.lt s8_fr)
  have sz14 : h0.size ≤ b8_fr := Nat.le_trans K0.1 s8_fr
  have Z15 : n0 ≤ T8.heap.size := Nat.le_trans Z0 K8q.1
  have K16 : Keep h0 T8.heap [so] := K0.trans K8q (fun z hz => absurd hz List.not_mem_nil)
  have F17 : Exa Z T8.heap so "java/lang/String" := Pf0.keep K8q
  have F18 : Fld Z T8.heap so "java/lang/String" "value" "[B" .null := Pf1.keep K8q List.not_mem_nil
  have F19 : Fld Z T8.heap so "java/lang/String" "coder" "B" (.int (0 : Int32)) := Pf2.keep K8q List.not_mem_nil
  have F20 : Arv Z T8.heap ao kb .byte zz (bvs bl) (.int (0 : Int32)) := Pf4.keep K8q List.not_mem_nil
  have F21 : Exa Z T8.heap ao "[B" := Pf5.keep K8q
  have F22 : Sta Z T8.heap "sun/nio/cs/UTF_8" "INSTANCE" "Lsun/nio/cs/UTF_8;" (.ref u8) := own_stakeep Pf6 K8q
  have F23 : Exa Z T8.heap u8 "sun/nio/cs/UTF_8" := Pf7.keep K8q
  have F24 : Sta Z T8.heap "sun/nio/cs/ISO_8859_1" "INSTANCE" "Lsun/nio/cs/ISO_8859_1;" (.ref iso) := own_stakeep Pf8 K8q
  have F25 : Exa Z T8.heap iso "sun/nio/cs/ISO_8859_1" := Pf9.keep K8q
  have F26 : Sta Z T8.heap "sun/nio/cs/US_ASCII" "INSTANCE" "Lsun/nio/cs/US_ASCII;" (.ref cs) := own_stakeep Pf10 K8q
  have F27 : Exa Z T8.heap cs "sun/nio/cs/US_ASCII" := Pf11.keep K8q
  have F28 : Sta Z T8.heap "java/lang/String" "COMPACT_STRINGS" "Z" (.int G1) := own_stakeep Pf12 K8q
  show Go p.tables e below _ (T8.setTop (mkF m 432 #[.val (.ref so), .val (.ref cs), .val (.ref ao), .val (.int po), .val (.int pl), .unset, .unset, .unset, .unset, .unset, .unset] [(.ref b8_fr), (.ref so)]))
  obtain ⟨T29, h29, X29, e29, W29, st29⟩ := putF X8 hx hZ hown (host := "") (Or.inl (hw _ (List.mem_of_getElem? (i := 80) rfl))) Via.refl (rfl : T8.heap = T8.heap) F18 F17 (Or.inr ⟨(hw _ (List.mem_of_getElem? (i := 81) rfl)), rfl, hnm⟩) (hw _ (List.mem_of_getElem? (i := 33) rfl)) (ty := (.array .byte)) (by decide) rfl rfl (g := (mkF m 432 #[.val (.ref so), .val (.ref cs), .val (.ref ao), .val (.int po), .val (.int pl), .unset, .unset, .unset, .unset, .unset, .unset] [(.ref b8_fr), (.ref so)])) rfl rfl (hb hby d_si2_432)
  refine Go.st st29 ?_
  have F30 : Exa Z h29 so "java/lang/String" := F17.wr W29
  have F31 : Fld Z h29 so "java/lang/String" "value" "[B" (.ref b8_fr) := F18.same W29
  have F32 : Fld Z h29 so "java/lang/String" "coder" "B" (.int (0 : Int32)) := F19.other W29 (Or.inr (slot_ne (Or.inr (hw _ (List.mem_of_getElem? (i := 83) rfl))) (Or.inr (hw _ (List.mem_of_getElem? (i := 81) rfl))) (by decide) (t := .byte) (t' := (.array .byte)) (by decide) (by decide)))
  have F33 : Arv Z h29 ao kb .byte zz (bvs bl) (.int (0 : Int32)) := F20.other W29 hneA
  have F34 : Exa Z h29 ao "[B" := F21.wr W29
  have F35 : Sta Z h29 "sun/nio/cs/UTF_8" "INSTANCE" "Lsun/nio/cs/UTF_8;" (.ref u8) := F22.wr W29
  have F36 : Exa Z h29 u8 "sun/nio/cs/UTF_8" := F23.wr W29
  have F37 : Sta Z h29 "sun/nio/cs/ISO_8859_1" "INSTANCE" "Lsun/nio/cs/ISO_8859_1;" (.ref iso) := F24.wr W29
  have F38 : Exa Z h29 iso "sun/nio/cs/ISO_8859_1" := F25.wr W29
  have F39 : Sta Z h29 "sun/nio/cs/US_ASCII" "INSTANCE" "Lsun/nio/cs/US_ASCII;" (.ref cs) := F26.wr W29
  have F40 : Exa Z h29 cs "sun/nio/cs/US_ASCII" := F27.wr W29
  have F41 : Sta Z h29 "java/lang/String" "COMPACT_STRINGS" "Z" (.int G1) := F28.wr W29
  have F42 : Arv Z h29 b8_fr kb .byte zz (bvs bl) (.int (0 : Int32)) := Fq8_0.other W29 (Ne.symm ne9)
  have K43 : Keep h0 h29 [so] := K16.wr W29 (Or.inl (List.mem_of_getElem? (i := 0) rfl))
  have Z44 : n0 ≤ h29.size := Nat.le_trans Z15 (Nat.le_of_eq W29.size.symm)
  have N45 := Fr.snoc X29 N8 Pf3
  show Go p.tables e below _ (T29.setTop (mkF m 435 #[.val (.ref so), .val (.ref cs), .val (.ref ao), .val (.int po), .val (.int pl), .unset, .unset, .unset, .unset, .unset, .unset] []))
  refine Go.st (fun _ k => XS.aloadN X29.here hx rfl (hb hby d_si2_435) rfl rfl k) ?_
  show Go p.tables e below _ (T29.setTop (mkF m 436 #[.val (.ref so), .val (.ref cs), .val (.ref ao), .val (.int po), .val (.int pl), .unset, .unset, .unset, .unset, .unset, .unset] [(.ref so)]))
  refine Go.st (fun _ k => XS.iconst X29.here hx rfl (hb hby d_si2_436) k) ?_
  show Go p.tables e below _ (T29.setTop (mkF m 437 #[.val (.ref so), .val (.ref cs), .val (.ref ao), .val (.int po), .val (.int pl), .unset, .unset, .unset, .unset, .unset, .unset] [(.int (0 : Int32)), (.ref so)]))
  obtain ⟨T46, h46, X46, e46, W46, st46⟩ := putFN X29 hx hZ hown (hw _ (List.mem_of_getElem? (i := 82) rfl)) Via.refl e29 F32 F30 (Or.inr ⟨(hw _ (List.mem_of_getElem? (i := 83) rfl)), rfl, hnm⟩) (hw _ (List.mem_of_getElem? (i := 33) rfl)) (ty := .byte) (v' := .int (0 : Int32)) (by decide) rfl (by decide) (g := (mkF m 437 #[.val (.ref so), .val (.ref cs), .val (.ref ao), .val (.int po), .val (.int pl), .unset, .unset, .unset, .unset, .unset, .unset] [(.int (0 : Int32)), (.ref so)])) rfl rfl (hb hby d_si2_437)
  refine Go.st st46 ?_
  have F47 : Exa Z h46 so "java/lang/String" := F30.wr W46
  have F48 : Fld Z h46 so "java/lang/String" "value" "[B" (.ref b8_fr) := F31.other W46 (Or.inr (slot_ne (Or.inr (hw _ (List.mem_of_getElem? (i := 81) rfl))) (Or.inr (hw _ (List.mem_of_getElem? (i := 83) rfl))) (by decide) (t := (.array .byte)) (t' := .byte) (by decide) (by decide)))
  have F49 : Fld Z h46 so "java/lang/String" "coder" "B" (.int (0 : Int32)) := F32.same W46
  have F50 : Arv Z h46 ao kb .byte zz (bvs bl) (.int (0 : Int32)) := F33.other W46 hneA
  have F51 : Exa Z h46 ao "[B" := F34.wr W46
  have F52 : Sta Z h46 "sun/nio/cs/UTF_8" "INSTANCE" "Lsun/nio/cs/UTF_8;" (.ref u8) := F35.wr W46
  have F53 : Exa Z h46 u8 "sun/nio/cs/UTF_8" := F36.wr W46
  have F54 : Sta Z h46 "sun/nio/cs/ISO_8859_1" "INSTANCE" "Lsun/nio/cs/ISO_8859_1;" (.ref iso) := F37.wr W46
  have F55 : Exa Z h46 iso "sun/nio/cs/ISO_8859_1" := F38.wr W46
  have F56 : Sta Z h46 "sun/nio/cs/US_ASCII" "INSTANCE" "Lsun/nio/cs/US_ASCII;" (.ref cs) := F39.wr W46
  have F57 : Exa Z h46 cs "sun/nio/cs/US_ASCII" := F40.wr W46
  have F58 : Sta Z h46 "java/lang/String" "COMPACT_STRINGS" "Z" (.int G1) := F41.wr W46
  have F59 : Arv Z h46 b8_fr kb .byte zz (bvs bl) (.int (0 : Int32)) := F42.other W46 (Ne.symm ne9)
  have K60 : Keep h0 h46 [so] := K43.wr W46 (Or.inl (List.mem_of_getElem? (i := 0) rfl))
  have Z61 : n0 ≤ h46.size := Nat.le_trans Z44 (Nat.le_of_eq W46.size.symm)
  have N62 := Fr.snoc X46 N45 Pf3
  show Go p.tables e below _ (T46.setTop (mkF m 440 #[.val (.ref so), .val (.ref cs), .val (.ref ao), .val (.int po), .val (.int pl), .unset, .unset, .unset, .unset, .unset, .unset] []))
  refine Go.st (fun _ k => XS.goto X46.here hx rfl (pc0 := 440) (pc' := 879) rfl (hb hby d_si2_440) (by decide) (by decide) k) ?_
  show Go p.tables e below _ (T46.setTop (mkF m 879 #[.val (.ref so), .val (.ref cs), .val (.ref ao), .val (.int po), .val (.int pl), .unset, .unset, .unset, .unset, .unset, .unset] []))
  subst hG
  obtain ⟨fs, hr, hrun, hended, hW, hsame⟩ := X46.leave (v := none) (fun _ => rfl)
  refine ⟨_, _, ?_, hrun, hended, _, _, rfl, ?_, ⟨_, rfl⟩, hW, hsame.mono (by decide) (by decide)⟩
  · exact X46.returnOut hx Bd.returns (hb hby d_si2_879) hr
  · show Q_si2 Z so cs ao po pl u8 iso kb zz bl G1 h0 n0 _ T46.heap _
    rw [e46]
    exact ⟨b8_fr, rfl, N62, K60, g8_fr, sz14, F47, F49, F48, F59⟩
theorem pd_8 : parseMethodDescriptor "(Ljava/lang/Object;)Ljava/lang/Object;" = some ⟨[(.object "java/lang/Object")], some (.object "java/lang/Object")⟩ := by decide +kernel
theorem pd_9 : parseMethodDescriptor "(Ljava/nio/charset/Charset;[BII)V" = some ⟨[(.object "java/nio/charset/Charset"), (.array .byte), .int, .int], none⟩ := by decide +kernel
theorem d_si1_0 : decode jdk_42_method_49_code 0 = .ok (.aload_n 0, 1) := by decide +kernel
theorem d_si1_1 : decode jdk_42_method_49_code 1 = .ok (.aload_n 2, 1) := by decide +kernel
theorem d_si1_2 : decode jdk_42_method_49_code 2 = .ok (.invokestatic 78, 3) := by decide +kernel
theorem d_si1_5 : decode jdk_42_method_49_code 5 = .ok (.checkcast 84, 3) := by decide +kernel
theorem d_si1_8 : decode jdk_42_method_49_code 8 = .ok (.aload_n 1, 1) := by decide +kernel
theorem d_si1_9 : decode jdk_42_method_49_code 9 = .ok (.iconst 0, 1) := by decide +kernel
theorem d_si1_10 : decode jdk_42_method_49_code 10 = .ok (.aload_n 1, 1) := by decide +kernel
theorem d_si1_11 : decode jdk_42_method_49_code 11 = .ok (.arraylength, 1) := by decide +kernel
theorem d_si1_12 : decode jdk_42_method_49_code 12 = .ok (.invokespecial 75, 3) := by decide +kernel
theorem d_si1_15 : decode jdk_42_method_49_code 15 = .ok (.return_, 1) := by decide +kernel
theorem ef_si1 (m : MethodId) (so : Addr) (ao : Addr) (cs : Addr) : entryFrame m #[(.ref so), (.ref ao), (.ref cs)] 3 = mkF m 0 #[.val (.ref so), .val (.ref ao), .val (.ref cs)] [] := by first | (simp [entryFrame, mkF, argsToLocals, Value.category]; done) | rfl
def Q_si1 (Z : State) (so : Addr) (ao : Addr) (cs : Addr) (u8 : Addr) (iso : Addr) (kb : ClassId) (zz : Int32) (bl : List Int32) (G1 : Int32) (h0 : Heap) (n0 : Nat) (v : Option Value) (h : Heap) (L : List Loc) : Prop := ∃ fb : Addr, v = none ∧ Fr n0 L ∧ Keep h0 h [so] ∧ n0 ≤ fb ∧ h0.size ≤ fb ∧ Exa Z h so "java/lang/String" ∧ Fld Z h so "java/lang/String" "coder" "B" (.int (0 : Int32)) ∧ Fld Z h so "java/lang/String" "value" "[B" (.ref fb) ∧ Arv Z h fb kb .byte zz (bvs bl) (.int (0 : Int32))
set_option maxRecDepth 65536 in
set_option maxHeartbeats 40000000 in
theorem rm_si1 (l : Launch) (Z : State) (a0 : Array Value) (hw : ∀ d ∈ tables_1, d.before a0 Z = true) (ws : List Jvm.Cond) (so : Addr) (ao : Addr) (cs : Addr) (u8 : Addr) (iso : Addr) (kb : ClassId) (zz : Int32) (bl : List Int32) (G1 : Int32) (h0 : Heap) (n0 : Nat) (Z0 : n0 ≤ h0.size) (Pf0 : Exa Z h0 so "java/lang/String") (Pf1 : Fld Z h0 so "java/lang/String" "value" "[B" .null) (Pf2 : Fld Z h0 so "java/lang/String" "coder" "B" (.int (0 : Int32))) (Pf3 : n0 ≤ so) (Pf4 : Arv Z h0 ao kb .byte zz (bvs bl) (.int (0 : Int32))) (Pf5 : Exa Z h0 ao "[B") (Pf6 : Sta Z h0 "sun/nio/cs/UTF_8" "INSTANCE" "Lsun/nio/cs/UTF_8;" (.ref u8)) (Pf7 : Exa Z h0 u8 "sun/nio/cs/UTF_8") (Pf8 : Sta Z h0 "sun/nio/cs/ISO_8859_1" "INSTANCE" "Lsun/nio/cs/ISO_8859_1;" (.ref iso)) (Pf9 : Exa Z h0 iso "sun/nio/cs/ISO_8859_1") (Pf10 : Sta Z h0 "sun/nio/cs/US_ASCII" "INSTANCE" "Lsun/nio/cs/US_ASCII;" (.ref cs)) (Pf11 : Exa Z h0 cs "sun/nio/cs/US_ASCII") (Pf12 : Sta Z h0 "java/lang/String" "COMPACT_STRINGS" "Z" (.int G1)) (P5 : ¬ (G1 = (0 : Int32))) (hnn : ∀ i, i < zz.toNatClampNeg → ¬ (bl.getD i 0) < 0) (hz0 : ¬ zz < 0) (hcap : zz.toNatClampNeg ≤ 19) (hnz : ¬ (zz = (0 : Int32))) (hneA : ao ≠ so) :
    MetFree l (⟨"java/lang/String", "<init>", "([BLjava/nio/charset/Charset;)V"⟩ : MethodName) (head1 (Jvm.Cond.code (⟨"java/lang/String", "<init>", "([BLjava/nio/charset/Charset;)V"⟩ : MethodName) jdk_42_method_49_code 3 none :: ws) ({ frames := 3, cells := 1, slots := 19, locals := 52 } : Room)) (fun a U => a = #[(.ref so), (.ref ao), (.ref cs)] ∧ Z.Warmed39 U.vm ∧ U.heap = h0) (fun _ _ _ _ _ => True) (fun _ U o U' => ∃ v L, o = .returned v ∧ Q_si1 Z so ao cs u8 iso kb zz bl G1 h0 n0 v U'.heap L ∧ FrameEnd U o U' L ({ frames := 3, cells := 1, slots := 19, locals := 52 } : Room).cells ({ frames := 3, cells := 1, slots := 19, locals := 52 } : Room).slots) := by
  refine MetFree.of_bodySF (plainFor_of_name pn_1) hisR ?_
  intro p e s m args below meth c s₁ Bd hml0 hP hK
  obtain ⟨rfl, hZ, hh⟩ := hP
  have hx := Bd.exec
  have hby := Bd.bytes
  have hml : c.maxLocals = 3 := hml0
  have hown : s.vm.findClass "java/lang/String" = some m.cls := findClass_of_methodNamed Bd.named
  have hnm := (name_of_methodNamed Bd.named Bd.method).1
  have X0 : Stand p l e ({ frames := 3, cells := 1, slots := 19, locals := 52 } : Room) s m #[(.ref so), (.ref ao), (.ref cs)] below meth c s₁ [] 0 0 := Stand.of_body Bd
  have e0 : s₁.heap = h0 := by rw [← hh, Bd.state]; rfl
  have N0 := Fr.nil n0
  have K0 : Keep h0 h0 [so] := Keep.refl h0 [so]
  show Go p.tables e below _ (s₁.setTop (entryFrame m #[(.ref so), (.ref ao), (.ref cs)] 3))
  refine Go.start ?_
  intro G hG
  refine Go.st (fun t k => castTop (ef_si1 m so ao cs) k) ?_
  show Go p.tables e below _ (s₁.setTop (mkF m 0 #[.val (.ref so), .val (.ref ao), .val (.ref cs)] []))
  refine Go.st (fun _ k => XS.aloadN X0.here hx rfl (hb hby d_si1_0) rfl rfl k) ?_
  show Go p.tables e below _ (s₁.setTop (mkF m 1 #[.val (.ref so), .val (.ref ao), .val (.ref cs)] [(.ref so)]))
  refine Go.st (fun _ k => XS.aloadN X0.here hx rfl (hb hby d_si1_1) rfl rfl k) ?_
  show Go p.tables e below _ (s₁.setTop (mkF m 2 #[.val (.ref so), .val (.ref ao), .val (.ref cs)] [(.ref cs), (.ref so)]))
  obtain ⟨_, _, ⟨T1, L1, k1, n1⟩, -, X1, ⟨Lc1, hQ1, l1, y1, z1⟩, st1⟩ := Jvm.LawKit.callS X0 hx (y := (⟨"java/util/Objects", "requireNonNull", "(Ljava/lang/Object;)Ljava/lang/Object;"⟩ : MethodName)) hown (mvT hZ (hw _ (List.mem_of_getElem? (i := 40) rfl))) (mvT hZ (hw _ (List.mem_of_getElem? (i := 41) rfl))) (mvT hZ (hw _ (List.mem_of_getElem? (i := 42) rfl))) (mvT hZ (hw _ (List.mem_of_getElem? (i := 43) rfl))) (by decide) (backOf (W := 1) (rm_rnn l Z a0 hw [] cs h0 n0 Z0 ) hZ (hw _ (List.mem_of_getElem? (i := 43) rfl)) (hw _ (List.mem_of_getElem? (i := 42) rfl)) (by decide) (by decide)) (g := (mkF m 2 #[.val (.ref so), .val (.ref ao), .val (.ref cs)] [(.ref cs), (.ref so)])) rfl (by rw [hml]; rfl) (argsL := [(.ref cs)]) (rest := [(.ref so)]) (lenOf pd_8 rfl) rfl (by show 2 * 0 + _ ≤ _; exact Nat.le_of_eq rfl) (hb hby d_si1_2) (fun _ _ => ⟨rfl, e0, (by decide : 0 + 0 ≤ _), (by decide : 0 + 0 ≤ _)⟩)
  dsimp only [Pt.U, Pt.locs, Pt.cells, Pt.slots] at X1 l1 y1 z1 st1 hQ1
  rw [l1, y1, z1] at X1
  obtain ⟨rfl, N1q, e1⟩ := hQ1
  have N1 := Fr.app N0 N1q
  refine Go.st st1 ?_
  show Go p.tables e below _ (T1.setTop (mkF m 5 #[.val (.ref so), .val (.ref ao), .val (.ref cs)] [(.ref cs), (.ref so)]))
  obtain ⟨T2, X2, e2, st2⟩ := castY X1 hx hZ hown (hw _ (List.mem_of_getElem? (i := 44) rfl)) e1 (Ins.of_exa Pf11 (hw _ (List.mem_of_getElem? (i := 45) rfl))) (g := (mkF m 5 #[.val (.ref so), .val (.ref ao), .val (.ref cs)] [(.ref cs), (.ref so)])) rfl rfl (hb hby d_si1_5)
  refine Go.st st2 ?_
  show Go p.tables e below _ (T2.setTop (mkF m 8 #[.val (.ref so), .val (.ref ao), .val (.ref cs)] [(.ref cs), (.ref so)]))
  refine Go.st (fun _ k => XS.aloadN X2.here hx rfl (hb hby d_si1_8) rfl rfl k) ?_
  show Go p.tables e below _ (T2.setTop (mkF m 9 #[.val (.ref so), .val (.ref ao), .val (.ref cs)] [(.ref ao), (.ref cs), (.ref so)]))
  refine Go.st (fun _ k => XS.iconst X2.here hx rfl (hb hby d_si1_9) k) ?_
  show Go p.tables e below _ (T2.setTop (mkF m 10 #[.val (.ref so), .val (.ref ao), .val (.ref cs)] [(.int (0 : Int32)), (.ref ao), (.ref cs), (.ref so)]))
  refine Go.st (fun _ k => XS.aloadN X2.here hx rfl (hb hby d_si1_10) rfl rfl k) ?_
  show Go p.tables e below _ (T2.setTop (mkF m 11 #[.val (.ref so), .val (.ref ao), .val (.ref cs)] [(.ref ao), (.int (0 : Int32)), (.ref ao), (.ref cs), (.ref so)]))
  obtain ⟨cl3, Ar3, -, S3, M3, -, -⟩ := id Pf4
  refine Go.st (fun _ k => X2.arraylength hx (by rw [e2]; exact Ar3.1) (State.isArrayOf_alike hZ.alike Ar3.2.1) (g := (mkF m 11 #[.val (.ref so), .val (.ref ao), .val (.ref cs)] [(.ref ao), (.int (0 : Int32)), (.ref ao), (.ref cs), (.ref so)])) rfl rfl (hb hby d_si1_11) _ k) ?_
  rw [len_of S3 M3]
  show Go p.tables e below _ (T2.setTop (mkF m 12 #[.val (.ref so), .val (.ref ao), .val (.ref cs)] [(.int zz), (.int (0 : Int32)), (.ref ao), (.ref cs), (.ref so)]))
  obtain ⟨_, _, ⟨T4, L4, k4, n4⟩, -, X4, ⟨Lc4, hQ4, l4, y4, z4⟩, st4⟩ := X2.specialBackH hx (y := (⟨"java/lang/String", "<init>", "(Ljava/nio/charset/Charset;[BII)V"⟩ : MethodName)) rfl hown (mvT hZ (hw _ (List.mem_of_getElem? (i := 46) rfl))) (mvT hZ (hw _ (List.mem_of_getElem? (i := 47) rfl))) (mvT hZ (hw _ (List.mem_of_getElem? (i := 49) rfl))) (by decide) (backOfWith (W := 0) (rm_si2 l Z a0 hw [] so cs ao (0 : Int32) zz u8 iso kb zz bl G1 h0 n0 Z0 Pf0 Pf1 Pf2 Pf3 Pf4 Pf5 Pf6 Pf7 Pf8 Pf9 Pf10 Pf11 Pf12 (by show ¬ (G1 = (0 : Int32)); exact P5) (by show ∀ i, i < zz.toNatClampNeg → ¬ (bl.getD i 0) < 0; exact hnn) (by show ¬ zz < 0; exact hz0) (by show zz.toNatClampNeg ≤ 19; exact hcap) (by show ¬ (zz = (0 : Int32)); exact hnz) hneA (by show (0 : Int32).toInt = 0 ∧ zz.toInt = zz.toInt; exact ⟨by decide, rfl⟩)) hZ (hw _ (List.mem_of_getElem? (i := 49) rfl)) (hw _ (List.mem_of_getElem? (i := 34) rfl)) (by decide) (by decide)) (g := (mkF m 12 #[.val (.ref so), .val (.ref ao), .val (.ref cs)] [(.int zz), (.int (0 : Int32)), (.ref ao), (.ref cs), (.ref so)])) rfl (by rw [hml]; rfl) (Steps.refl _) (a := so) (argsL := [(.ref cs), (.ref ao), (.int (0 : Int32)), (.int zz)]) (rest := []) (lenOf pd_9 rfl) rfl (by show 2 * 0 + _ ≤ _; exact Nat.le_of_eq rfl) (hb hby d_si1_12) (fun _ _ => ⟨rfl, e2, (by decide : 0 + 1 ≤ _), (by decide : 0 + 19 ≤ _)⟩)
  dsimp only [Pt.U, Pt.locs, Pt.cells, Pt.slots] at X4 l4 y4 z4 st4 hQ4
  rw [l4, y4, z4] at X4
  obtain ⟨b4_fb, rfl, N4q, K4q, g4_fb, s4_fb, Fq4_0, Fq4_1, Fq4_2, Fq4_3⟩ := hQ4
  have N4 := Fr.app N1 N4q
  refine Go.st (fun _ k => st4.trans k) ?_
  have ne5 : so ≠ b4_fb := Nat.ne_of_lt (Nat.lt_of_lt_of_le Pf0.lt s4_fb)
  have ne6 : ao ≠ b4_fb := Nat.ne_of_lt (Nat.lt_of_lt_of_le Pf4.lt s4_fb)
  have ne7 : u8 ≠ b4_fb := Nat.ne_of_lt (Nat.lt_of_lt_of_le Pf7.lt s4_fb)
  have ne8 : iso ≠ b4_fb := Nat.ne_of_lt (Nat.lt_of_lt_of_le Pf9.lt s4_fb)
  have ne9 : cs ≠ b4_fb := Nat.ne_of_lt (Nat.lt_of_lt_of_le Pf11.lt s4_fb)
  have sz10 : h0.size ≤ b4_fb := Nat.le_trans K0.1 s4_fb
  have Z11 : n0 ≤ T4.heap.size := Nat.le_trans Z0 K4q.1
  have K12 : Keep h0 T4.heap [so] := K0.trans K4q (fun z hz => (List.mem_cons.mp hz).elim (fun q => by rw [q]; exact Or.inl (List.mem_of_getElem? (i := 0) rfl)) (fun hz => absurd hz List.not_mem_nil))
  have F13 : Exa Z T4.heap so "java/lang/String" := Pf0.keep K4q
  have F14 : Arv Z T4.heap ao kb .byte zz (bvs bl) (.int (0 : Int32)) := Pf4.keep K4q (fun z => (List.mem_cons.mp z).elim hneA (fun z => absurd z List.not_mem_nil))
  have F15 : Exa Z T4.heap ao "[B" := Pf5.keep K4q
  have F16 : Sta Z T4.heap "sun/nio/cs/UTF_8" "INSTANCE" "Lsun/nio/cs/UTF_8;" (.ref u8) := own_stakeepW Pf6 K4q (allS (P := fun x => ∀ c : Cell, h0[x]? = some c → c.vm.isStatics = false) (old_plain Pf2) all0)
  have F17 : Exa Z T4.heap u8 "sun/nio/cs/UTF_8" := Pf7.keep K4q
  have F18 : Sta Z T4.heap "sun/nio/cs/ISO_8859_1" "INSTANCE" "Lsun/nio/cs/ISO_8859_1;" (.ref iso) := own_stakeepW Pf8 K4q (allS (P := fun x => ∀ c : Cell, h0[x]? = some c → c.vm.isStatics = false) (old_plain Pf2) all0)
  have F19 : Exa Z T4.heap iso "sun/nio/cs/ISO_8859_1" := Pf9.keep K4q
  have F20 : Sta Z T4.heap "sun/nio/cs/US_ASCII" "INSTANCE" "Lsun/nio/cs/US_ASCII;" (.ref cs) := own_stakeepW Pf10 K4q (allS (P := fun x => ∀ c : Cell, h0[x]? = some c → c.vm.isStatics = false) (old_plain Pf2) all0)
  have F21 : Exa Z T4.heap cs "sun/nio/cs/US_ASCII" := Pf11.keep K4q
  have F22 : Sta Z T4.heap "java/lang/String" "COMPACT_STRINGS" "Z" (.int G1) := own_stakeepW Pf12 K4q (allS (P := fun x => ∀ c : Cell, h0[x]? = some c → c.vm.isStatics = false) (old_plain Pf2) all0)
  show Go p.tables e below _ (T4.setTop (mkF m 15 #[.val (.ref so), .val (.ref ao), .val (.ref cs)] []))
  subst hG
  obtain ⟨fs, hr, hrun, hended, hW, hsame⟩ := X4.leave (v := none) (fun _ => rfl)
  refine ⟨_, _, ?_, hrun, hended, _, _, rfl, ?_, ⟨_, rfl⟩, hW, hsame.mono (by decide) (by decide)⟩
  · exact X4.returnOut hx Bd.returns (hb hby d_si1_15) hr
  · show Q_si1 Z so ao cs u8 iso kb zz bl G1 h0 n0 _ T4.heap _
    exact ⟨b4_fb, rfl, N4, K12, g4_fb, sz10, Fq4_0, Fq4_1, Fq4_2, Fq4_3⟩
section OwnWide
variable {p : Program} {l : Launch} {e : Env} {R : Room} {s : State} {m : MethodId} {args : Array Value} {below : List Frame} {meth : Method} {c : Code} {T : State} {locs : List Loc} {cells slots : Nat} {Z : State} {a0 : Array Value} {EL : List (String × Nat)} {h : Heap} {vm0 : Vm}
/-- where a call has come back: the state behind it, spelled over the caller's own state -/
theorem own_land {U V : State} {g : JFrame} {mk : MethodId} {a : Array Value} {v : Option Value} {ig : Instr} {len k n : Nat} {L : List Loc} (hat : At U g.method c below) (hd : decode c.code g.pc = .ok (ig, len)) (hal : U.vm.Alike V.vm)
    (fin : Ended V (U.setTop g).frames (.returned v)) (same : (U.calling g mk a).sameButNew { V with vm := (U.calling g mk a).vm } L k n) :
    V = (({ U with heap := V.heap, slotsUsed := V.slotsUsed } : State).setVm V.vm).setTop { g with pc := g.pc + len, stack := v.toList ++ g.stack } ∧ U.sameButNew ({ U with heap := V.heap, slotsUsed := V.slotsUsed } : State) L k n := by
  obtain ⟨t0, ht0⟩ := Option.isSome_iff_exists.mp hat.top
  obtain ⟨r, hr⟩ := State.topJava?_eq_some.mp ht0
  obtain ⟨th, hth, -⟩ := State.frames_cons hr
  rw [State.frames_setTop' g hat.top] at fin
  obtain ⟨c1, i1, len1, k1, k2, k3⟩ := fin
  obtain rfl : c = c1 := by
    have z : V.code? g.method = U.code? g.method := by rw [State.code?_eq, State.code?_eq, hal.method?]
    rw [z, hat.code] at k1
    exact Option.some.inj k1
  obtain rfl : len = len1 := by rw [hd] at k2; cases k2; rfl
  obtain ⟨s1, s2, s3, s4, s5, s6⟩ := same
  refine ⟨?_, ?_, s2, s3, s4, s5, s6⟩
  · have hr2 : (({ U with heap := V.heap, slotsUsed := V.slotsUsed } : State).setVm V.vm).frames = .java t0 :: r := hr
    have z : V = ({ (U.calling g mk a).setFrames V.frames with heap := V.heap, slotsUsed := V.slotsUsed } : State).setVm V.vm := by
      have z1 : V = ({ V with vm := (U.calling g mk a).vm } : State).setVm V.vm := rfl
      rw [s1] at z1
      exact z1
    refine z.trans ?_
    rw [k3, State.calling_eq hat.top, State.setFrames_setFrames, State.setTop_of_frames _ hr2, hr]
    rfl
  · show ({ U with heap := V.heap, slotsUsed := V.slotsUsed } : State) = { U.setFrames U.frames with heap := V.heap, slotsUsed := V.slotsUsed }
    rw [State.setFrames_self hth]
/-- a wide contract pays, whatever word says the code (code or codeWith); x is safe -/
theorem own_backG {y : MethodName} {w : Jvm.Cond} {maxL : Nat} {rm : Room} {len W : Nat} {as' : Array Value} {Q : Option Value → Heap → List Loc → Prop} {x : Addr}
    (hM : MetFree l y (head1 [w] rm) (fun a U => a = as' ∧ Z.Warmed39 U.vm ∧ U.heap = h ∧ CHv Z EL U.vm h ∧ Safe Z EL U.vm h x) (fun _ _ _ _ _ => True) (fun _ U o U' => ∃ v L, o = .returned v ∧ Q v U'.heap L ∧ CHr Z EL U.vm U.heap U'.vm U'.heap ∧ ReturnedEndW U o U' L rm.cells rm.slots))
    (hZ : Z.Warmed39 vm0) (hwc : ∀ (U : State) mk, Z.Warmed39 U.vm → U.methodNamed? y = some mk → w.before as' U = true ∧ ∃ mt cd, U.vm.method? mk = some mt ∧ mt.code = some cd ∧ cd.maxLocals = maxL)
    (wz : (Jvm.Cond.initialized y.cls).before a0 Z = true) (hf : rm.frames + 1 ≤ R.frames) (hl : W + (maxL + 11) + rm.locals ≤ R.locals) (hEL : EW Z a0 EL) (H : CHv Z EL vm0 h) (hx : x < h.size) (S : Safe Z EL vm0 h x) :
    BackS l R p e below (s.setVm vm0) args y len W (fun A a => a = as' ∧ A.U.heap = h ∧ A.cells + rm.cells ≤ R.cells ∧ A.slots + rm.slots ≤ R.slots)
      (fun A _ v B => ∃ L, Q v B.U.heap L ∧ B.locs = A.locs ++ L ∧ B.cells = A.cells + rm.cells ∧ B.slots = A.slots + rm.slots ∧ CHr Z EL vm0 h B.U.vm B.U.heap) := by
  rintro m meth c ⟨U, Ls, c0, s0⟩ g ig mk a X rfl hsize hdg hW hn ⟨rfl, hh, hc, hs⟩
  dsimp only [Pt.U, Pt.locs, Pt.cells, Pt.slots] at X hn hh hc hs ⊢
  have hU : Z.Warmed39 U.vm := wtrans (s := s.setVm vm0) hZ X.warmed
  have HC := CHv.at X hZ hEL H
  obtain ⟨w1, mt, cd, m1, m2, m3⟩ := hwc U mk hU hn
  obtain ⟨k, k1, -⟩ := className_of_methodNamed hn
  have app : (head1 [w] rm).appliesLoose y e.platform (U.calling g mk a) = true :=
    Spec.appliesLoose_calling X.here hdg hn k1 (Cond.initialized_spec (args := a) (findClass_of_methodNamed hn) k1 (mv hU wz)) (X.room_calling (R' := rm) hsize m1 m2 hf (by rw [m3]; omega) hc hs) (by show (Jvm.Cond.and w .tt).before a U = true; rw [Cond.before_and, w1]; rfl)
  obtain ⟨mid, hmid⟩ := X.here.above
  have fr : (U.setTop g).frames = (.java g :: mid) ++ below := by rw [State.frames_setTop' g X.here.top, hmid]; rfl
  obtain ⟨o, V, run, -, fin, v, L, rfl, hQ, hC, -, hWV, hB, same⟩ := Steps.callFree hM p X.admits X.cas X.clock (acts := []) fr app ⟨rfl, hU, hh, HC.1, HC.safe hx S⟩ trivial
  have hWU : U.Warmed39 V.vm := hWV
  obtain ⟨land, same2⟩ := own_land X.here hdg hWU.alike fin same
  obtain ⟨X2, since⟩ := X.movedW (T₂ := ({ U with heap := V.heap, slotsUsed := V.slotsUsed } : State).setVm V.vm) ((X.here.setHeapUsed V.heap V.slotsUsed).setVm hWU.alike) X.tail rfl rfl hWU hB same2
  refine ⟨v, ⟨({ U with heap := V.heap, slotsUsed := V.slotsUsed } : State).setVm V.vm, Ls ++ L, c0 + rm.cells, s0 + rm.slots⟩, X2, since, same2.2.1, ⟨L, hQ, rfl, rfl, rfl, HC.trans ?_⟩, ?_⟩
  · rw [← hh]; exact hC
  · show Steps p.tables e below _ ((({ U with heap := V.heap, slotsUsed := V.slotsUsed } : State).setVm V.vm).setTop { g with pc := g.pc + len, stack := v.toList ++ g.stack })
    rw [← land]
    exact run
theorem own_hwcode {y : MethodName} {bytes : ByteArray} {maxL : Nat} {ret : Option FieldType} {as' : Array Value} (wc : (Jvm.Cond.code y bytes maxL ret).before a0 Z = true) (U : State) (mk : MethodId) (hU : Z.Warmed39 U.vm) (hn : U.methodNamed? y = some mk) :
    (Jvm.Cond.code y bytes maxL ret).before as' U = true ∧ ∃ mt cd, U.vm.method? mk = some mt ∧ mt.code = some cd ∧ cd.maxLocals = maxL := by
  obtain ⟨mt, cd, h1, h2, -, h3, -⟩ := Cond.code_spec (args := as') hn (mv hU wc)
  exact ⟨mv hU wc, mt, cd, h1, h2, h3⟩
theorem own_hwwith {y : MethodName} {bytes : ByteArray} {maxL : Nat} {ret : Option FieldType} {hs : List (Nat × Nat × Nat × Nat)} {as' : Array Value} (wc : (Jvm.Cond.codeWith y bytes maxL ret hs).before a0 Z = true) (U : State) (mk : MethodId) (hU : Z.Warmed39 U.vm) (hn : U.methodNamed? y = some mk) :
    (Jvm.Cond.codeWith y bytes maxL ret hs).before as' U = true ∧ ∃ mt cd, U.vm.method? mk = some mt ∧ mt.code = some cd ∧ cd.maxLocals = maxL := by
  have wd : (Jvm.Cond.codeWith y bytes maxL ret hs).before as' U = true := mv hU wc
  obtain ⟨mk2, mt, cd, h0, h1, h2, -, h3, -⟩ := Cond.codeWith_spec wd
  cases hn.symm.trans h0
  exact ⟨wd, mt, cd, h1, h2, h3⟩
/-- the call of a constructor by its wide contract, whose code comes by codeWith -/
theorem own_specialW (X : Stand p l e R s m args below meth c T locs cells slots) (hexec : p.tables.exec = Jvm.exec) {own : String} {index : Nat} {y : MethodName} (hy1 : y.name = "<init>")
    (hown : s.vm.findClass own = some m.cls) (hlink : (Jvm.Cond.methodLink own index y).before args s = true) (hinst : (Jvm.Cond.instanceMethod y).before args s = true)
    {bytes : ByteArray} {maxL : Nat} {hs : List (Nat × Nat × Nat × Nat)} (hcode : (Jvm.Cond.codeWith y bytes maxL none hs).before args s = true)
    (hy : y.cls ≠ "java/lang/invoke/MethodHandle" ∧ y.cls ≠ "java/lang/invoke/VarHandle")
    {W : Nat} {Pre : Pt → Array Value → Prop} {Post : Pt → Array Value → Option Value → Pt → Prop} (hK : BackS l R p e below s args y 3 W Pre Post)
    {g : JFrame} (hg : g.method = m) (hsize : g.locals.size = c.maxLocals) {s₀ : State} (hcome : Steps p.tables e below s₀ (T.setTop g)) {a : Addr} {argsL rest : List Value}
    (hlen : ∀ sig, parseMethodDescriptor y.desc = some sig → argsL.length = sig.parameters.length) (hstack : g.stack = argsL.reverse ++ .ref a :: rest) (hW : 2 * g.monitorRoom + (rest.map fun v => v.category).sum ≤ W)
    (hdg : decode c.code g.pc = .ok (.invokespecial index, 3)) (hpre : ∀ vm₁, s.WarmedH vm₁ → Pre ⟨T.setVm vm₁, locs, cells, slots⟩ (.ref a :: argsL).toArray) :
    ∃ (v : Option Value) (vm₁ : Vm) (B : Pt), s.WarmedH vm₁ ∧ Stand p l e R (s.setVm B.U.vm) m args below meth c B.U B.locs B.cells B.slots ∧ s.Since B.U.vm B.U.heap.size ∧ T.heap.size ≤ B.U.heap.size ∧ Post ⟨T.setVm vm₁, locs, cells, slots⟩ (.ref a :: argsL).toArray v B ∧
      Steps p.tables e below s₀ (B.U.setTop { g with pc := g.pc + 3, stack := v.toList ++ rest }) := by
  obtain ⟨mk, -, -, -, vm1, hnm, -, -, -, -, -, -, -, hwm, go⟩ := Steps.initColdArgsH (e := e) X.here hexec X.warmed (by rw [X.admits.platform]) hown hy1 hy hlink hinst hcode (f := g) hg hlen hstack hdg
  have Y := X.noted hwm
  obtain ⟨v, B, q1, q2, q3, q4, q5⟩ := hK m meth c ⟨T.setVm vm1, locs, cells, slots⟩ { g with stack := rest } _ mk _ Y hg hsize hdg hW (Y.named hnm) (hpre vm1 hwm)
  refine ⟨v, vm1, B, hwm, q1, q2, q3, q4, hcome.trans (go _ fun acts => ?_)⟩
  rw [doInvoke_state]
  exact q5
end OwnWide

theorem own_narb2 (y : Int32) : y.toInt8.toInt32.toInt8.toInt32 = y.toInt8.toInt32 := by simp
theorem pd_10 : parseMethodDescriptor "([BLjava/nio/charset/Charset;)V" = some ⟨[(.array .byte), (.object "java/nio/charset/Charset")], none⟩ := by decide +kernel
theorem pn_7 : plainName "com/example/clotho/clotho/server/store/Keys" = true := by first | (simp [plainName, overriddenIn]; done) | decide +kernel
theorem d_num1_0 : decode prog_10_method_4_code 0 = .ok (.iload_n 2, 1) := by decide +kernel
theorem d_num1_1 : decode prog_10_method_4_code 1 = .ok (.newarray .byte, 2) := by decide +kernel
theorem d_num1_3 : decode prog_10_method_4_code 3 = .ok (.astore_n 3, 1) := by decide +kernel
theorem d_num1_4 : decode prog_10_method_4_code 4 = .ok (.lload_n 0, 1) := by decide +kernel
theorem d_num1_5 : decode prog_10_method_4_code 5 = .ok (.lstore 4, 2) := by decide +kernel
theorem d_num1_7 : decode prog_10_method_4_code 7 = .ok (.iload_n 2, 1) := by decide +kernel
theorem d_num1_8 : decode prog_10_method_4_code 8 = .ok (.iconst 1, 1) := by decide +kernel
theorem d_num1_9 : decode prog_10_method_4_code 9 = .ok (.isub, 1) := by decide +kernel
theorem d_num1_10 : decode prog_10_method_4_code 10 = .ok (.istore 6, 2) := by decide +kernel
theorem d_num1_12 : decode prog_10_method_4_code 12 = .ok (.iload 6, 2) := by decide +kernel
theorem d_num1_14 : decode prog_10_method_4_code 14 = .ok (.ifCond .lt 33, 3) := by decide +kernel
theorem d_num1_17 : decode prog_10_method_4_code 17 = .ok (.aload_n 3, 1) := by decide +kernel
theorem d_num1_18 : decode prog_10_method_4_code 18 = .ok (.iload 6, 2) := by decide +kernel
theorem d_num1_20 : decode prog_10_method_4_code 20 = .ok (.ldc2_w 45, 3) := by decide +kernel
theorem d_num1_23 : decode prog_10_method_4_code 23 = .ok (.lload 4, 2) := by decide +kernel
theorem d_num1_25 : decode prog_10_method_4_code 25 = .ok (.ldc2_w 47, 3) := by decide +kernel
theorem d_num1_28 : decode prog_10_method_4_code 28 = .ok (.lrem, 1) := by decide +kernel
theorem d_num1_29 : decode prog_10_method_4_code 29 = .ok (.ladd, 1) := by decide +kernel
theorem d_num1_30 : decode prog_10_method_4_code 30 = .ok (.l2i, 1) := by decide +kernel
theorem d_num1_31 : decode prog_10_method_4_code 31 = .ok (.i2b, 1) := by decide +kernel
theorem d_num1_32 : decode prog_10_method_4_code 32 = .ok (.bastore, 1) := by decide +kernel
theorem d_num1_33 : decode prog_10_method_4_code 33 = .ok (.lload 4, 2) := by decide +kernel
theorem d_num1_35 : decode prog_10_method_4_code 35 = .ok (.ldc2_w 47, 3) := by decide +kernel
theorem d_num1_38 : decode prog_10_method_4_code 38 = .ok (.ldiv, 1) := by decide +kernel
theorem d_num1_39 : decode prog_10_method_4_code 39 = .ok (.lstore 4, 2) := by decide +kernel
theorem d_num1_41 : decode prog_10_method_4_code 41 = .ok (.iinc 6 (-1), 3) := by decide +kernel
theorem d_num1_44 : decode prog_10_method_4_code 44 = .ok (.goto (-32), 3) := by decide +kernel
theorem d_num1_47 : decode prog_10_method_4_code 47 = .ok (.lload_n 0, 1) := by decide +kernel
theorem d_num1_48 : decode prog_10_method_4_code 48 = .ok (.lconst 0, 1) := by decide +kernel
theorem d_num1_49 : decode prog_10_method_4_code 49 = .ok (.lcmp, 1) := by decide +kernel
theorem d_num1_50 : decode prog_10_method_4_code 50 = .ok (.ifCond .lt 10, 3) := by decide +kernel
theorem d_num1_53 : decode prog_10_method_4_code 53 = .ok (.lload 4, 2) := by decide +kernel
theorem d_num1_55 : decode prog_10_method_4_code 55 = .ok (.lconst 0, 1) := by decide +kernel
theorem d_num1_56 : decode prog_10_method_4_code 56 = .ok (.lcmp, 1) := by decide +kernel
theorem d_num1_57 : decode prog_10_method_4_code 57 = .ok (.ifCond .le 18, 3) := by decide +kernel
theorem d_num1_75 : decode prog_10_method_4_code 75 = .ok (.new 14, 3) := by decide +kernel
theorem d_num1_78 : decode prog_10_method_4_code 78 = .ok (.dup, 1) := by decide +kernel
theorem d_num1_79 : decode prog_10_method_4_code 79 = .ok (.aload_n 3, 1) := by decide +kernel
theorem d_num1_80 : decode prog_10_method_4_code 80 = .ok (.getstatic 29, 3) := by decide +kernel
theorem d_num1_83 : decode prog_10_method_4_code 83 = .ok (.invokespecial 57, 3) := by decide +kernel
theorem d_num1_86 : decode prog_10_method_4_code 86 = .ok (.areturn, 1) := by decide +kernel
theorem ef_num1 (m : MethodId) (qn : Int64) (pd : Int32) : entryFrame m #[(.long qn), (.int pd)] 7 = mkF m 0 #[.val (.long qn), .second, .val (.int pd), .unset, .unset, .unset, .unset] [] := by first | (simp [entryFrame, mkF, argsToLocals, Value.category]; done) | rfl
def Q_num1 (Z : State) (qn : Int64) (pd : Int32) (u8 : Addr) (iso : Addr) (cs : Addr) (G1 : Int32) (h0 : Heap) (n0 : Nat) (v : Option Value) (h : Heap) (L : List Loc) : Prop := ∃ fr : Addr, ∃ fb : Addr, ∃ kb : ClassId, v = some (.ref fr) ∧ Fr n0 L ∧ Keep h0 h [] ∧ n0 ≤ fr ∧ h0.size ≤ fr ∧ n0 ≤ fb ∧ h0.size ≤ fb ∧ Exa Z h fr "java/lang/String" ∧ Fld Z h fr "java/lang/String" "coder" "B" (.int (0 : Int32)) ∧ Fld Z h fr "java/lang/String" "value" "[B" (.ref fb) ∧ Arv Z h fb kb .byte pd (bvs (putD z19 0 pd.toNatClampNeg qn)) (.int (0 : Int32))
set_option maxRecDepth 65536 in
set_option maxHeartbeats 40000000 in
theorem rm_num1 (l : Launch) (Z : State) (a0 : Array Value) (hw : ∀ d ∈ tables_1, d.before a0 Z = true) (ws : List Jvm.Cond) (qn : Int64) (pd : Int32) (u8 : Addr) (iso : Addr) (cs : Addr) (G1 : Int32) (h0 : Heap) (n0 : Nat) (Z0 : n0 ≤ h0.size) (Pf0 : Sta Z h0 "sun/nio/cs/UTF_8" "INSTANCE" "Lsun/nio/cs/UTF_8;" (.ref u8)) (Pf1 : Exa Z h0 u8 "sun/nio/cs/UTF_8") (Pf2 : Sta Z h0 "sun/nio/cs/ISO_8859_1" "INSTANCE" "Lsun/nio/cs/ISO_8859_1;" (.ref iso)) (Pf3 : Exa Z h0 iso "sun/nio/cs/ISO_8859_1") (Pf4 : Sta Z h0 "sun/nio/cs/US_ASCII" "INSTANCE" "Lsun/nio/cs/US_ASCII;" (.ref cs)) (Pf5 : Exa Z h0 cs "sun/nio/cs/US_ASCII") (Pf6 : Sta Z h0 "java/nio/charset/StandardCharsets" "US_ASCII" "Ljava/nio/charset/Charset;" (.ref cs)) (Pf7 : Sta Z h0 "java/lang/String" "COMPACT_STRINGS" "Z" (.int G1)) (P5 : ¬ (G1 = (0 : Int32))) (hpd : 1 ≤ pd.toInt ∧ pd.toInt ≤ 19) (hqn : 0 ≤ qn.toInt ∧ qn.toInt < 10 ^ pd.toNatClampNeg) :
    MetFree l (⟨"com/example/clotho/clotho/server/store/Keys", "numbered", "(JI)Ljava/lang/String;"⟩ : MethodName) (head1 (Jvm.Cond.code (⟨"com/example/clotho/clotho/server/store/Keys", "numbered", "(JI)Ljava/lang/String;"⟩ : MethodName) prog_10_method_4_code 7 (some (.object "java/lang/String")) :: ws) ({ frames := 4, cells := 3, slots := 42, locals := 67 } : Room)) (fun a U => a = #[(.long qn), (.int pd)] ∧ Z.Warmed39 U.vm ∧ U.heap = h0) (fun _ _ _ _ _ => True) (fun _ U o U' => ∃ v L, o = .returned v ∧ Q_num1 Z qn pd u8 iso cs G1 h0 n0 v U'.heap L ∧ FrameEnd U o U' L ({ frames := 4, cells := 3, slots := 42, locals := 67 } : Room).cells ({ frames := 4, cells := 3, slots := 42, locals := 67 } : Room).slots) := by
  refine MetFree.of_bodySF (plainFor_of_name pn_7) hisR ?_
  intro p e s m args below meth c s₁ Bd hml0 hP hK
  obtain ⟨rfl, hZ, hh⟩ := hP
  have hx := Bd.exec
  have hby := Bd.bytes
  have hml : c.maxLocals = 7 := hml0
  have hown : s.vm.findClass "com/example/clotho/clotho/server/store/Keys" = some m.cls := findClass_of_methodNamed Bd.named
  have hnm := (name_of_methodNamed Bd.named Bd.method).1
  have X0 : Stand p l e ({ frames := 4, cells := 3, slots := 42, locals := 67 } : Room) s m #[(.long qn), (.int pd)] below meth c s₁ [] 0 0 := Stand.of_body Bd
  have e0 : s₁.heap = h0 := by rw [← hh, Bd.state]; rfl
  have N0 := Fr.nil n0
  have K0 : Keep h0 h0 [] := Keep.refl h0 []
  show Go p.tables e below _ (s₁.setTop (entryFrame m #[(.long qn), (.int pd)] 7))
  refine Go.start ?_
  intro G hG
  refine Go.st (fun t k => castTop (ef_num1 m qn pd) k) ?_
  have i_0 : (0 : Int32).toInt = 0 := by decide
  have i_1 : (1 : Int32).toInt = 1 := by decide
  have l_0 : (0 : Int64).toInt = 0 := by decide
  have em1 : (-1 : Int32).toInt = -1 := by decide
  have i_19 : (19 : Int32).toInt = 19 := by decide
  have nat_d := nat_of (j := pd) (own_nlt32 (by omega))
  show Go p.tables e below _ (s₁.setTop (mkF m 0 #[.val (.long qn), .second, .val (.int pd), .unset, .unset, .unset, .unset] []))
  refine Go.st (fun _ k => XS.iloadN X0.here hx rfl (hb hby d_num1_0) rfl k) ?_
  show Go p.tables e below _ (s₁.setTop (mkF m 1 #[.val (.long qn), .second, .val (.int pd), .unset, .unset, .unset, .unset] [(.int pd)]))
  obtain ⟨T1, h1, k1, X1, e1, E1, A1, C1, st1⟩ := newPE X0 hx hZ (hw _ (List.mem_of_getElem? (i := 29) rfl)) e0 (g := (mkF m 1 #[.val (.long qn), .second, .val (.int pd), .unset, .unset, .unset, .unset] [(.int pd)])) rfl (hb hby d_num1_1) rfl (own_nlt32 (by omega)) (cap := 19) (by omega) (by decide) (by decide) (by decide) (ad := "[B") (by decide)
  obtain ⟨b1, g1⟩ : ∃ z, z = h0.size := ⟨_, rfl⟩
  rw [← g1] at A1 C1 st1
  refine Go.st st1 ?_
  have ne2 : u8 ≠ b1 := Nat.ne_of_lt (Nat.lt_of_lt_of_le Pf1.lt (Nat.le_of_eq g1.symm))
  have ne3 : iso ≠ b1 := Nat.ne_of_lt (Nat.lt_of_lt_of_le Pf3.lt (Nat.le_of_eq g1.symm))
  have ne4 : cs ≠ b1 := Nat.ne_of_lt (Nat.lt_of_lt_of_le Pf5.lt (Nat.le_of_eq g1.symm))
  have ge5 : n0 ≤ b1 := Nat.le_trans Z0 (Nat.le_of_eq g1.symm)
  have sz6 : h0.size ≤ b1 := Nat.le_trans K0.1 (Nat.le_of_eq g1.symm)
  have Z7 : n0 ≤ h1.size := Nat.le_trans Z0 E1.1
  have K8 : Keep h0 h1 [] := K0.ext E1
  have F9 : Sta Z h1 "sun/nio/cs/UTF_8" "INSTANCE" "Lsun/nio/cs/UTF_8;" (.ref u8) := Pf0.ext E1
  have F10 : Exa Z h1 u8 "sun/nio/cs/UTF_8" := Pf1.ext E1
  have F11 : Sta Z h1 "sun/nio/cs/ISO_8859_1" "INSTANCE" "Lsun/nio/cs/ISO_8859_1;" (.ref iso) := Pf2.ext E1
  have F12 : Exa Z h1 iso "sun/nio/cs/ISO_8859_1" := Pf3.ext E1
  have F13 : Sta Z h1 "sun/nio/cs/US_ASCII" "INSTANCE" "Lsun/nio/cs/US_ASCII;" (.ref cs) := Pf4.ext E1
  have F14 : Exa Z h1 cs "sun/nio/cs/US_ASCII" := Pf5.ext E1
  have F15 : Sta Z h1 "java/nio/charset/StandardCharsets" "US_ASCII" "Ljava/nio/charset/Charset;" (.ref cs) := Pf6.ext E1
  have F16 : Sta Z h1 "java/lang/String" "COMPACT_STRINGS" "Z" (.int G1) := Pf7.ext E1
  have F17 : Arv Z h1 b1 k1 .byte pd [] (.int (0 : Int32)) := Arv.new A1 (own_nlt32 (by omega))
  have Fp18 : Arv Z h1 b1 k1 .byte pd (bvs z19) (.int (0 : Int32)) := F17.pad own_zpad
  show Go p.tables e below _ (T1.setTop (mkF m 3 #[.val (.long qn), .second, .val (.int pd), .unset, .unset, .unset, .unset] [(.ref b1)]))
  refine Go.st (fun _ k => XS.astoreN X1.here hx rfl (hb hby d_num1_3) rfl rfl (l' := #[.val (.long qn), .second, .val (.int pd), .val (.ref b1), .unset, .unset, .unset]) rfl k) ?_
  show Go p.tables e below _ (T1.setTop (mkF m 4 #[.val (.long qn), .second, .val (.int pd), .val (.ref b1), .unset, .unset, .unset] []))
  show Go p.tables e below _ (T1.setTop (mkF m 4 #[.val (.long qn), .second, .val (.int pd), .val (.ref b1), .unset, .unset, .unset] []))
  refine Go.st (fun _ k => XS.lloadN X1.here hx rfl (hb hby d_num1_4) rfl k) ?_
  show Go p.tables e below _ (T1.setTop (mkF m 5 #[.val (.long qn), .second, .val (.int pd), .val (.ref b1), .unset, .unset, .unset] [(.long qn)]))
  refine Go.st (fun _ k => XS.lstore X1.here hx rfl (hb hby d_num1_5) rfl (l' := #[.val (.long qn), .second, .val (.int pd), .val (.ref b1), .val (.long qn), .second, .unset]) rfl k) ?_
  show Go p.tables e below _ (T1.setTop (mkF m 7 #[.val (.long qn), .second, .val (.int pd), .val (.ref b1), .val (.long qn), .second, .unset] []))
  show Go p.tables e below _ (T1.setTop (mkF m 7 #[.val (.long qn), .second, .val (.int pd), .val (.ref b1), .val (.long qn), .second, .unset] []))
  refine Go.st (fun _ k => XS.iloadN X1.here hx rfl (hb hby d_num1_7) rfl k) ?_
  show Go p.tables e below _ (T1.setTop (mkF m 8 #[.val (.long qn), .second, .val (.int pd), .val (.ref b1), .val (.long qn), .second, .unset] [(.int pd)]))
  refine Go.st (fun _ k => XS.iconst X1.here hx rfl (hb hby d_num1_8) k) ?_
  show Go p.tables e below _ (T1.setTop (mkF m 9 #[.val (.long qn), .second, .val (.int pd), .val (.ref b1), .val (.long qn), .second, .unset] [(.int (1 : Int32)), (.int pd)]))
  refine Go.st (fun _ k => XS.isub X1.here hx rfl (hb hby d_num1_9) rfl k) ?_
  show Go p.tables e below _ (T1.setTop (mkF m 10 #[.val (.long qn), .second, .val (.int pd), .val (.ref b1), .val (.long qn), .second, .unset] [(.int (pd - (1 : Int32)))]))
  refine Go.st (fun _ k => XS.istore X1.here hx rfl (hb hby d_num1_10) rfl (l' := #[.val (.long qn), .second, .val (.int pd), .val (.ref b1), .val (.long qn), .second, .val (.int (pd - (1 : Int32)))]) rfl k) ?_
  show Go p.tables e below _ (T1.setTop (mkF m 12 #[.val (.long qn), .second, .val (.int pd), .val (.ref b1), .val (.long qn), .second, .val (.int (pd - (1 : Int32)))] []))
  generalize hqv10 : (pd - (1 : Int32)) = v10
  have lp12 : ∀ (kz : Nat) (T : State) (h : Heap) (lc : List Loc) (iv : Int32) (rv : Int64) (blv : List Int32), Stand p l e ({ frames := 4, cells := 3, slots := 42, locals := 67 } : Room) s m #[(.long qn), (.int pd)] below meth c T lc 1 19 → T.heap = h → Fr n0 lc → Keep h0 h [] → n0 ≤ h.size → Arv Z h b1 k1 .byte pd (bvs blv) (.int (0 : Int32)) → Exa Z h b1 "[B" → Sta Z h "sun/nio/cs/UTF_8" "INSTANCE" "Lsun/nio/cs/UTF_8;" (.ref u8) → Exa Z h u8 "sun/nio/cs/UTF_8" → Sta Z h "sun/nio/cs/ISO_8859_1" "INSTANCE" "Lsun/nio/cs/ISO_8859_1;" (.ref iso) → Exa Z h iso "sun/nio/cs/ISO_8859_1" → Sta Z h "sun/nio/cs/US_ASCII" "INSTANCE" "Lsun/nio/cs/US_ASCII;" (.ref cs) → Exa Z h cs "sun/nio/cs/US_ASCII" → Sta Z h "java/nio/charset/StandardCharsets" "US_ASCII" "Ljava/nio/charset/Charset;" (.ref cs) → Sta Z h "java/lang/String" "COMPACT_STRINGS" "Z" (.int G1) → (iv.toInt = (kz : Int) - 1) → (blv.length = 19) → (putD blv 0 kz rv = putD z19 0 pd.toNatClampNeg qn) → ((kz : Int) ≤ pd.toInt) → (divs rv kz = divs qn pd.toNatClampNeg) → Go p.tables e below G (T.setTop (mkF m 12 #[.val (.long qn), .second, .val (.int pd), .val (.ref b1), .val (.long rv), .second, .val (.int iv)] [])) := by
    intro kz
    induction kz with
    | zero =>
      intro T h lc iv rv blv XT eT NT KT ZT FT0 FT1 FT2 FT3 FT4 FT5 FT6 FT7 FT8 FT9 h1 h2 h3 h4 h5
      have h1' : iv.toInt = -1 := by omega
      show Go p.tables e below _ (T.setTop (mkF m 12 #[.val (.long qn), .second, .val (.int pd), .val (.ref b1), .val (.long rv), .second, .val (.int iv)] []))
      refine Go.st (fun _ k => XS.iload XT.here hx rfl (hb hby d_num1_12) rfl k) ?_
      show Go p.tables e below _ (T.setTop (mkF m 14 #[.val (.long qn), .second, .val (.int pd), .val (.ref b1), .val (.long rv), .second, .val (.int iv)] [(.int iv)]))
      have hc14 : iv < (0 : Int32) := own_lt32 (by omega)
      refine Go.st (fun _ k => XS.ifYes XT.here hx rfl (pc0 := 14) (pc' := 47) rfl (hb hby d_num1_14) rfl (Jvm.Free.XT.i0_lt_t hc14) (by decide) (by decide) k) ?_
      show Go p.tables e below _ (T.setTop (mkF m 47 #[.val (.long qn), .second, .val (.int pd), .val (.ref b1), .val (.long rv), .second, .val (.int iv)] []))
      refine Go.st (fun _ k => XS.lloadN XT.here hx rfl (hb hby d_num1_47) rfl k) ?_
      show Go p.tables e below _ (T.setTop (mkF m 48 #[.val (.long qn), .second, .val (.int pd), .val (.ref b1), .val (.long rv), .second, .val (.int iv)] [(.long qn)]))
      refine Go.st (fun _ k => XS.lconst XT.here hx rfl (hb hby d_num1_48) k) ?_
      show Go p.tables e below _ (T.setTop (mkF m 49 #[.val (.long qn), .second, .val (.int pd), .val (.ref b1), .val (.long rv), .second, .val (.int iv)] [(.long (0 : Int64)), (.long qn)]))
      refine Go.st (fun _ k => Jvm.Free.XT.lcmp XT.here hx rfl (hb hby d_num1_49) rfl k) ?_
      show Go p.tables e below _ (T.setTop (mkF m 50 #[.val (.long qn), .second, .val (.int pd), .val (.ref b1), .val (.long rv), .second, .val (.int iv)] [(.int (Jvm.Free.XT.cmpL qn (0 : Int64)))]))
      have hc50 : ¬ (qn < (0 : Int64)) := own_nlt64 (by omega)
      refine Go.st (fun _ k => XS.ifNo XT.here hx rfl (hb hby d_num1_50) rfl (Jvm.Free.XT.ll_lt_f hc50) k) ?_
      show Go p.tables e below _ (T.setTop (mkF m 53 #[.val (.long qn), .second, .val (.int pd), .val (.ref b1), .val (.long rv), .second, .val (.int iv)] []))
      refine Go.st (fun _ k => XS.lload XT.here hx rfl (hb hby d_num1_53) rfl k) ?_
      show Go p.tables e below _ (T.setTop (mkF m 55 #[.val (.long qn), .second, .val (.int pd), .val (.ref b1), .val (.long rv), .second, .val (.int iv)] [(.long rv)]))
      refine Go.st (fun _ k => XS.lconst XT.here hx rfl (hb hby d_num1_55) k) ?_
      show Go p.tables e below _ (T.setTop (mkF m 56 #[.val (.long qn), .second, .val (.int pd), .val (.ref b1), .val (.long rv), .second, .val (.int iv)] [(.long (0 : Int64)), (.long rv)]))
      refine Go.st (fun _ k => Jvm.Free.XT.lcmp XT.here hx rfl (hb hby d_num1_56) rfl k) ?_
      show Go p.tables e below _ (T.setTop (mkF m 57 #[.val (.long qn), .second, .val (.int pd), .val (.ref b1), .val (.long rv), .second, .val (.int iv)] [(.int (Jvm.Free.XT.cmpL rv (0 : Int64)))]))
      have hc57 : ¬ ((0 : Int64) < rv) := own_nlt64 (by have q := own_rest (show rv = _ from h5) hqn.1 hqn.2; omega)
      refine Go.st (fun _ k => XS.ifYes XT.here hx rfl (pc0 := 57) (pc' := 75) rfl (hb hby d_num1_57) rfl (Jvm.Free.XT.ll_le_t hc57) (by decide) (by decide) k) ?_
      show Go p.tables e below _ (T.setTop (mkF m 75 #[.val (.long qn), .second, .val (.int pd), .val (.ref b1), .val (.long rv), .second, .val (.int iv)] []))
      obtain ⟨T19, h19, X19, e19, E19, A19, D19, -, st19⟩ := newO XT hx hZ hown (hw _ (List.mem_of_getElem? (i := 32) rfl)) (hw _ (List.mem_of_getElem? (i := 33) rfl)) (hw _ (List.mem_of_getElem? (i := 34) rfl)) eT (g := (mkF m 75 #[.val (.long qn), .second, .val (.int pd), .val (.ref b1), .val (.long rv), .second, .val (.int iv)] [])) rfl (hb hby d_num1_75) (by decide) (by decide)
      obtain ⟨b19, g19⟩ : ∃ z, z = h.size := ⟨_, rfl⟩
      rw [← g19] at A19 D19 st19
      refine Go.st st19 ?_
      have ne20 : b1 ≠ b19 := Nat.ne_of_lt (Nat.lt_of_lt_of_le FT0.lt (Nat.le_of_eq g19.symm))
      have ne21 : u8 ≠ b19 := Nat.ne_of_lt (Nat.lt_of_lt_of_le FT3.lt (Nat.le_of_eq g19.symm))
      have ne22 : iso ≠ b19 := Nat.ne_of_lt (Nat.lt_of_lt_of_le FT5.lt (Nat.le_of_eq g19.symm))
      have ne23 : cs ≠ b19 := Nat.ne_of_lt (Nat.lt_of_lt_of_le FT7.lt (Nat.le_of_eq g19.symm))
      have ge24 : n0 ≤ b19 := Nat.le_trans ZT (Nat.le_of_eq g19.symm)
      have sz25 : h0.size ≤ b19 := Nat.le_trans KT.1 (Nat.le_of_eq g19.symm)
      have Z26 : n0 ≤ h19.size := Nat.le_trans ZT E19.1
      have K27 : Keep h0 h19 [] := KT.ext E19
      have F28 : Arv Z h19 b1 k1 .byte pd (bvs blv) (.int (0 : Int32)) := FT0.ext E19
      have F29 : Exa Z h19 b1 "[B" := FT1.ext E19
      have F30 : Sta Z h19 "sun/nio/cs/UTF_8" "INSTANCE" "Lsun/nio/cs/UTF_8;" (.ref u8) := FT2.ext E19
      have F31 : Exa Z h19 u8 "sun/nio/cs/UTF_8" := FT3.ext E19
      have F32 : Sta Z h19 "sun/nio/cs/ISO_8859_1" "INSTANCE" "Lsun/nio/cs/ISO_8859_1;" (.ref iso) := FT4.ext E19
      have F33 : Exa Z h19 iso "sun/nio/cs/ISO_8859_1" := FT5.ext E19
      have F34 : Sta Z h19 "sun/nio/cs/US_ASCII" "INSTANCE" "Lsun/nio/cs/US_ASCII;" (.ref cs) := FT6.ext E19
      have F35 : Exa Z h19 cs "sun/nio/cs/US_ASCII" := FT7.ext E19
      have F36 : Sta Z h19 "java/nio/charset/StandardCharsets" "US_ASCII" "Ljava/nio/charset/Charset;" (.ref cs) := FT8.ext E19
      have F37 : Sta Z h19 "java/lang/String" "COMPACT_STRINGS" "Z" (.int G1) := FT9.ext E19
      have F38 : Fld Z h19 b19 "java/lang/String" "value" "[B" .null := D19 (Or.inr (hw _ (List.mem_of_getElem? (i := 81) rfl))) (ty := (.array .byte)) (by decide)
      have F39 : Fld Z h19 b19 "java/lang/String" "coder" "B" (.int (0 : Int32)) := D19 (Or.inr (hw _ (List.mem_of_getElem? (i := 83) rfl))) (ty := .byte) (by decide)
      show Go p.tables e below _ (T19.setTop (mkF m 78 #[.val (.long qn), .second, .val (.int pd), .val (.ref b1), .val (.long rv), .second, .val (.int iv)] [(.ref b19)]))
      refine Go.st (fun _ k => XS.dup X19.here hx rfl (hb hby d_num1_78) rfl rfl k) ?_
      show Go p.tables e below _ (T19.setTop (mkF m 79 #[.val (.long qn), .second, .val (.int pd), .val (.ref b1), .val (.long rv), .second, .val (.int iv)] [(.ref b19), (.ref b19)]))
      refine Go.st (fun _ k => XS.aloadN X19.here hx rfl (hb hby d_num1_79) rfl rfl k) ?_
      show Go p.tables e below _ (T19.setTop (mkF m 80 #[.val (.long qn), .second, .val (.int pd), .val (.ref b1), .val (.long rv), .second, .val (.int iv)] [(.ref b1), (.ref b19), (.ref b19)]))
      obtain ⟨T40, X40, e40, st40⟩ := getS2 X19 hx hZ hown (host := "") (Or.inl (hw _ (List.mem_of_getElem? (i := 35) rfl))) Via.refl e19 F36 (g := (mkF m 80 #[.val (.long qn), .second, .val (.int pd), .val (.ref b1), .val (.long rv), .second, .val (.int iv)] [(.ref b1), (.ref b19), (.ref b19)])) rfl (hb hby d_num1_80)
      refine Go.st st40 ?_
      show Go p.tables e below _ (T40.setTop (mkF m 83 #[.val (.long qn), .second, .val (.int pd), .val (.ref b1), .val (.long rv), .second, .val (.int iv)] [(.ref cs), (.ref b1), (.ref b19), (.ref b19)]))
      obtain ⟨_, _, ⟨T41, L41, k41, n41⟩, -, X41, ⟨Lc41, hQ41, l41, y41, z41⟩, st41⟩ := X40.specialBack hx (y := (⟨"java/lang/String", "<init>", "([BLjava/nio/charset/Charset;)V"⟩ : MethodName)) rfl hown (mvT hZ (hw _ (List.mem_of_getElem? (i := 37) rfl))) (mvT hZ (hw _ (List.mem_of_getElem? (i := 38) rfl))) (mvT hZ (hw _ (List.mem_of_getElem? (i := 39) rfl))) (by decide) (backOf (W := 1) (rm_si1 l Z a0 hw [] b19 b1 cs u8 iso k1 pd blv G1 h19 n0 Z26 A19 F38 F39 ge24 F28 F29 F30 F31 F32 F33 F34 F35 F37 (by show ¬ (G1 = (0 : Int32)); exact P5) (by show ∀ i, i < pd.toNatClampNeg → ¬ (blv.getD i 0) < 0; exact (fun i hi => by rw [show blv = _ from h3]; exact own_nn0 hqn.1 (by omega) hi)) (by show ¬ pd < 0; exact own_nlt32 (by omega)) (by show pd.toNatClampNeg ≤ 19; exact (by omega)) (by show ¬ (pd = (0 : Int32)); exact own_ne32 (by omega)) ne20) hZ (hw _ (List.mem_of_getElem? (i := 39) rfl)) (hw _ (List.mem_of_getElem? (i := 34) rfl)) (by decide) (by decide)) (g := (mkF m 83 #[.val (.long qn), .second, .val (.int pd), .val (.ref b1), .val (.long rv), .second, .val (.int iv)] [(.ref cs), (.ref b1), (.ref b19), (.ref b19)])) rfl (by rw [hml]; rfl) (Steps.refl _) (a := b19) (argsL := [(.ref b1), (.ref cs)]) (rest := [(.ref b19)]) (lenOf pd_10 rfl) rfl (by show 2 * 0 + _ ≤ _; exact Nat.le_of_eq rfl) (hb hby d_num1_83) (fun _ _ => ⟨rfl, e40, (by decide : 2 + 1 ≤ _), (by decide : 23 + 19 ≤ _)⟩)
      dsimp only [Pt.U, Pt.locs, Pt.cells, Pt.slots] at X41 l41 y41 z41 st41 hQ41
      rw [l41, y41, z41] at X41
      obtain ⟨b41_fb, rfl, N41q, K41q, g41_fb, s41_fb, Fq41_0, Fq41_1, Fq41_2, Fq41_3⟩ := hQ41
      have N41 := Fr.app NT N41q
      refine Go.st (fun _ k => st41.trans k) ?_
      have ne42 : b1 ≠ b41_fb := Nat.ne_of_lt (Nat.lt_of_lt_of_le F28.lt s41_fb)
      have ne43 : u8 ≠ b41_fb := Nat.ne_of_lt (Nat.lt_of_lt_of_le F31.lt s41_fb)
      have ne44 : iso ≠ b41_fb := Nat.ne_of_lt (Nat.lt_of_lt_of_le F33.lt s41_fb)
      have ne45 : cs ≠ b41_fb := Nat.ne_of_lt (Nat.lt_of_lt_of_le F35.lt s41_fb)
      have ne46 : b19 ≠ b41_fb := Nat.ne_of_lt (Nat.lt_of_lt_of_le A19.lt s41_fb)
      have sz47 : h0.size ≤ b41_fb := Nat.le_trans K27.1 s41_fb
      have Z48 : n0 ≤ T41.heap.size := Nat.le_trans Z26 K41q.1
      have K49 : Keep h0 T41.heap [] := K27.trans K41q (fun z hz => (List.mem_cons.mp hz).elim (fun q => by rw [q]; exact Or.inr sz25) (fun hz => absurd hz List.not_mem_nil))
      have F50 : Arv Z T41.heap b1 k1 .byte pd (bvs blv) (.int (0 : Int32)) := F28.keep K41q (fun z => (List.mem_cons.mp z).elim ne20 (fun z => absurd z List.not_mem_nil))
      have F51 : Exa Z T41.heap b1 "[B" := F29.keep K41q
      have F52 : Sta Z T41.heap "sun/nio/cs/UTF_8" "INSTANCE" "Lsun/nio/cs/UTF_8;" (.ref u8) := own_stakeepW F30 K41q (allS (P := fun x => ∀ c : Cell, h19[x]? = some c → c.vm.isStatics = false) (old_plain F39) all0)
      have F53 : Exa Z T41.heap u8 "sun/nio/cs/UTF_8" := F31.keep K41q
      have F54 : Sta Z T41.heap "sun/nio/cs/ISO_8859_1" "INSTANCE" "Lsun/nio/cs/ISO_8859_1;" (.ref iso) := own_stakeepW F32 K41q (allS (P := fun x => ∀ c : Cell, h19[x]? = some c → c.vm.isStatics = false) (old_plain F39) all0)
      have F55 : Exa Z T41.heap iso "sun/nio/cs/ISO_8859_1" := F33.keep K41q
      have F56 : Sta Z T41.heap "sun/nio/cs/US_ASCII" "INSTANCE" "Lsun/nio/cs/US_ASCII;" (.ref cs) := own_stakeepW F34 K41q (allS (P := fun x => ∀ c : Cell, h19[x]? = some c → c.vm.isStatics = false) (old_plain F39) all0)
      have F57 : Exa Z T41.heap cs "sun/nio/cs/US_ASCII" := F35.keep K41q
      have F58 : Sta Z T41.heap "java/nio/charset/StandardCharsets" "US_ASCII" "Ljava/nio/charset/Charset;" (.ref cs) := own_stakeepW F36 K41q (allS (P := fun x => ∀ c : Cell, h19[x]? = some c → c.vm.isStatics = false) (old_plain F39) all0)
      have F59 : Sta Z T41.heap "java/lang/String" "COMPACT_STRINGS" "Z" (.int G1) := own_stakeepW F37 K41q (allS (P := fun x => ∀ c : Cell, h19[x]? = some c → c.vm.isStatics = false) (old_plain F39) all0)
      have F60 : Exa Z T41.heap b19 "java/lang/String" := A19.keep K41q
      show Go p.tables e below _ (T41.setTop (mkF m 86 #[.val (.long qn), .second, .val (.int pd), .val (.ref b1), .val (.long rv), .second, .val (.int iv)] [(.ref b19)]))
      subst hG
      obtain ⟨fs, hr, hrun, hended, hW, hsame⟩ := X41.leave (v := some (.ref b19)) (fun h => by rw [Bd.returns] at h; cases h)
      refine ⟨_, _, ?_, hrun, hended, _, _, rfl, ?_, ⟨_, rfl⟩, hW, hsame.mono (by decide) (by decide)⟩
      · exact retOut X41 hx Bd.returns rfl (Or.inr (Or.inr (Or.inr (Or.inr ⟨rfl, rfl, rfl⟩)))) (hb hby d_num1_86) hr
      · show Q_num1 Z qn pd u8 iso cs G1 h0 n0 _ T41.heap _
        exact ⟨b19, b41_fb, k1, rfl, N41, K49, ge24, sz25, g41_fb, sz47, Fq41_0, Fq41_1, Fq41_2, (by have h_ := Fq41_3; rw [show blv = _ from h3] at h_; exact h_)⟩
    | succ kz ih =>
      intro T h lc iv rv blv XT eT NT KT ZT FT0 FT1 FT2 FT3 FT4 FT5 FT6 FT7 FT8 FT9 h1 h2 h3 h4 h5
      have h1' : iv.toInt = (kz : Int) := by omega
      have h4' : (kz : Int) + 1 ≤ pd.toInt := by omega
      show Go p.tables e below _ (T.setTop (mkF m 12 #[.val (.long qn), .second, .val (.int pd), .val (.ref b1), .val (.long rv), .second, .val (.int iv)] []))
      refine Go.st (fun _ k => XS.iload XT.here hx rfl (hb hby d_num1_12) rfl k) ?_
      show Go p.tables e below _ (T.setTop (mkF m 14 #[.val (.long qn), .second, .val (.int pd), .val (.ref b1), .val (.long rv), .second, .val (.int iv)] [(.int iv)]))
      have hc14 : ¬ (iv < (0 : Int32)) := own_nlt32 (by omega)
      refine Go.st (fun _ k => XS.ifNo XT.here hx rfl (hb hby d_num1_14) rfl (Jvm.Free.XT.i0_lt_f hc14) k) ?_
      show Go p.tables e below _ (T.setTop (mkF m 17 #[.val (.long qn), .second, .val (.int pd), .val (.ref b1), .val (.long rv), .second, .val (.int iv)] []))
      refine Go.st (fun _ k => XS.aloadN XT.here hx rfl (hb hby d_num1_17) rfl rfl k) ?_
      show Go p.tables e below _ (T.setTop (mkF m 18 #[.val (.long qn), .second, .val (.int pd), .val (.ref b1), .val (.long rv), .second, .val (.int iv)] [(.ref b1)]))
      refine Go.st (fun _ k => XS.iload XT.here hx rfl (hb hby d_num1_18) rfl k) ?_
      show Go p.tables e below _ (T.setTop (mkF m 20 #[.val (.long qn), .second, .val (.int pd), .val (.ref b1), .val (.long rv), .second, .val (.int iv)] [(.int iv), (.ref b1)]))
      refine Go.st (fun _ k => XT.ldc2Long hx hown (mvT hZ (hw _ (List.mem_of_getElem? (i := 30) rfl))) (g := (mkF m 20 #[.val (.long qn), .second, .val (.int pd), .val (.ref b1), .val (.long rv), .second, .val (.int iv)] [(.int iv), (.ref b1)])) rfl (hb hby d_num1_20) _ k) ?_
      show Go p.tables e below _ (T.setTop (mkF m 23 #[.val (.long qn), .second, .val (.int pd), .val (.ref b1), .val (.long rv), .second, .val (.int iv)] [(.long (48 : Int64)), (.int iv), (.ref b1)]))
      refine Go.st (fun _ k => XS.lload XT.here hx rfl (hb hby d_num1_23) rfl k) ?_
      show Go p.tables e below _ (T.setTop (mkF m 25 #[.val (.long qn), .second, .val (.int pd), .val (.ref b1), .val (.long rv), .second, .val (.int iv)] [(.long rv), (.long (48 : Int64)), (.int iv), (.ref b1)]))
      refine Go.st (fun _ k => XT.ldc2Long hx hown (mvT hZ (hw _ (List.mem_of_getElem? (i := 31) rfl))) (g := (mkF m 25 #[.val (.long qn), .second, .val (.int pd), .val (.ref b1), .val (.long rv), .second, .val (.int iv)] [(.long rv), (.long (48 : Int64)), (.int iv), (.ref b1)])) rfl (hb hby d_num1_25) _ k) ?_
      show Go p.tables e below _ (T.setTop (mkF m 28 #[.val (.long qn), .second, .val (.int pd), .val (.ref b1), .val (.long rv), .second, .val (.int iv)] [(.long (10 : Int64)), (.long rv), (.long (48 : Int64)), (.int iv), (.ref b1)]))
      refine Go.st (fun _ k => XS.lrem XT.here hx rfl (hb hby d_num1_28) rfl (by decide) (own_lrem k)) ?_
      show Go p.tables e below _ (T.setTop (mkF m 29 #[.val (.long qn), .second, .val (.int pd), .val (.ref b1), .val (.long rv), .second, .val (.int iv)] [(.long (rv % (10 : Int64))), (.long (48 : Int64)), (.int iv), (.ref b1)]))
      refine Go.st (fun _ k => XS.ladd XT.here hx rfl (hb hby d_num1_29) rfl k) ?_
      show Go p.tables e below _ (T.setTop (mkF m 30 #[.val (.long qn), .second, .val (.int pd), .val (.ref b1), .val (.long rv), .second, .val (.int iv)] [(.long ((48 : Int64) + (rv % (10 : Int64)))), (.int iv), (.ref b1)]))
      refine Go.st (fun _ k => XS.l2i XT.here hx rfl (hb hby d_num1_30) rfl k) ?_
      show Go p.tables e below _ (T.setTop (mkF m 31 #[.val (.long qn), .second, .val (.int pd), .val (.ref b1), .val (.long rv), .second, .val (.int iv)] [(.int (((48 : Int64) + (rv % (10 : Int64))).toInt32)), (.int iv), (.ref b1)]))
      refine Go.st (fun _ k => XS.i2b XT.here hx rfl (hb hby d_num1_31) rfl k) ?_
      show Go p.tables e below _ (T.setTop (mkF m 32 #[.val (.long qn), .second, .val (.int pd), .val (.ref b1), .val (.long rv), .second, .val (.int iv)] [(.int ((((48 : Int64) + (rv % (10 : Int64))).toInt32).toInt8.toInt32)), (.int iv), (.ref b1)]))
      obtain ⟨cl61, Ar61, q61, S61, M61, H61, G61⟩ := id FT0
      have ivn := nat_of (j := iv) (own_nlt32 (by omega))
      have hin61 : ¬ (iv < 0 ∨ cl61.slots.size ≤ (iv).toNatClampNeg) := inb_of S61 ⟨own_nlt32 (by omega), own_lt32 (by omega)⟩
      obtain ⟨T61, h61, X61, e61, W61, st61⟩ := stB XT hx hZ eT Ar61 (j := iv) hin61 (g := (mkF m 32 #[.val (.long qn), .second, .val (.int pd), .val (.ref b1), .val (.long rv), .second, .val (.int iv)] [(.int ((((48 : Int64) + (rv % (10 : Int64))).toInt32).toInt8.toInt32)), (.int iv), (.ref b1)])) rfl rfl (hb hby d_num1_32)
      refine Go.st st61 ?_
      have F62 : Arv Z h61 b1 k1 .byte pd (bvs (blv.set iv.toNatClampNeg (dg rv))) (.int (0 : Int32)) := (by
          have h_ := Arv.set Ar61 q61 S61 M61 H61 G61 (fits_nar_byte _) W61 iv.toNatClampNeg rfl (by rw [own_blen]; omega)
          first | rw [own_narb2, own_bset] at h_ | rw [own_narb, own_bset] at h_
          exact h_)
      have F63 : Exa Z h61 b1 "[B" := FT1.wr W61
      have F64 : Sta Z h61 "sun/nio/cs/UTF_8" "INSTANCE" "Lsun/nio/cs/UTF_8;" (.ref u8) := FT2.wr W61
      have F65 : Exa Z h61 u8 "sun/nio/cs/UTF_8" := FT3.wr W61
      have F66 : Sta Z h61 "sun/nio/cs/ISO_8859_1" "INSTANCE" "Lsun/nio/cs/ISO_8859_1;" (.ref iso) := FT4.wr W61
      have F67 : Exa Z h61 iso "sun/nio/cs/ISO_8859_1" := FT5.wr W61
      have F68 : Sta Z h61 "sun/nio/cs/US_ASCII" "INSTANCE" "Lsun/nio/cs/US_ASCII;" (.ref cs) := FT6.wr W61
      have F69 : Exa Z h61 cs "sun/nio/cs/US_ASCII" := FT7.wr W61
      have F70 : Sta Z h61 "java/nio/charset/StandardCharsets" "US_ASCII" "Ljava/nio/charset/Charset;" (.ref cs) := FT8.wr W61
      have F71 : Sta Z h61 "java/lang/String" "COMPACT_STRINGS" "Z" (.int G1) := FT9.wr W61
      have K72 : Keep h0 h61 [] := KT.wr W61 (Or.inr sz6)
      have Z73 : n0 ≤ h61.size := Nat.le_trans ZT (Nat.le_of_eq W61.size.symm)
      have N74 := Fr.snoc X61 NT ge5
      show Go p.tables e below _ (T61.setTop (mkF m 33 #[.val (.long qn), .second, .val (.int pd), .val (.ref b1), .val (.long rv), .second, .val (.int iv)] []))
      refine Go.st (fun _ k => XS.lload X61.here hx rfl (hb hby d_num1_33) rfl k) ?_
      show Go p.tables e below _ (T61.setTop (mkF m 35 #[.val (.long qn), .second, .val (.int pd), .val (.ref b1), .val (.long rv), .second, .val (.int iv)] [(.long rv)]))
      refine Go.st (fun _ k => X61.ldc2Long hx hown (mvT hZ (hw _ (List.mem_of_getElem? (i := 31) rfl))) (g := (mkF m 35 #[.val (.long qn), .second, .val (.int pd), .val (.ref b1), .val (.long rv), .second, .val (.int iv)] [(.long rv)])) rfl (hb hby d_num1_35) _ k) ?_
      show Go p.tables e below _ (T61.setTop (mkF m 38 #[.val (.long qn), .second, .val (.int pd), .val (.ref b1), .val (.long rv), .second, .val (.int iv)] [(.long (10 : Int64)), (.long rv)]))
      refine Go.st (fun _ k => XS.ldiv X61.here hx rfl (hb hby d_num1_38) rfl (by decide) k) ?_
      show Go p.tables e below _ (T61.setTop (mkF m 39 #[.val (.long qn), .second, .val (.int pd), .val (.ref b1), .val (.long rv), .second, .val (.int iv)] [(.long (rv / (10 : Int64)))]))
      refine Go.st (fun _ k => XS.lstore X61.here hx rfl (hb hby d_num1_39) rfl (l' := #[.val (.long qn), .second, .val (.int pd), .val (.ref b1), .val (.long (rv / (10 : Int64))), .second, .val (.int iv)]) rfl k) ?_
      show Go p.tables e below _ (T61.setTop (mkF m 41 #[.val (.long qn), .second, .val (.int pd), .val (.ref b1), .val (.long (rv / (10 : Int64))), .second, .val (.int iv)] []))
      generalize hqv39 : (rv / (10 : Int64)) = v39
      show Go p.tables e below _ (T61.setTop (mkF m 41 #[.val (.long qn), .second, .val (.int pd), .val (.ref b1), .val (.long v39), .second, .val (.int iv)] []))
      refine Go.st (fun _ k => XS.iinc X61.here hx rfl (hb hby d_num1_41) rfl (l' := #[.val (.long qn), .second, .val (.int pd), .val (.ref b1), .val (.long v39), .second, .val (.int (iv + (-1 : Int32)))]) rfl k) ?_
      show Go p.tables e below _ (T61.setTop (mkF m 44 #[.val (.long qn), .second, .val (.int pd), .val (.ref b1), .val (.long v39), .second, .val (.int (iv + (-1 : Int32)))] []))
      generalize hqv41 : (iv + (-1 : Int32)) = v41
      show Go p.tables e below _ (T61.setTop (mkF m 44 #[.val (.long qn), .second, .val (.int pd), .val (.ref b1), .val (.long v39), .second, .val (.int v41)] []))
      refine Go.st (fun _ k => XS.goto X61.here hx rfl (pc0 := 44) (pc' := 12) rfl (hb hby d_num1_44) (by decide) (by decide) k) ?_
      show Go p.tables e below _ (T61.setTop (mkF m 12 #[.val (.long qn), .second, .val (.int pd), .val (.ref b1), .val (.long v39), .second, .val (.int v41)] []))
      have hi41 := i32_addc iv (-1 : Int32)
      rw [hqv41] at hi41
      have hj : 0 + kz = iv.toNatClampNeg := by omega
      exact ih T61 h61 _ v41 v39 (blv.set iv.toNatClampNeg (dg rv)) X61 e61 N74 K72 Z73 F62 F63 F64 F65 F66 F67 F68 F69 F70 F71 (by omega) (by rw [List.length_set]; exact h2) (by rw [← h3, putD, hj, hqv39]) (by omega) (by rw [← h5, divs, hqv39])
  exact lp12 pd.toNatClampNeg T1 h1 _ v10 qn z19 X1 e1 N0 K8 Z7 Fp18 C1 F9 F10 F11 F12 F13 F14 F15 F16 (by have q := i32_subc pd (1 : Int32); rw [hqv10] at q; omega) own_z19 rfl (by omega) rfl
theorem d_si2w_0 : decode jdk_42_method_11_code 0 = .ok (.aload_n 0, 1) := by decide +kernel
theorem d_si2w_1 : decode jdk_42_method_11_code 1 = .ok (.invokespecial 1, 3) := by decide +kernel
theorem d_si2w_4 : decode jdk_42_method_11_code 4 = .ok (.iload 4, 2) := by decide +kernel
theorem d_si2w_6 : decode jdk_42_method_11_code 6 = .ok (.ifCond .ne 24, 3) := by decide +kernel
theorem d_si2w_9 : decode jdk_42_method_11_code 9 = .ok (.aload_n 0, 1) := by decide +kernel
theorem d_si2w_10 : decode jdk_42_method_11_code 10 = .ok (.ldc 7, 2) := by decide +kernel
theorem d_si2w_12 : decode jdk_42_method_11_code 12 = .ok (.getfield 9, 3) := by decide +kernel
theorem d_si2w_15 : decode jdk_42_method_11_code 15 = .ok (.putfield 9, 3) := by decide +kernel
theorem d_si2w_18 : decode jdk_42_method_11_code 18 = .ok (.aload_n 0, 1) := by decide +kernel
theorem d_si2w_19 : decode jdk_42_method_11_code 19 = .ok (.ldc 7, 2) := by decide +kernel
theorem d_si2w_21 : decode jdk_42_method_11_code 21 = .ok (.getfield 15, 3) := by decide +kernel
theorem d_si2w_24 : decode jdk_42_method_11_code 24 = .ok (.putfield 15, 3) := by decide +kernel
theorem d_si2w_27 : decode jdk_42_method_11_code 27 = .ok (.goto 852, 3) := by decide +kernel
theorem d_si2w_879 : decode jdk_42_method_11_code 879 = .ok (.return_, 1) := by decide +kernel
theorem ef_si2w (m : MethodId) (so : Addr) (cs : Addr) (ao : Addr) (po : Int32) (pl : Int32) : entryFrame m #[(.ref so), (.ref cs), (.ref ao), (.int po), (.int pl)] 11 = mkF m 0 #[.val (.ref so), .val (.ref cs), .val (.ref ao), .val (.int po), .val (.int pl), .unset, .unset, .unset, .unset, .unset, .unset] [] := by first | (simp [entryFrame, mkF, argsToLocals, Value.category]; done) | rfl
def Q_si2w (Z : State) (so : Addr) (cs : Addr) (ao : Addr) (po : Int32) (pl : Int32) (h0 : Heap) (n0 : Nat) (v : Option Value) (h : Heap) (L : List Loc) : Prop := ∃ fb : Addr, ∃ kb : ClassId, v = none ∧ Fr n0 L ∧ Keep h0 h [so] ∧ Exa Z h so "java/lang/String" ∧ Fld Z h so "java/lang/String" "coder" "B" (.int (0 : Int32)) ∧ Fld Z h so "java/lang/String" "value" "[B" (.ref fb) ∧ Arv Z h fb kb .byte (0 : Int32) [] (.int (0 : Int32))
set_option maxRecDepth 65536 in
set_option maxHeartbeats 40000000 in
theorem rm_si2w (l : Launch) (Z : State) (a0 : Array Value) (hw : ∀ d ∈ tables_1, d.before a0 Z = true) (ws : List Jvm.Cond) (so : Addr) (cs : Addr) (ao : Addr) (po : Int32) (pl : Int32) (h0 : Heap) (n0 : Nat) (Z0 : n0 ≤ h0.size) (hEL : EW Z a0 consts_1) (Pf0 : Exa Z h0 so "java/lang/String") (Pf1 : Fld Z h0 so "java/lang/String" "value" "[B" .null) (Pf2 : Fld Z h0 so "java/lang/String" "coder" "B" (.int (0 : Int32))) (Pf3 : n0 ≤ so) (hp0 : pl = (0 : Int32)) :
    MetFree l (⟨"java/lang/String", "<init>", "(Ljava/nio/charset/Charset;[BII)V"⟩ : MethodName) (head1 (Jvm.Cond.codeWith (⟨"java/lang/String", "<init>", "(Ljava/nio/charset/Charset;[BII)V"⟩ : MethodName) jdk_42_method_11_code 11 none [(800, 813, 816, 202)] :: ws) ({ frames := 1, cells := 4, slots := 8, locals := 12 } : Room)) (fun a U => a = #[(.ref so), (.ref cs), (.ref ao), (.int po), (.int pl)] ∧ Z.Warmed39 U.vm ∧ U.heap = h0 ∧ CHv Z consts_1 U.vm h0 ∧ Safe Z consts_1 U.vm h0 so) (fun _ _ _ _ _ => True) (fun _ U o U' => ∃ v L, o = .returned v ∧ Q_si2w Z so cs ao po pl h0 n0 v U'.heap L ∧ CHr Z consts_1 U.vm U.heap U'.vm U'.heap ∧ ReturnedEndW U o U' L ({ frames := 1, cells := 4, slots := 8, locals := 12 } : Room).cells ({ frames := 1, cells := 4, slots := 8, locals := 12 } : Room).slots) := by
  refine MetFree.of_bodySF (plainFor_of_name pn_1) hisWith ?_
  intro p e s m args below meth c s₁ Bd hml0 hP hK
  obtain ⟨rfl, hZ, hh, hCH, hSf⟩ := hP
  have hx := Bd.exec
  have hby := Bd.bytes
  have hml : c.maxLocals = 11 := hml0
  have hown : s.vm.findClass "java/lang/String" = some m.cls := findClass_of_methodNamed Bd.named
  have hnm := (name_of_methodNamed Bd.named Bd.method).1
  have X0 : Stand p l e ({ frames := 1, cells := 4, slots := 8, locals := 12 } : Room) (s.setVm s.vm) m #[(.ref so), (.ref cs), (.ref ao), (.int po), (.int pl)] below meth c s₁ [] 0 0 := Stand.of_body Bd
  have hS0 : s.Since s.vm h0.size := (State.WarmedH.refl s).since _
  have hk0 : h0.size ≤ h0.size := Nat.le_refl _
  have hR0 : CHr Z consts_1 s.vm h0 s.vm h0 := CHr.refl hCH
  have e0 : s₁.heap = h0 := by rw [← hh, Bd.state]; rfl
  have N0 := Fr.nil n0
  have K0 : Keep h0 h0 [so] := Keep.refl h0 [so]
  show Go p.tables e below _ (s₁.setTop (entryFrame m #[(.ref so), (.ref cs), (.ref ao), (.int po), (.int pl)] 11))
  refine Go.start ?_
  intro G hG
  refine Go.st (fun t k => castTop (ef_si2w m so cs ao po pl) k) ?_
  show Go p.tables e below _ (s₁.setTop (mkF m 0 #[.val (.ref so), .val (.ref cs), .val (.ref ao), .val (.int po), .val (.int pl), .unset, .unset, .unset, .unset, .unset, .unset] []))
  refine Go.st (fun _ k => XS.aloadN X0.here hx rfl (hb hby d_si2w_0) rfl rfl k) ?_
  show Go p.tables e below _ (s₁.setTop (mkF m 1 #[.val (.ref so), .val (.ref cs), .val (.ref ao), .val (.int po), .val (.int pl), .unset, .unset, .unset, .unset, .unset, .unset] [(.ref so)]))
  obtain ⟨T1, X1, e1, st1⟩ := initO X0 hx hZ hown (hw _ (List.mem_of_getElem? (i := 50) rfl)) (hw _ (List.mem_of_getElem? (i := 51) rfl)) (hw _ (List.mem_of_getElem? (i := 52) rfl)) e0 (g := (mkF m 1 #[.val (.ref so), .val (.ref cs), .val (.ref ao), .val (.int po), .val (.int pl), .unset, .unset, .unset, .unset, .unset, .unset] [(.ref so)])) rfl (by rw [hml]; rfl) rfl (hb hby d_si2w_1) (by decide) (W := 0) (by show 2 * 0 + _ ≤ _; exact Nat.le_of_eq rfl) (by decide)
  refine Go.st st1 ?_
  show Go p.tables e below _ (T1.setTop (mkF m 4 #[.val (.ref so), .val (.ref cs), .val (.ref ao), .val (.int po), .val (.int pl), .unset, .unset, .unset, .unset, .unset, .unset] []))
  refine Go.st (fun _ k => XS.iload X1.here hx rfl (hb hby d_si2w_4) rfl k) ?_
  show Go p.tables e below _ (T1.setTop (mkF m 6 #[.val (.ref so), .val (.ref cs), .val (.ref ao), .val (.int po), .val (.int pl), .unset, .unset, .unset, .unset, .unset, .unset] [(.int pl)]))
  have hc6 : pl = (0 : Int32) := hp0
  refine Go.st (fun _ k => XS.ifNo X1.here hx rfl (hb hby d_si2w_6) rfl (Jvm.Free.XT.i0_ne_f hc6) k) ?_
  show Go p.tables e below _ (T1.setTop (mkF m 9 #[.val (.ref so), .val (.ref cs), .val (.ref ao), .val (.int po), .val (.int pl), .unset, .unset, .unset, .unset, .unset, .unset] []))
  refine Go.st (fun _ k => XS.aloadN X1.here hx rfl (hb hby d_si2w_9) rfl rfl k) ?_
  show Go p.tables e below _ (T1.setTop (mkF m 10 #[.val (.ref so), .val (.ref cs), .val (.ref ao), .val (.int po), .val (.int pl), .unset, .unset, .unset, .unset, .unset, .unset] [(.ref so)]))
  obtain ⟨a2, T2, h2, k12, b2, kc2, X2, e2, E2, hS2, hk2, hZ2, hown2, Ex2, Fc2, Fv2, Av2, la2, lb2, CR2, Li2, Sf2, st2⟩ := ldcCH (s := s) X1 hx hZ hown (hw _ (List.mem_of_getElem? (i := 117) rfl)) (fun a ha => hw a (own_strAtoms a ha)) e1 hS0 hk0 hEL (own_mem_0) hCH (vs := []) (z := (0 : Int32)) ⟨by decide, by rfl⟩ (by decide) (by decide) (g := (mkF m 10 #[.val (.ref so), .val (.ref cs), .val (.ref ao), .val (.int po), .val (.int pl), .unset, .unset, .unset, .unset, .unset, .unset] [(.ref so)])) rfl (hb hby d_si2w_10) (n := 0) (by decide) (by decide) (by decide) (by decide)
  refine Go.st st2 ?_
  have Z3 : n0 ≤ h2.size := Nat.le_trans Z0 E2.1
  have K4 : Keep h0 h2 [so] := K0.ext E2
  have Sf5 : Safe Z consts_1 T2.vm h2 so := CR2.safe Pf0.lt hSf
  have ne6 : so ≠ a2 := (Sf2 _ Sf5).1
  have ne7 : so ≠ b2 := (Sf2 _ Sf5).2
  have F8 : Exa Z h2 so "java/lang/String" := Pf0.ext E2
  have F9 : Fld Z h2 so "java/lang/String" "value" "[B" .null := Pf1.ext E2
  have F10 : Fld Z h2 so "java/lang/String" "coder" "B" (.int (0 : Int32)) := Pf2.ext E2
  show Go p.tables e below _ (T2.setTop (mkF m 12 #[.val (.ref so), .val (.ref cs), .val (.ref ao), .val (.int po), .val (.int pl), .unset, .unset, .unset, .unset, .unset, .unset] [(.ref a2), (.ref so)]))
  obtain ⟨T11, X11, e11, st11⟩ := getF X2 hx hZ2 hown2 (host := "") (Or.inl (hw _ (List.mem_of_getElem? (i := 80) rfl))) Via.refl e2 Fv2 (g := (mkF m 12 #[.val (.ref so), .val (.ref cs), .val (.ref ao), .val (.int po), .val (.int pl), .unset, .unset, .unset, .unset, .unset, .unset] [(.ref a2), (.ref so)])) rfl rfl (hb hby d_si2w_12)
  refine Go.st st11 ?_
  show Go p.tables e below _ (T11.setTop (mkF m 15 #[.val (.ref so), .val (.ref cs), .val (.ref ao), .val (.int po), .val (.int pl), .unset, .unset, .unset, .unset, .unset, .unset] [(.ref b2), (.ref so)]))
  obtain ⟨T12, h12, X12, e12, W12, st12⟩ := putF X11 hx hZ2 hown2 (host := "") (Or.inl (hw _ (List.mem_of_getElem? (i := 80) rfl))) Via.refl e11 F9 F8 (Or.inr ⟨(hw _ (List.mem_of_getElem? (i := 81) rfl)), rfl, hnm⟩) (hw _ (List.mem_of_getElem? (i := 33) rfl)) (ty := (.array .byte)) (by decide) rfl rfl (g := (mkF m 15 #[.val (.ref so), .val (.ref cs), .val (.ref ao), .val (.int po), .val (.int pl), .unset, .unset, .unset, .unset, .unset, .unset] [(.ref b2), (.ref so)])) rfl rfl (hb hby d_si2w_15)
  refine Go.st st12 ?_
  have CR13 : CHr Z consts_1 T2.vm h2 T2.vm h12 := CHr.wr W12 Sf5 CR2.1
  have CT14 := (hR0.trans CR2).trans CR13
  have hk15 := Nat.le_trans hk2 CR13.2.1
  have Sf16 : Safe Z consts_1 T2.vm h12 so := CR13.safe F8.lt Sf5
  have F17 : Exa Z h12 so "java/lang/String" := F8.wr W12
  have F18 : Fld Z h12 so "java/lang/String" "value" "[B" (.ref b2) := F9.same W12
  have F19 : Fld Z h12 so "java/lang/String" "coder" "B" (.int (0 : Int32)) := F10.other W12 (Or.inr (slot_ne (Or.inr (hw _ (List.mem_of_getElem? (i := 83) rfl))) (Or.inr (hw _ (List.mem_of_getElem? (i := 81) rfl))) (by decide) (t := .byte) (t' := (.array .byte)) (by decide) (by decide)))
  have F20 : Exa Z h12 a2 "java/lang/String" := Ex2.wr W12
  have F21 : Fld Z h12 a2 "java/lang/String" "coder" "B" (.int (0 : Int32)) := Fc2.other W12 (Or.inl (Ne.symm ne6))
  have F22 : Fld Z h12 a2 "java/lang/String" "value" "[B" (.ref b2) := Fv2.other W12 (Or.inl (Ne.symm ne6))
  have F23 : Arv Z h12 b2 kc2 .byte (0 : Int32) [] (.int (0 : Int32)) := Av2.other W12 (Ne.symm ne7)
  have K24 : Keep h0 h12 [so] := K4.wr W12 (Or.inl (List.mem_of_getElem? (i := 0) rfl))
  have Z25 : n0 ≤ h12.size := Nat.le_trans Z3 (Nat.le_of_eq W12.size.symm)
  have N26 := Fr.snoc X12 N0 Pf3
  show Go p.tables e below _ (T12.setTop (mkF m 18 #[.val (.ref so), .val (.ref cs), .val (.ref ao), .val (.int po), .val (.int pl), .unset, .unset, .unset, .unset, .unset, .unset] []))
  refine Go.st (fun _ k => XS.aloadN X12.here hx rfl (hb hby d_si2w_18) rfl rfl k) ?_
  show Go p.tables e below _ (T12.setTop (mkF m 19 #[.val (.ref so), .val (.ref cs), .val (.ref ao), .val (.int po), .val (.int pl), .unset, .unset, .unset, .unset, .unset, .unset] [(.ref so)]))
  obtain ⟨a27, T27, h27, k127, b27, kc27, X27, e27, E27, hS27, hk27, hZ27, hown27, Ex27, Fc27, Fv27, Av27, la27, lb27, CR27, Li27, Sf27, st27⟩ := ldcCH (s := s) X12 hx hZ2 hown2 (hw _ (List.mem_of_getElem? (i := 117) rfl)) (fun a ha => hw a (own_strAtoms a ha)) e12 hS2 hk15 hEL (own_mem_0) CR13.1 (vs := []) (z := (0 : Int32)) ⟨by decide, by rfl⟩ (by decide) (by decide) (g := (mkF m 19 #[.val (.ref so), .val (.ref cs), .val (.ref ao), .val (.int po), .val (.int pl), .unset, .unset, .unset, .unset, .unset, .unset] [(.ref so)])) rfl (hb hby d_si2w_19) (n := 0) (by decide) (by decide) (by decide) (by decide)
  refine Go.st st27 ?_
  have Z28 : n0 ≤ h27.size := Nat.le_trans Z25 E27.1
  have K29 : Keep h0 h27 [so] := K24.ext E27
  have Sf30 : Safe Z consts_1 T27.vm h27 so := CR27.safe F17.lt Sf16
  have ne31 : so ≠ a27 := (Sf27 _ Sf30).1
  have ne32 : so ≠ b27 := (Sf27 _ Sf30).2
  have F33 : Exa Z h27 so "java/lang/String" := F17.ext E27
  have F34 : Fld Z h27 so "java/lang/String" "value" "[B" (.ref b2) := F18.ext E27
  have F35 : Fld Z h27 so "java/lang/String" "coder" "B" (.int (0 : Int32)) := F19.ext E27
  have F36 : Exa Z h27 a2 "java/lang/String" := F20.ext E27
  have F37 : Fld Z h27 a2 "java/lang/String" "coder" "B" (.int (0 : Int32)) := F21.ext E27
  have F38 : Fld Z h27 a2 "java/lang/String" "value" "[B" (.ref b2) := F22.ext E27
  have F39 : Arv Z h27 b2 kc2 .byte (0 : Int32) [] (.int (0 : Int32)) := F23.ext E27
  show Go p.tables e below _ (T27.setTop (mkF m 21 #[.val (.ref so), .val (.ref cs), .val (.ref ao), .val (.int po), .val (.int pl), .unset, .unset, .unset, .unset, .unset, .unset] [(.ref a27), (.ref so)]))
  obtain ⟨T40, X40, e40, st40⟩ := getF X27 hx hZ27 hown27 (host := "") (Or.inl (hw _ (List.mem_of_getElem? (i := 82) rfl))) Via.refl e27 Fc27 (g := (mkF m 21 #[.val (.ref so), .val (.ref cs), .val (.ref ao), .val (.int po), .val (.int pl), .unset, .unset, .unset, .unset, .unset, .unset] [(.ref a27), (.ref so)])) rfl rfl (hb hby d_si2w_21)
  refine Go.st st40 ?_
  show Go p.tables e below _ (T40.setTop (mkF m 24 #[.val (.ref so), .val (.ref cs), .val (.ref ao), .val (.int po), .val (.int pl), .unset, .unset, .unset, .unset, .unset, .unset] [(.int (0 : Int32)), (.ref so)]))
  obtain ⟨T41, h41, X41, e41, W41, st41⟩ := putFN X40 hx hZ27 hown27 (hw _ (List.mem_of_getElem? (i := 82) rfl)) Via.refl e40 F35 F33 (Or.inr ⟨(hw _ (List.mem_of_getElem? (i := 83) rfl)), rfl, hnm⟩) (hw _ (List.mem_of_getElem? (i := 33) rfl)) (ty := .byte) (v' := .int (0 : Int32)) (by decide) rfl (by decide) (g := (mkF m 24 #[.val (.ref so), .val (.ref cs), .val (.ref ao), .val (.int po), .val (.int pl), .unset, .unset, .unset, .unset, .unset, .unset] [(.int (0 : Int32)), (.ref so)])) rfl rfl (hb hby d_si2w_24)
  refine Go.st st41 ?_
  have CR42 : CHr Z consts_1 T27.vm h27 T27.vm h41 := CHr.wr W41 Sf30 CR27.1
  have CT43 := (CT14.trans CR27).trans CR42
  have hk44 := Nat.le_trans hk27 CR42.2.1
  have Sf45 : Safe Z consts_1 T27.vm h41 so := CR42.safe F33.lt Sf30
  have F46 : Exa Z h41 so "java/lang/String" := F33.wr W41
  have F47 : Fld Z h41 so "java/lang/String" "value" "[B" (.ref b2) := F34.other W41 (Or.inr (slot_ne (Or.inr (hw _ (List.mem_of_getElem? (i := 81) rfl))) (Or.inr (hw _ (List.mem_of_getElem? (i := 83) rfl))) (by decide) (t := (.array .byte)) (t' := .byte) (by decide) (by decide)))
  have F48 : Fld Z h41 so "java/lang/String" "coder" "B" (.int (0 : Int32)) := F35.same W41
  have F49 : Exa Z h41 a2 "java/lang/String" := F36.wr W41
  have F50 : Fld Z h41 a2 "java/lang/String" "coder" "B" (.int (0 : Int32)) := F37.other W41 (Or.inl (Ne.symm ne6))
  have F51 : Fld Z h41 a2 "java/lang/String" "value" "[B" (.ref b2) := F38.other W41 (Or.inl (Ne.symm ne6))
  have F52 : Arv Z h41 b2 kc2 .byte (0 : Int32) [] (.int (0 : Int32)) := F39.other W41 (Ne.symm ne7)
  have F53 : Exa Z h41 a27 "java/lang/String" := Ex27.wr W41
  have F54 : Fld Z h41 a27 "java/lang/String" "coder" "B" (.int (0 : Int32)) := Fc27.other W41 (Or.inl (Ne.symm ne31))
  have F55 : Fld Z h41 a27 "java/lang/String" "value" "[B" (.ref b27) := Fv27.other W41 (Or.inl (Ne.symm ne31))
  have F56 : Arv Z h41 b27 kc27 .byte (0 : Int32) [] (.int (0 : Int32)) := Av27.other W41 (Ne.symm ne32)
  have K57 : Keep h0 h41 [so] := K29.wr W41 (Or.inl (List.mem_of_getElem? (i := 0) rfl))
  have Z58 : n0 ≤ h41.size := Nat.le_trans Z28 (Nat.le_of_eq W41.size.symm)
  have N59 := Fr.snoc X41 N26 Pf3
  show Go p.tables e below _ (T41.setTop (mkF m 27 #[.val (.ref so), .val (.ref cs), .val (.ref ao), .val (.int po), .val (.int pl), .unset, .unset, .unset, .unset, .unset, .unset] []))
  refine Go.st (fun _ k => XS.goto X41.here hx rfl (pc0 := 27) (pc' := 879) rfl (hb hby d_si2w_27) (by decide) (by decide) k) ?_
  show Go p.tables e below _ (T41.setTop (mkF m 879 #[.val (.ref so), .val (.ref cs), .val (.ref ao), .val (.int po), .val (.int pl), .unset, .unset, .unset, .unset, .unset, .unset] []))
  subst hG
  obtain ⟨fs, hr, hrun, hended, hend⟩ := X41.leaveW (s := s) hS27 (by rw [e41]; exact hk44) (v := none) (fun _ => rfl)
  refine ⟨_, _, ?_, hrun, hended, _, _, rfl, ?_, ?_, hend.1, hend.2.1, hend.2.2.1, hend.2.2.2.mono (by decide) (by decide)⟩
  · exact X41.returnOut hx Bd.returns (hb hby d_si2w_879) hr
  · show Q_si2w Z so cs ao po pl h0 n0 _ T41.heap _
    rw [e41]
    exact ⟨b2, kc2, rfl, N59, K57, F46, F48, F47, F52⟩
  · show CHr Z consts_1 s.vm s.heap T41.vm T41.heap
    rw [hh, e41]
    exact (CT43).trans (CHv.at X41 hZ27 hEL CR42.1)
theorem d_si1w_0 : decode jdk_42_method_49_code 0 = .ok (.aload_n 0, 1) := by decide +kernel
theorem d_si1w_1 : decode jdk_42_method_49_code 1 = .ok (.aload_n 2, 1) := by decide +kernel
theorem d_si1w_2 : decode jdk_42_method_49_code 2 = .ok (.invokestatic 78, 3) := by decide +kernel
theorem d_si1w_5 : decode jdk_42_method_49_code 5 = .ok (.checkcast 84, 3) := by decide +kernel
theorem d_si1w_8 : decode jdk_42_method_49_code 8 = .ok (.aload_n 1, 1) := by decide +kernel
theorem d_si1w_9 : decode jdk_42_method_49_code 9 = .ok (.iconst 0, 1) := by decide +kernel
theorem d_si1w_10 : decode jdk_42_method_49_code 10 = .ok (.aload_n 1, 1) := by decide +kernel
theorem d_si1w_11 : decode jdk_42_method_49_code 11 = .ok (.arraylength, 1) := by decide +kernel
theorem d_si1w_12 : decode jdk_42_method_49_code 12 = .ok (.invokespecial 75, 3) := by decide +kernel
theorem d_si1w_15 : decode jdk_42_method_49_code 15 = .ok (.return_, 1) := by decide +kernel
theorem ef_si1w (m : MethodId) (so : Addr) (ao : Addr) (cs : Addr) : entryFrame m #[(.ref so), (.ref ao), (.ref cs)] 3 = mkF m 0 #[.val (.ref so), .val (.ref ao), .val (.ref cs)] [] := by first | (simp [entryFrame, mkF, argsToLocals, Value.category]; done) | rfl
def Q_si1w (Z : State) (so : Addr) (ao : Addr) (cs : Addr) (kb : ClassId) (zz : Int32) (h0 : Heap) (n0 : Nat) (v : Option Value) (h : Heap) (L : List Loc) : Prop := ∃ fb : Addr, ∃ kb : ClassId, v = none ∧ Fr n0 L ∧ Keep h0 h [so] ∧ Exa Z h so "java/lang/String" ∧ Fld Z h so "java/lang/String" "coder" "B" (.int (0 : Int32)) ∧ Fld Z h so "java/lang/String" "value" "[B" (.ref fb) ∧ Arv Z h fb kb .byte (0 : Int32) [] (.int (0 : Int32))
set_option maxRecDepth 65536 in
set_option maxHeartbeats 40000000 in
theorem rm_si1w (l : Launch) (Z : State) (a0 : Array Value) (hw : ∀ d ∈ tables_1, d.before a0 Z = true) (ws : List Jvm.Cond) (so : Addr) (ao : Addr) (cs : Addr) (kb : ClassId) (zz : Int32) (h0 : Heap) (n0 : Nat) (Z0 : n0 ≤ h0.size) (hEL : EW Z a0 consts_1) (Pf0 : Exa Z h0 so "java/lang/String") (Pf1 : Fld Z h0 so "java/lang/String" "value" "[B" .null) (Pf2 : Fld Z h0 so "java/lang/String" "coder" "B" (.int (0 : Int32))) (Pf3 : n0 ≤ so) (Pf4 : Arv Z h0 ao kb .byte zz [] (.int (0 : Int32))) (Pf5 : Exa Z h0 cs "sun/nio/cs/US_ASCII") (hp0 : zz = (0 : Int32)) (hneA : ao ≠ so) :
    MetFree l (⟨"java/lang/String", "<init>", "([BLjava/nio/charset/Charset;)V"⟩ : MethodName) (head1 (Jvm.Cond.code (⟨"java/lang/String", "<init>", "([BLjava/nio/charset/Charset;)V"⟩ : MethodName) jdk_42_method_49_code 3 none :: ws) ({ frames := 2, cells := 4, slots := 8, locals := 34 } : Room)) (fun a U => a = #[(.ref so), (.ref ao), (.ref cs)] ∧ Z.Warmed39 U.vm ∧ U.heap = h0 ∧ CHv Z consts_1 U.vm h0 ∧ Safe Z consts_1 U.vm h0 so) (fun _ _ _ _ _ => True) (fun _ U o U' => ∃ v L, o = .returned v ∧ Q_si1w Z so ao cs kb zz h0 n0 v U'.heap L ∧ CHr Z consts_1 U.vm U.heap U'.vm U'.heap ∧ ReturnedEndW U o U' L ({ frames := 2, cells := 4, slots := 8, locals := 34 } : Room).cells ({ frames := 2, cells := 4, slots := 8, locals := 34 } : Room).slots) := by
  refine MetFree.of_bodySF (plainFor_of_name pn_1) hisR ?_
  intro p e s m args below meth c s₁ Bd hml0 hP hK
  obtain ⟨rfl, hZ, hh, hCH, hSf⟩ := hP
  have hx := Bd.exec
  have hby := Bd.bytes
  have hml : c.maxLocals = 3 := hml0
  have hown : s.vm.findClass "java/lang/String" = some m.cls := findClass_of_methodNamed Bd.named
  have hnm := (name_of_methodNamed Bd.named Bd.method).1
  have X0 : Stand p l e ({ frames := 2, cells := 4, slots := 8, locals := 34 } : Room) (s.setVm s.vm) m #[(.ref so), (.ref ao), (.ref cs)] below meth c s₁ [] 0 0 := Stand.of_body Bd
  have hS0 : s.Since s.vm h0.size := (State.WarmedH.refl s).since _
  have hk0 : h0.size ≤ h0.size := Nat.le_refl _
  have hR0 : CHr Z consts_1 s.vm h0 s.vm h0 := CHr.refl hCH
  have e0 : s₁.heap = h0 := by rw [← hh, Bd.state]; rfl
  have N0 := Fr.nil n0
  have K0 : Keep h0 h0 [so] := Keep.refl h0 [so]
  show Go p.tables e below _ (s₁.setTop (entryFrame m #[(.ref so), (.ref ao), (.ref cs)] 3))
  refine Go.start ?_
  intro G hG
  refine Go.st (fun t k => castTop (ef_si1w m so ao cs) k) ?_
  show Go p.tables e below _ (s₁.setTop (mkF m 0 #[.val (.ref so), .val (.ref ao), .val (.ref cs)] []))
  refine Go.st (fun _ k => XS.aloadN X0.here hx rfl (hb hby d_si1w_0) rfl rfl k) ?_
  show Go p.tables e below _ (s₁.setTop (mkF m 1 #[.val (.ref so), .val (.ref ao), .val (.ref cs)] [(.ref so)]))
  refine Go.st (fun _ k => XS.aloadN X0.here hx rfl (hb hby d_si1w_1) rfl rfl k) ?_
  show Go p.tables e below _ (s₁.setTop (mkF m 2 #[.val (.ref so), .val (.ref ao), .val (.ref cs)] [(.ref cs), (.ref so)]))
  obtain ⟨_, _, ⟨T1, L1, k1, n1⟩, -, X1, ⟨Lc1, hQ1, l1, y1, z1⟩, st1⟩ := Jvm.LawKit.callS X0 hx (y := (⟨"java/util/Objects", "requireNonNull", "(Ljava/lang/Object;)Ljava/lang/Object;"⟩ : MethodName)) hown (mvT hZ (hw _ (List.mem_of_getElem? (i := 40) rfl))) (mvT hZ (hw _ (List.mem_of_getElem? (i := 41) rfl))) (mvT hZ (hw _ (List.mem_of_getElem? (i := 42) rfl))) (mvT hZ (hw _ (List.mem_of_getElem? (i := 43) rfl))) (by decide) (backOf (W := 1) (rm_rnn l Z a0 hw [] cs h0 n0 Z0 ) hZ (hw _ (List.mem_of_getElem? (i := 43) rfl)) (hw _ (List.mem_of_getElem? (i := 42) rfl)) (by decide) (by decide)) (g := (mkF m 2 #[.val (.ref so), .val (.ref ao), .val (.ref cs)] [(.ref cs), (.ref so)])) rfl (by rw [hml]; rfl) (argsL := [(.ref cs)]) (rest := [(.ref so)]) (lenOf pd_8 rfl) rfl (by show 2 * 0 + _ ≤ _; exact Nat.le_of_eq rfl) (hb hby d_si1w_2) (fun _ _ => ⟨rfl, e0, (by decide : 0 + 0 ≤ _), (by decide : 0 + 0 ≤ _)⟩)
  dsimp only [Pt.U, Pt.locs, Pt.cells, Pt.slots] at X1 l1 y1 z1 st1 hQ1
  rw [l1, y1, z1] at X1
  obtain ⟨rfl, N1q, e1⟩ := hQ1
  have N1 := Fr.app N0 N1q
  refine Go.st st1 ?_
  show Go p.tables e below _ (T1.setTop (mkF m 5 #[.val (.ref so), .val (.ref ao), .val (.ref cs)] [(.ref cs), (.ref so)]))
  obtain ⟨T2, X2, e2, st2⟩ := castY X1 hx hZ hown (hw _ (List.mem_of_getElem? (i := 44) rfl)) e1 (Ins.of_exa Pf5 (hw _ (List.mem_of_getElem? (i := 45) rfl))) (g := (mkF m 5 #[.val (.ref so), .val (.ref ao), .val (.ref cs)] [(.ref cs), (.ref so)])) rfl rfl (hb hby d_si1w_5)
  refine Go.st st2 ?_
  show Go p.tables e below _ (T2.setTop (mkF m 8 #[.val (.ref so), .val (.ref ao), .val (.ref cs)] [(.ref cs), (.ref so)]))
  refine Go.st (fun _ k => XS.aloadN X2.here hx rfl (hb hby d_si1w_8) rfl rfl k) ?_
  show Go p.tables e below _ (T2.setTop (mkF m 9 #[.val (.ref so), .val (.ref ao), .val (.ref cs)] [(.ref ao), (.ref cs), (.ref so)]))
  refine Go.st (fun _ k => XS.iconst X2.here hx rfl (hb hby d_si1w_9) k) ?_
  show Go p.tables e below _ (T2.setTop (mkF m 10 #[.val (.ref so), .val (.ref ao), .val (.ref cs)] [(.int (0 : Int32)), (.ref ao), (.ref cs), (.ref so)]))
  refine Go.st (fun _ k => XS.aloadN X2.here hx rfl (hb hby d_si1w_10) rfl rfl k) ?_
  show Go p.tables e below _ (T2.setTop (mkF m 11 #[.val (.ref so), .val (.ref ao), .val (.ref cs)] [(.ref ao), (.int (0 : Int32)), (.ref ao), (.ref cs), (.ref so)]))
  obtain ⟨cl3, Ar3, -, S3, M3, -, -⟩ := id Pf4
  refine Go.st (fun _ k => X2.arraylength hx (by rw [e2]; exact Ar3.1) (State.isArrayOf_alike hZ.alike Ar3.2.1) (g := (mkF m 11 #[.val (.ref so), .val (.ref ao), .val (.ref cs)] [(.ref ao), (.int (0 : Int32)), (.ref ao), (.ref cs), (.ref so)])) rfl rfl (hb hby d_si1w_11) _ k) ?_
  rw [len_of S3 M3]
  show Go p.tables e below _ (T2.setTop (mkF m 12 #[.val (.ref so), .val (.ref ao), .val (.ref cs)] [(.int zz), (.int (0 : Int32)), (.ref ao), (.ref cs), (.ref so)]))
  obtain ⟨_, _, ⟨T4, L4, k4, n4⟩, -, X4, hs4, hg4, ⟨Lc4, hQ4, l4, y4, z4, CR4⟩, st4⟩ := own_specialW X2 hx (y := (⟨"java/lang/String", "<init>", "(Ljava/nio/charset/Charset;[BII)V"⟩ : MethodName)) rfl hown (mvT hZ (hw _ (List.mem_of_getElem? (i := 46) rfl))) (mvT hZ (hw _ (List.mem_of_getElem? (i := 47) rfl))) (mvT hZ (hw _ (List.mem_of_getElem? (i := 49) rfl))) (by decide) (own_backG (s := s) (vm0 := s.vm) (W := 0) (rm_si2w l Z a0 hw [] so cs ao (0 : Int32) zz h0 n0 Z0 hEL Pf0 Pf1 Pf2 Pf3 (by show zz = (0 : Int32); exact hp0)) hZ (own_hwwith (hw _ (List.mem_of_getElem? (i := 49) rfl))) (hw _ (List.mem_of_getElem? (i := 34) rfl)) (by decide) (by decide) hEL hCH Pf0.lt hSf) (g := (mkF m 12 #[.val (.ref so), .val (.ref ao), .val (.ref cs)] [(.int zz), (.int (0 : Int32)), (.ref ao), (.ref cs), (.ref so)])) rfl (by rw [hml]; rfl) (Steps.refl _) (a := so) (argsL := [(.ref cs), (.ref ao), (.int (0 : Int32)), (.int zz)]) (rest := []) (lenOf pd_9 rfl) rfl (by show 2 * 0 + _ ≤ _; exact Nat.le_of_eq rfl) (hb hby d_si1w_12) (fun _ _ => ⟨rfl, e2, (by decide : 0 + 4 ≤ _), (by decide : 0 + 8 ≤ _)⟩)
  dsimp only [Pt.U, Pt.locs, Pt.cells, Pt.slots] at X4 l4 y4 z4 st4 hQ4 hs4 hg4 CR4
  rw [e2] at hg4
  obtain ⟨X4w, hS4, hZ4, hown4⟩ := rebS (s := s) (vm0 := s.vm) hS0 hk0 X4 hs4 hg4 hZ hown
  clear X4
  have X4 := X4w
  rw [l4, y4, z4] at X4
  obtain ⟨x4_fb, x4_kb, rfl, N4q, K4q, Fq4_0, Fq4_1, Fq4_2, Fq4_3⟩ := hQ4
  have N4 := Fr.app N1 N4q
  refine Go.st (fun _ k => st4.trans k) ?_
  have Z5 : n0 ≤ T4.heap.size := Nat.le_trans Z0 K4q.1
  have Sf6 : Safe Z consts_1 T4.vm T4.heap so := CR4.safe Pf0.lt hSf
  have K7 : Keep h0 T4.heap [so] := K0.trans K4q (fun z hz => (List.mem_cons.mp hz).elim (fun q => by rw [q]; exact Or.inl (List.mem_of_getElem? (i := 0) rfl)) (fun hz => absurd hz List.not_mem_nil))
  have F8 : Exa Z T4.heap so "java/lang/String" := Pf0.keep K4q
  have F9 : Arv Z T4.heap ao kb .byte zz [] (.int (0 : Int32)) := Pf4.keep K4q (fun z => (List.mem_cons.mp z).elim hneA (fun z => absurd z List.not_mem_nil))
  have F10 : Exa Z T4.heap cs "sun/nio/cs/US_ASCII" := Pf5.keep K4q
  show Go p.tables e below _ (T4.setTop (mkF m 15 #[.val (.ref so), .val (.ref ao), .val (.ref cs)] []))
  subst hG
  obtain ⟨fs, hr, hrun, hended, hend⟩ := X4.leaveW (s := s) hS4 (by rw [(rfl : T4.heap = T4.heap)]; exact (Nat.le_refl _)) (v := none) (fun _ => rfl)
  refine ⟨_, _, ?_, hrun, hended, _, _, rfl, ?_, ?_, hend.1, hend.2.1, hend.2.2.1, hend.2.2.2.mono (by decide) (by decide)⟩
  · exact X4.returnOut hx Bd.returns (hb hby d_si1w_15) hr
  · show Q_si1w Z so ao cs kb zz h0 n0 _ T4.heap _
    exact ⟨x4_fb, x4_kb, rfl, N4, K7, Fq4_0, Fq4_1, Fq4_2, Fq4_3⟩
  · show CHr Z consts_1 s.vm s.heap T4.vm T4.heap
    rw [hh]
    exact ((hR0.trans CR4)).trans (CHv.at X4 hZ4 hEL CR4.1)
theorem d_num0_0 : decode prog_10_method_4_code 0 = .ok (.iload_n 2, 1) := by decide +kernel
theorem d_num0_1 : decode prog_10_method_4_code 1 = .ok (.newarray .byte, 2) := by decide +kernel
theorem d_num0_3 : decode prog_10_method_4_code 3 = .ok (.astore_n 3, 1) := by decide +kernel
theorem d_num0_4 : decode prog_10_method_4_code 4 = .ok (.lload_n 0, 1) := by decide +kernel
theorem d_num0_5 : decode prog_10_method_4_code 5 = .ok (.lstore 4, 2) := by decide +kernel
theorem d_num0_7 : decode prog_10_method_4_code 7 = .ok (.iload_n 2, 1) := by decide +kernel
theorem d_num0_8 : decode prog_10_method_4_code 8 = .ok (.iconst 1, 1) := by decide +kernel
theorem d_num0_9 : decode prog_10_method_4_code 9 = .ok (.isub, 1) := by decide +kernel
theorem d_num0_10 : decode prog_10_method_4_code 10 = .ok (.istore 6, 2) := by decide +kernel
theorem d_num0_12 : decode prog_10_method_4_code 12 = .ok (.iload 6, 2) := by decide +kernel
theorem d_num0_14 : decode prog_10_method_4_code 14 = .ok (.ifCond .lt 33, 3) := by decide +kernel
theorem d_num0_47 : decode prog_10_method_4_code 47 = .ok (.lload_n 0, 1) := by decide +kernel
theorem d_num0_48 : decode prog_10_method_4_code 48 = .ok (.lconst 0, 1) := by decide +kernel
theorem d_num0_49 : decode prog_10_method_4_code 49 = .ok (.lcmp, 1) := by decide +kernel
theorem d_num0_50 : decode prog_10_method_4_code 50 = .ok (.ifCond .lt 10, 3) := by decide +kernel
theorem d_num0_53 : decode prog_10_method_4_code 53 = .ok (.lload 4, 2) := by decide +kernel
theorem d_num0_55 : decode prog_10_method_4_code 55 = .ok (.lconst 0, 1) := by decide +kernel
theorem d_num0_56 : decode prog_10_method_4_code 56 = .ok (.lcmp, 1) := by decide +kernel
theorem d_num0_57 : decode prog_10_method_4_code 57 = .ok (.ifCond .le 18, 3) := by decide +kernel
theorem d_num0_75 : decode prog_10_method_4_code 75 = .ok (.new 14, 3) := by decide +kernel
theorem d_num0_78 : decode prog_10_method_4_code 78 = .ok (.dup, 1) := by decide +kernel
theorem d_num0_79 : decode prog_10_method_4_code 79 = .ok (.aload_n 3, 1) := by decide +kernel
theorem d_num0_80 : decode prog_10_method_4_code 80 = .ok (.getstatic 29, 3) := by decide +kernel
theorem d_num0_83 : decode prog_10_method_4_code 83 = .ok (.invokespecial 57, 3) := by decide +kernel
theorem d_num0_86 : decode prog_10_method_4_code 86 = .ok (.areturn, 1) := by decide +kernel
theorem ef_num0 (m : MethodId) (qn : Int64) (pd : Int32) : entryFrame m #[(.long qn), (.int pd)] 7 = mkF m 0 #[.val (.long qn), .second, .val (.int pd), .unset, .unset, .unset, .unset] [] := by first | (simp [entryFrame, mkF, argsToLocals, Value.category]; done) | rfl
def Q_num0 (Z : State) (qn : Int64) (pd : Int32) (cs : Addr) (h0 : Heap) (n0 : Nat) (v : Option Value) (h : Heap) (L : List Loc) : Prop := ∃ fr : Addr, ∃ fb : Addr, ∃ kb : ClassId, v = some (.ref fr) ∧ Fr n0 L ∧ Keep h0 h [] ∧ n0 ≤ fr ∧ h0.size ≤ fr ∧ Exa Z h fr "java/lang/String" ∧ Fld Z h fr "java/lang/String" "coder" "B" (.int (0 : Int32)) ∧ Fld Z h fr "java/lang/String" "value" "[B" (.ref fb) ∧ Arv Z h fb kb .byte (0 : Int32) [] (.int (0 : Int32))
set_option maxRecDepth 65536 in
set_option maxHeartbeats 40000000 in
theorem rm_num0 (l : Launch) (Z : State) (a0 : Array Value) (hw : ∀ d ∈ tables_1, d.before a0 Z = true) (ws : List Jvm.Cond) (qn : Int64) (pd : Int32) (cs : Addr) (h0 : Heap) (n0 : Nat) (Z0 : n0 ≤ h0.size) (hEL : EW Z a0 consts_1) (Pf0 : Sta Z h0 "java/nio/charset/StandardCharsets" "US_ASCII" "Ljava/nio/charset/Charset;" (.ref cs)) (Pf1 : Exa Z h0 cs "sun/nio/cs/US_ASCII") (hp0 : pd = (0 : Int32)) (hq0 : qn.toInt = 0) :
    MetFree l (⟨"com/example/clotho/clotho/server/store/Keys", "numbered", "(JI)Ljava/lang/String;"⟩ : MethodName) (head1 (Jvm.Cond.code (⟨"com/example/clotho/clotho/server/store/Keys", "numbered", "(JI)Ljava/lang/String;"⟩ : MethodName) prog_10_method_4_code 7 (some (.object "java/lang/String")) :: ws) ({ frames := 3, cells := 6, slots := 12, locals := 49 } : Room)) (fun a U => a = #[(.long qn), (.int pd)] ∧ Z.Warmed39 U.vm ∧ U.heap = h0 ∧ CHv Z consts_1 U.vm h0) (fun _ _ _ _ _ => True) (fun _ U o U' => ∃ v L, o = .returned v ∧ Q_num0 Z qn pd cs h0 n0 v U'.heap L ∧ CHr Z consts_1 U.vm U.heap U'.vm U'.heap ∧ ReturnedEndW U o U' L ({ frames := 3, cells := 6, slots := 12, locals := 49 } : Room).cells ({ frames := 3, cells := 6, slots := 12, locals := 49 } : Room).slots) := by
  refine MetFree.of_bodySF (plainFor_of_name pn_7) hisR ?_
  intro p e s m args below meth c s₁ Bd hml0 hP hK
  obtain ⟨rfl, hZ, hh, hCH⟩ := hP
  have hx := Bd.exec
  have hby := Bd.bytes
  have hml : c.maxLocals = 7 := hml0
  have hown : s.vm.findClass "com/example/clotho/clotho/server/store/Keys" = some m.cls := findClass_of_methodNamed Bd.named
  have hnm := (name_of_methodNamed Bd.named Bd.method).1
  have X0 : Stand p l e ({ frames := 3, cells := 6, slots := 12, locals := 49 } : Room) (s.setVm s.vm) m #[(.long qn), (.int pd)] below meth c s₁ [] 0 0 := Stand.of_body Bd
  have hS0 : s.Since s.vm h0.size := (State.WarmedH.refl s).since _
  have hk0 : h0.size ≤ h0.size := Nat.le_refl _
  have hR0 : CHr Z consts_1 s.vm h0 s.vm h0 := CHr.refl hCH
  have e0 : s₁.heap = h0 := by rw [← hh, Bd.state]; rfl
  have N0 := Fr.nil n0
  have K0 : Keep h0 h0 [] := Keep.refl h0 []
  show Go p.tables e below _ (s₁.setTop (entryFrame m #[(.long qn), (.int pd)] 7))
  refine Go.start ?_
  intro G hG
  refine Go.st (fun t k => castTop (ef_num0 m qn pd) k) ?_
  have i_0 : (0 : Int32).toInt = 0 := by decide
  have i_1 : (1 : Int32).toInt = 1 := by decide
  have l_0 : (0 : Int64).toInt = 0 := by decide
  have em1 : (-1 : Int32).toInt = -1 := by decide
  have i_19 : (19 : Int32).toInt = 19 := by decide
  show Go p.tables e below _ (s₁.setTop (mkF m 0 #[.val (.long qn), .second, .val (.int pd), .unset, .unset, .unset, .unset] []))
  refine Go.st (fun _ k => XS.iloadN X0.here hx rfl (hb hby d_num0_0) rfl k) ?_
  show Go p.tables e below _ (s₁.setTop (mkF m 1 #[.val (.long qn), .second, .val (.int pd), .unset, .unset, .unset, .unset] [(.int pd)]))
  obtain ⟨T1, h1, k1, X1, e1, E1, A1, C1, st1⟩ := newPE X0 hx hZ (hw _ (List.mem_of_getElem? (i := 29) rfl)) e0 (g := (mkF m 1 #[.val (.long qn), .second, .val (.int pd), .unset, .unset, .unset, .unset] [(.int pd)])) rfl (hb hby d_num0_1) rfl (by rw [hp0]; decide) (cap := 0) (by rw [hp0]; decide) (by decide) (by decide) (by decide) (ad := "[B") (by decide)
  obtain ⟨b1, g1⟩ : ∃ z, z = h0.size := ⟨_, rfl⟩
  rw [← g1] at A1 C1 st1
  refine Go.st st1 ?_
  have ne2 : cs ≠ b1 := Nat.ne_of_lt (Nat.lt_of_lt_of_le Pf1.lt (Nat.le_of_eq g1.symm))
  have ge3 : n0 ≤ b1 := Nat.le_trans Z0 (Nat.le_of_eq g1.symm)
  have sz4 : h0.size ≤ b1 := Nat.le_trans K0.1 (Nat.le_of_eq g1.symm)
  have Z5 : n0 ≤ h1.size := Nat.le_trans Z0 E1.1
  have K6 : Keep h0 h1 [] := K0.ext E1
  have CR7 : CHr Z consts_1 s.vm h0 s.vm h1 := CHr.ext E1 hCH
  have CT8 := hR0.trans CR7
  have hk9 := Nat.le_trans hk0 CR7.2.1
  have Sf10 : Safe Z consts_1 s.vm h1 b1 := Safe.ext E1 hCH (Safe.new (Nat.le_of_eq g1.symm))
  have F11 : Sta Z h1 "java/nio/charset/StandardCharsets" "US_ASCII" "Ljava/nio/charset/Charset;" (.ref cs) := Pf0.ext E1
  have F12 : Exa Z h1 cs "sun/nio/cs/US_ASCII" := Pf1.ext E1
  have F13 : Arv Z h1 b1 k1 .byte pd [] (.int (0 : Int32)) := Arv.new A1 (by rw [hp0]; decide)
  show Go p.tables e below _ (T1.setTop (mkF m 3 #[.val (.long qn), .second, .val (.int pd), .unset, .unset, .unset, .unset] [(.ref b1)]))
  refine Go.st (fun _ k => XS.astoreN X1.here hx rfl (hb hby d_num0_3) rfl rfl (l' := #[.val (.long qn), .second, .val (.int pd), .val (.ref b1), .unset, .unset, .unset]) rfl k) ?_
  show Go p.tables e below _ (T1.setTop (mkF m 4 #[.val (.long qn), .second, .val (.int pd), .val (.ref b1), .unset, .unset, .unset] []))
  show Go p.tables e below _ (T1.setTop (mkF m 4 #[.val (.long qn), .second, .val (.int pd), .val (.ref b1), .unset, .unset, .unset] []))
  refine Go.st (fun _ k => XS.lloadN X1.here hx rfl (hb hby d_num0_4) rfl k) ?_
  show Go p.tables e below _ (T1.setTop (mkF m 5 #[.val (.long qn), .second, .val (.int pd), .val (.ref b1), .unset, .unset, .unset] [(.long qn)]))
  refine Go.st (fun _ k => XS.lstore X1.here hx rfl (hb hby d_num0_5) rfl (l' := #[.val (.long qn), .second, .val (.int pd), .val (.ref b1), .val (.long qn), .second, .unset]) rfl k) ?_
  show Go p.tables e below _ (T1.setTop (mkF m 7 #[.val (.long qn), .second, .val (.int pd), .val (.ref b1), .val (.long qn), .second, .unset] []))
  show Go p.tables e below _ (T1.setTop (mkF m 7 #[.val (.long qn), .second, .val (.int pd), .val (.ref b1), .val (.long qn), .second, .unset] []))
  refine Go.st (fun _ k => XS.iloadN X1.here hx rfl (hb hby d_num0_7) rfl k) ?_
  show Go p.tables e below _ (T1.setTop (mkF m 8 #[.val (.long qn), .second, .val (.int pd), .val (.ref b1), .val (.long qn), .second, .unset] [(.int pd)]))
  refine Go.st (fun _ k => XS.iconst X1.here hx rfl (hb hby d_num0_8) k) ?_
  show Go p.tables e below _ (T1.setTop (mkF m 9 #[.val (.long qn), .second, .val (.int pd), .val (.ref b1), .val (.long qn), .second, .unset] [(.int (1 : Int32)), (.int pd)]))
  refine Go.st (fun _ k => XS.isub X1.here hx rfl (hb hby d_num0_9) rfl k) ?_
  show Go p.tables e below _ (T1.setTop (mkF m 10 #[.val (.long qn), .second, .val (.int pd), .val (.ref b1), .val (.long qn), .second, .unset] [(.int (pd - (1 : Int32)))]))
  refine Go.st (fun _ k => XS.istore X1.here hx rfl (hb hby d_num0_10) rfl (l' := #[.val (.long qn), .second, .val (.int pd), .val (.ref b1), .val (.long qn), .second, .val (.int (pd - (1 : Int32)))]) rfl k) ?_
  show Go p.tables e below _ (T1.setTop (mkF m 12 #[.val (.long qn), .second, .val (.int pd), .val (.ref b1), .val (.long qn), .second, .val (.int (pd - (1 : Int32)))] []))
  generalize hqv10 : (pd - (1 : Int32)) = v10
  show Go p.tables e below _ (T1.setTop (mkF m 12 #[.val (.long qn), .second, .val (.int pd), .val (.ref b1), .val (.long qn), .second, .val (.int v10)] []))
  refine Go.st (fun _ k => XS.iload X1.here hx rfl (hb hby d_num0_12) rfl k) ?_
  show Go p.tables e below _ (T1.setTop (mkF m 14 #[.val (.long qn), .second, .val (.int pd), .val (.ref b1), .val (.long qn), .second, .val (.int v10)] [(.int v10)]))
  have hc14 : v10 < (0 : Int32) := own_lt32 (by have q := i32_subc pd (1 : Int32); rw [hqv10] at q; rw [hp0] at q; omega)
  refine Go.st (fun _ k => XS.ifYes X1.here hx rfl (pc0 := 14) (pc' := 47) rfl (hb hby d_num0_14) rfl (Jvm.Free.XT.i0_lt_t hc14) (by decide) (by decide) k) ?_
  show Go p.tables e below _ (T1.setTop (mkF m 47 #[.val (.long qn), .second, .val (.int pd), .val (.ref b1), .val (.long qn), .second, .val (.int v10)] []))
  refine Go.st (fun _ k => XS.lloadN X1.here hx rfl (hb hby d_num0_47) rfl k) ?_
  show Go p.tables e below _ (T1.setTop (mkF m 48 #[.val (.long qn), .second, .val (.int pd), .val (.ref b1), .val (.long qn), .second, .val (.int v10)] [(.long qn)]))
  refine Go.st (fun _ k => XS.lconst X1.here hx rfl (hb hby d_num0_48) k) ?_
  show Go p.tables e below _ (T1.setTop (mkF m 49 #[.val (.long qn), .second, .val (.int pd), .val (.ref b1), .val (.long qn), .second, .val (.int v10)] [(.long (0 : Int64)), (.long qn)]))
  refine Go.st (fun _ k => Jvm.Free.XT.lcmp X1.here hx rfl (hb hby d_num0_49) rfl k) ?_
  show Go p.tables e below _ (T1.setTop (mkF m 50 #[.val (.long qn), .second, .val (.int pd), .val (.ref b1), .val (.long qn), .second, .val (.int v10)] [(.int (Jvm.Free.XT.cmpL qn (0 : Int64)))]))
  have hc50 : ¬ (qn < (0 : Int64)) := own_nlt64 (by omega)
  refine Go.st (fun _ k => XS.ifNo X1.here hx rfl (hb hby d_num0_50) rfl (Jvm.Free.XT.ll_lt_f hc50) k) ?_
  show Go p.tables e below _ (T1.setTop (mkF m 53 #[.val (.long qn), .second, .val (.int pd), .val (.ref b1), .val (.long qn), .second, .val (.int v10)] []))
  refine Go.st (fun _ k => XS.lload X1.here hx rfl (hb hby d_num0_53) rfl k) ?_
  show Go p.tables e below _ (T1.setTop (mkF m 55 #[.val (.long qn), .second, .val (.int pd), .val (.ref b1), .val (.long qn), .second, .val (.int v10)] [(.long qn)]))
  refine Go.st (fun _ k => XS.lconst X1.here hx rfl (hb hby d_num0_55) k) ?_
  show Go p.tables e below _ (T1.setTop (mkF m 56 #[.val (.long qn), .second, .val (.int pd), .val (.ref b1), .val (.long qn), .second, .val (.int v10)] [(.long (0 : Int64)), (.long qn)]))
  refine Go.st (fun _ k => Jvm.Free.XT.lcmp X1.here hx rfl (hb hby d_num0_56) rfl k) ?_
  show Go p.tables e below _ (T1.setTop (mkF m 57 #[.val (.long qn), .second, .val (.int pd), .val (.ref b1), .val (.long qn), .second, .val (.int v10)] [(.int (Jvm.Free.XT.cmpL qn (0 : Int64)))]))
  have hc57 : ¬ ((0 : Int64) < qn) := own_nlt64 (by omega)
  refine Go.st (fun _ k => XS.ifYes X1.here hx rfl (pc0 := 57) (pc' := 75) rfl (hb hby d_num0_57) rfl (Jvm.Free.XT.ll_le_t hc57) (by decide) (by decide) k) ?_
  show Go p.tables e below _ (T1.setTop (mkF m 75 #[.val (.long qn), .second, .val (.int pd), .val (.ref b1), .val (.long qn), .second, .val (.int v10)] []))
  obtain ⟨T14, h14, X14, e14, E14, A14, D14, -, st14⟩ := newO X1 hx hZ hown (hw _ (List.mem_of_getElem? (i := 32) rfl)) (hw _ (List.mem_of_getElem? (i := 33) rfl)) (hw _ (List.mem_of_getElem? (i := 34) rfl)) e1 (g := (mkF m 75 #[.val (.long qn), .second, .val (.int pd), .val (.ref b1), .val (.long qn), .second, .val (.int v10)] [])) rfl (hb hby d_num0_75) (by decide) (by decide)
  obtain ⟨b14, g14⟩ : ∃ z, z = h1.size := ⟨_, rfl⟩
  rw [← g14] at A14 D14 st14
  refine Go.st st14 ?_
  have ne15 : cs ≠ b14 := Nat.ne_of_lt (Nat.lt_of_lt_of_le F12.lt (Nat.le_of_eq g14.symm))
  have ne16 : b1 ≠ b14 := Nat.ne_of_lt (Nat.lt_of_lt_of_le F13.lt (Nat.le_of_eq g14.symm))
  have ge17 : n0 ≤ b14 := Nat.le_trans Z5 (Nat.le_of_eq g14.symm)
  have sz18 : h0.size ≤ b14 := Nat.le_trans K6.1 (Nat.le_of_eq g14.symm)
  have Z19 : n0 ≤ h14.size := Nat.le_trans Z5 E14.1
  have K20 : Keep h0 h14 [] := K6.ext E14
  have CR21 : CHr Z consts_1 s.vm h1 s.vm h14 := CHr.ext E14 CR7.1
  have CT22 := CT8.trans CR21
  have hk23 := Nat.le_trans hk9 CR21.2.1
  have Sf24 : Safe Z consts_1 s.vm h14 b1 := CR21.safe F13.lt Sf10
  have Sf25 : Safe Z consts_1 s.vm h14 b14 := Safe.ext E14 CR7.1 (Safe.new (Nat.le_of_eq g14.symm))
  have F26 : Sta Z h14 "java/nio/charset/StandardCharsets" "US_ASCII" "Ljava/nio/charset/Charset;" (.ref cs) := F11.ext E14
  have F27 : Exa Z h14 cs "sun/nio/cs/US_ASCII" := F12.ext E14
  have F28 : Arv Z h14 b1 k1 .byte pd [] (.int (0 : Int32)) := F13.ext E14
  have F29 : Exa Z h14 b1 "[B" := C1.ext E14
  have F30 : Fld Z h14 b14 "java/lang/String" "value" "[B" .null := D14 (Or.inr (hw _ (List.mem_of_getElem? (i := 81) rfl))) (ty := (.array .byte)) (by decide)
  have F31 : Fld Z h14 b14 "java/lang/String" "coder" "B" (.int (0 : Int32)) := D14 (Or.inr (hw _ (List.mem_of_getElem? (i := 83) rfl))) (ty := .byte) (by decide)
  show Go p.tables e below _ (T14.setTop (mkF m 78 #[.val (.long qn), .second, .val (.int pd), .val (.ref b1), .val (.long qn), .second, .val (.int v10)] [(.ref b14)]))
  refine Go.st (fun _ k => XS.dup X14.here hx rfl (hb hby d_num0_78) rfl rfl k) ?_
  show Go p.tables e below _ (T14.setTop (mkF m 79 #[.val (.long qn), .second, .val (.int pd), .val (.ref b1), .val (.long qn), .second, .val (.int v10)] [(.ref b14), (.ref b14)]))
  refine Go.st (fun _ k => XS.aloadN X14.here hx rfl (hb hby d_num0_79) rfl rfl k) ?_
  show Go p.tables e below _ (T14.setTop (mkF m 80 #[.val (.long qn), .second, .val (.int pd), .val (.ref b1), .val (.long qn), .second, .val (.int v10)] [(.ref b1), (.ref b14), (.ref b14)]))
  obtain ⟨T32, X32, e32, st32⟩ := getS2 X14 hx hZ hown (host := "") (Or.inl (hw _ (List.mem_of_getElem? (i := 35) rfl))) Via.refl e14 F26 (g := (mkF m 80 #[.val (.long qn), .second, .val (.int pd), .val (.ref b1), .val (.long qn), .second, .val (.int v10)] [(.ref b1), (.ref b14), (.ref b14)])) rfl (hb hby d_num0_80)
  refine Go.st st32 ?_
  show Go p.tables e below _ (T32.setTop (mkF m 83 #[.val (.long qn), .second, .val (.int pd), .val (.ref b1), .val (.long qn), .second, .val (.int v10)] [(.ref cs), (.ref b1), (.ref b14), (.ref b14)]))
  obtain ⟨_, _, ⟨T33, L33, k33, n33⟩, -, X33, hs33, hg33, ⟨Lc33, hQ33, l33, y33, z33, CR33⟩, st33⟩ := X32.specialBackS hx (y := (⟨"java/lang/String", "<init>", "([BLjava/nio/charset/Charset;)V"⟩ : MethodName)) rfl hown (mvT hZ (hw _ (List.mem_of_getElem? (i := 37) rfl))) (mvT hZ (hw _ (List.mem_of_getElem? (i := 38) rfl))) (mvT hZ (hw _ (List.mem_of_getElem? (i := 39) rfl))) (by decide) (own_backG (s := s) (vm0 := s.vm) (W := 1) (rm_si1w l Z a0 hw [] b14 b1 cs k1 pd h14 n0 Z19 hEL A14 F30 F31 ge17 F28 F27 (by show pd = (0 : Int32); exact hp0) ne16) hZ (own_hwcode (hw _ (List.mem_of_getElem? (i := 39) rfl))) (hw _ (List.mem_of_getElem? (i := 34) rfl)) (by decide) (by decide) hEL CR21.1 A14.lt Sf25) (g := (mkF m 83 #[.val (.long qn), .second, .val (.int pd), .val (.ref b1), .val (.long qn), .second, .val (.int v10)] [(.ref cs), (.ref b1), (.ref b14), (.ref b14)])) rfl (by rw [hml]; rfl) (Steps.refl _) (a := b14) (argsL := [(.ref b1), (.ref cs)]) (rest := [(.ref b14)]) (lenOf pd_10 rfl) rfl (by show 2 * 0 + _ ≤ _; exact Nat.le_of_eq rfl) (hb hby d_num0_83) (fun _ _ => ⟨rfl, e32, (by decide : 2 + 4 ≤ _), (by decide : 4 + 8 ≤ _)⟩)
  dsimp only [Pt.U, Pt.locs, Pt.cells, Pt.slots] at X33 l33 y33 z33 st33 hQ33 hs33 hg33 CR33
  rw [e32] at hg33
  obtain ⟨X33w, hS33, hZ33, hown33⟩ := rebS (s := s) (vm0 := s.vm) hS0 hk23 X33 hs33 hg33 hZ hown
  clear X33
  have X33 := X33w
  rw [l33, y33, z33] at X33
  obtain ⟨x33_fb, x33_kb, rfl, N33q, K33q, Fq33_0, Fq33_1, Fq33_2, Fq33_3⟩ := hQ33
  have N33 := Fr.app N0 N33q
  refine Go.st (fun _ k => st33.trans k) ?_
  have Z34 : n0 ≤ T33.heap.size := Nat.le_trans Z19 K33q.1
  have Sf35 : Safe Z consts_1 T33.vm T33.heap b1 := CR33.safe F28.lt Sf24
  have Sf36 : Safe Z consts_1 T33.vm T33.heap b14 := CR33.safe A14.lt Sf25
  have K37 : Keep h0 T33.heap [] := K20.trans K33q (fun z hz => (List.mem_cons.mp hz).elim (fun q => by rw [q]; exact Or.inr sz18) (fun hz => absurd hz List.not_mem_nil))
  have F38 : Sta Z T33.heap "java/nio/charset/StandardCharsets" "US_ASCII" "Ljava/nio/charset/Charset;" (.ref cs) := own_stakeepW F26 K33q (allS (P := fun x => ∀ c : Cell, h14[x]? = some c → c.vm.isStatics = false) (old_plain F31) all0)
  have F39 : Exa Z T33.heap cs "sun/nio/cs/US_ASCII" := F27.keep K33q
  have F40 : Arv Z T33.heap b1 k1 .byte pd [] (.int (0 : Int32)) := F28.keep K33q (fun z => (List.mem_cons.mp z).elim ne16 (fun z => absurd z List.not_mem_nil))
  have F41 : Exa Z T33.heap b1 "[B" := F29.keep K33q
  have F42 : Exa Z T33.heap b14 "java/lang/String" := A14.keep K33q
  show Go p.tables e below _ (T33.setTop (mkF m 86 #[.val (.long qn), .second, .val (.int pd), .val (.ref b1), .val (.long qn), .second, .val (.int v10)] [(.ref b14)]))
  subst hG
  obtain ⟨fs, hr, hrun, hended, hend⟩ := X33.leaveW (s := s) hS33 (by rw [(rfl : T33.heap = T33.heap)]; exact (Nat.le_refl _)) (v := some (.ref b14)) (fun h => by rw [Bd.returns] at h; cases h)
  refine ⟨_, _, ?_, hrun, hended, _, _, rfl, ?_, ?_, hend.1, hend.2.1, hend.2.2.1, hend.2.2.2.mono (by decide) (by decide)⟩
  · exact retOut X33 hx Bd.returns rfl (Or.inr (Or.inr (Or.inr (Or.inr ⟨rfl, rfl, rfl⟩)))) (hb hby d_num0_86) hr
  · show Q_num0 Z qn pd cs h0 n0 _ T33.heap _
    exact ⟨b14, x33_fb, x33_kb, rfl, N33, K37, ge17, sz18, Fq33_0, Fq33_1, Fq33_2, Fq33_3⟩
  · show CHr Z consts_1 s.vm s.heap T33.vm T33.heap
    rw [hh]
    exact ((CT22.trans CR33)).trans (CHv.at X33 hZ33 hEL CR33.1)
theorem pd_11 : parseMethodDescriptor "(I)J" = some ⟨[.int], some .long⟩ := by decide +kernel
theorem pd_12 : parseMethodDescriptor "(JI)Ljava/lang/String;" = some ⟨[.long, .int], some (.object "java/lang/String")⟩ := by decide +kernel
theorem pd_13 : parseMethodDescriptor "()I" = some ⟨[], some .int⟩ := by decide +kernel
theorem pd_14 : parseMethodDescriptor "(I)C" = some ⟨[.int], some .char⟩ := by decide +kernel
theorem ef_law (m : MethodId) (pn : Int64) (pd : Int32) (pk : Int32) : entryFrame m #[(.long pn), (.int pd), (.int pk)] maxLocals = mkF m 0 #[.val (.long pn), .second, .val (.int pd), .val (.int pk), .unset, .unset, .unset, .unset, .unset, .unset, .unset] [] := by first | (simp [entryFrame, mkF, argsToLocals, Value.category, maxLocals]; done) | rfl
def Q_law (Z : State) (pn : Int64) (pd : Int32) (pk : Int32) (u8 : Addr) (iso : Addr) (cs : Addr) (G1 : Int32) (Gf : Value) (h0 : Heap) (n0 : Nat) (v : Option Value) (h : Heap) (L : List Loc) : Prop := v = some (.int (1 : Int32)) ∧ Fr n0 L ∧ Keep h0 h []
set_option maxRecDepth 65536 in
set_option maxHeartbeats 40000000 in
theorem rm_law (l : Launch) (Z : State) (a0 : Array Value) (hw : ∀ d ∈ tables_1, d.before a0 Z = true) (ws : List Jvm.Cond) (pn : Int64) (pd : Int32) (pk : Int32) (u8 : Addr) (iso : Addr) (cs : Addr) (G1 : Int32) (Gf : Value) (h0 : Heap) (n0 : Nat) (Z0 : n0 ≤ h0.size) (hEL : EW Z a0 consts_1) (Pf0 : Sta Z h0 "sun/nio/cs/UTF_8" "INSTANCE" "Lsun/nio/cs/UTF_8;" (.ref u8)) (Pf1 : Exa Z h0 u8 "sun/nio/cs/UTF_8") (Pf2 : Sta Z h0 "sun/nio/cs/ISO_8859_1" "INSTANCE" "Lsun/nio/cs/ISO_8859_1;" (.ref iso)) (Pf3 : Exa Z h0 iso "sun/nio/cs/ISO_8859_1") (Pf4 : Sta Z h0 "sun/nio/cs/US_ASCII" "INSTANCE" "Lsun/nio/cs/US_ASCII;" (.ref cs)) (Pf5 : Exa Z h0 cs "sun/nio/cs/US_ASCII") (Pf6 : Sta Z h0 "java/nio/charset/StandardCharsets" "US_ASCII" "Ljava/nio/charset/Charset;" (.ref cs)) (Pf7 : Sta Z h0 "java/lang/String" "COMPACT_STRINGS" "Z" (.int G1)) (P5 : ¬ (G1 = (0 : Int32))) (Pf9 : Sta Z h0 "jdk/internal/util/Preconditions" "SIOOBE_FORMATTER" "Ljava/util/function/BiFunction;" Gf) (rG3 : Gf.isRef = true) :
    MetFree l x (head1 (Jvm.Cond.code x code maxLocals ret :: ws) room_1) (fun a U => a = #[(.long pn), (.int pd), (.int pk)] ∧ Z.Warmed39 U.vm ∧ U.heap = h0 ∧ CHv Z consts_1 U.vm h0) (fun _ _ _ _ _ => True) (fun _ U o U' => ∃ v L, o = .returned v ∧ Q_law Z pn pd pk u8 iso cs G1 Gf h0 n0 v U'.heap L ∧ CHr Z consts_1 U.vm U.heap U'.vm U'.heap ∧ ReturnedEndW U o U' L room_1.cells room_1.slots) := by
  refine MetFree.of_bodySF (plainFor_of_name pn_0) hisR ?_
  intro p e s m args below meth c s₁ Bd hml0 hP hK
  obtain ⟨rfl, hZ, hh, hCH⟩ := hP
  have hx := Bd.exec
  have hby := Bd.bytes
  have hml : c.maxLocals = 11 := hml0
  have hown : s.vm.findClass "com/example/clotho/clotho/server/store/KeysNumberedPinLaw" = some m.cls := findClass_of_methodNamed Bd.named
  have hnm := (name_of_methodNamed Bd.named Bd.method).1
  have X0 : Stand p l e room_1 (s.setVm s.vm) m #[(.long pn), (.int pd), (.int pk)] below meth c s₁ [] 0 0 := Stand.of_body Bd
  have hS0 : s.Since s.vm h0.size := (State.WarmedH.refl s).since _
  have hk0 : h0.size ≤ h0.size := Nat.le_refl _
  have hR0 : CHr Z consts_1 s.vm h0 s.vm h0 := CHr.refl hCH
  have e0 : s₁.heap = h0 := by rw [← hh, Bd.state]; rfl
  have N0 := Fr.nil n0
  have K0 : Keep h0 h0 [] := Keep.refl h0 []
  show Go p.tables e below _ (s₁.setTop (entryFrame m #[(.long pn), (.int pd), (.int pk)] maxLocals))
  refine Go.start ?_
  intro G hG
  refine Go.st (fun t k => castTop (ef_law m pn pd pk) k) ?_
  have i_0 : (0 : Int32).toInt = 0 := by decide
  have i_1 : (1 : Int32).toInt = 1 := by decide
  have l_0 : (0 : Int64).toInt = 0 := by decide
  have em1 : (-1 : Int32).toInt = -1 := by decide
  have i_19 : (19 : Int32).toInt = 19 := by decide
  show Go p.tables e below _ (s₁.setTop (mkF m 0 #[.val (.long pn), .second, .val (.int pd), .val (.int pk), .unset, .unset, .unset, .unset, .unset, .unset, .unset] []))
  refine Go.st (fun _ k => XS.iloadN X0.here hx rfl (hb hby at_0) rfl k) ?_
  show Go p.tables e below _ (s₁.setTop (mkF m 1 #[.val (.long pn), .second, .val (.int pd), .val (.int pk), .unset, .unset, .unset, .unset, .unset, .unset, .unset] [(.int pd)]))
  refine Go.st (fun _ k => X0.ldcInt hx hown (mvT hZ (hw _ (List.mem_of_getElem? (i := 0) rfl))) (g := (mkF m 1 #[.val (.long pn), .second, .val (.int pd), .val (.int pk), .unset, .unset, .unset, .unset, .unset, .unset, .unset] [(.int pd)])) rfl (hb hby at_1) _ k) ?_
  show Go p.tables e below _ (s₁.setTop (mkF m 3 #[.val (.long pn), .second, .val (.int pd), .val (.int pk), .unset, .unset, .unset, .unset, .unset, .unset, .unset] [(.int (2147483647 : Int32)), (.int pd)]))
  refine Go.st (fun _ k => XS.iand X0.here hx rfl (hb hby at_3) rfl k) ?_
  show Go p.tables e below _ (s₁.setTop (mkF m 4 #[.val (.long pn), .second, .val (.int pd), .val (.int pk), .unset, .unset, .unset, .unset, .unset, .unset, .unset] [(.int (pd &&& (2147483647 : Int32)))]))
  refine Go.st (fun _ k => XS.bipush X0.here hx rfl (hb hby at_4) k) ?_
  show Go p.tables e below _ (s₁.setTop (mkF m 6 #[.val (.long pn), .second, .val (.int pd), .val (.int pk), .unset, .unset, .unset, .unset, .unset, .unset, .unset] [(.int (20 : Int32)), (.int (pd &&& (2147483647 : Int32)))]))
  refine Go.st (fun _ k => iremM X0 hx rfl (hb hby at_6) rfl (by decide) k) ?_
  show Go p.tables e below _ (s₁.setTop (mkF m 7 #[.val (.long pn), .second, .val (.int pd), .val (.int pk), .unset, .unset, .unset, .unset, .unset, .unset, .unset] [(.int ((pd &&& (2147483647 : Int32)) % (20 : Int32)))]))
  refine Go.st (fun _ k => XS.istore X0.here hx rfl (hb hby at_7) rfl (l' := #[.val (.long pn), .second, .val (.int pd), .val (.int pk), .val (.int ((pd &&& (2147483647 : Int32)) % (20 : Int32))), .unset, .unset, .unset, .unset, .unset, .unset]) rfl k) ?_
  show Go p.tables e below _ (s₁.setTop (mkF m 9 #[.val (.long pn), .second, .val (.int pd), .val (.int pk), .val (.int ((pd &&& (2147483647 : Int32)) % (20 : Int32))), .unset, .unset, .unset, .unset, .unset, .unset] []))
  generalize hqv7 : ((pd &&& (2147483647 : Int32)) % (20 : Int32)) = v7
  show Go p.tables e below _ (s₁.setTop (mkF m 9 #[.val (.long pn), .second, .val (.int pd), .val (.int pk), .val (.int v7), .unset, .unset, .unset, .unset, .unset, .unset] []))
  have hd7 := own_dig hqv7
  have nat7 := nat_of (j := v7) (own_nlt32 (by omega))
  show Go p.tables e below _ (s₁.setTop (mkF m 9 #[.val (.long pn), .second, .val (.int pd), .val (.int pk), .val (.int v7), .unset, .unset, .unset, .unset, .unset, .unset] []))
  refine Go.st (fun _ k => XS.lloadN X0.here hx rfl (hb hby at_9) rfl k) ?_
  show Go p.tables e below _ (s₁.setTop (mkF m 10 #[.val (.long pn), .second, .val (.int pd), .val (.int pk), .val (.int v7), .unset, .unset, .unset, .unset, .unset, .unset] [(.long pn)]))
  refine Go.st (fun _ k => X0.ldc2Long hx hown (mvT hZ (hw _ (List.mem_of_getElem? (i := 1) rfl))) (g := (mkF m 10 #[.val (.long pn), .second, .val (.int pd), .val (.int pk), .val (.int v7), .unset, .unset, .unset, .unset, .unset, .unset] [(.long pn)])) rfl (hb hby at_10) _ k) ?_
  show Go p.tables e below _ (s₁.setTop (mkF m 13 #[.val (.long pn), .second, .val (.int pd), .val (.int pk), .val (.int v7), .unset, .unset, .unset, .unset, .unset, .unset] [(.long (9223372036854775807 : Int64)), (.long pn)]))
  refine Go.st (fun _ k => XS.land X0.here hx rfl (hb hby at_13) rfl k) ?_
  show Go p.tables e below _ (s₁.setTop (mkF m 14 #[.val (.long pn), .second, .val (.int pd), .val (.int pk), .val (.int v7), .unset, .unset, .unset, .unset, .unset, .unset] [(.long (pn &&& (9223372036854775807 : Int64)))]))
  refine Go.st (fun _ k => XS.lstore X0.here hx rfl (hb hby at_14) rfl (l' := #[.val (.long pn), .second, .val (.int pd), .val (.int pk), .val (.int v7), .val (.long (pn &&& (9223372036854775807 : Int64))), .second, .unset, .unset, .unset, .unset]) rfl k) ?_
  show Go p.tables e below _ (s₁.setTop (mkF m 16 #[.val (.long pn), .second, .val (.int pd), .val (.int pk), .val (.int v7), .val (.long (pn &&& (9223372036854775807 : Int64))), .second, .unset, .unset, .unset, .unset] []))
  generalize hqv14 : (pn &&& (9223372036854775807 : Int64)) = v14
  show Go p.tables e below _ (s₁.setTop (mkF m 16 #[.val (.long pn), .second, .val (.int pd), .val (.int pk), .val (.int v7), .val (.long v14), .second, .unset, .unset, .unset, .unset] []))
  have hn14 := own_num hqv14
  show Go p.tables e below _ (s₁.setTop (mkF m 16 #[.val (.long pn), .second, .val (.int pd), .val (.int pk), .val (.int v7), .val (.long v14), .second, .unset, .unset, .unset, .unset] []))
  refine Go.st (fun _ k => XS.iload X0.here hx rfl (hb hby at_16) rfl k) ?_
  show Go p.tables e below _ (s₁.setTop (mkF m 18 #[.val (.long pn), .second, .val (.int pd), .val (.int pk), .val (.int v7), .val (.long v14), .second, .unset, .unset, .unset, .unset] [(.int v7)]))
  refine Go.st (fun _ k => XS.bipush X0.here hx rfl (hb hby at_18) k) ?_
  show Go p.tables e below _ (s₁.setTop (mkF m 20 #[.val (.long pn), .second, .val (.int pd), .val (.int pk), .val (.int v7), .val (.long v14), .second, .unset, .unset, .unset, .unset] [(.int (19 : Int32)), (.int v7)]))
  by_cases hc20 : v7 < (19 : Int32)
  · skip
    have lt_1932 : (19 : Int32).toInt = 19 := by decide
    have hi20 : (v7).toInt < ((19 : Int32)).toInt := Int32.lt_iff_toInt_lt.mp hc20
    refine Go.st (fun _ k => XS.icmpNo X0.here hx rfl (hb hby at_20) rfl (Jvm.Free.XT.ii_ge_f hc20) k) ?_
    show Go p.tables e below _ (s₁.setTop (mkF m 23 #[.val (.long pn), .second, .val (.int pd), .val (.int pk), .val (.int v7), .val (.long v14), .second, .unset, .unset, .unset, .unset] []))
    refine Go.st (fun _ k => XS.lload X0.here hx rfl (hb hby at_23) rfl k) ?_
    show Go p.tables e below _ (s₁.setTop (mkF m 25 #[.val (.long pn), .second, .val (.int pd), .val (.int pk), .val (.int v7), .val (.long v14), .second, .unset, .unset, .unset, .unset] [(.long v14)]))
    refine Go.st (fun _ k => XS.iload X0.here hx rfl (hb hby at_25) rfl k) ?_
    show Go p.tables e below _ (s₁.setTop (mkF m 27 #[.val (.long pn), .second, .val (.int pd), .val (.int pk), .val (.int v7), .val (.long v14), .second, .unset, .unset, .unset, .unset] [(.int v7), (.long v14)]))
    obtain ⟨_, _, ⟨T1, L1, k1, n1⟩, -, X1, ⟨Lc1, hQ1, l1, y1, z1⟩, st1⟩ := Jvm.LawKit.callS X0 hx (y := (⟨"com/example/clotho/clotho/server/store/KeysNumberedPinLaw", "pow10", "(I)J"⟩ : MethodName)) hown (mvT hZ (hw _ (List.mem_of_getElem? (i := 2) rfl))) (mvT hZ (hw _ (List.mem_of_getElem? (i := 3) rfl))) (mvT hZ (hw _ (List.mem_of_getElem? (i := 4) rfl))) (mvT hZ (hw _ (List.mem_of_getElem? (i := 5) rfl))) (by decide) (backOf (W := 2) (rm_pow10 l Z a0 hw [] v7 h0 n0 Z0 (by show 0 ≤ v7.toInt ∧ v7.toInt < 19; exact (by omega))) hZ (hw _ (List.mem_of_getElem? (i := 5) rfl)) (hw _ (List.mem_of_getElem? (i := 4) rfl)) (by decide) (by decide)) (g := (mkF m 27 #[.val (.long pn), .second, .val (.int pd), .val (.int pk), .val (.int v7), .val (.long v14), .second, .unset, .unset, .unset, .unset] [(.int v7), (.long v14)])) rfl (by rw [hml]; rfl) (argsL := [(.int v7)]) (rest := [(.long v14)]) (lenOf pd_11 rfl) rfl (by show 2 * 0 + _ ≤ _; exact Nat.le_of_eq rfl) (hb hby at_27) (fun _ _ => ⟨rfl, e0, (by decide : 0 + 1 ≤ _), (by decide : 0 + 19 ≤ _)⟩)
    dsimp only [Pt.U, Pt.locs, Pt.cells, Pt.slots] at X1 l1 y1 z1 st1 hQ1
    rw [l1, y1, z1] at X1
    obtain ⟨rfl, N1q, K1q⟩ := hQ1
    have N1 := Fr.app N0 N1q
    refine Go.st st1 ?_
    have Z2 : n0 ≤ T1.heap.size := Nat.le_trans Z0 K1q.1
    have CR3 : CHr Z consts_1 s.vm h0 s.vm T1.heap := CHr.keep K1q sf0 hCH
    have CT4 := hR0.trans CR3
    have hk5 := Nat.le_trans hk0 CR3.2.1
    have K6 : Keep h0 T1.heap [] := K0.trans K1q (fun z hz => absurd hz List.not_mem_nil)
    have F7 : Sta Z T1.heap "sun/nio/cs/UTF_8" "INSTANCE" "Lsun/nio/cs/UTF_8;" (.ref u8) := own_stakeep Pf0 K1q
    have F8 : Exa Z T1.heap u8 "sun/nio/cs/UTF_8" := Pf1.keep K1q
    have F9 : Sta Z T1.heap "sun/nio/cs/ISO_8859_1" "INSTANCE" "Lsun/nio/cs/ISO_8859_1;" (.ref iso) := own_stakeep Pf2 K1q
    have F10 : Exa Z T1.heap iso "sun/nio/cs/ISO_8859_1" := Pf3.keep K1q
    have F11 : Sta Z T1.heap "sun/nio/cs/US_ASCII" "INSTANCE" "Lsun/nio/cs/US_ASCII;" (.ref cs) := own_stakeep Pf4 K1q
    have F12 : Exa Z T1.heap cs "sun/nio/cs/US_ASCII" := Pf5.keep K1q
    have F13 : Sta Z T1.heap "java/nio/charset/StandardCharsets" "US_ASCII" "Ljava/nio/charset/Charset;" (.ref cs) := own_stakeep Pf6 K1q
    have F14 : Sta Z T1.heap "java/lang/String" "COMPACT_STRINGS" "Z" (.int G1) := own_stakeep Pf7 K1q
    have F15 : Sta Z T1.heap "jdk/internal/util/Preconditions" "SIOOBE_FORMATTER" "Ljava/util/function/BiFunction;" Gf := own_stakeep Pf9 K1q
    show Go p.tables e below _ (T1.setTop (mkF m 30 #[.val (.long pn), .second, .val (.int pd), .val (.int pk), .val (.int v7), .val (.long v14), .second, .unset, .unset, .unset, .unset] [(.long (pwF v7)), (.long v14)]))
    refine Go.st (fun _ k => XS.lrem X1.here hx rfl (hb hby at_30) rfl (own_pwnz (by omega)) (own_lrem k)) ?_
    show Go p.tables e below _ (T1.setTop (mkF m 31 #[.val (.long pn), .second, .val (.int pd), .val (.int pk), .val (.int v7), .val (.long v14), .second, .unset, .unset, .unset, .unset] [(.long (v14 % (pwF v7)))]))
    refine Go.st (fun _ k => XS.lstore X1.here hx rfl (hb hby at_31) rfl (l' := #[.val (.long pn), .second, .val (.int pd), .val (.int pk), .val (.int v7), .val (.long (v14 % (pwF v7))), .second, .unset, .unset, .unset, .unset]) rfl k) ?_
    show Go p.tables e below _ (T1.setTop (mkF m 33 #[.val (.long pn), .second, .val (.int pd), .val (.int pk), .val (.int v7), .val (.long (v14 % (pwF v7))), .second, .unset, .unset, .unset, .unset] []))
    generalize hqv31 : (v14 % (pwF v7)) = v31
    show Go p.tables e below _ (T1.setTop (mkF m 33 #[.val (.long pn), .second, .val (.int pd), .val (.int pk), .val (.int v7), .val (.long v31), .second, .unset, .unset, .unset, .unset] []))
    have hn31 := own_rem hn14 (by omega) hqv31
    show Go p.tables e below _ (T1.setTop (mkF m 33 #[.val (.long pn), .second, .val (.int pd), .val (.int pk), .val (.int v7), .val (.long v31), .second, .unset, .unset, .unset, .unset] []))
    refine Go.st (fun _ k => XS.lload X1.here hx rfl (hb hby at_33) rfl k) ?_
    show Go p.tables e below _ (T1.setTop (mkF m 35 #[.val (.long pn), .second, .val (.int pd), .val (.int pk), .val (.int v7), .val (.long v31), .second, .unset, .unset, .unset, .unset] [(.long v31)]))
    refine Go.st (fun _ k => XS.iload X1.here hx rfl (hb hby at_35) rfl k) ?_
    by_cases hz7 : v7 = (0 : Int32)
    · skip
      show Go p.tables e below _ (T1.setTop (mkF m 37 #[.val (.long pn), .second, .val (.int pd), .val (.int pk), .val (.int v7), .val (.long v31), .second, .unset, .unset, .unset, .unset] [(.int v7), (.long v31)]))
      show Go p.tables e below _ (T1.setTop (mkF m 37 #[.val (.long pn), .second, .val (.int pd), .val (.int pk), .val (.int v7), .val (.long v31), .second, .unset, .unset, .unset, .unset] [(.int v7), (.long v31)]))
      obtain ⟨_, _, ⟨T16, L16, k16, n16⟩, -, X16, hs16, hg16, ⟨Lc16, hQ16, l16, y16, z16, CR16⟩, st16⟩ := callSS X1 hx (y := (⟨"com/example/clotho/clotho/server/store/Keys", "numbered", "(JI)Ljava/lang/String;"⟩ : MethodName)) hown (mvT hZ (hw _ (List.mem_of_getElem? (i := 25) rfl))) (mvT hZ (hw _ (List.mem_of_getElem? (i := 26) rfl))) (mvT hZ (hw _ (List.mem_of_getElem? (i := 27) rfl))) (mvT hZ (hw _ (List.mem_of_getElem? (i := 28) rfl))) (by decide) (backOfSH (s := s) (vm0 := s.vm) (W := 0) (rm_num0 l Z a0 hw [] v31 v7 cs T1.heap n0 Z2 hEL F13 F12 (by show v7 = (0 : Int32); exact hz7) (by show v31.toInt = 0; exact (own_q0 hz7 hn31))) hZ (hw _ (List.mem_of_getElem? (i := 28) rfl)) (hw _ (List.mem_of_getElem? (i := 27) rfl)) (by decide) (by decide) hEL CR3.1) (g := (mkF m 37 #[.val (.long pn), .second, .val (.int pd), .val (.int pk), .val (.int v7), .val (.long v31), .second, .unset, .unset, .unset, .unset] [(.int v7), (.long v31)])) rfl (by rw [hml]; rfl) (argsL := [(.long v31), (.int v7)]) (rest := []) (lenOf pd_12 rfl) rfl (by show 2 * 0 + _ ≤ _; exact Nat.le_of_eq rfl) (hb hby at_37) (fun _ _ => ⟨rfl, (rfl : T1.heap = T1.heap), (by decide : 1 + 6 ≤ _), (by decide : 19 + 12 ≤ _)⟩)
      dsimp only [Pt.U, Pt.locs, Pt.cells, Pt.slots] at X16 l16 y16 z16 st16 hQ16 hs16 hg16 CR16
      skip
      obtain ⟨X16w, hS16, hZ16, hown16⟩ := rebS (s := s) (vm0 := s.vm) hS0 hk5 X16 hs16 hg16 hZ hown
      clear X16
      have X16 := X16w
      rw [l16, y16, z16] at X16
      obtain ⟨b16_fr, x16_fb, x16_kb, rfl, N16q, K16q, g16_fr, s16_fr, Fq16_0, Fq16_1, Fq16_2, Fq16_3⟩ := hQ16
      have N16 := Fr.app N1 N16q
      refine Go.st (fun _ k => st16.trans k) ?_
      have ne17 : u8 ≠ b16_fr := Nat.ne_of_lt (Nat.lt_of_lt_of_le F8.lt s16_fr)
      have ne18 : iso ≠ b16_fr := Nat.ne_of_lt (Nat.lt_of_lt_of_le F10.lt s16_fr)
      have ne19 : cs ≠ b16_fr := Nat.ne_of_lt (Nat.lt_of_lt_of_le F12.lt s16_fr)
      have sz20 : h0.size ≤ b16_fr := Nat.le_trans K6.1 s16_fr
      have Z21 : n0 ≤ T16.heap.size := Nat.le_trans Z2 K16q.1
      have K22 : Keep h0 T16.heap [] := K6.trans K16q (fun z hz => absurd hz List.not_mem_nil)
      have F23 : Sta Z T16.heap "sun/nio/cs/UTF_8" "INSTANCE" "Lsun/nio/cs/UTF_8;" (.ref u8) := own_stakeep F7 K16q
      have F24 : Exa Z T16.heap u8 "sun/nio/cs/UTF_8" := F8.keep K16q
      have F25 : Sta Z T16.heap "sun/nio/cs/ISO_8859_1" "INSTANCE" "Lsun/nio/cs/ISO_8859_1;" (.ref iso) := own_stakeep F9 K16q
      have F26 : Exa Z T16.heap iso "sun/nio/cs/ISO_8859_1" := F10.keep K16q
      have F27 : Sta Z T16.heap "sun/nio/cs/US_ASCII" "INSTANCE" "Lsun/nio/cs/US_ASCII;" (.ref cs) := own_stakeep F11 K16q
      have F28 : Exa Z T16.heap cs "sun/nio/cs/US_ASCII" := F12.keep K16q
      have F29 : Sta Z T16.heap "java/nio/charset/StandardCharsets" "US_ASCII" "Ljava/nio/charset/Charset;" (.ref cs) := own_stakeep F13 K16q
      have F30 : Sta Z T16.heap "java/lang/String" "COMPACT_STRINGS" "Z" (.int G1) := own_stakeep F14 K16q
      have F31 : Sta Z T16.heap "jdk/internal/util/Preconditions" "SIOOBE_FORMATTER" "Ljava/util/function/BiFunction;" Gf := own_stakeep F15 K16q
      show Go p.tables e below _ (T16.setTop (mkF m 40 #[.val (.long pn), .second, .val (.int pd), .val (.int pk), .val (.int v7), .val (.long v31), .second, .unset, .unset, .unset, .unset] [(.ref b16_fr)]))
      refine Go.st (fun _ k => XS.astore X16.here hx rfl (hb hby at_40) rfl rfl (l' := #[.val (.long pn), .second, .val (.int pd), .val (.int pk), .val (.int v7), .val (.long v31), .second, .val (.ref b16_fr), .unset, .unset, .unset]) rfl k) ?_
      show Go p.tables e below _ (T16.setTop (mkF m 42 #[.val (.long pn), .second, .val (.int pd), .val (.int pk), .val (.int v7), .val (.long v31), .second, .val (.ref b16_fr), .unset, .unset, .unset] []))
      show Go p.tables e below _ (T16.setTop (mkF m 42 #[.val (.long pn), .second, .val (.int pd), .val (.int pk), .val (.int v7), .val (.long v31), .second, .val (.ref b16_fr), .unset, .unset, .unset] []))
      refine Go.st (fun _ k => XS.aload X16.here hx rfl (hb hby at_42) rfl rfl k) ?_
      show Go p.tables e below _ (T16.setTop (mkF m 44 #[.val (.long pn), .second, .val (.int pd), .val (.int pk), .val (.int v7), .val (.long v31), .second, .val (.ref b16_fr), .unset, .unset, .unset] [(.ref b16_fr)]))
      obtain ⟨cq32, kq32, q32a, q32b, q32c⟩ := isOf hZ16 (rfl : T16.heap = T16.heap) Fq16_0
      obtain ⟨_, _, ⟨T32, L32, k32, n32⟩, -, X32, ⟨Lc32, hQ32, l32, y32, z32⟩, st32⟩ := X16.virtualBack hx (y := (⟨"java/lang/String", "length", "()I"⟩ : MethodName)) (z := (⟨"java/lang/String", "length", "()I"⟩ : MethodName)) hown16 (mvT hZ16 (hw _ (List.mem_of_getElem? (i := 84) rfl))) (mvT hZ16 (hw _ (List.mem_of_getElem? (i := 85) rfl))) (notFace_of_selects (args := #[]) (mvT hZ16 (hw _ (List.mem_of_getElem? (i := 87) rfl)))) (mvT hZ16 (hw _ (List.mem_of_getElem? (i := 87) rfl))) (mvT hZ16 (hw _ (List.mem_of_getElem? (i := 86) rfl))) (by decide) (backOf (W := 0) (rm_slen l Z a0 hw [] b16_fr x16_fb x16_kb (0 : Int32) ([]) G1 T16.heap n0 Z21 Fq16_0 Fq16_1 Fq16_2 Fq16_3 F30 (by show ¬ (G1 = (0 : Int32)); exact P5)) hZ16 (hw _ (List.mem_of_getElem? (i := 88) rfl)) (hw _ (List.mem_of_getElem? (i := 34) rfl)) (by decide) (by decide)) q32a q32c (g := (mkF m 44 #[.val (.long pn), .second, .val (.int pd), .val (.int pk), .val (.int v7), .val (.long v31), .second, .val (.ref b16_fr), .unset, .unset, .unset] [(.ref b16_fr)])) rfl (by rw [hml]; rfl) (Steps.refl _) (argsL := []) (rest := []) (lenOf pd_13 rfl) rfl (by show 2 * 0 + _ ≤ _; exact Nat.le_of_eq rfl) (hb hby at_44) (fun _ _ => ⟨rfl, (rfl : T16.heap = T16.heap), (by decide : 7 + 0 ≤ _), (by decide : 31 + 0 ≤ _)⟩)
      dsimp only [Pt.U, Pt.locs, Pt.cells, Pt.slots] at X32 l32 y32 z32 st32 hQ32
      rw [l32, y32, z32] at X32
      obtain ⟨rfl, N32q, e32⟩ := hQ32
      have N32 := Fr.app N16 N32q
      refine Go.st (fun _ k => st32.trans k) ?_
      show Go p.tables e below _ (T32.setTop (mkF m 47 #[.val (.long pn), .second, .val (.int pd), .val (.int pk), .val (.int v7), .val (.long v31), .second, .val (.ref b16_fr), .unset, .unset, .unset] [(.int (0 : Int32))]))
      refine Go.st (fun _ k => XS.iload X32.here hx rfl (hb hby at_47) rfl k) ?_
      show Go p.tables e below _ (T32.setTop (mkF m 49 #[.val (.long pn), .second, .val (.int pd), .val (.int pk), .val (.int v7), .val (.long v31), .second, .val (.ref b16_fr), .unset, .unset, .unset] [(.int v7), (.int (0 : Int32))]))
      have hc49 : (0 : Int32) = v7 := hz7.symm
      have lt_032 : (0 : Int32).toInt = 0 := by decide
      have hi49 : ((0 : Int32)).toInt = (v7).toInt := Int32.toInt_inj.symm.mp hc49
      refine Go.st (fun _ k => XS.icmpYes X32.here hx rfl (pc0 := 49) (pc' := 54) rfl (hb hby at_49) rfl (Jvm.Free.XT.ii_eq_t hc49) (by decide) (by decide) k) ?_
      show Go p.tables e below _ (T32.setTop (mkF m 54 #[.val (.long pn), .second, .val (.int pd), .val (.int pk), .val (.int v7), .val (.long v31), .second, .val (.ref b16_fr), .unset, .unset, .unset] []))
      refine Go.st (fun _ k => XS.iload X32.here hx rfl (hb hby at_54) rfl k) ?_
      show Go p.tables e below _ (T32.setTop (mkF m 56 #[.val (.long pn), .second, .val (.int pd), .val (.int pk), .val (.int v7), .val (.long v31), .second, .val (.ref b16_fr), .unset, .unset, .unset] [(.int v7)]))
      have hc56 : v7 = (0 : Int32) := hz7
      have hi56 : (v7).toInt = ((0 : Int32)).toInt := Int32.toInt_inj.symm.mp hc56
      refine Go.st (fun _ k => XS.ifNo X32.here hx rfl (hb hby at_56) rfl (Jvm.Free.XT.i0_ne_f hc56) k) ?_
      show Go p.tables e below _ (T32.setTop (mkF m 59 #[.val (.long pn), .second, .val (.int pd), .val (.int pk), .val (.int v7), .val (.long v31), .second, .val (.ref b16_fr), .unset, .unset, .unset] []))
      refine Go.st (fun _ k => XS.iconst X32.here hx rfl (hb hby at_59) k) ?_
      show Go p.tables e below _ (T32.setTop (mkF m 60 #[.val (.long pn), .second, .val (.int pd), .val (.int pk), .val (.int v7), .val (.long v31), .second, .val (.ref b16_fr), .unset, .unset, .unset] [(.int (1 : Int32))]))
      subst hG
      obtain ⟨fs, hr, hrun, hended, hend⟩ := X32.leaveW (s := s) hS16 (by rw [e32]; exact (Nat.le_refl _)) (v := some (.int (nar .boolean (1 : Int32)))) (fun h => by rw [Bd.returns] at h; cases h)
      refine ⟨_, _, ?_, hrun, hended, _, _, rfl, ?_, ?_, hend.1, hend.2.1, hend.2.2.1, hend.2.2.2.mono (by decide) (by decide)⟩
      · exact retN X32 hx (t := .boolean) Bd.returns (by simp) (hb hby at_60) hr
      · show Q_law Z pn pd pk u8 iso cs G1 Gf h0 n0 _ T32.heap _
        rw [e32]
        exact ⟨rfl, N32, K22⟩
      · show CHr Z consts_1 s.vm s.heap T32.vm T32.heap
        rw [hh, e32]
        exact ((CT4.trans CR16)).trans (CHv.at X32 hZ16 hEL CR16.1)
    · skip
      show Go p.tables e below _ (T1.setTop (mkF m 37 #[.val (.long pn), .second, .val (.int pd), .val (.int pk), .val (.int v7), .val (.long v31), .second, .unset, .unset, .unset, .unset] [(.int v7), (.long v31)]))
      have hz7' : v7.toInt ≠ 0 := fun z => hz7 (own_eq32 (by omega))
      show Go p.tables e below _ (T1.setTop (mkF m 37 #[.val (.long pn), .second, .val (.int pd), .val (.int pk), .val (.int v7), .val (.long v31), .second, .unset, .unset, .unset, .unset] [(.int v7), (.long v31)]))
      obtain ⟨_, _, ⟨T33, L33, k33, n33⟩, -, X33, ⟨Lc33, hQ33, l33, y33, z33⟩, st33⟩ := Jvm.LawKit.callS X1 hx (y := (⟨"com/example/clotho/clotho/server/store/Keys", "numbered", "(JI)Ljava/lang/String;"⟩ : MethodName)) hown (mvT hZ (hw _ (List.mem_of_getElem? (i := 25) rfl))) (mvT hZ (hw _ (List.mem_of_getElem? (i := 26) rfl))) (mvT hZ (hw _ (List.mem_of_getElem? (i := 27) rfl))) (mvT hZ (hw _ (List.mem_of_getElem? (i := 28) rfl))) (by decide) (backOf (W := 0) (rm_num1 l Z a0 hw [] v31 v7 u8 iso cs G1 T1.heap n0 Z2 F7 F8 F9 F10 F11 F12 F13 F14 (by show ¬ (G1 = (0 : Int32)); exact P5) (by show 1 ≤ v7.toInt ∧ v7.toInt ≤ 19; exact (by omega)) (by show 0 ≤ v31.toInt ∧ v31.toInt < 10 ^ v7.toNatClampNeg; exact hn31)) hZ (hw _ (List.mem_of_getElem? (i := 28) rfl)) (hw _ (List.mem_of_getElem? (i := 27) rfl)) (by decide) (by decide)) (g := (mkF m 37 #[.val (.long pn), .second, .val (.int pd), .val (.int pk), .val (.int v7), .val (.long v31), .second, .unset, .unset, .unset, .unset] [(.int v7), (.long v31)])) rfl (by rw [hml]; rfl) (argsL := [(.long v31), (.int v7)]) (rest := []) (lenOf pd_12 rfl) rfl (by show 2 * 0 + _ ≤ _; exact Nat.le_of_eq rfl) (hb hby at_37) (fun _ _ => ⟨rfl, (rfl : T1.heap = T1.heap), (by decide : 1 + 3 ≤ _), (by decide : 19 + 42 ≤ _)⟩)
      dsimp only [Pt.U, Pt.locs, Pt.cells, Pt.slots] at X33 l33 y33 z33 st33 hQ33
      rw [l33, y33, z33] at X33
      obtain ⟨b33_fr, b33_fb, x33_kb, rfl, N33q, K33q, g33_fr, s33_fr, g33_fb, s33_fb, Fq33_0, Fq33_1, Fq33_2, Fq33_3⟩ := hQ33
      have N33 := Fr.app N1 N33q
      refine Go.st st33 ?_
      have ne34 : u8 ≠ b33_fr := Nat.ne_of_lt (Nat.lt_of_lt_of_le F8.lt s33_fr)
      have ne35 : iso ≠ b33_fr := Nat.ne_of_lt (Nat.lt_of_lt_of_le F10.lt s33_fr)
      have ne36 : cs ≠ b33_fr := Nat.ne_of_lt (Nat.lt_of_lt_of_le F12.lt s33_fr)
      have sz37 : h0.size ≤ b33_fr := Nat.le_trans K6.1 s33_fr
      have ne38 : u8 ≠ b33_fb := Nat.ne_of_lt (Nat.lt_of_lt_of_le F8.lt s33_fb)
      have ne39 : iso ≠ b33_fb := Nat.ne_of_lt (Nat.lt_of_lt_of_le F10.lt s33_fb)
      have ne40 : cs ≠ b33_fb := Nat.ne_of_lt (Nat.lt_of_lt_of_le F12.lt s33_fb)
      have sz41 : h0.size ≤ b33_fb := Nat.le_trans K6.1 s33_fb
      have Z42 : n0 ≤ T33.heap.size := Nat.le_trans Z2 K33q.1
      have CR43 : CHr Z consts_1 s.vm T1.heap s.vm T33.heap := CHr.keep K33q sf0 CR3.1
      have CT44 := CT4.trans CR43
      have hk45 := Nat.le_trans hk5 CR43.2.1
      have Sf46 : Safe Z consts_1 s.vm T33.heap b33_fr := Safe.keep K33q sf0 CR3.1 (Safe.new s33_fr)
      have Sf47 : Safe Z consts_1 s.vm T33.heap b33_fb := Safe.keep K33q sf0 CR3.1 (Safe.new s33_fb)
      have K48 : Keep h0 T33.heap [] := K6.trans K33q (fun z hz => absurd hz List.not_mem_nil)
      have F49 : Sta Z T33.heap "sun/nio/cs/UTF_8" "INSTANCE" "Lsun/nio/cs/UTF_8;" (.ref u8) := own_stakeep F7 K33q
      have F50 : Exa Z T33.heap u8 "sun/nio/cs/UTF_8" := F8.keep K33q
      have F51 : Sta Z T33.heap "sun/nio/cs/ISO_8859_1" "INSTANCE" "Lsun/nio/cs/ISO_8859_1;" (.ref iso) := own_stakeep F9 K33q
      have F52 : Exa Z T33.heap iso "sun/nio/cs/ISO_8859_1" := F10.keep K33q
      have F53 : Sta Z T33.heap "sun/nio/cs/US_ASCII" "INSTANCE" "Lsun/nio/cs/US_ASCII;" (.ref cs) := own_stakeep F11 K33q
      have F54 : Exa Z T33.heap cs "sun/nio/cs/US_ASCII" := F12.keep K33q
      have F55 : Sta Z T33.heap "java/nio/charset/StandardCharsets" "US_ASCII" "Ljava/nio/charset/Charset;" (.ref cs) := own_stakeep F13 K33q
      have F56 : Sta Z T33.heap "java/lang/String" "COMPACT_STRINGS" "Z" (.int G1) := own_stakeep F14 K33q
      have F57 : Sta Z T33.heap "jdk/internal/util/Preconditions" "SIOOBE_FORMATTER" "Ljava/util/function/BiFunction;" Gf := own_stakeep F15 K33q
      show Go p.tables e below _ (T33.setTop (mkF m 40 #[.val (.long pn), .second, .val (.int pd), .val (.int pk), .val (.int v7), .val (.long v31), .second, .unset, .unset, .unset, .unset] [(.ref b33_fr)]))
      refine Go.st (fun _ k => XS.astore X33.here hx rfl (hb hby at_40) rfl rfl (l' := #[.val (.long pn), .second, .val (.int pd), .val (.int pk), .val (.int v7), .val (.long v31), .second, .val (.ref b33_fr), .unset, .unset, .unset]) rfl k) ?_
      show Go p.tables e below _ (T33.setTop (mkF m 42 #[.val (.long pn), .second, .val (.int pd), .val (.int pk), .val (.int v7), .val (.long v31), .second, .val (.ref b33_fr), .unset, .unset, .unset] []))
      show Go p.tables e below _ (T33.setTop (mkF m 42 #[.val (.long pn), .second, .val (.int pd), .val (.int pk), .val (.int v7), .val (.long v31), .second, .val (.ref b33_fr), .unset, .unset, .unset] []))
      refine Go.st (fun _ k => XS.aload X33.here hx rfl (hb hby at_42) rfl rfl k) ?_
      show Go p.tables e below _ (T33.setTop (mkF m 44 #[.val (.long pn), .second, .val (.int pd), .val (.int pk), .val (.int v7), .val (.long v31), .second, .val (.ref b33_fr), .unset, .unset, .unset] [(.ref b33_fr)]))
      obtain ⟨cq58, kq58, q58a, q58b, q58c⟩ := isOf hZ (rfl : T33.heap = T33.heap) Fq33_0
      obtain ⟨_, _, ⟨T58, L58, k58, n58⟩, -, X58, ⟨Lc58, hQ58, l58, y58, z58⟩, st58⟩ := X33.virtualBack hx (y := (⟨"java/lang/String", "length", "()I"⟩ : MethodName)) (z := (⟨"java/lang/String", "length", "()I"⟩ : MethodName)) hown (mvT hZ (hw _ (List.mem_of_getElem? (i := 84) rfl))) (mvT hZ (hw _ (List.mem_of_getElem? (i := 85) rfl))) (notFace_of_selects (args := #[]) (mvT hZ (hw _ (List.mem_of_getElem? (i := 87) rfl)))) (mvT hZ (hw _ (List.mem_of_getElem? (i := 87) rfl))) (mvT hZ (hw _ (List.mem_of_getElem? (i := 86) rfl))) (by decide) (backOf (W := 0) (rm_slen l Z a0 hw [] b33_fr b33_fb x33_kb v7 (putD z19 0 v7.toNatClampNeg v31) G1 T33.heap n0 Z42 Fq33_0 Fq33_1 Fq33_2 Fq33_3 F56 (by show ¬ (G1 = (0 : Int32)); exact P5)) hZ (hw _ (List.mem_of_getElem? (i := 88) rfl)) (hw _ (List.mem_of_getElem? (i := 34) rfl)) (by decide) (by decide)) q58a q58c (g := (mkF m 44 #[.val (.long pn), .second, .val (.int pd), .val (.int pk), .val (.int v7), .val (.long v31), .second, .val (.ref b33_fr), .unset, .unset, .unset] [(.ref b33_fr)])) rfl (by rw [hml]; rfl) (Steps.refl _) (argsL := []) (rest := []) (lenOf pd_13 rfl) rfl (by show 2 * 0 + _ ≤ _; exact Nat.le_of_eq rfl) (hb hby at_44) (fun _ _ => ⟨rfl, (rfl : T33.heap = T33.heap), (by decide : 4 + 0 ≤ _), (by decide : 61 + 0 ≤ _)⟩)
      dsimp only [Pt.U, Pt.locs, Pt.cells, Pt.slots] at X58 l58 y58 z58 st58 hQ58
      rw [l58, y58, z58] at X58
      obtain ⟨rfl, N58q, e58⟩ := hQ58
      have N58 := Fr.app N33 N58q
      refine Go.st (fun _ k => st58.trans k) ?_
      show Go p.tables e below _ (T58.setTop (mkF m 47 #[.val (.long pn), .second, .val (.int pd), .val (.int pk), .val (.int v7), .val (.long v31), .second, .val (.ref b33_fr), .unset, .unset, .unset] [(.int v7)]))
      refine Go.st (fun _ k => XS.iload X58.here hx rfl (hb hby at_47) rfl k) ?_
      show Go p.tables e below _ (T58.setTop (mkF m 49 #[.val (.long pn), .second, .val (.int pd), .val (.int pk), .val (.int v7), .val (.long v31), .second, .val (.ref b33_fr), .unset, .unset, .unset] [(.int v7), (.int v7)]))
      have hc49 : v7 = v7 := rfl
      have hi49 : (v7).toInt = (v7).toInt := Int32.toInt_inj.symm.mp hc49
      refine Go.st (fun _ k => XS.icmpYes X58.here hx rfl (pc0 := 49) (pc' := 54) rfl (hb hby at_49) rfl (Jvm.Free.XT.ii_eq_t hc49) (by decide) (by decide) k) ?_
      show Go p.tables e below _ (T58.setTop (mkF m 54 #[.val (.long pn), .second, .val (.int pd), .val (.int pk), .val (.int v7), .val (.long v31), .second, .val (.ref b33_fr), .unset, .unset, .unset] []))
      refine Go.st (fun _ k => XS.iload X58.here hx rfl (hb hby at_54) rfl k) ?_
      show Go p.tables e below _ (T58.setTop (mkF m 56 #[.val (.long pn), .second, .val (.int pd), .val (.int pk), .val (.int v7), .val (.long v31), .second, .val (.ref b33_fr), .unset, .unset, .unset] [(.int v7)]))
      have hc56 : ¬ (v7 = (0 : Int32)) := hz7
      have lt_032 : (0 : Int32).toInt = 0 := by decide
      have hi56 : ¬ ((v7).toInt = ((0 : Int32)).toInt) := fun z => hc56 (Int32.toInt_inj.symm.mpr z)
      refine Go.st (fun _ k => XS.ifYes X58.here hx rfl (pc0 := 56) (pc' := 61) rfl (hb hby at_56) rfl (Jvm.Free.XT.i0_ne_t hc56) (by decide) (by decide) k) ?_
      show Go p.tables e below _ (T58.setTop (mkF m 61 #[.val (.long pn), .second, .val (.int pd), .val (.int pk), .val (.int v7), .val (.long v31), .second, .val (.ref b33_fr), .unset, .unset, .unset] []))
      refine Go.st (fun _ k => XS.iloadN X58.here hx rfl (hb hby at_61) rfl k) ?_
      show Go p.tables e below _ (T58.setTop (mkF m 62 #[.val (.long pn), .second, .val (.int pd), .val (.int pk), .val (.int v7), .val (.long v31), .second, .val (.ref b33_fr), .unset, .unset, .unset] [(.int pk)]))
      refine Go.st (fun _ k => X58.ldcInt hx hown (mvT hZ (hw _ (List.mem_of_getElem? (i := 0) rfl))) (g := (mkF m 62 #[.val (.long pn), .second, .val (.int pd), .val (.int pk), .val (.int v7), .val (.long v31), .second, .val (.ref b33_fr), .unset, .unset, .unset] [(.int pk)])) rfl (hb hby at_62) _ k) ?_
      show Go p.tables e below _ (T58.setTop (mkF m 64 #[.val (.long pn), .second, .val (.int pd), .val (.int pk), .val (.int v7), .val (.long v31), .second, .val (.ref b33_fr), .unset, .unset, .unset] [(.int (2147483647 : Int32)), (.int pk)]))
      refine Go.st (fun _ k => XS.iand X58.here hx rfl (hb hby at_64) rfl k) ?_
      show Go p.tables e below _ (T58.setTop (mkF m 65 #[.val (.long pn), .second, .val (.int pd), .val (.int pk), .val (.int v7), .val (.long v31), .second, .val (.ref b33_fr), .unset, .unset, .unset] [(.int (pk &&& (2147483647 : Int32)))]))
      refine Go.st (fun _ k => XS.iload X58.here hx rfl (hb hby at_65) rfl k) ?_
      show Go p.tables e below _ (T58.setTop (mkF m 67 #[.val (.long pn), .second, .val (.int pd), .val (.int pk), .val (.int v7), .val (.long v31), .second, .val (.ref b33_fr), .unset, .unset, .unset] [(.int v7), (.int (pk &&& (2147483647 : Int32)))]))
      refine Go.st (fun _ k => iremM X58 hx rfl (hb hby at_67) rfl (own_ne32 (by omega)) k) ?_
      show Go p.tables e below _ (T58.setTop (mkF m 68 #[.val (.long pn), .second, .val (.int pd), .val (.int pk), .val (.int v7), .val (.long v31), .second, .val (.ref b33_fr), .unset, .unset, .unset] [(.int ((pk &&& (2147483647 : Int32)) % v7))]))
      refine Go.st (fun _ k => XS.istore X58.here hx rfl (hb hby at_68) rfl (l' := #[.val (.long pn), .second, .val (.int pd), .val (.int pk), .val (.int v7), .val (.long v31), .second, .val (.ref b33_fr), .val (.int ((pk &&& (2147483647 : Int32)) % v7)), .unset, .unset]) rfl k) ?_
      show Go p.tables e below _ (T58.setTop (mkF m 70 #[.val (.long pn), .second, .val (.int pd), .val (.int pk), .val (.int v7), .val (.long v31), .second, .val (.ref b33_fr), .val (.int ((pk &&& (2147483647 : Int32)) % v7)), .unset, .unset] []))
      generalize hqv68 : ((pk &&& (2147483647 : Int32)) % v7) = v68
      show Go p.tables e below _ (T58.setTop (mkF m 70 #[.val (.long pn), .second, .val (.int pd), .val (.int pk), .val (.int v7), .val (.long v31), .second, .val (.ref b33_fr), .val (.int v68), .unset, .unset] []))
      have hd68 := own_idx (by omega) hqv68
      have nat68 := nat_of (j := v68) (own_nlt32 (by omega))
      show Go p.tables e below _ (T58.setTop (mkF m 70 #[.val (.long pn), .second, .val (.int pd), .val (.int pk), .val (.int v7), .val (.long v31), .second, .val (.ref b33_fr), .val (.int v68), .unset, .unset] []))
      refine Go.st (fun _ k => XS.lload X58.here hx rfl (hb hby at_70) rfl k) ?_
      show Go p.tables e below _ (T58.setTop (mkF m 72 #[.val (.long pn), .second, .val (.int pd), .val (.int pk), .val (.int v7), .val (.long v31), .second, .val (.ref b33_fr), .val (.int v68), .unset, .unset] [(.long v31)]))
      refine Go.st (fun _ k => XS.iload X58.here hx rfl (hb hby at_72) rfl k) ?_
      show Go p.tables e below _ (T58.setTop (mkF m 74 #[.val (.long pn), .second, .val (.int pd), .val (.int pk), .val (.int v7), .val (.long v31), .second, .val (.ref b33_fr), .val (.int v68), .unset, .unset] [(.int v7), (.long v31)]))
      refine Go.st (fun _ k => XS.iconst X58.here hx rfl (hb hby at_74) k) ?_
      show Go p.tables e below _ (T58.setTop (mkF m 75 #[.val (.long pn), .second, .val (.int pd), .val (.int pk), .val (.int v7), .val (.long v31), .second, .val (.ref b33_fr), .val (.int v68), .unset, .unset] [(.int (1 : Int32)), (.int v7), (.long v31)]))
      refine Go.st (fun _ k => XS.isub X58.here hx rfl (hb hby at_75) rfl k) ?_
      show Go p.tables e below _ (T58.setTop (mkF m 76 #[.val (.long pn), .second, .val (.int pd), .val (.int pk), .val (.int v7), .val (.long v31), .second, .val (.ref b33_fr), .val (.int v68), .unset, .unset] [(.int (v7 - (1 : Int32))), (.long v31)]))
      refine Go.st (fun _ k => XS.iload X58.here hx rfl (hb hby at_76) rfl k) ?_
      show Go p.tables e below _ (T58.setTop (mkF m 78 #[.val (.long pn), .second, .val (.int pd), .val (.int pk), .val (.int v7), .val (.long v31), .second, .val (.ref b33_fr), .val (.int v68), .unset, .unset] [(.int v68), (.int (v7 - (1 : Int32))), (.long v31)]))
      refine Go.st (fun _ k => XS.isub X58.here hx rfl (hb hby at_78) rfl k) ?_
      show Go p.tables e below _ (T58.setTop (mkF m 79 #[.val (.long pn), .second, .val (.int pd), .val (.int pk), .val (.int v7), .val (.long v31), .second, .val (.ref b33_fr), .val (.int v68), .unset, .unset] [(.int ((v7 - (1 : Int32)) - v68)), (.long v31)]))
      have s79 : ((v7 - (1 : Int32)) - v68).toInt = v7.toInt - 1 - v68.toInt := by rw [Jvm.Kit.i32_sub (by rw [Jvm.Kit.i32_sub (by omega) (by omega)]; omega) (by rw [Jvm.Kit.i32_sub (by omega) (by omega)]; omega), Jvm.Kit.i32_sub (by omega) (by omega), i_1]
      have nat79 := nat_of (j := ((v7 - (1 : Int32)) - v68)) (own_nlt32 (by omega))
      show Go p.tables e below _ (T58.setTop (mkF m 79 #[.val (.long pn), .second, .val (.int pd), .val (.int pk), .val (.int v7), .val (.long v31), .second, .val (.ref b33_fr), .val (.int v68), .unset, .unset] [(.int ((v7 - (1 : Int32)) - v68)), (.long v31)]))
      obtain ⟨_, _, ⟨T59, L59, k59, n59⟩, -, X59, ⟨Lc59, hQ59, l59, y59, z59⟩, st59⟩ := Jvm.LawKit.callS X58 hx (y := (⟨"com/example/clotho/clotho/server/store/KeysNumberedPinLaw", "pow10", "(I)J"⟩ : MethodName)) hown (mvT hZ (hw _ (List.mem_of_getElem? (i := 2) rfl))) (mvT hZ (hw _ (List.mem_of_getElem? (i := 3) rfl))) (mvT hZ (hw _ (List.mem_of_getElem? (i := 4) rfl))) (mvT hZ (hw _ (List.mem_of_getElem? (i := 5) rfl))) (by decide) (backOf (W := 2) (rm_pow10 l Z a0 hw [] ((v7 - (1 : Int32)) - v68) T33.heap n0 Z42 (by show 0 ≤ ((v7 - (1 : Int32)) - v68).toInt ∧ ((v7 - (1 : Int32)) - v68).toInt < 19; exact (by omega))) hZ (hw _ (List.mem_of_getElem? (i := 5) rfl)) (hw _ (List.mem_of_getElem? (i := 4) rfl)) (by decide) (by decide)) (g := (mkF m 79 #[.val (.long pn), .second, .val (.int pd), .val (.int pk), .val (.int v7), .val (.long v31), .second, .val (.ref b33_fr), .val (.int v68), .unset, .unset] [(.int ((v7 - (1 : Int32)) - v68)), (.long v31)])) rfl (by rw [hml]; rfl) (argsL := [(.int ((v7 - (1 : Int32)) - v68))]) (rest := [(.long v31)]) (lenOf pd_11 rfl) rfl (by show 2 * 0 + _ ≤ _; exact Nat.le_of_eq rfl) (hb hby at_79) (fun _ _ => ⟨rfl, e58, (by decide : 4 + 1 ≤ _), (by decide : 61 + 19 ≤ _)⟩)
      dsimp only [Pt.U, Pt.locs, Pt.cells, Pt.slots] at X59 l59 y59 z59 st59 hQ59
      rw [l59, y59, z59] at X59
      obtain ⟨rfl, N59q, K59q⟩ := hQ59
      have N59 := Fr.app N58 N59q
      refine Go.st st59 ?_
      have Z60 : n0 ≤ T59.heap.size := Nat.le_trans Z42 K59q.1
      have CR61 : CHr Z consts_1 s.vm T33.heap s.vm T59.heap := CHr.keep K59q sf0 CR43.1
      have CT62 := CT44.trans CR61
      have hk63 := Nat.le_trans hk45 CR61.2.1
      have Sf64 : Safe Z consts_1 s.vm T59.heap b33_fr := CR61.safe Fq33_0.lt Sf46
      have Sf65 : Safe Z consts_1 s.vm T59.heap b33_fb := CR61.safe Fq33_3.lt Sf47
      have K66 : Keep h0 T59.heap [] := K48.trans K59q (fun z hz => absurd hz List.not_mem_nil)
      have F67 : Sta Z T59.heap "sun/nio/cs/UTF_8" "INSTANCE" "Lsun/nio/cs/UTF_8;" (.ref u8) := own_stakeep F49 K59q
      have F68 : Exa Z T59.heap u8 "sun/nio/cs/UTF_8" := F50.keep K59q
      have F69 : Sta Z T59.heap "sun/nio/cs/ISO_8859_1" "INSTANCE" "Lsun/nio/cs/ISO_8859_1;" (.ref iso) := own_stakeep F51 K59q
      have F70 : Exa Z T59.heap iso "sun/nio/cs/ISO_8859_1" := F52.keep K59q
      have F71 : Sta Z T59.heap "sun/nio/cs/US_ASCII" "INSTANCE" "Lsun/nio/cs/US_ASCII;" (.ref cs) := own_stakeep F53 K59q
      have F72 : Exa Z T59.heap cs "sun/nio/cs/US_ASCII" := F54.keep K59q
      have F73 : Sta Z T59.heap "java/nio/charset/StandardCharsets" "US_ASCII" "Ljava/nio/charset/Charset;" (.ref cs) := own_stakeep F55 K59q
      have F74 : Sta Z T59.heap "java/lang/String" "COMPACT_STRINGS" "Z" (.int G1) := own_stakeep F56 K59q
      have F75 : Sta Z T59.heap "jdk/internal/util/Preconditions" "SIOOBE_FORMATTER" "Ljava/util/function/BiFunction;" Gf := own_stakeep F57 K59q
      have F76 : Exa Z T59.heap b33_fr "java/lang/String" := Fq33_0.keep K59q
      have F77 : Fld Z T59.heap b33_fr "java/lang/String" "coder" "B" (.int (0 : Int32)) := Fq33_1.keep K59q List.not_mem_nil
      have F78 : Fld Z T59.heap b33_fr "java/lang/String" "value" "[B" (.ref b33_fb) := Fq33_2.keep K59q List.not_mem_nil
      have F79 : Arv Z T59.heap b33_fb x33_kb .byte v7 (bvs (putD z19 0 v7.toNatClampNeg v31)) (.int (0 : Int32)) := Fq33_3.keep K59q List.not_mem_nil
      show Go p.tables e below _ (T59.setTop (mkF m 82 #[.val (.long pn), .second, .val (.int pd), .val (.int pk), .val (.int v7), .val (.long v31), .second, .val (.ref b33_fr), .val (.int v68), .unset, .unset] [(.long (pwF ((v7 - (1 : Int32)) - v68))), (.long v31)]))
      refine Go.st (fun _ k => XS.ldiv X59.here hx rfl (hb hby at_82) rfl (own_pwnz (by omega)) k) ?_
      show Go p.tables e below _ (T59.setTop (mkF m 83 #[.val (.long pn), .second, .val (.int pd), .val (.int pk), .val (.int v7), .val (.long v31), .second, .val (.ref b33_fr), .val (.int v68), .unset, .unset] [(.long (v31 / (pwF ((v7 - (1 : Int32)) - v68))))]))
      refine Go.st (fun _ k => X59.ldc2Long hx hown (mvT hZ (hw _ (List.mem_of_getElem? (i := 7) rfl))) (g := (mkF m 83 #[.val (.long pn), .second, .val (.int pd), .val (.int pk), .val (.int v7), .val (.long v31), .second, .val (.ref b33_fr), .val (.int v68), .unset, .unset] [(.long (v31 / (pwF ((v7 - (1 : Int32)) - v68))))])) rfl (hb hby at_83) _ k) ?_
      show Go p.tables e below _ (T59.setTop (mkF m 86 #[.val (.long pn), .second, .val (.int pd), .val (.int pk), .val (.int v7), .val (.long v31), .second, .val (.ref b33_fr), .val (.int v68), .unset, .unset] [(.long (10 : Int64)), (.long (v31 / (pwF ((v7 - (1 : Int32)) - v68))))]))
      refine Go.st (fun _ k => XS.lrem X59.here hx rfl (hb hby at_86) rfl (by decide) (own_lrem k)) ?_
      show Go p.tables e below _ (T59.setTop (mkF m 87 #[.val (.long pn), .second, .val (.int pd), .val (.int pk), .val (.int v7), .val (.long v31), .second, .val (.ref b33_fr), .val (.int v68), .unset, .unset] [(.long ((v31 / (pwF ((v7 - (1 : Int32)) - v68))) % (10 : Int64)))]))
      refine Go.st (fun _ k => XS.lstore X59.here hx rfl (hb hby at_87) rfl (l' := #[.val (.long pn), .second, .val (.int pd), .val (.int pk), .val (.int v7), .val (.long v31), .second, .val (.ref b33_fr), .val (.int v68), .val (.long ((v31 / (pwF ((v7 - (1 : Int32)) - v68))) % (10 : Int64))), .second]) rfl k) ?_
      show Go p.tables e below _ (T59.setTop (mkF m 89 #[.val (.long pn), .second, .val (.int pd), .val (.int pk), .val (.int v7), .val (.long v31), .second, .val (.ref b33_fr), .val (.int v68), .val (.long ((v31 / (pwF ((v7 - (1 : Int32)) - v68))) % (10 : Int64))), .second] []))
      generalize hqv87 : ((v31 / (pwF ((v7 - (1 : Int32)) - v68))) % (10 : Int64)) = v87
      show Go p.tables e below _ (T59.setTop (mkF m 89 #[.val (.long pn), .second, .val (.int pd), .val (.int pk), .val (.int v7), .val (.long v31), .second, .val (.ref b33_fr), .val (.int v68), .val (.long v87), .second] []))
      refine Go.st (fun _ k => XS.aload X59.here hx rfl (hb hby at_89) rfl rfl k) ?_
      show Go p.tables e below _ (T59.setTop (mkF m 91 #[.val (.long pn), .second, .val (.int pd), .val (.int pk), .val (.int v7), .val (.long v31), .second, .val (.ref b33_fr), .val (.int v68), .val (.long v87), .second] [(.ref b33_fr)]))
      refine Go.st (fun _ k => XS.iload X59.here hx rfl (hb hby at_91) rfl k) ?_
      show Go p.tables e below _ (T59.setTop (mkF m 93 #[.val (.long pn), .second, .val (.int pd), .val (.int pk), .val (.int v7), .val (.long v31), .second, .val (.ref b33_fr), .val (.int v68), .val (.long v87), .second] [(.int v68), (.ref b33_fr)]))
      obtain ⟨cq80, kq80, q80a, q80b, q80c⟩ := isOf hZ (rfl : T59.heap = T59.heap) F76
      obtain ⟨_, _, ⟨T80, L80, k80, n80⟩, -, X80, ⟨Lc80, hQ80, l80, y80, z80⟩, st80⟩ := X59.virtualBack hx (y := (⟨"java/lang/String", "charAt", "(I)C"⟩ : MethodName)) (z := (⟨"java/lang/String", "charAt", "(I)C"⟩ : MethodName)) hown (mvT hZ (hw _ (List.mem_of_getElem? (i := 94) rfl))) (mvT hZ (hw _ (List.mem_of_getElem? (i := 95) rfl))) (notFace_of_selects (args := #[]) (mvT hZ (hw _ (List.mem_of_getElem? (i := 97) rfl)))) (mvT hZ (hw _ (List.mem_of_getElem? (i := 97) rfl))) (mvT hZ (hw _ (List.mem_of_getElem? (i := 96) rfl))) (by decide) (backOf (W := 0) (rm_schar l Z a0 hw [] b33_fr v68 b33_fb x33_kb v7 (putD z19 0 v7.toNatClampNeg v31) G1 Gf T59.heap n0 Z60 F76 F77 F78 F79 F74 (by show ¬ (G1 = (0 : Int32)); exact P5) F75 (by show Gf.isRef = true; exact rG3) (by show 0 ≤ v68.toInt ∧ v68.toInt < v7.toInt; exact hd68)) hZ (hw _ (List.mem_of_getElem? (i := 98) rfl)) (hw _ (List.mem_of_getElem? (i := 34) rfl)) (by decide) (by decide)) q80a q80c (g := (mkF m 93 #[.val (.long pn), .second, .val (.int pd), .val (.int pk), .val (.int v7), .val (.long v31), .second, .val (.ref b33_fr), .val (.int v68), .val (.long v87), .second] [(.int v68), (.ref b33_fr)])) rfl (by rw [hml]; rfl) (Steps.refl _) (argsL := [(.int v68)]) (rest := []) (lenOf pd_14 rfl) rfl (by show 2 * 0 + _ ≤ _; exact Nat.le_of_eq rfl) (hb hby at_93) (fun _ _ => ⟨rfl, (rfl : T59.heap = T59.heap), (by decide : 5 + 0 ≤ _), (by decide : 80 + 0 ≤ _)⟩)
      dsimp only [Pt.U, Pt.locs, Pt.cells, Pt.slots] at X80 l80 y80 z80 st80 hQ80
      rw [l80, y80, z80] at X80
      obtain ⟨rfl, N80q, e80⟩ := hQ80
      have N80 := Fr.app N59 N80q
      refine Go.st (fun _ k => st80.trans k) ?_
      show Go p.tables e below _ (T80.setTop (mkF m 96 #[.val (.long pn), .second, .val (.int pd), .val (.int pk), .val (.int v7), .val (.long v31), .second, .val (.ref b33_fr), .val (.int v68), .val (.long v87), .second] [(.int (cuF ((putD z19 0 v7.toNatClampNeg v31).getD v68.toNatClampNeg 0)))]))
      refine Go.st (fun _ k => X80.ldc2Long hx hown (mvT hZ (hw _ (List.mem_of_getElem? (i := 116) rfl))) (g := (mkF m 96 #[.val (.long pn), .second, .val (.int pd), .val (.int pk), .val (.int v7), .val (.long v31), .second, .val (.ref b33_fr), .val (.int v68), .val (.long v87), .second] [(.int (cuF ((putD z19 0 v7.toNatClampNeg v31).getD v68.toNatClampNeg 0)))])) rfl (hb hby at_96) _ k) ?_
      show Go p.tables e below _ (T80.setTop (mkF m 99 #[.val (.long pn), .second, .val (.int pd), .val (.int pk), .val (.int v7), .val (.long v31), .second, .val (.ref b33_fr), .val (.int v68), .val (.long v87), .second] [(.long (48 : Int64)), (.int (cuF ((putD z19 0 v7.toNatClampNeg v31).getD v68.toNatClampNeg 0)))]))
      refine Go.st (fun _ k => XS.lload X80.here hx rfl (hb hby at_99) rfl k) ?_
      show Go p.tables e below _ (T80.setTop (mkF m 101 #[.val (.long pn), .second, .val (.int pd), .val (.int pk), .val (.int v7), .val (.long v31), .second, .val (.ref b33_fr), .val (.int v68), .val (.long v87), .second] [(.long v87), (.long (48 : Int64)), (.int (cuF ((putD z19 0 v7.toNatClampNeg v31).getD v68.toNatClampNeg 0)))]))
      refine Go.st (fun _ k => XS.ladd X80.here hx rfl (hb hby at_101) rfl k) ?_
      show Go p.tables e below _ (T80.setTop (mkF m 102 #[.val (.long pn), .second, .val (.int pd), .val (.int pk), .val (.int v7), .val (.long v31), .second, .val (.ref b33_fr), .val (.int v68), .val (.long v87), .second] [(.long ((48 : Int64) + v87)), (.int (cuF ((putD z19 0 v7.toNatClampNeg v31).getD v68.toNatClampNeg 0)))]))
      refine Go.st (fun _ k => XS.l2i X80.here hx rfl (hb hby at_102) rfl k) ?_
      show Go p.tables e below _ (T80.setTop (mkF m 103 #[.val (.long pn), .second, .val (.int pd), .val (.int pk), .val (.int v7), .val (.long v31), .second, .val (.ref b33_fr), .val (.int v68), .val (.long v87), .second] [(.int (((48 : Int64) + v87).toInt32)), (.int (cuF ((putD z19 0 v7.toNatClampNeg v31).getD v68.toNatClampNeg 0)))]))
      refine Go.st (fun _ k => XS.i2c X80.here hx rfl (hb hby at_103) rfl k) ?_
      show Go p.tables e below _ (T80.setTop (mkF m 104 #[.val (.long pn), .second, .val (.int pd), .val (.int pk), .val (.int v7), .val (.long v31), .second, .val (.ref b33_fr), .val (.int v68), .val (.long v87), .second] [(.int ((((48 : Int64) + v87).toInt32).toUInt32.toUInt16.toUInt32.toInt32)), (.int (cuF ((putD z19 0 v7.toNatClampNeg v31).getD v68.toNatClampNeg 0)))]))
      have hc104 : (cuF ((putD z19 0 v7.toNatClampNeg v31).getD v68.toNatClampNeg 0)) = ((((48 : Int64) + v87).toInt32).toUInt32.toUInt16.toUInt32.toInt32) := own_fin (a := ((v7 - (1 : Int32)) - v68)) hn31.1 (by omega) (by omega) (by omega) hqv87
      have lt_4864 : (48 : Int64).toInt = 48 := by decide
      have hi104 : ((cuF ((putD z19 0 v7.toNatClampNeg v31).getD v68.toNatClampNeg 0))).toInt = (((((48 : Int64) + v87).toInt32).toUInt32.toUInt16.toUInt32.toInt32)).toInt := Int32.toInt_inj.symm.mp hc104
      refine Go.st (fun _ k => XS.icmpNo X80.here hx rfl (hb hby at_104) rfl (Jvm.Free.XT.ii_ne_f hc104) k) ?_
      show Go p.tables e below _ (T80.setTop (mkF m 107 #[.val (.long pn), .second, .val (.int pd), .val (.int pk), .val (.int v7), .val (.long v31), .second, .val (.ref b33_fr), .val (.int v68), .val (.long v87), .second] []))
      refine Go.st (fun _ k => XS.iconst X80.here hx rfl (hb hby at_107) k) ?_
      show Go p.tables e below _ (T80.setTop (mkF m 108 #[.val (.long pn), .second, .val (.int pd), .val (.int pk), .val (.int v7), .val (.long v31), .second, .val (.ref b33_fr), .val (.int v68), .val (.long v87), .second] [(.int (1 : Int32))]))
      refine Go.st (fun _ k => XS.goto X80.here hx rfl (pc0 := 108) (pc' := 112) rfl (hb hby at_108) (by decide) (by decide) k) ?_
      show Go p.tables e below _ (T80.setTop (mkF m 112 #[.val (.long pn), .second, .val (.int pd), .val (.int pk), .val (.int v7), .val (.long v31), .second, .val (.ref b33_fr), .val (.int v68), .val (.long v87), .second] [(.int (1 : Int32))]))
      subst hG
      obtain ⟨fs, hr, hrun, hended, hend⟩ := X80.leaveW (s := s) hS0 (by rw [e80]; exact hk63) (v := some (.int (nar .boolean (1 : Int32)))) (fun h => by rw [Bd.returns] at h; cases h)
      refine ⟨_, _, ?_, hrun, hended, _, _, rfl, ?_, ?_, hend.1, hend.2.1, hend.2.2.1, hend.2.2.2.mono (by decide) (by decide)⟩
      · exact retN X80 hx (t := .boolean) Bd.returns (by simp) (hb hby at_112) hr
      · show Q_law Z pn pd pk u8 iso cs G1 Gf h0 n0 _ T80.heap _
        rw [e80]
        exact ⟨rfl, N80, K66⟩
      · show CHr Z consts_1 s.vm s.heap T80.vm T80.heap
        rw [hh, e80]
        exact (CT62).trans (CHv.at X80 hZ hEL CR61.1)
  · skip
    have lt_1932 : (19 : Int32).toInt = 19 := by decide
    have hi20 : ¬ ((v7).toInt < ((19 : Int32)).toInt) := fun z => hc20 (Int32.lt_iff_toInt_lt.mpr z)
    refine Go.st (fun _ k => XS.icmpYes X0.here hx rfl (pc0 := 20) (pc' := 33) rfl (hb hby at_20) rfl (Jvm.Free.XT.ii_ge_t hc20) (by decide) (by decide) k) ?_
    show Go p.tables e below _ (s₁.setTop (mkF m 33 #[.val (.long pn), .second, .val (.int pd), .val (.int pk), .val (.int v7), .val (.long v14), .second, .unset, .unset, .unset, .unset] []))
    show Go p.tables e below _ (s₁.setTop (mkF m 33 #[.val (.long pn), .second, .val (.int pd), .val (.int pk), .val (.int v7), .val (.long v14), .second, .unset, .unset, .unset, .unset] []))
    refine Go.st (fun _ k => XS.lload X0.here hx rfl (hb hby at_33) rfl k) ?_
    show Go p.tables e below _ (s₁.setTop (mkF m 35 #[.val (.long pn), .second, .val (.int pd), .val (.int pk), .val (.int v7), .val (.long v14), .second, .unset, .unset, .unset, .unset] [(.long v14)]))
    refine Go.st (fun _ k => XS.iload X0.here hx rfl (hb hby at_35) rfl k) ?_
    show Go p.tables e below _ (s₁.setTop (mkF m 37 #[.val (.long pn), .second, .val (.int pd), .val (.int pk), .val (.int v7), .val (.long v14), .second, .unset, .unset, .unset, .unset] [(.int v7), (.long v14)]))
    obtain ⟨_, _, ⟨T81, L81, k81, n81⟩, -, X81, ⟨Lc81, hQ81, l81, y81, z81⟩, st81⟩ := Jvm.LawKit.callS X0 hx (y := (⟨"com/example/clotho/clotho/server/store/Keys", "numbered", "(JI)Ljava/lang/String;"⟩ : MethodName)) hown (mvT hZ (hw _ (List.mem_of_getElem? (i := 25) rfl))) (mvT hZ (hw _ (List.mem_of_getElem? (i := 26) rfl))) (mvT hZ (hw _ (List.mem_of_getElem? (i := 27) rfl))) (mvT hZ (hw _ (List.mem_of_getElem? (i := 28) rfl))) (by decide) (backOf (W := 0) (rm_num1 l Z a0 hw [] v14 v7 u8 iso cs G1 h0 n0 Z0 Pf0 Pf1 Pf2 Pf3 Pf4 Pf5 Pf6 Pf7 (by show ¬ (G1 = (0 : Int32)); exact P5) (by show 1 ≤ v7.toInt ∧ v7.toInt ≤ 19; exact (by omega)) (by show 0 ≤ v14.toInt ∧ v14.toInt < 10 ^ v7.toNatClampNeg; exact ⟨hn14, own_big (by omega)⟩)) hZ (hw _ (List.mem_of_getElem? (i := 28) rfl)) (hw _ (List.mem_of_getElem? (i := 27) rfl)) (by decide) (by decide)) (g := (mkF m 37 #[.val (.long pn), .second, .val (.int pd), .val (.int pk), .val (.int v7), .val (.long v14), .second, .unset, .unset, .unset, .unset] [(.int v7), (.long v14)])) rfl (by rw [hml]; rfl) (argsL := [(.long v14), (.int v7)]) (rest := []) (lenOf pd_12 rfl) rfl (by show 2 * 0 + _ ≤ _; exact Nat.le_of_eq rfl) (hb hby at_37) (fun _ _ => ⟨rfl, e0, (by decide : 0 + 3 ≤ _), (by decide : 0 + 42 ≤ _)⟩)
    dsimp only [Pt.U, Pt.locs, Pt.cells, Pt.slots] at X81 l81 y81 z81 st81 hQ81
    rw [l81, y81, z81] at X81
    obtain ⟨b81_fr, b81_fb, x81_kb, rfl, N81q, K81q, g81_fr, s81_fr, g81_fb, s81_fb, Fq81_0, Fq81_1, Fq81_2, Fq81_3⟩ := hQ81
    have N81 := Fr.app N0 N81q
    refine Go.st st81 ?_
    have ne82 : u8 ≠ b81_fr := Nat.ne_of_lt (Nat.lt_of_lt_of_le Pf1.lt s81_fr)
    have ne83 : iso ≠ b81_fr := Nat.ne_of_lt (Nat.lt_of_lt_of_le Pf3.lt s81_fr)
    have ne84 : cs ≠ b81_fr := Nat.ne_of_lt (Nat.lt_of_lt_of_le Pf5.lt s81_fr)
    have sz85 : h0.size ≤ b81_fr := Nat.le_trans K0.1 s81_fr
    have ne86 : u8 ≠ b81_fb := Nat.ne_of_lt (Nat.lt_of_lt_of_le Pf1.lt s81_fb)
    have ne87 : iso ≠ b81_fb := Nat.ne_of_lt (Nat.lt_of_lt_of_le Pf3.lt s81_fb)
    have ne88 : cs ≠ b81_fb := Nat.ne_of_lt (Nat.lt_of_lt_of_le Pf5.lt s81_fb)
    have sz89 : h0.size ≤ b81_fb := Nat.le_trans K0.1 s81_fb
    have Z90 : n0 ≤ T81.heap.size := Nat.le_trans Z0 K81q.1
    have CR91 : CHr Z consts_1 s.vm h0 s.vm T81.heap := CHr.keep K81q sf0 hCH
    have CT92 := hR0.trans CR91
    have hk93 := Nat.le_trans hk0 CR91.2.1
    have Sf94 : Safe Z consts_1 s.vm T81.heap b81_fr := Safe.keep K81q sf0 hCH (Safe.new s81_fr)
    have Sf95 : Safe Z consts_1 s.vm T81.heap b81_fb := Safe.keep K81q sf0 hCH (Safe.new s81_fb)
    have K96 : Keep h0 T81.heap [] := K0.trans K81q (fun z hz => absurd hz List.not_mem_nil)
    have F97 : Sta Z T81.heap "sun/nio/cs/UTF_8" "INSTANCE" "Lsun/nio/cs/UTF_8;" (.ref u8) := own_stakeep Pf0 K81q
    have F98 : Exa Z T81.heap u8 "sun/nio/cs/UTF_8" := Pf1.keep K81q
    have F99 : Sta Z T81.heap "sun/nio/cs/ISO_8859_1" "INSTANCE" "Lsun/nio/cs/ISO_8859_1;" (.ref iso) := own_stakeep Pf2 K81q
    have F100 : Exa Z T81.heap iso "sun/nio/cs/ISO_8859_1" := Pf3.keep K81q
    have F101 : Sta Z T81.heap "sun/nio/cs/US_ASCII" "INSTANCE" "Lsun/nio/cs/US_ASCII;" (.ref cs) := own_stakeep Pf4 K81q
    have F102 : Exa Z T81.heap cs "sun/nio/cs/US_ASCII" := Pf5.keep K81q
    have F103 : Sta Z T81.heap "java/nio/charset/StandardCharsets" "US_ASCII" "Ljava/nio/charset/Charset;" (.ref cs) := own_stakeep Pf6 K81q
    have F104 : Sta Z T81.heap "java/lang/String" "COMPACT_STRINGS" "Z" (.int G1) := own_stakeep Pf7 K81q
    have F105 : Sta Z T81.heap "jdk/internal/util/Preconditions" "SIOOBE_FORMATTER" "Ljava/util/function/BiFunction;" Gf := own_stakeep Pf9 K81q
    show Go p.tables e below _ (T81.setTop (mkF m 40 #[.val (.long pn), .second, .val (.int pd), .val (.int pk), .val (.int v7), .val (.long v14), .second, .unset, .unset, .unset, .unset] [(.ref b81_fr)]))
    refine Go.st (fun _ k => XS.astore X81.here hx rfl (hb hby at_40) rfl rfl (l' := #[.val (.long pn), .second, .val (.int pd), .val (.int pk), .val (.int v7), .val (.long v14), .second, .val (.ref b81_fr), .unset, .unset, .unset]) rfl k) ?_
    show Go p.tables e below _ (T81.setTop (mkF m 42 #[.val (.long pn), .second, .val (.int pd), .val (.int pk), .val (.int v7), .val (.long v14), .second, .val (.ref b81_fr), .unset, .unset, .unset] []))
    show Go p.tables e below _ (T81.setTop (mkF m 42 #[.val (.long pn), .second, .val (.int pd), .val (.int pk), .val (.int v7), .val (.long v14), .second, .val (.ref b81_fr), .unset, .unset, .unset] []))
    refine Go.st (fun _ k => XS.aload X81.here hx rfl (hb hby at_42) rfl rfl k) ?_
    show Go p.tables e below _ (T81.setTop (mkF m 44 #[.val (.long pn), .second, .val (.int pd), .val (.int pk), .val (.int v7), .val (.long v14), .second, .val (.ref b81_fr), .unset, .unset, .unset] [(.ref b81_fr)]))
    obtain ⟨cq106, kq106, q106a, q106b, q106c⟩ := isOf hZ (rfl : T81.heap = T81.heap) Fq81_0
    obtain ⟨_, _, ⟨T106, L106, k106, n106⟩, -, X106, ⟨Lc106, hQ106, l106, y106, z106⟩, st106⟩ := X81.virtualBack hx (y := (⟨"java/lang/String", "length", "()I"⟩ : MethodName)) (z := (⟨"java/lang/String", "length", "()I"⟩ : MethodName)) hown (mvT hZ (hw _ (List.mem_of_getElem? (i := 84) rfl))) (mvT hZ (hw _ (List.mem_of_getElem? (i := 85) rfl))) (notFace_of_selects (args := #[]) (mvT hZ (hw _ (List.mem_of_getElem? (i := 87) rfl)))) (mvT hZ (hw _ (List.mem_of_getElem? (i := 87) rfl))) (mvT hZ (hw _ (List.mem_of_getElem? (i := 86) rfl))) (by decide) (backOf (W := 0) (rm_slen l Z a0 hw [] b81_fr b81_fb x81_kb v7 (putD z19 0 v7.toNatClampNeg v14) G1 T81.heap n0 Z90 Fq81_0 Fq81_1 Fq81_2 Fq81_3 F104 (by show ¬ (G1 = (0 : Int32)); exact P5)) hZ (hw _ (List.mem_of_getElem? (i := 88) rfl)) (hw _ (List.mem_of_getElem? (i := 34) rfl)) (by decide) (by decide)) q106a q106c (g := (mkF m 44 #[.val (.long pn), .second, .val (.int pd), .val (.int pk), .val (.int v7), .val (.long v14), .second, .val (.ref b81_fr), .unset, .unset, .unset] [(.ref b81_fr)])) rfl (by rw [hml]; rfl) (Steps.refl _) (argsL := []) (rest := []) (lenOf pd_13 rfl) rfl (by show 2 * 0 + _ ≤ _; exact Nat.le_of_eq rfl) (hb hby at_44) (fun _ _ => ⟨rfl, (rfl : T81.heap = T81.heap), (by decide : 3 + 0 ≤ _), (by decide : 42 + 0 ≤ _)⟩)
    dsimp only [Pt.U, Pt.locs, Pt.cells, Pt.slots] at X106 l106 y106 z106 st106 hQ106
    rw [l106, y106, z106] at X106
    obtain ⟨rfl, N106q, e106⟩ := hQ106
    have N106 := Fr.app N81 N106q
    refine Go.st (fun _ k => st106.trans k) ?_
    show Go p.tables e below _ (T106.setTop (mkF m 47 #[.val (.long pn), .second, .val (.int pd), .val (.int pk), .val (.int v7), .val (.long v14), .second, .val (.ref b81_fr), .unset, .unset, .unset] [(.int v7)]))
    refine Go.st (fun _ k => XS.iload X106.here hx rfl (hb hby at_47) rfl k) ?_
    show Go p.tables e below _ (T106.setTop (mkF m 49 #[.val (.long pn), .second, .val (.int pd), .val (.int pk), .val (.int v7), .val (.long v14), .second, .val (.ref b81_fr), .unset, .unset, .unset] [(.int v7), (.int v7)]))
    have hc49 : v7 = v7 := rfl
    have hi49 : (v7).toInt = (v7).toInt := Int32.toInt_inj.symm.mp hc49
    refine Go.st (fun _ k => XS.icmpYes X106.here hx rfl (pc0 := 49) (pc' := 54) rfl (hb hby at_49) rfl (Jvm.Free.XT.ii_eq_t hc49) (by decide) (by decide) k) ?_
    show Go p.tables e below _ (T106.setTop (mkF m 54 #[.val (.long pn), .second, .val (.int pd), .val (.int pk), .val (.int v7), .val (.long v14), .second, .val (.ref b81_fr), .unset, .unset, .unset] []))
    refine Go.st (fun _ k => XS.iload X106.here hx rfl (hb hby at_54) rfl k) ?_
    show Go p.tables e below _ (T106.setTop (mkF m 56 #[.val (.long pn), .second, .val (.int pd), .val (.int pk), .val (.int v7), .val (.long v14), .second, .val (.ref b81_fr), .unset, .unset, .unset] [(.int v7)]))
    have hc56 : ¬ (v7 = (0 : Int32)) := own_ne32 (by omega)
    have lt_032 : (0 : Int32).toInt = 0 := by decide
    have hi56 : ¬ ((v7).toInt = ((0 : Int32)).toInt) := fun z => hc56 (Int32.toInt_inj.symm.mpr z)
    refine Go.st (fun _ k => XS.ifYes X106.here hx rfl (pc0 := 56) (pc' := 61) rfl (hb hby at_56) rfl (Jvm.Free.XT.i0_ne_t hc56) (by decide) (by decide) k) ?_
    show Go p.tables e below _ (T106.setTop (mkF m 61 #[.val (.long pn), .second, .val (.int pd), .val (.int pk), .val (.int v7), .val (.long v14), .second, .val (.ref b81_fr), .unset, .unset, .unset] []))
    refine Go.st (fun _ k => XS.iloadN X106.here hx rfl (hb hby at_61) rfl k) ?_
    show Go p.tables e below _ (T106.setTop (mkF m 62 #[.val (.long pn), .second, .val (.int pd), .val (.int pk), .val (.int v7), .val (.long v14), .second, .val (.ref b81_fr), .unset, .unset, .unset] [(.int pk)]))
    refine Go.st (fun _ k => X106.ldcInt hx hown (mvT hZ (hw _ (List.mem_of_getElem? (i := 0) rfl))) (g := (mkF m 62 #[.val (.long pn), .second, .val (.int pd), .val (.int pk), .val (.int v7), .val (.long v14), .second, .val (.ref b81_fr), .unset, .unset, .unset] [(.int pk)])) rfl (hb hby at_62) _ k) ?_
    show Go p.tables e below _ (T106.setTop (mkF m 64 #[.val (.long pn), .second, .val (.int pd), .val (.int pk), .val (.int v7), .val (.long v14), .second, .val (.ref b81_fr), .unset, .unset, .unset] [(.int (2147483647 : Int32)), (.int pk)]))
    refine Go.st (fun _ k => XS.iand X106.here hx rfl (hb hby at_64) rfl k) ?_
    show Go p.tables e below _ (T106.setTop (mkF m 65 #[.val (.long pn), .second, .val (.int pd), .val (.int pk), .val (.int v7), .val (.long v14), .second, .val (.ref b81_fr), .unset, .unset, .unset] [(.int (pk &&& (2147483647 : Int32)))]))
    refine Go.st (fun _ k => XS.iload X106.here hx rfl (hb hby at_65) rfl k) ?_
    show Go p.tables e below _ (T106.setTop (mkF m 67 #[.val (.long pn), .second, .val (.int pd), .val (.int pk), .val (.int v7), .val (.long v14), .second, .val (.ref b81_fr), .unset, .unset, .unset] [(.int v7), (.int (pk &&& (2147483647 : Int32)))]))
    refine Go.st (fun _ k => iremM X106 hx rfl (hb hby at_67) rfl (own_ne32 (by omega)) k) ?_
    show Go p.tables e below _ (T106.setTop (mkF m 68 #[.val (.long pn), .second, .val (.int pd), .val (.int pk), .val (.int v7), .val (.long v14), .second, .val (.ref b81_fr), .unset, .unset, .unset] [(.int ((pk &&& (2147483647 : Int32)) % v7))]))
    refine Go.st (fun _ k => XS.istore X106.here hx rfl (hb hby at_68) rfl (l' := #[.val (.long pn), .second, .val (.int pd), .val (.int pk), .val (.int v7), .val (.long v14), .second, .val (.ref b81_fr), .val (.int ((pk &&& (2147483647 : Int32)) % v7)), .unset, .unset]) rfl k) ?_
    show Go p.tables e below _ (T106.setTop (mkF m 70 #[.val (.long pn), .second, .val (.int pd), .val (.int pk), .val (.int v7), .val (.long v14), .second, .val (.ref b81_fr), .val (.int ((pk &&& (2147483647 : Int32)) % v7)), .unset, .unset] []))
    generalize hqv68 : ((pk &&& (2147483647 : Int32)) % v7) = v68
    show Go p.tables e below _ (T106.setTop (mkF m 70 #[.val (.long pn), .second, .val (.int pd), .val (.int pk), .val (.int v7), .val (.long v14), .second, .val (.ref b81_fr), .val (.int v68), .unset, .unset] []))
    have hd68 := own_idx (by omega) hqv68
    have nat68 := nat_of (j := v68) (own_nlt32 (by omega))
    show Go p.tables e below _ (T106.setTop (mkF m 70 #[.val (.long pn), .second, .val (.int pd), .val (.int pk), .val (.int v7), .val (.long v14), .second, .val (.ref b81_fr), .val (.int v68), .unset, .unset] []))
    refine Go.st (fun _ k => XS.lload X106.here hx rfl (hb hby at_70) rfl k) ?_
    show Go p.tables e below _ (T106.setTop (mkF m 72 #[.val (.long pn), .second, .val (.int pd), .val (.int pk), .val (.int v7), .val (.long v14), .second, .val (.ref b81_fr), .val (.int v68), .unset, .unset] [(.long v14)]))
    refine Go.st (fun _ k => XS.iload X106.here hx rfl (hb hby at_72) rfl k) ?_
    show Go p.tables e below _ (T106.setTop (mkF m 74 #[.val (.long pn), .second, .val (.int pd), .val (.int pk), .val (.int v7), .val (.long v14), .second, .val (.ref b81_fr), .val (.int v68), .unset, .unset] [(.int v7), (.long v14)]))
    refine Go.st (fun _ k => XS.iconst X106.here hx rfl (hb hby at_74) k) ?_
    show Go p.tables e below _ (T106.setTop (mkF m 75 #[.val (.long pn), .second, .val (.int pd), .val (.int pk), .val (.int v7), .val (.long v14), .second, .val (.ref b81_fr), .val (.int v68), .unset, .unset] [(.int (1 : Int32)), (.int v7), (.long v14)]))
    refine Go.st (fun _ k => XS.isub X106.here hx rfl (hb hby at_75) rfl k) ?_
    show Go p.tables e below _ (T106.setTop (mkF m 76 #[.val (.long pn), .second, .val (.int pd), .val (.int pk), .val (.int v7), .val (.long v14), .second, .val (.ref b81_fr), .val (.int v68), .unset, .unset] [(.int (v7 - (1 : Int32))), (.long v14)]))
    refine Go.st (fun _ k => XS.iload X106.here hx rfl (hb hby at_76) rfl k) ?_
    show Go p.tables e below _ (T106.setTop (mkF m 78 #[.val (.long pn), .second, .val (.int pd), .val (.int pk), .val (.int v7), .val (.long v14), .second, .val (.ref b81_fr), .val (.int v68), .unset, .unset] [(.int v68), (.int (v7 - (1 : Int32))), (.long v14)]))
    refine Go.st (fun _ k => XS.isub X106.here hx rfl (hb hby at_78) rfl k) ?_
    show Go p.tables e below _ (T106.setTop (mkF m 79 #[.val (.long pn), .second, .val (.int pd), .val (.int pk), .val (.int v7), .val (.long v14), .second, .val (.ref b81_fr), .val (.int v68), .unset, .unset] [(.int ((v7 - (1 : Int32)) - v68)), (.long v14)]))
    have s79 : ((v7 - (1 : Int32)) - v68).toInt = v7.toInt - 1 - v68.toInt := by rw [Jvm.Kit.i32_sub (by rw [Jvm.Kit.i32_sub (by omega) (by omega)]; omega) (by rw [Jvm.Kit.i32_sub (by omega) (by omega)]; omega), Jvm.Kit.i32_sub (by omega) (by omega), i_1]
    have nat79 := nat_of (j := ((v7 - (1 : Int32)) - v68)) (own_nlt32 (by omega))
    show Go p.tables e below _ (T106.setTop (mkF m 79 #[.val (.long pn), .second, .val (.int pd), .val (.int pk), .val (.int v7), .val (.long v14), .second, .val (.ref b81_fr), .val (.int v68), .unset, .unset] [(.int ((v7 - (1 : Int32)) - v68)), (.long v14)]))
    obtain ⟨_, _, ⟨T107, L107, k107, n107⟩, -, X107, ⟨Lc107, hQ107, l107, y107, z107⟩, st107⟩ := Jvm.LawKit.callS X106 hx (y := (⟨"com/example/clotho/clotho/server/store/KeysNumberedPinLaw", "pow10", "(I)J"⟩ : MethodName)) hown (mvT hZ (hw _ (List.mem_of_getElem? (i := 2) rfl))) (mvT hZ (hw _ (List.mem_of_getElem? (i := 3) rfl))) (mvT hZ (hw _ (List.mem_of_getElem? (i := 4) rfl))) (mvT hZ (hw _ (List.mem_of_getElem? (i := 5) rfl))) (by decide) (backOf (W := 2) (rm_pow10 l Z a0 hw [] ((v7 - (1 : Int32)) - v68) T81.heap n0 Z90 (by show 0 ≤ ((v7 - (1 : Int32)) - v68).toInt ∧ ((v7 - (1 : Int32)) - v68).toInt < 19; exact (by omega))) hZ (hw _ (List.mem_of_getElem? (i := 5) rfl)) (hw _ (List.mem_of_getElem? (i := 4) rfl)) (by decide) (by decide)) (g := (mkF m 79 #[.val (.long pn), .second, .val (.int pd), .val (.int pk), .val (.int v7), .val (.long v14), .second, .val (.ref b81_fr), .val (.int v68), .unset, .unset] [(.int ((v7 - (1 : Int32)) - v68)), (.long v14)])) rfl (by rw [hml]; rfl) (argsL := [(.int ((v7 - (1 : Int32)) - v68))]) (rest := [(.long v14)]) (lenOf pd_11 rfl) rfl (by show 2 * 0 + _ ≤ _; exact Nat.le_of_eq rfl) (hb hby at_79) (fun _ _ => ⟨rfl, e106, (by decide : 3 + 1 ≤ _), (by decide : 42 + 19 ≤ _)⟩)
    dsimp only [Pt.U, Pt.locs, Pt.cells, Pt.slots] at X107 l107 y107 z107 st107 hQ107
    rw [l107, y107, z107] at X107
    obtain ⟨rfl, N107q, K107q⟩ := hQ107
    have N107 := Fr.app N106 N107q
    refine Go.st st107 ?_
    have Z108 : n0 ≤ T107.heap.size := Nat.le_trans Z90 K107q.1
    have CR109 : CHr Z consts_1 s.vm T81.heap s.vm T107.heap := CHr.keep K107q sf0 CR91.1
    have CT110 := CT92.trans CR109
    have hk111 := Nat.le_trans hk93 CR109.2.1
    have Sf112 : Safe Z consts_1 s.vm T107.heap b81_fr := CR109.safe Fq81_0.lt Sf94
    have Sf113 : Safe Z consts_1 s.vm T107.heap b81_fb := CR109.safe Fq81_3.lt Sf95
    have K114 : Keep h0 T107.heap [] := K96.trans K107q (fun z hz => absurd hz List.not_mem_nil)
    have F115 : Sta Z T107.heap "sun/nio/cs/UTF_8" "INSTANCE" "Lsun/nio/cs/UTF_8;" (.ref u8) := own_stakeep F97 K107q
    have F116 : Exa Z T107.heap u8 "sun/nio/cs/UTF_8" := F98.keep K107q
    have F117 : Sta Z T107.heap "sun/nio/cs/ISO_8859_1" "INSTANCE" "Lsun/nio/cs/ISO_8859_1;" (.ref iso) := own_stakeep F99 K107q
    have F118 : Exa Z T107.heap iso "sun/nio/cs/ISO_8859_1" := F100.keep K107q
    have F119 : Sta Z T107.heap "sun/nio/cs/US_ASCII" "INSTANCE" "Lsun/nio/cs/US_ASCII;" (.ref cs) := own_stakeep F101 K107q
    have F120 : Exa Z T107.heap cs "sun/nio/cs/US_ASCII" := F102.keep K107q
    have F121 : Sta Z T107.heap "java/nio/charset/StandardCharsets" "US_ASCII" "Ljava/nio/charset/Charset;" (.ref cs) := own_stakeep F103 K107q
    have F122 : Sta Z T107.heap "java/lang/String" "COMPACT_STRINGS" "Z" (.int G1) := own_stakeep F104 K107q
    have F123 : Sta Z T107.heap "jdk/internal/util/Preconditions" "SIOOBE_FORMATTER" "Ljava/util/function/BiFunction;" Gf := own_stakeep F105 K107q
    have F124 : Exa Z T107.heap b81_fr "java/lang/String" := Fq81_0.keep K107q
    have F125 : Fld Z T107.heap b81_fr "java/lang/String" "coder" "B" (.int (0 : Int32)) := Fq81_1.keep K107q List.not_mem_nil
    have F126 : Fld Z T107.heap b81_fr "java/lang/String" "value" "[B" (.ref b81_fb) := Fq81_2.keep K107q List.not_mem_nil
    have F127 : Arv Z T107.heap b81_fb x81_kb .byte v7 (bvs (putD z19 0 v7.toNatClampNeg v14)) (.int (0 : Int32)) := Fq81_3.keep K107q List.not_mem_nil
    show Go p.tables e below _ (T107.setTop (mkF m 82 #[.val (.long pn), .second, .val (.int pd), .val (.int pk), .val (.int v7), .val (.long v14), .second, .val (.ref b81_fr), .val (.int v68), .unset, .unset] [(.long (pwF ((v7 - (1 : Int32)) - v68))), (.long v14)]))
    refine Go.st (fun _ k => XS.ldiv X107.here hx rfl (hb hby at_82) rfl (own_pwnz (by omega)) k) ?_
    show Go p.tables e below _ (T107.setTop (mkF m 83 #[.val (.long pn), .second, .val (.int pd), .val (.int pk), .val (.int v7), .val (.long v14), .second, .val (.ref b81_fr), .val (.int v68), .unset, .unset] [(.long (v14 / (pwF ((v7 - (1 : Int32)) - v68))))]))
    refine Go.st (fun _ k => X107.ldc2Long hx hown (mvT hZ (hw _ (List.mem_of_getElem? (i := 7) rfl))) (g := (mkF m 83 #[.val (.long pn), .second, .val (.int pd), .val (.int pk), .val (.int v7), .val (.long v14), .second, .val (.ref b81_fr), .val (.int v68), .unset, .unset] [(.long (v14 / (pwF ((v7 - (1 : Int32)) - v68))))])) rfl (hb hby at_83) _ k) ?_
    show Go p.tables e below _ (T107.setTop (mkF m 86 #[.val (.long pn), .second, .val (.int pd), .val (.int pk), .val (.int v7), .val (.long v14), .second, .val (.ref b81_fr), .val (.int v68), .unset, .unset] [(.long (10 : Int64)), (.long (v14 / (pwF ((v7 - (1 : Int32)) - v68))))]))
    refine Go.st (fun _ k => XS.lrem X107.here hx rfl (hb hby at_86) rfl (by decide) (own_lrem k)) ?_
    show Go p.tables e below _ (T107.setTop (mkF m 87 #[.val (.long pn), .second, .val (.int pd), .val (.int pk), .val (.int v7), .val (.long v14), .second, .val (.ref b81_fr), .val (.int v68), .unset, .unset] [(.long ((v14 / (pwF ((v7 - (1 : Int32)) - v68))) % (10 : Int64)))]))
    refine Go.st (fun _ k => XS.lstore X107.here hx rfl (hb hby at_87) rfl (l' := #[.val (.long pn), .second, .val (.int pd), .val (.int pk), .val (.int v7), .val (.long v14), .second, .val (.ref b81_fr), .val (.int v68), .val (.long ((v14 / (pwF ((v7 - (1 : Int32)) - v68))) % (10 : Int64))), .second]) rfl k) ?_
    show Go p.tables e below _ (T107.setTop (mkF m 89 #[.val (.long pn), .second, .val (.int pd), .val (.int pk), .val (.int v7), .val (.long v14), .second, .val (.ref b81_fr), .val (.int v68), .val (.long ((v14 / (pwF ((v7 - (1 : Int32)) - v68))) % (10 : Int64))), .second] []))
    generalize hqv87 : ((v14 / (pwF ((v7 - (1 : Int32)) - v68))) % (10 : Int64)) = v87
    show Go p.tables e below _ (T107.setTop (mkF m 89 #[.val (.long pn), .second, .val (.int pd), .val (.int pk), .val (.int v7), .val (.long v14), .second, .val (.ref b81_fr), .val (.int v68), .val (.long v87), .second] []))
    refine Go.st (fun _ k => XS.aload X107.here hx rfl (hb hby at_89) rfl rfl k) ?_
    show Go p.tables e below _ (T107.setTop (mkF m 91 #[.val (.long pn), .second, .val (.int pd), .val (.int pk), .val (.int v7), .val (.long v14), .second, .val (.ref b81_fr), .val (.int v68), .val (.long v87), .second] [(.ref b81_fr)]))
    refine Go.st (fun _ k => XS.iload X107.here hx rfl (hb hby at_91) rfl k) ?_
    show Go p.tables e below _ (T107.setTop (mkF m 93 #[.val (.long pn), .second, .val (.int pd), .val (.int pk), .val (.int v7), .val (.long v14), .second, .val (.ref b81_fr), .val (.int v68), .val (.long v87), .second] [(.int v68), (.ref b81_fr)]))
    obtain ⟨cq128, kq128, q128a, q128b, q128c⟩ := isOf hZ (rfl : T107.heap = T107.heap) F124
    obtain ⟨_, _, ⟨T128, L128, k128, n128⟩, -, X128, ⟨Lc128, hQ128, l128, y128, z128⟩, st128⟩ := X107.virtualBack hx (y := (⟨"java/lang/String", "charAt", "(I)C"⟩ : MethodName)) (z := (⟨"java/lang/String", "charAt", "(I)C"⟩ : MethodName)) hown (mvT hZ (hw _ (List.mem_of_getElem? (i := 94) rfl))) (mvT hZ (hw _ (List.mem_of_getElem? (i := 95) rfl))) (notFace_of_selects (args := #[]) (mvT hZ (hw _ (List.mem_of_getElem? (i := 97) rfl)))) (mvT hZ (hw _ (List.mem_of_getElem? (i := 97) rfl))) (mvT hZ (hw _ (List.mem_of_getElem? (i := 96) rfl))) (by decide) (backOf (W := 0) (rm_schar l Z a0 hw [] b81_fr v68 b81_fb x81_kb v7 (putD z19 0 v7.toNatClampNeg v14) G1 Gf T107.heap n0 Z108 F124 F125 F126 F127 F122 (by show ¬ (G1 = (0 : Int32)); exact P5) F123 (by show Gf.isRef = true; exact rG3) (by show 0 ≤ v68.toInt ∧ v68.toInt < v7.toInt; exact hd68)) hZ (hw _ (List.mem_of_getElem? (i := 98) rfl)) (hw _ (List.mem_of_getElem? (i := 34) rfl)) (by decide) (by decide)) q128a q128c (g := (mkF m 93 #[.val (.long pn), .second, .val (.int pd), .val (.int pk), .val (.int v7), .val (.long v14), .second, .val (.ref b81_fr), .val (.int v68), .val (.long v87), .second] [(.int v68), (.ref b81_fr)])) rfl (by rw [hml]; rfl) (Steps.refl _) (argsL := [(.int v68)]) (rest := []) (lenOf pd_14 rfl) rfl (by show 2 * 0 + _ ≤ _; exact Nat.le_of_eq rfl) (hb hby at_93) (fun _ _ => ⟨rfl, (rfl : T107.heap = T107.heap), (by decide : 4 + 0 ≤ _), (by decide : 61 + 0 ≤ _)⟩)
    dsimp only [Pt.U, Pt.locs, Pt.cells, Pt.slots] at X128 l128 y128 z128 st128 hQ128
    rw [l128, y128, z128] at X128
    obtain ⟨rfl, N128q, e128⟩ := hQ128
    have N128 := Fr.app N107 N128q
    refine Go.st (fun _ k => st128.trans k) ?_
    show Go p.tables e below _ (T128.setTop (mkF m 96 #[.val (.long pn), .second, .val (.int pd), .val (.int pk), .val (.int v7), .val (.long v14), .second, .val (.ref b81_fr), .val (.int v68), .val (.long v87), .second] [(.int (cuF ((putD z19 0 v7.toNatClampNeg v14).getD v68.toNatClampNeg 0)))]))
    refine Go.st (fun _ k => X128.ldc2Long hx hown (mvT hZ (hw _ (List.mem_of_getElem? (i := 116) rfl))) (g := (mkF m 96 #[.val (.long pn), .second, .val (.int pd), .val (.int pk), .val (.int v7), .val (.long v14), .second, .val (.ref b81_fr), .val (.int v68), .val (.long v87), .second] [(.int (cuF ((putD z19 0 v7.toNatClampNeg v14).getD v68.toNatClampNeg 0)))])) rfl (hb hby at_96) _ k) ?_
    show Go p.tables e below _ (T128.setTop (mkF m 99 #[.val (.long pn), .second, .val (.int pd), .val (.int pk), .val (.int v7), .val (.long v14), .second, .val (.ref b81_fr), .val (.int v68), .val (.long v87), .second] [(.long (48 : Int64)), (.int (cuF ((putD z19 0 v7.toNatClampNeg v14).getD v68.toNatClampNeg 0)))]))
    refine Go.st (fun _ k => XS.lload X128.here hx rfl (hb hby at_99) rfl k) ?_
    show Go p.tables e below _ (T128.setTop (mkF m 101 #[.val (.long pn), .second, .val (.int pd), .val (.int pk), .val (.int v7), .val (.long v14), .second, .val (.ref b81_fr), .val (.int v68), .val (.long v87), .second] [(.long v87), (.long (48 : Int64)), (.int (cuF ((putD z19 0 v7.toNatClampNeg v14).getD v68.toNatClampNeg 0)))]))
    refine Go.st (fun _ k => XS.ladd X128.here hx rfl (hb hby at_101) rfl k) ?_
    show Go p.tables e below _ (T128.setTop (mkF m 102 #[.val (.long pn), .second, .val (.int pd), .val (.int pk), .val (.int v7), .val (.long v14), .second, .val (.ref b81_fr), .val (.int v68), .val (.long v87), .second] [(.long ((48 : Int64) + v87)), (.int (cuF ((putD z19 0 v7.toNatClampNeg v14).getD v68.toNatClampNeg 0)))]))
    refine Go.st (fun _ k => XS.l2i X128.here hx rfl (hb hby at_102) rfl k) ?_
    show Go p.tables e below _ (T128.setTop (mkF m 103 #[.val (.long pn), .second, .val (.int pd), .val (.int pk), .val (.int v7), .val (.long v14), .second, .val (.ref b81_fr), .val (.int v68), .val (.long v87), .second] [(.int (((48 : Int64) + v87).toInt32)), (.int (cuF ((putD z19 0 v7.toNatClampNeg v14).getD v68.toNatClampNeg 0)))]))
    refine Go.st (fun _ k => XS.i2c X128.here hx rfl (hb hby at_103) rfl k) ?_
    show Go p.tables e below _ (T128.setTop (mkF m 104 #[.val (.long pn), .second, .val (.int pd), .val (.int pk), .val (.int v7), .val (.long v14), .second, .val (.ref b81_fr), .val (.int v68), .val (.long v87), .second] [(.int ((((48 : Int64) + v87).toInt32).toUInt32.toUInt16.toUInt32.toInt32)), (.int (cuF ((putD z19 0 v7.toNatClampNeg v14).getD v68.toNatClampNeg 0)))]))
    have hc104 : (cuF ((putD z19 0 v7.toNatClampNeg v14).getD v68.toNatClampNeg 0)) = ((((48 : Int64) + v87).toInt32).toUInt32.toUInt16.toUInt32.toInt32) := own_fin (a := ((v7 - (1 : Int32)) - v68)) hn14 (by omega) (by omega) (by omega) hqv87
    have lt_4864 : (48 : Int64).toInt = 48 := by decide
    have hi104 : ((cuF ((putD z19 0 v7.toNatClampNeg v14).getD v68.toNatClampNeg 0))).toInt = (((((48 : Int64) + v87).toInt32).toUInt32.toUInt16.toUInt32.toInt32)).toInt := Int32.toInt_inj.symm.mp hc104
    refine Go.st (fun _ k => XS.icmpNo X128.here hx rfl (hb hby at_104) rfl (Jvm.Free.XT.ii_ne_f hc104) k) ?_
    show Go p.tables e below _ (T128.setTop (mkF m 107 #[.val (.long pn), .second, .val (.int pd), .val (.int pk), .val (.int v7), .val (.long v14), .second, .val (.ref b81_fr), .val (.int v68), .val (.long v87), .second] []))
    refine Go.st (fun _ k => XS.iconst X128.here hx rfl (hb hby at_107) k) ?_
    show Go p.tables e below _ (T128.setTop (mkF m 108 #[.val (.long pn), .second, .val (.int pd), .val (.int pk), .val (.int v7), .val (.long v14), .second, .val (.ref b81_fr), .val (.int v68), .val (.long v87), .second] [(.int (1 : Int32))]))
    refine Go.st (fun _ k => XS.goto X128.here hx rfl (pc0 := 108) (pc' := 112) rfl (hb hby at_108) (by decide) (by decide) k) ?_
    show Go p.tables e below _ (T128.setTop (mkF m 112 #[.val (.long pn), .second, .val (.int pd), .val (.int pk), .val (.int v7), .val (.long v14), .second, .val (.ref b81_fr), .val (.int v68), .val (.long v87), .second] [(.int (1 : Int32))]))
    subst hG
    obtain ⟨fs, hr, hrun, hended, hend⟩ := X128.leaveW (s := s) hS0 (by rw [e128]; exact hk111) (v := some (.int (nar .boolean (1 : Int32)))) (fun h => by rw [Bd.returns] at h; cases h)
    refine ⟨_, _, ?_, hrun, hended, _, _, rfl, ?_, ?_, hend.1, hend.2.1, hend.2.2.1, hend.2.2.2.mono (by decide) (by decide)⟩
    · exact retN X128 hx (t := .boolean) Bd.returns (by simp) (hb hby at_112) hr
    · show Q_law Z pn pd pk u8 iso cs G1 Gf h0 n0 _ T128.heap _
      rw [e128]
      exact ⟨rfl, N128, K114⟩
    · show CHr Z consts_1 s.vm s.heap T128.vm T128.heap
      rw [hh, e128]
      exact (CT110).trans (CHv.at X128 hZ hEL CR109.1)
set_option maxRecDepth 65536 in
set_option maxHeartbeats 40000000 in
theorem comes_1 {Post : Tables → Env → Array Value → State → Outcome → State → Prop} (hpost : ∀ tb e args s v u, (limb_1_1.after args s (.returned v) u = true ∧ limb_1_2.after args s (.returned v) u = true ∧ True) → ReturnedEndW s (.returned v) u (Jvm.fieldLocs frame_1_writes args s ++ Jvm.arrayLocs frame_1_arrays args s ++ Jvm.staticLocs frame_1_statics s) 24 1280 → Post tb e args s (.returned v) u) :
    ArmFor flags0 classFile x code maxLocals ret World_1 tables_1 room_1 Calls_1 rest_1 Pre_1 Post := by
  intro l hfl _ _ p e ha hc hk s m args below hf hA hF happ hP
  obtain ⟨hcalls, hrest, hpre⟩ := hP
  obtain ⟨-, -, -, hnamed, -, -, -, hat⟩ := (Spec.applies_iff hf).mp happ
  obtain ⟨hg, hn⟩ := and_e (Cond.before_iff.mp (show (Jvm.Cond.and given_1 narrow_1).before args s = true from hpre))
  obtain ⟨hcount, hg0⟩ := and_e hg
  obtain ⟨hv0, hg1⟩ := and_e hg0
  obtain ⟨hv1, hg2⟩ := and_e hg1
  obtain ⟨w0, w1, w2, rfl⟩ : ∃ w0 w1 w2 : Value, args = #[w0, w1, w2] := by
    have hs : args.size = 3 := by simpa [Cond.value, given_1] using hcount
    obtain ⟨L⟩ := args
    match L, hs with
    | [w0, w1, w2], _ => exact ⟨w0, w1, w2, rfl⟩
  have hw := fun d (hd : d ∈ tables_1) => atoms_spec (ws := Jvm.Cond.code x code maxLocals ret :: tables_1) hat d (List.mem_cons_of_mem _ hd)
  have hfit : Fit s := fun {y c} hc i hi => by
    obtain ⟨ha, rfl⟩ := Array.getElem?_eq_some_iff.mp hc
    have q := List.all_eq_true.mp ((Array.all_eq_true_iff_forall_mem.mp hF) _ (Array.getElem_mem ha)) i (List.mem_range.mpr hi)
    simpa [Array.getElem?_eq_getElem hi] using q
  obtain ⟨i0, ei0⟩ := isL_v hv0
  obtain rfl : w0 = (.long i0) := Option.some.inj ei0
  obtain ⟨i1, ei1⟩ := is_v hv1
  obtain rfl : w1 = (.int i1) := Option.some.inj ei1
  obtain ⟨i2, ei2⟩ := is_v hg2
  obtain rfl : w2 = (.int i2) := Option.some.inj ei2
  obtain ⟨hsets, hown0⟩ := atoms_of _ (rest_1_c_eq ▸ (show rest_1_c.before _ s = true from hrest))
  have n5 := not_v (Cond.before_iff.mp (hsets _ (List.mem_of_getElem? (i := 17) rfl)))
  obtain ⟨G1, e10⟩ := is_v (Cond.before_iff.mp (hsets _ (List.mem_of_getElem? (i := 16) rfl)))
  have O2 : Sta s s.heap "java/lang/String" "COMPACT_STRINGS" "Z" (.int G1) := Sta.start e10 (Or.inl (hsets _ (List.mem_of_getElem? (i := 15) rfl)))
  have P5 : ¬ (G1 = (0 : Int32)) := gotF (Cond.eq_ints e10 (Term.int_eval (0))) n5
  obtain ⟨Gf, e14, rG3⟩ := isR_v (Cond.before_iff.mp (hsets _ (List.mem_of_getElem? (i := 23) rfl)))
  have O4 : Sta s s.heap "jdk/internal/util/Preconditions" "SIOOBE_FORMATTER" "Ljava/util/function/BiFunction;" Gf := Sta.start e14 (Or.inl (hsets _ (List.mem_of_getElem? (i := 22) rfl)))
  obtain ⟨cs, ecs⟩ := exa_v (Cond.before_iff.mp (hsets _ (List.mem_of_getElem? (i := 5) rfl)))
  have Ecs := Exa.start ecs (Cond.before_iff.mp (hsets _ (List.mem_of_getElem? (i := 5) rfl)))
  have Scs : Sta s s.heap "java/nio/charset/StandardCharsets" "US_ASCII" "Ljava/nio/charset/Charset;" (.ref cs) := Sta.start ecs (Or.inl (hsets _ (List.mem_of_getElem? (i := 1) rfl)))
  obtain ⟨ci, eci⟩ := exa_v (Cond.before_iff.mp (hsets _ (List.mem_of_getElem? (i := 14) rfl)))
  obtain rfl : cs = ci := Value.ref.inj (gotT (eq_R ecs eci rfl rfl) (Cond.before_iff.mp (hsets _ (List.mem_of_getElem? (i := 4) rfl))))
  have Sua : Sta s s.heap "sun/nio/cs/US_ASCII" "INSTANCE" "Lsun/nio/cs/US_ASCII;" (.ref cs) := Sta.start eci (Or.inl (hsets _ (List.mem_of_getElem? (i := 3) rfl)))
  obtain ⟨u8, eu8⟩ := exa_v (Cond.before_iff.mp (hsets _ (List.mem_of_getElem? (i := 8) rfl)))
  have Eu8 := Exa.start eu8 (Cond.before_iff.mp (hsets _ (List.mem_of_getElem? (i := 8) rfl)))
  have Su8 : Sta s s.heap "sun/nio/cs/UTF_8" "INSTANCE" "Lsun/nio/cs/UTF_8;" (.ref u8) := Sta.start eu8 (Or.inl (hsets _ (List.mem_of_getElem? (i := 7) rfl)))
  obtain ⟨iso, eiso⟩ := exa_v (Cond.before_iff.mp (hsets _ (List.mem_of_getElem? (i := 11) rfl)))
  have Eiso := Exa.start eiso (Cond.before_iff.mp (hsets _ (List.mem_of_getElem? (i := 11) rfl)))
  have Siso : Sta s s.heap "sun/nio/cs/ISO_8859_1" "INSTANCE" "Lsun/nio/cs/ISO_8859_1;" (.ref iso) := Sta.start eiso (Or.inl (hsets _ (List.mem_of_getElem? (i := 10) rfl)))
  have hEL : EW s _ consts_1 := EW.cons (hw _ (List.mem_of_getElem? (i := 117) rfl)) (by decide) (EW.nil)
  have hCH : CHv s consts_1 s.vm s.heap := CHv.start hEL (fun p hp => hcalls.1 p hp) (show Jvm.Lit.compactW.before _ s = true from (hsets _ (List.mem_of_getElem? (i := 17) rfl))) (hw _ (List.mem_of_getElem? (i := 29) rfl)) (hw _ (List.mem_of_getElem? (i := 33) rfl))
  obtain ⟨n, o, h1, h2, h3, _, L, rfl, ⟨rfl, N, -⟩, -, hq⟩ := rm_law l s _ hw tables_1 i0 i1 i2 _ _ _ _ _ s.heap s.heap.size (Nat.le_refl _) hEL Su8 Eu8 Siso Eiso Sua Ecs Scs O2 P5 O4 rG3 p e ha hc hk s m _ below hf ((Spec.applies_iff_loose hf).mp happ).1 ⟨rfl, State.Warmed39.refl s, rfl, hCH⟩ trivial
  refine ⟨n, _, h1, h2, h3, hpost _ _ _ _ _ _ ⟨Cond.after_iff.mpr rfl, Cond.after_iff.mpr (eq_i res_at (Term.int_eval (1)) rfl), trivial⟩ ⟨hq.1, hq.2.1, hq.2.2.1, (hq.2.2.2.sift fun y hy => Or.inr (N y hy)).mono (by decide) (by decide)⟩⟩
theorem main_1_1 : Claimed_1_1 := comes_1 fun _ _ _ _ _ _ h hF => ⟨h.1, hF⟩
theorem main_1_2 : Claimed_1_2 := comes_1 fun _ _ _ _ _ _ h hF => ⟨h.2.1, hF⟩
end Jvm.Pilot.@@N@@
namespace Jvm.Pilot.@@N@@
open Jvm Jvm.ClassFile Sem Op Lib Jvm.Free Jvm.Stand Jvm.Pilot.@@N@@.Jvm.D
/-! MADE BY PROGRAM (witnessworld.py) out of the Statement's table words and the real class files: 29 classes; the members and pool entries that the words name. The judged class is class 1, her method 2. -/
namespace start1
open Jvm.ClassFile
def u (s : String) : CpInfo := .utf8 (stringToUtf16 s)
/-- a pool by its gaps: so many unusable entries, then the entry; so many at the end -/
def gap : Nat → List CpInfo → List CpInfo
  | 0, r => r
  | n + 1, r => .unusable :: gap n r
def poolList (es : List (Nat × CpInfo)) (last : Nat) : List CpInfo := es.foldr (fun e r => gap e.1 (e.2 :: r)) (gap last [])
def pool (es : List (Nat × CpInfo)) (last : Nat) : Array CpInfo := ⟨poolList es last⟩
def fileOf (pool : Array CpInfo) (this : Nat) (attrs : Array Attribute := #[]) (ms : Array MethodInfo := #[]) (fl : Nat := 33) (sup : Nat := 0) (ifs : Array Nat := #[]) (fds : Array FieldInfo := #[]) : ClassFile where
  minorVersion := 0
  majorVersion := 65
  constantPool := pool
  accessFlags := fl
  thisClass := this
  superClass := sup
  interfaces := ifs
  fields := fds
  methods := ms
  attributes := attrs
def plain (name : String) (sup : Option ClassId) : Class where
  name := name
  kind := .ordinary
  loader := none
  accessFlags := 33
  super := sup
  interfaces := #[]
  cf := none
  fields := #[]
  methods := #[]
  instanceTypes := #[]
  staticTypes := #[]
  resolved := #[]
  callSites := []
  init := .initialized
  statics := none
  mirror := none

def pool0 : Array CpInfo := pool [(5, u "<init>"), (0, u "()V"), (1, .class_ 10), (1, u "java/lang/Object"), (85, u "clone"), (0, u "()Ljava/lang/Object;")] 26

def k0c0 : Code := { maxStack := 0, maxLocals := 1, code := object_method_1_code, exceptionTable := #[], attributes := #[] }
def k0m0 : Method := { name := "<init>", desc := "()V", sig := { parameters := [], returnType := none }, accessFlags := 1, code := some k0c0 }
def k0m1 : Method := { name := "clone", desc := "()Ljava/lang/Object;", sig := { parameters := [], returnType := some (.object "java/lang/Object") }, accessFlags := 260, code := none }
/-- java/lang/Object -/
def k0 : Class := { plain "java/lang/Object" none with
  accessFlags := 33
  interfaces := #[]
  cf := some (fileOf pool0 8 #[] #[{ accessFlags := 1, nameIndex := 5, descriptorIndex := 6, attributes := #[] }, { accessFlags := 260, nameIndex := 96, descriptorIndex := 97, attributes := #[] }] 33 0 #[] #[])
  fields := #[]
  methods := #[k0m0, k0m1]
  instanceTypes := #[]
  staticTypes := #[]
  resolved := Array.replicate 124 none
  statics := none }

def pool1 : Array CpInfo := pool [(2, .class_ 4), (1, u "java/lang/Object"), (0, u "<init>"), (0, u "()V"), (0, .long 10), (1, .long 100), (1, .long 1000), (1, .long 10000), (1, .long 100000), (1, .long 1000000), (1, .long 10000000), (1, .long 100000000), (1, .long 1000000000), (1, .long 10000000000), (1, .long 100000000000), (1, .long 1000000000000), (1, .long 10000000000000), (1, .long 100000000000000), (1, .long 1000000000000000), (1, .long 10000000000000000), (1, .long 100000000000000000), (1, .long 1000000000000000000), (1, .integer 2147483647), (2, .long 9223372036854775807), (1, .methodref 49 50), (0, .class_ 51), (0, .nameAndType 52 53), (0, u "com/example/clotho/clotho/server/store/KeysNumberedPinLaw"), (0, u "pow10"), (0, u "(I)J"), (0, .methodref 55 56), (0, .class_ 57), (0, .nameAndType 58 59), (0, u "com/example/clotho/clotho/server/store/Keys"), (0, u "numbered"), (0, u "(JI)Ljava/lang/String;"), (0, .methodref 61 62), (0, .class_ 63), (0, .nameAndType 64 65), (0, u "java/lang/String"), (0, u "length"), (0, u "()I"), (0, .methodref 61 67), (0, .nameAndType 68 69), (0, u "charAt"), (0, u "(I)C"), (0, .long 48), (3, u "law"), (0, u "(JII)Z")] 3

def k1m0 : Method := { name := "<init>", desc := "()V", sig := { parameters := [], returnType := none }, accessFlags := 1, code := none }
def k1c1 : Code := { maxStack := 5, maxLocals := 2, code := method_2_code, exceptionTable := #[], attributes := #[] }
def k1m1 : Method := { name := "pow10", desc := "(I)J", sig := { parameters := [.int], returnType := some .long }, accessFlags := 10, code := some k1c1 }
def k1c2 : Code := { maxStack := 5, maxLocals := 11, code := code, exceptionTable := #[], attributes := #[] }
def k1m2 : Method := { name := "law", desc := "(JII)Z", sig := { parameters := [.long, .int, .int], returnType := some .boolean }, accessFlags := 9, code := some k1c2 }
/-- com/example/clotho/clotho/server/store/KeysNumberedPinLaw -/
def k1 : Class := { plain "com/example/clotho/clotho/server/store/KeysNumberedPinLaw" (some 0) with
  accessFlags := 49
  interfaces := #[]
  cf := some (fileOf pool1 49 #[] #[{ accessFlags := 1, nameIndex := 5, descriptorIndex := 6, attributes := #[] }, { accessFlags := 10, nameIndex := 52, descriptorIndex := 53, attributes := #[] }, { accessFlags := 9, nameIndex := 74, descriptorIndex := 75, attributes := #[] }] 49 2 #[] #[])
  fields := #[]
  methods := #[k1m0, k1m1, k1m2]
  instanceTypes := #[]
  staticTypes := #[]
  resolved := Array.replicate 79 none
  statics := none }

def pool2 : Array CpInfo := pool [(2, .class_ 4), (1, u "java/lang/Object"), (0, u "<init>"), (0, u "()V"), (7, .class_ 16), (1, u "java/lang/String"), (12, .fieldref 30 31), (0, .class_ 32), (0, .nameAndType 33 34), (0, u "java/nio/charset/StandardCharsets"), (0, u "US_ASCII"), (0, u "Ljava/nio/charset/Charset;"), (4, .class_ 40), (0, u "com/example/clotho/clotho/server/store/Keys"), (2, u "numbered"), (0, u "(JI)Ljava/lang/String;"), (0, .long 48), (1, .long 10), (9, .methodref 14 58), (0, .nameAndType 5 59), (0, u "([BLjava/nio/charset/Charset;)V"), (0, u "LONG_DIGITS"), (0, u "I")] 29

def k2m0 : Method := { name := "<init>", desc := "()V", sig := { parameters := [], returnType := none }, accessFlags := 2, code := none }
def k2c1 : Code := { maxStack := 8, maxLocals := 7, code := prog_10_method_4_code, exceptionTable := #[], attributes := #[] }
def k2m1 : Method := { name := "numbered", desc := "(JI)Ljava/lang/String;", sig := { parameters := [.long, .int], returnType := some (.object "java/lang/String") }, accessFlags := 9, code := some k2c1 }
/-- com/example/clotho/clotho/server/store/Keys -/
def k2 : Class := { plain "com/example/clotho/clotho/server/store/Keys" (some 0) with
  accessFlags := 33
  interfaces := #[]
  cf := some (fileOf pool2 39 #[] #[{ accessFlags := 2, nameIndex := 5, descriptorIndex := 6, attributes := #[] }, { accessFlags := 9, nameIndex := 43, descriptorIndex := 44, attributes := #[] }] 33 2 #[] #[{ accessFlags := 26, nameIndex := 60, descriptorIndex := 61, attributes := #[] }])
  fields := #[{ name := "LONG_DIGITS", type := .int, accessFlags := 26, slot := 0, constantValue := 0 }]
  methods := #[k2m0, k2m1]
  instanceTypes := #[]
  staticTypes := #[.int]
  resolved := Array.replicate 91 none
  statics := none }

def pool3 : Array CpInfo := pool [(1, .class_ 2), (0, u "java/io/Serializable"), (0, .class_ 4), (0, u "java/lang/Object")] 2

/-- java/io/Serializable -/
def k3 : Class := { plain "java/io/Serializable" (some 0) with
  accessFlags := 1537
  interfaces := #[]
  cf := some (fileOf pool3 1 #[] #[] 1537 3 #[] #[])
  fields := #[]
  methods := #[]
  instanceTypes := #[]
  staticTypes := #[]
  resolved := Array.replicate 7 none
  statics := none }

def pool4 : Array CpInfo := pool [(1, .class_ 2), (0, u "java/lang/Comparable"), (0, .class_ 4), (0, u "java/lang/Object")] 7

/-- java/lang/Comparable -/
def k4 : Class := { plain "java/lang/Comparable" (some 0) with
  accessFlags := 1537
  interfaces := #[]
  cf := some (fileOf pool4 1 #[] #[] 1537 3 #[] #[])
  fields := #[]
  methods := #[]
  instanceTypes := #[]
  staticTypes := #[]
  resolved := Array.replicate 12 none
  statics := none }

def pool5 : Array CpInfo := pool [(2, .class_ 4), (1, u "java/lang/CharSequence"), (42, .class_ 48), (0, u "java/lang/CharSequence$1CodePointIterator"), (10, .class_ 60), (0, u "java/lang/CharSequence$1CharIterator"), (5, .class_ 67), (0, u "java/lang/Object")] 63

/-- java/lang/CharSequence -/
def k5 : Class := { plain "java/lang/CharSequence" (some 0) with
  accessFlags := 1537
  interfaces := #[]
  cf := some (fileOf pool5 2 #[.nestMembers #[47, 59]] #[] 1537 66 #[] #[])
  fields := #[]
  methods := #[]
  instanceTypes := #[]
  staticTypes := #[]
  resolved := Array.replicate 131 none
  statics := none }

def pool6 : Array CpInfo := pool [(1, .class_ 2), (0, u "java/lang/constant/Constable"), (0, .class_ 4), (0, u "java/lang/Object")] 6

/-- java/lang/constant/Constable -/
def k6 : Class := { plain "java/lang/constant/Constable" (some 0) with
  accessFlags := 1537
  interfaces := #[]
  cf := some (fileOf pool6 1 #[] #[] 1537 3 #[] #[])
  fields := #[]
  methods := #[]
  instanceTypes := #[]
  staticTypes := #[]
  resolved := Array.replicate 11 none
  statics := none }

def pool7 : Array CpInfo := pool [(1, .class_ 2), (0, u "java/lang/constant/ConstantDesc"), (0, .class_ 4), (0, u "java/lang/Object")] 32

/-- java/lang/constant/ConstantDesc -/
def k7 : Class := { plain "java/lang/constant/ConstantDesc" (some 0) with
  accessFlags := 1537
  interfaces := #[]
  cf := some (fileOf pool7 1 #[] #[] 1537 3 #[] #[])
  fields := #[]
  methods := #[]
  instanceTypes := #[]
  staticTypes := #[]
  resolved := Array.replicate 37 none
  statics := none }

def pool8 : Array CpInfo := pool [(1, .methodref 2 3), (0, .class_ 4), (0, .nameAndType 5 6), (0, u "java/lang/Object"), (0, u "<init>"), (0, u "()V"), (0, .string 8), (0, u ""), (0, .fieldref 10 11), (0, .class_ 12), (0, .nameAndType 13 14), (0, u "java/lang/String"), (0, u "value"), (0, u "[B"), (0, .fieldref 10 16), (0, .nameAndType 17 18), (0, u "coder"), (0, u "B"), (2, u "hash"), (0, u "I"), (2, u "hashIsZero"), (0, u "Z"), (11, .fieldref 10 39), (0, .nameAndType 40 26), (0, u "COMPACT_STRINGS"), (13, .methodref 55 56), (0, .class_ 57), (0, .nameAndType 58 59), (0, u "java/util/Arrays"), (0, u "copyOfRange"), (0, u "([BII)[B"), (15, .methodref 10 76), (0, .nameAndType 5 77), (0, u "(Ljava/nio/charset/Charset;[BII)V"), (0, .methodref 79 80), (0, .class_ 81), (0, .nameAndType 82 83), (0, u "java/util/Objects"), (0, u "requireNonNull"), (0, u "(Ljava/lang/Object;)Ljava/lang/Object;"), (0, .class_ 85), (0, u "java/nio/charset/Charset"), (0, .fieldref 87 88), (0, .class_ 89), (0, .nameAndType 90 91), (0, u "sun/nio/cs/UTF_8"), (0, u "INSTANCE"), (0, u "Lsun/nio/cs/UTF_8;"), (1, .class_ 95), (1, u "java/lang/StringCoding"), (11, .class_ 109), (1, u "java/lang/StringLatin1"), (6, .fieldref 117 118), (0, .class_ 119), (0, .nameAndType 90 120), (0, u "sun/nio/cs/ISO_8859_1"), (0, u "Lsun/nio/cs/ISO_8859_1;"), (2, .fieldref 124 125), (0, .class_ 126), (0, .nameAndType 90 127), (0, u "sun/nio/cs/US_ASCII"), (0, u "Lsun/nio/cs/US_ASCII;"), (0, .methodref 93 129), (0, .nameAndType 130 131), (0, u "hasNegatives"), (0, u "([BII)Z"), (10, u "()Z"), (191, u "()I"), (0, .methodref 10 336), (0, .nameAndType 17 337), (0, u "()B"), (25, u "([BI)C"), (27, u "(II)V"), (35, u "(I)C"), (64, .methodref 10 493), (0, .nameAndType 494 142), (0, u "isLatin1"), (0, .methodref 107 496), (0, .nameAndType 497 363), (0, u "charAt"), (3, u "checkIndex"), (5, u "length"), (67, .class_ 576), (0, u "java/lang/CharSequence"), (22, u "CASE_INSENSITIVE_ORDER"), (0, u "Ljava/util/Comparator;"), (452, .fieldref 1054 1055), (0, .class_ 1056), (0, .nameAndType 1057 1058), (0, u "jdk/internal/util/Preconditions"), (0, u "SIOOBE_FORMATTER"), (0, u "Ljava/util/function/BiFunction;"), (0, .methodref 1054 1060), (0, .nameAndType 501 1061), (0, u "(IILjava/util/function/BiFunction;)I"), (39, u "serialPersistentFields"), (0, u "[Ljava/io/ObjectStreamField;"), (0, .class_ 1104), (0, u "java/lang/String$CaseInsensitiveComparator"), (1, .class_ 1107), (0, u "java/io/Serializable"), (0, .class_ 1109), (0, u "java/lang/Comparable"), (0, .class_ 1111), (0, u "java/lang/constant/Constable"), (0, .class_ 1113), (0, u "java/lang/constant/ConstantDesc"), (2, u "serialVersionUID"), (0, u "J"), (3, u "REPL"), (0, u "C"), (2, u "LATIN1"), (1, u "UTF16"), (101, u "([BLjava/nio/charset/Charset;)V")] 221

def k8m0 : Method := { name := "<init>", desc := "()V", sig := { parameters := [], returnType := none }, accessFlags := 1, code := none }
def k8c1 : Code := { maxStack := 6, maxLocals := 11, code := jdk_42_method_11_code, exceptionTable := #[{ startPc := 800, endPc := 813, handlerPc := 816, catchType := 202 }], attributes := #[] }
def k8m1 : Method := { name := "<init>", desc := "(Ljava/nio/charset/Charset;[BII)V", sig := { parameters := [(.object "java/nio/charset/Charset"), (.array .byte), .int, .int], returnType := none }, accessFlags := 2, code := some k8c1 }
def k8c2 : Code := { maxStack := 5, maxLocals := 3, code := jdk_42_method_49_code, exceptionTable := #[], attributes := #[] }
def k8m2 : Method := { name := "<init>", desc := "([BLjava/nio/charset/Charset;)V", sig := { parameters := [(.array .byte), (.object "java/nio/charset/Charset")], returnType := none }, accessFlags := 1, code := some k8c2 }
def k8c3 : Code := { maxStack := 2, maxLocals := 1, code := jdk_42_method_54_code, exceptionTable := #[], attributes := #[] }
def k8m3 : Method := { name := "length", desc := "()I", sig := { parameters := [], returnType := some .int }, accessFlags := 1, code := some k8c3 }
def k8c4 : Code := { maxStack := 2, maxLocals := 2, code := jdk_42_method_56_code, exceptionTable := #[], attributes := #[] }
def k8m4 : Method := { name := "charAt", desc := "(I)C", sig := { parameters := [.int], returnType := some .char }, accessFlags := 1, code := some k8c4 }
def k8c5 : Code := { maxStack := 1, maxLocals := 1, code := jdk_42_method_152_code, exceptionTable := #[], attributes := #[] }
def k8m5 : Method := { name := "coder", desc := "()B", sig := { parameters := [], returnType := some .byte }, accessFlags := 0, code := some k8c5 }
def k8c6 : Code := { maxStack := 1, maxLocals := 1, code := jdk_42_method_154_code, exceptionTable := #[], attributes := #[] }
def k8m6 : Method := { name := "isLatin1", desc := "()Z", sig := { parameters := [], returnType := some .boolean }, accessFlags := 0, code := some k8c6 }
def k8c7 : Code := { maxStack := 3, maxLocals := 2, code := jdk_42_method_155_code, exceptionTable := #[], attributes := #[] }
def k8m7 : Method := { name := "checkIndex", desc := "(II)V", sig := { parameters := [.int, .int], returnType := none }, accessFlags := 8, code := some k8c7 }
/-- java/lang/String -/
def k8 : Class := { plain "java/lang/String" (some 0) with
  accessFlags := 49
  interfaces := #[3, 4, 5, 6, 7]
  cf := some (fileOf pool8 10 #[.nestMembers #[1103]] #[{ accessFlags := 1, nameIndex := 5, descriptorIndex := 6, attributes := #[] }, { accessFlags := 2, nameIndex := 5, descriptorIndex := 77, attributes := #[] }, { accessFlags := 1, nameIndex := 5, descriptorIndex := 1229, attributes := #[] }, { accessFlags := 1, nameIndex := 507, descriptorIndex := 334, attributes := #[] }, { accessFlags := 1, nameIndex := 497, descriptorIndex := 427, attributes := #[] }, { accessFlags := 0, nameIndex := 17, descriptorIndex := 337, attributes := #[] }, { accessFlags := 0, nameIndex := 494, descriptorIndex := 142, attributes := #[] }, { accessFlags := 8, nameIndex := 501, descriptorIndex := 391, attributes := #[] }] 49 2 #[1106, 1108, 575, 1110, 1112] #[{ accessFlags := 18, nameIndex := 13, descriptorIndex := 14, attributes := #[] }, { accessFlags := 18, nameIndex := 17, descriptorIndex := 18, attributes := #[] }, { accessFlags := 2, nameIndex := 21, descriptorIndex := 22, attributes := #[] }, { accessFlags := 2, nameIndex := 25, descriptorIndex := 26, attributes := #[] }, { accessFlags := 26, nameIndex := 1116, descriptorIndex := 1117, attributes := #[] }, { accessFlags := 24, nameIndex := 40, descriptorIndex := 26, attributes := #[] }, { accessFlags := 26, nameIndex := 1101, descriptorIndex := 1102, attributes := #[] }, { accessFlags := 26, nameIndex := 1121, descriptorIndex := 1122, attributes := #[] }, { accessFlags := 25, nameIndex := 599, descriptorIndex := 600, attributes := #[] }, { accessFlags := 24, nameIndex := 1125, descriptorIndex := 18, attributes := #[] }, { accessFlags := 24, nameIndex := 1127, descriptorIndex := 18, attributes := #[] }])
  fields := #[{ name := "value", type := (.array .byte), accessFlags := 18, slot := 0, constantValue := 0 }, { name := "coder", type := .byte, accessFlags := 18, slot := 1, constantValue := 0 }, { name := "hash", type := .int, accessFlags := 2, slot := 2, constantValue := 0 }, { name := "hashIsZero", type := .boolean, accessFlags := 2, slot := 3, constantValue := 0 }, { name := "serialVersionUID", type := .long, accessFlags := 26, slot := 0, constantValue := 0 }, { name := "COMPACT_STRINGS", type := .boolean, accessFlags := 24, slot := 1, constantValue := 0 }, { name := "serialPersistentFields", type := (.array (.object "java/io/ObjectStreamField")), accessFlags := 26, slot := 2, constantValue := 0 }, { name := "REPL", type := .char, accessFlags := 26, slot := 3, constantValue := 0 }, { name := "CASE_INSENSITIVE_ORDER", type := (.object "java/util/Comparator"), accessFlags := 25, slot := 4, constantValue := 0 }, { name := "LATIN1", type := .byte, accessFlags := 24, slot := 5, constantValue := 0 }, { name := "UTF16", type := .byte, accessFlags := 24, slot := 6, constantValue := 0 }]
  methods := #[k8m0, k8m1, k8m2, k8m3, k8m4, k8m5, k8m6, k8m7]
  instanceTypes := #[(.array .byte), .byte, .int, .boolean]
  staticTypes := #[.long, .boolean, (.array (.object "java/io/ObjectStreamField")), .char, (.object "java/util/Comparator"), .byte, .byte]
  resolved := Array.replicate 1451 none
  statics := some 0 }

def pool9 : Array CpInfo := pool [(2, .class_ 4), (1, u "java/lang/Object"), (0, u "<init>"), (0, u "()V"), (14, .class_ 23), (1, u "java/nio/charset/StandardCharsets"), (0, u "US_ASCII"), (0, u "Ljava/nio/charset/Charset;"), (7, u "ISO_8859_1"), (7, u "UTF_8"), (5, u "UTF_16BE"), (5, u "UTF_16LE"), (5, u "UTF_16")] 8

def k9m0 : Method := { name := "<init>", desc := "()V", sig := { parameters := [], returnType := none }, accessFlags := 2, code := none }
/-- java/nio/charset/StandardCharsets -/
def k9 : Class := { plain "java/nio/charset/StandardCharsets" (some 0) with
  accessFlags := 49
  interfaces := #[]
  cf := some (fileOf pool9 21 #[] #[{ accessFlags := 2, nameIndex := 5, descriptorIndex := 6, attributes := #[] }] 49 2 #[] #[{ accessFlags := 25, nameIndex := 24, descriptorIndex := 25, attributes := #[] }, { accessFlags := 25, nameIndex := 33, descriptorIndex := 25, attributes := #[] }, { accessFlags := 25, nameIndex := 41, descriptorIndex := 25, attributes := #[] }, { accessFlags := 25, nameIndex := 47, descriptorIndex := 25, attributes := #[] }, { accessFlags := 25, nameIndex := 53, descriptorIndex := 25, attributes := #[] }, { accessFlags := 25, nameIndex := 59, descriptorIndex := 25, attributes := #[] }])
  fields := #[{ name := "US_ASCII", type := (.object "java/nio/charset/Charset"), accessFlags := 25, slot := 0, constantValue := 0 }, { name := "ISO_8859_1", type := (.object "java/nio/charset/Charset"), accessFlags := 25, slot := 1, constantValue := 0 }, { name := "UTF_8", type := (.object "java/nio/charset/Charset"), accessFlags := 25, slot := 2, constantValue := 0 }, { name := "UTF_16BE", type := (.object "java/nio/charset/Charset"), accessFlags := 25, slot := 3, constantValue := 0 }, { name := "UTF_16LE", type := (.object "java/nio/charset/Charset"), accessFlags := 25, slot := 4, constantValue := 0 }, { name := "UTF_16", type := (.object "java/nio/charset/Charset"), accessFlags := 25, slot := 5, constantValue := 0 }]
  methods := #[k9m0]
  instanceTypes := #[]
  staticTypes := #[(.object "java/nio/charset/Charset"), (.object "java/nio/charset/Charset"), (.object "java/nio/charset/Charset"), (.object "java/nio/charset/Charset"), (.object "java/nio/charset/Charset"), (.object "java/nio/charset/Charset")]
  resolved := Array.replicate 68 none
  statics := some 1 }

def pool10 : Array CpInfo := pool [(2, .class_ 4), (1, u "java/lang/Object"), (0, u "<init>"), (0, u "()V"), (35, .class_ 44), (1, u "java/util/Objects"), (0, u "requireNonNull"), (0, u "(Ljava/lang/Object;)Ljava/lang/Object;")] 137

def k10m0 : Method := { name := "<init>", desc := "()V", sig := { parameters := [], returnType := none }, accessFlags := 2, code := none }
def k10c1 : Code := { maxStack := 2, maxLocals := 1, code := jdk_31_method_10_code, exceptionTable := #[], attributes := #[] }
def k10m1 : Method := { name := "requireNonNull", desc := "(Ljava/lang/Object;)Ljava/lang/Object;", sig := { parameters := [(.object "java/lang/Object")], returnType := some (.object "java/lang/Object") }, accessFlags := 9, code := some k10c1 }
/-- java/util/Objects -/
def k10 : Class := { plain "java/util/Objects" (some 0) with
  accessFlags := 49
  interfaces := #[]
  cf := some (fileOf pool10 42 #[] #[{ accessFlags := 2, nameIndex := 5, descriptorIndex := 6, attributes := #[] }, { accessFlags := 9, nameIndex := 45, descriptorIndex := 46, attributes := #[] }] 49 2 #[] #[])
  fields := #[]
  methods := #[k10m0, k10m1]
  instanceTypes := #[]
  staticTypes := #[]
  resolved := Array.replicate 184 none
  statics := none }

def pool11 : Array CpInfo := pool [(18, .class_ 20), (1, u "java/nio/charset/Charset"), (0, u "cache1"), (0, u "[Ljava/lang/Object;"), (2, u "cache2"), (0, .class_ 27), (0, u "java/lang/Object"), (0, .class_ 29), (0, u "java/nio/charset/Charset$1"), (4, .class_ 36), (1, u "java/nio/charset/Charset$ThreadTrackHolder"), (21, .class_ 59), (0, u "java/nio/charset/Charset$2"), (11, .class_ 73), (1, u "java/nio/charset/Charset$ExtendedProviderHolder"), (22, u "standardProvider"), (0, u "Ljava/nio/charset/spi/CharsetProvider;"), (29, u "name"), (7, .class_ 136), (0, u "java/nio/charset/Charset$3"), (5, u "defaultCharset"), (0, u "Ljava/nio/charset/Charset;"), (14, u "zeroAliases"), (0, u "[Ljava/lang/String;"), (29, u "Ljava/lang/String;"), (2, u "aliases"), (2, u "aliasSet"), (0, u "Ljava/util/Set;"), (82, .class_ 280), (0, u "java/lang/Comparable"), (84, .class_ 366), (0, u "java/nio/charset/Charset$ExtendedProviderHolder$1")] 3

/-- java/nio/charset/Charset -/
def k11 : Class := { plain "java/nio/charset/Charset" (some 0) with
  accessFlags := 1057
  interfaces := #[4]
  cf := some (fileOf pool11 18 #[.nestMembers #[71, 365, 34, 135, 58, 28]] #[] 1057 26 #[279] #[{ accessFlags := 26, nameIndex := 96, descriptorIndex := 97, attributes := #[] }, { accessFlags := 26, nameIndex := 158, descriptorIndex := 159, attributes := #[] }, { accessFlags := 74, nameIndex := 21, descriptorIndex := 22, attributes := #[] }, { accessFlags := 74, nameIndex := 25, descriptorIndex := 22, attributes := #[] }, { accessFlags := 10, nameIndex := 142, descriptorIndex := 143, attributes := #[] }, { accessFlags := 18, nameIndex := 127, descriptorIndex := 189, attributes := #[] }, { accessFlags := 18, nameIndex := 192, descriptorIndex := 159, attributes := #[] }, { accessFlags := 2, nameIndex := 195, descriptorIndex := 196, attributes := #[] }])
  fields := #[{ name := "standardProvider", type := (.object "java/nio/charset/spi/CharsetProvider"), accessFlags := 26, slot := 0, constantValue := 0 }, { name := "zeroAliases", type := (.array (.object "java/lang/String")), accessFlags := 26, slot := 1, constantValue := 0 }, { name := "cache1", type := (.array (.object "java/lang/Object")), accessFlags := 74, slot := 2, constantValue := 0 }, { name := "cache2", type := (.array (.object "java/lang/Object")), accessFlags := 74, slot := 3, constantValue := 0 }, { name := "defaultCharset", type := (.object "java/nio/charset/Charset"), accessFlags := 10, slot := 4, constantValue := 0 }, { name := "name", type := (.object "java/lang/String"), accessFlags := 18, slot := 0, constantValue := 0 }, { name := "aliases", type := (.array (.object "java/lang/String")), accessFlags := 18, slot := 1, constantValue := 0 }, { name := "aliasSet", type := (.object "java/util/Set"), accessFlags := 2, slot := 2, constantValue := 0 }]
  methods := #[]
  instanceTypes := #[(.object "java/lang/String"), (.array (.object "java/lang/String")), (.object "java/util/Set")]
  staticTypes := #[(.object "java/nio/charset/spi/CharsetProvider"), (.array (.object "java/lang/String")), (.array (.object "java/lang/Object")), (.array (.object "java/lang/Object")), (.object "java/nio/charset/Charset")]
  resolved := Array.replicate 370 none
  statics := none }

def pool12 : Array CpInfo := pool [(1, .class_ 2), (0, u "sun/nio/cs/HistoricallyNamedCharset"), (0, .class_ 4), (0, u "java/lang/Object")] 4

/-- sun/nio/cs/HistoricallyNamedCharset -/
def k12 : Class := { plain "sun/nio/cs/HistoricallyNamedCharset" (some 0) with
  accessFlags := 1537
  interfaces := #[]
  cf := some (fileOf pool12 1 #[] #[] 1537 3 #[] #[])
  fields := #[]
  methods := #[]
  instanceTypes := #[]
  staticTypes := #[]
  resolved := Array.replicate 9 none
  statics := none }

def pool13 : Array CpInfo := pool [(10, .class_ 12), (1, u "java/nio/charset/Charset"), (0, u "<init>"), (3, .class_ 18), (0, u "sun/nio/cs/US_ASCII"), (0, .class_ 20), (0, u "sun/nio/cs/US_ASCII$Decoder"), (3, .class_ 25), (0, u "sun/nio/cs/US_ASCII$Encoder"), (3, u "()V"), (2, u "INSTANCE"), (0, u "Lsun/nio/cs/US_ASCII;"), (8, u "JLA"), (0, u "Ljdk/internal/access/JavaLangAccess;"), (0, .class_ 45), (0, u "sun/nio/cs/HistoricallyNamedCharset")] 21

def k13m0 : Method := { name := "<init>", desc := "()V", sig := { parameters := [], returnType := none }, accessFlags := 1, code := none }
/-- sun/nio/cs/US_ASCII -/
def k13 : Class := { plain "sun/nio/cs/US_ASCII" (some 11) with
  accessFlags := 33
  interfaces := #[12]
  cf := some (fileOf pool13 17 #[.nestMembers #[24, 19]] #[{ accessFlags := 1, nameIndex := 13, descriptorIndex := 29, attributes := #[] }] 33 10 #[44] #[{ accessFlags := 25, nameIndex := 32, descriptorIndex := 33, attributes := #[] }, { accessFlags := 26, nameIndex := 42, descriptorIndex := 43, attributes := #[] }])
  fields := #[{ name := "INSTANCE", type := (.object "sun/nio/cs/US_ASCII"), accessFlags := 25, slot := 0, constantValue := 0 }, { name := "JLA", type := (.object "jdk/internal/access/JavaLangAccess"), accessFlags := 26, slot := 1, constantValue := 0 }]
  methods := #[k13m0]
  instanceTypes := #[(.object "java/lang/String"), (.array (.object "java/lang/String")), (.object "java/util/Set")]
  staticTypes := #[(.object "sun/nio/cs/US_ASCII"), (.object "jdk/internal/access/JavaLangAccess")]
  resolved := Array.replicate 67 none
  statics := some 2 }

def pool14 : Array CpInfo := pool [(2, .class_ 4), (1, u "java/nio/charset/Charset"), (130, .class_ 136), (0, u "sun/nio/cs/Unicode"), (0, .class_ 138), (0, u "sun/nio/cs/HistoricallyNamedCharset")] 15

/-- sun/nio/cs/Unicode -/
def k14 : Class := { plain "sun/nio/cs/Unicode" (some 11) with
  accessFlags := 1056
  interfaces := #[12]
  cf := some (fileOf pool14 135 #[] #[] 1056 2 #[137] #[])
  fields := #[]
  methods := #[]
  instanceTypes := #[(.object "java/lang/String"), (.array (.object "java/lang/String")), (.object "java/util/Set")]
  staticTypes := #[]
  resolved := Array.replicate 154 none
  statics := none }

def pool15 : Array CpInfo := pool [(10, .class_ 12), (1, u "sun/nio/cs/Unicode"), (0, u "<init>"), (3, .class_ 18), (0, u "sun/nio/cs/UTF_8$Decoder"), (3, .class_ 23), (0, u "sun/nio/cs/UTF_8$Encoder"), (15, .class_ 40), (0, u "sun/nio/cs/UTF_8"), (2, u "()V"), (2, u "INSTANCE"), (0, u "Lsun/nio/cs/UTF_8;"), (8, u "JLA"), (0, u "Ljdk/internal/access/JavaLangAccess;")] 26

def k15m0 : Method := { name := "<init>", desc := "()V", sig := { parameters := [], returnType := none }, accessFlags := 1, code := none }
/-- sun/nio/cs/UTF_8 -/
def k15 : Class := { plain "sun/nio/cs/UTF_8" (some 14) with
  accessFlags := 49
  interfaces := #[]
  cf := some (fileOf pool15 39 #[.nestMembers #[22, 17]] #[{ accessFlags := 1, nameIndex := 13, descriptorIndex := 43, attributes := #[] }] 49 10 #[] #[{ accessFlags := 25, nameIndex := 46, descriptorIndex := 47, attributes := #[] }, { accessFlags := 26, nameIndex := 56, descriptorIndex := 57, attributes := #[] }])
  fields := #[{ name := "INSTANCE", type := (.object "sun/nio/cs/UTF_8"), accessFlags := 25, slot := 0, constantValue := 0 }, { name := "JLA", type := (.object "jdk/internal/access/JavaLangAccess"), accessFlags := 26, slot := 1, constantValue := 0 }]
  methods := #[k15m0]
  instanceTypes := #[(.object "java/lang/String"), (.array (.object "java/lang/String")), (.object "java/util/Set")]
  staticTypes := #[(.object "sun/nio/cs/UTF_8"), (.object "jdk/internal/access/JavaLangAccess")]
  resolved := Array.replicate 84 none
  statics := some 3 }

def pool16 : Array CpInfo := pool [(10, .class_ 12), (1, u "java/nio/charset/Charset"), (0, u "<init>"), (5, .class_ 20), (0, u "sun/nio/cs/ISO_8859_1"), (0, .class_ 22), (0, u "sun/nio/cs/ISO_8859_1$Decoder"), (3, .class_ 27), (0, u "sun/nio/cs/ISO_8859_1$Encoder"), (3, u "()V"), (2, u "INSTANCE"), (0, u "Lsun/nio/cs/ISO_8859_1;"), (0, .class_ 37), (0, u "sun/nio/cs/HistoricallyNamedCharset")] 22

def k16m0 : Method := { name := "<init>", desc := "()V", sig := { parameters := [], returnType := none }, accessFlags := 1, code := none }
/-- sun/nio/cs/ISO_8859_1 -/
def k16 : Class := { plain "sun/nio/cs/ISO_8859_1" (some 11) with
  accessFlags := 33
  interfaces := #[12]
  cf := some (fileOf pool16 19 #[.nestMembers #[26, 21]] #[{ accessFlags := 1, nameIndex := 13, descriptorIndex := 31, attributes := #[] }] 33 10 #[36] #[{ accessFlags := 25, nameIndex := 34, descriptorIndex := 35, attributes := #[] }])
  fields := #[{ name := "INSTANCE", type := (.object "sun/nio/cs/ISO_8859_1"), accessFlags := 25, slot := 0, constantValue := 0 }]
  methods := #[k16m0]
  instanceTypes := #[(.object "java/lang/String"), (.array (.object "java/lang/String")), (.object "java/util/Set")]
  staticTypes := #[(.object "sun/nio/cs/ISO_8859_1")]
  resolved := Array.replicate 60 none
  statics := some 4 }

def pool17 : Array CpInfo := pool [(2, .class_ 4), (1, u "java/lang/Object"), (0, u "<init>"), (0, u "()V"), (0, .methodref 8 9), (0, .class_ 10), (0, .nameAndType 11 12), (0, u "java/lang/StringCoding"), (0, u "countPositives"), (0, u "([BII)I"), (11, u "hasNegatives"), (0, u "([BII)Z")] 23

def k17m0 : Method := { name := "<init>", desc := "()V", sig := { parameters := [], returnType := none }, accessFlags := 2, code := none }
def k17c1 : Code := { maxStack := 3, maxLocals := 3, code := jdk_123_method_2_code, exceptionTable := #[], attributes := #[] }
def k17m1 : Method := { name := "hasNegatives", desc := "([BII)Z", sig := { parameters := [(.array .byte), .int, .int], returnType := some .boolean }, accessFlags := 9, code := some k17c1 }
def k17c2 : Code := { maxStack := 2, maxLocals := 5, code := jdk_123_method_3_code, exceptionTable := #[], attributes := #[] }
def k17m2 : Method := { name := "countPositives", desc := "([BII)I", sig := { parameters := [(.array .byte), .int, .int], returnType := some .int }, accessFlags := 9, code := some k17c2 }
/-- java/lang/StringCoding -/
def k17 : Class := { plain "java/lang/StringCoding" (some 0) with
  accessFlags := 32
  interfaces := #[]
  cf := some (fileOf pool17 8 #[] #[{ accessFlags := 2, nameIndex := 5, descriptorIndex := 6, attributes := #[] }, { accessFlags := 9, nameIndex := 24, descriptorIndex := 25, attributes := #[] }, { accessFlags := 9, nameIndex := 11, descriptorIndex := 12, attributes := #[] }] 32 2 #[] #[])
  fields := #[]
  methods := #[k17m0, k17m1, k17m2]
  instanceTypes := #[]
  staticTypes := #[]
  resolved := Array.replicate 49 none
  statics := none }

def pool18 : Array CpInfo := pool [(2, .class_ 4), (1, u "java/lang/Object"), (0, u "<init>"), (0, u "()V"), (7, .class_ 16), (1, u "java/util/Arrays"), (57, .class_ 76), (1, u "java/util/Arrays$NaturalOrder"), (32, u "()Ljava/lang/Object;"), (3, .class_ 115), (1, u "java/util/Arrays$LegacyMergeSort"), (1, u "Z"), (10, .nameAndType 129 109), (0, u "clone"), (9, u "copyOfRange"), (170, .methodref 311 128), (0, .class_ 312), (0, u "[B"), (29, u "([BII)[B"), (32, .class_ 376), (0, u "java/util/Arrays$ArrayList"), (68, u "$assertionsDisabled"), (269, u "MIN_ARRAY_SORT_GRAN"), (0, u "I"), (2, u "INSERTIONSORT_THRESHOLD"), (255, .class_ 976), (0, u "java/util/Arrays$ArrayItr")] 52

def k18m0 : Method := { name := "<init>", desc := "()V", sig := { parameters := [], returnType := none }, accessFlags := 2, code := none }
def k18c1 : Code := { maxStack := 3, maxLocals := 3, code := jdk_65_method_132_code, exceptionTable := #[], attributes := #[] }
def k18m1 : Method := { name := "copyOfRange", desc := "([BII)[B", sig := { parameters := [(.array .byte), .int, .int], returnType := some (.array .byte) }, accessFlags := 9, code := some k18c1 }
/-- java/util/Arrays -/
def k18 : Class := { plain "java/util/Arrays" (some 0) with
  accessFlags := 49
  interfaces := #[]
  cf := some (fileOf pool18 14 #[.nestMembers #[975, 375, 113, 74]] #[{ accessFlags := 2, nameIndex := 5, descriptorIndex := 6, attributes := #[] }, { accessFlags := 9, nameIndex := 139, descriptorIndex := 342, attributes := #[] }] 49 2 #[] #[{ accessFlags := 26, nameIndex := 715, descriptorIndex := 716, attributes := #[] }, { accessFlags := 26, nameIndex := 719, descriptorIndex := 716, attributes := #[] }, { accessFlags := 4120, nameIndex := 445, descriptorIndex := 117, attributes := #[] }])
  fields := #[{ name := "MIN_ARRAY_SORT_GRAN", type := .int, accessFlags := 26, slot := 0, constantValue := 0 }, { name := "INSERTIONSORT_THRESHOLD", type := .int, accessFlags := 26, slot := 1, constantValue := 0 }, { name := "$assertionsDisabled", type := .boolean, accessFlags := 4120, slot := 2, constantValue := 0 }]
  methods := #[k18m0, k18m1]
  instanceTypes := #[]
  staticTypes := #[.int, .int, .boolean]
  resolved := Array.replicate 1029 none
  statics := none }

def pool19 : Array CpInfo := pool [(1, .class_ 2), (0, u "java/lang/Cloneable"), (0, .class_ 4), (0, u "java/lang/Object")] 2

/-- java/lang/Cloneable -/
def k19 : Class := { plain "java/lang/Cloneable" (some 0) with
  accessFlags := 1537
  interfaces := #[]
  cf := some (fileOf pool19 1 #[] #[] 1537 3 #[] #[])
  fields := #[]
  methods := #[]
  instanceTypes := #[]
  staticTypes := #[]
  resolved := Array.replicate 7 none
  statics := none }

def pool20 : Array CpInfo := pool [(1, .class_ 2), (0, u "java/lang/String"), (1, .class_ 6), (1, u "java/lang/Object"), (0, u "<init>"), (0, u "()V"), (0, .methodref 1 10), (0, .nameAndType 11 12), (0, u "checkIndex"), (0, u "(II)V"), (1, .class_ 16), (1, u "java/lang/StringLatin1"), (36, u "([BI)C"), (67, u "$assertionsDisabled"), (0, u "Z"), (98, .class_ 223), (1, u "java/lang/StringLatin1$LinesSpliterator"), (28, u "charAt"), (137, .class_ 391), (0, u "java/lang/StringLatin1$CharsSpliterator")] 3

def k20m0 : Method := { name := "<init>", desc := "()V", sig := { parameters := [], returnType := none }, accessFlags := 0, code := none }
def k20c1 : Code := { maxStack := 2, maxLocals := 2, code := jdk_43_method_2_code, exceptionTable := #[], attributes := #[] }
def k20m1 : Method := { name := "charAt", desc := "([BI)C", sig := { parameters := [(.array .byte), .int], returnType := some .char }, accessFlags := 9, code := some k20c1 }
/-- java/lang/StringLatin1 -/
def k20 : Class := { plain "java/lang/StringLatin1" (some 0) with
  accessFlags := 48
  interfaces := #[]
  cf := some (fileOf pool20 14 #[.nestMembers #[390, 221]] #[{ accessFlags := 0, nameIndex := 7, descriptorIndex := 8, attributes := #[] }, { accessFlags := 9, nameIndex := 252, descriptorIndex := 53, attributes := #[] }] 48 4 #[] #[{ accessFlags := 4120, nameIndex := 121, descriptorIndex := 122, attributes := #[] }])
  fields := #[{ name := "$assertionsDisabled", type := .boolean, accessFlags := 4120, slot := 0, constantValue := 0 }]
  methods := #[k20m0, k20m1]
  instanceTypes := #[]
  staticTypes := #[.boolean]
  resolved := Array.replicate 395 none
  statics := none }

def pool21 : Array CpInfo := pool [(2, .class_ 4), (1, u "java/lang/Object"), (0, u "<init>"), (0, u "()V"), (17, .class_ 26), (1, u "jdk/internal/util/Preconditions"), (6, u "checkIndex"), (21, .class_ 56), (0, u "jdk/internal/util/Preconditions$4"), (57, .class_ 115), (0, u "jdk/internal/util/Preconditions$1"), (7, u "SIOOBE_FORMATTER"), (0, u "Ljava/util/function/BiFunction;"), (0, .class_ 126), (0, u "jdk/internal/util/Preconditions$2"), (3, u "AIOOBE_FORMATTER"), (0, .class_ 132), (0, u "jdk/internal/util/Preconditions$3"), (3, u "IOOBE_FORMATTER"), (41, u "(IILjava/util/function/BiFunction;)I")] 15

def k21m0 : Method := { name := "<init>", desc := "()V", sig := { parameters := [], returnType := none }, accessFlags := 1, code := none }
def k21c1 : Code := { maxStack := 3, maxLocals := 3, code := jdk_41_method_11_code, exceptionTable := #[], attributes := #[] }
def k21m1 : Method := { name := "checkIndex", desc := "(IILjava/util/function/BiFunction;)I", sig := { parameters := [.int, .int, (.object "java/util/function/BiFunction")], returnType := some .int }, accessFlags := 9, code := some k21c1 }
/-- jdk/internal/util/Preconditions -/
def k21 : Class := { plain "jdk/internal/util/Preconditions" (some 0) with
  accessFlags := 33
  interfaces := #[]
  cf := some (fileOf pool21 24 #[.nestMembers #[55, 131, 125, 114]] #[{ accessFlags := 1, nameIndex := 5, descriptorIndex := 6, attributes := #[] }, { accessFlags := 9, nameIndex := 33, descriptorIndex := 178, attributes := #[] }] 33 2 #[] #[{ accessFlags := 25, nameIndex := 123, descriptorIndex := 124, attributes := #[] }, { accessFlags := 25, nameIndex := 130, descriptorIndex := 124, attributes := #[] }, { accessFlags := 25, nameIndex := 136, descriptorIndex := 124, attributes := #[] }])
  fields := #[{ name := "SIOOBE_FORMATTER", type := (.object "java/util/function/BiFunction"), accessFlags := 25, slot := 0, constantValue := 0 }, { name := "AIOOBE_FORMATTER", type := (.object "java/util/function/BiFunction"), accessFlags := 25, slot := 1, constantValue := 0 }, { name := "IOOBE_FORMATTER", type := (.object "java/util/function/BiFunction"), accessFlags := 25, slot := 2, constantValue := 0 }]
  methods := #[k21m0, k21m1]
  instanceTypes := #[]
  staticTypes := #[(.object "java/util/function/BiFunction"), (.object "java/util/function/BiFunction"), (.object "java/util/function/BiFunction")]
  resolved := Array.replicate 194 none
  statics := some 5 }

def pool22 : Array CpInfo := pool [(9, u "<init>"), (6, .class_ 18), (1, u "java/lang/Object"), (0, u "()V"), (1, .class_ 23), (1, u "jdk/internal/util/ArraysSupport"), (0, u "LOG2_ARRAY_LONG_INDEX_SCALE"), (0, u "I"), (2, u "U"), (0, u "Ljdk/internal/misc/Unsafe;"), (8, u "BIG_ENDIAN"), (0, u "Z"), (8, u "LOG2_BYTE_BIT_SIZE"), (4, u "LOG2_ARRAY_INT_INDEX_SCALE"), (54, u "JLA"), (0, u "Ljdk/internal/access/JavaLangAccess;"), (11, u "LOG2_ARRAY_BOOLEAN_INDEX_SCALE"), (9, u "LOG2_ARRAY_BYTE_INDEX_SCALE"), (5, u "LOG2_ARRAY_CHAR_INDEX_SCALE"), (5, u "LOG2_ARRAY_SHORT_INDEX_SCALE"), (18, u "LOG2_ARRAY_FLOAT_INDEX_SCALE"), (24, u "LOG2_ARRAY_DOUBLE_INDEX_SCALE"), (89, u "T_BOOLEAN"), (2, u "T_CHAR"), (1, u "T_FLOAT"), (1, u "T_DOUBLE"), (1, u "T_BYTE"), (1, u "T_SHORT"), (1, u "T_INT"), (1, u "T_LONG"), (1, u "SOFT_MAX_ARRAY_LENGTH")] 83

def k22m0 : Method := { name := "<init>", desc := "()V", sig := { parameters := [], returnType := none }, accessFlags := 2, code := none }
/-- jdk/internal/util/ArraysSupport -/
def k22 : Class := { plain "jdk/internal/util/ArraysSupport" (some 0) with
  accessFlags := 33
  interfaces := #[]
  cf := some (fileOf pool22 21 #[] #[{ accessFlags := 2, nameIndex := 9, descriptorIndex := 19, attributes := #[] }] 33 16 #[] #[{ accessFlags := 24, nameIndex := 28, descriptorIndex := 29, attributes := #[] }, { accessFlags := 26, nameIndex := 38, descriptorIndex := 39, attributes := #[] }, { accessFlags := 25, nameIndex := 121, descriptorIndex := 25, attributes := #[] }, { accessFlags := 25, nameIndex := 131, descriptorIndex := 25, attributes := #[] }, { accessFlags := 25, nameIndex := 137, descriptorIndex := 25, attributes := #[] }, { accessFlags := 25, nameIndex := 143, descriptorIndex := 25, attributes := #[] }, { accessFlags := 25, nameIndex := 53, descriptorIndex := 25, attributes := #[] }, { accessFlags := 25, nameIndex := 24, descriptorIndex := 25, attributes := #[] }, { accessFlags := 25, nameIndex := 162, descriptorIndex := 25, attributes := #[] }, { accessFlags := 25, nameIndex := 187, descriptorIndex := 25, attributes := #[] }, { accessFlags := 26, nameIndex := 48, descriptorIndex := 25, attributes := #[] }, { accessFlags := 25, nameIndex := 277, descriptorIndex := 25, attributes := #[] }, { accessFlags := 25, nameIndex := 280, descriptorIndex := 25, attributes := #[] }, { accessFlags := 25, nameIndex := 282, descriptorIndex := 25, attributes := #[] }, { accessFlags := 25, nameIndex := 284, descriptorIndex := 25, attributes := #[] }, { accessFlags := 25, nameIndex := 286, descriptorIndex := 25, attributes := #[] }, { accessFlags := 25, nameIndex := 288, descriptorIndex := 25, attributes := #[] }, { accessFlags := 25, nameIndex := 290, descriptorIndex := 25, attributes := #[] }, { accessFlags := 25, nameIndex := 292, descriptorIndex := 25, attributes := #[] }, { accessFlags := 26, nameIndex := 108, descriptorIndex := 109, attributes := #[] }, { accessFlags := 25, nameIndex := 294, descriptorIndex := 25, attributes := #[] }])
  fields := #[{ name := "U", type := (.object "jdk/internal/misc/Unsafe"), accessFlags := 24, slot := 0, constantValue := 0 }, { name := "BIG_ENDIAN", type := .boolean, accessFlags := 26, slot := 1, constantValue := 0 }, { name := "LOG2_ARRAY_BOOLEAN_INDEX_SCALE", type := .int, accessFlags := 25, slot := 2, constantValue := 0 }, { name := "LOG2_ARRAY_BYTE_INDEX_SCALE", type := .int, accessFlags := 25, slot := 3, constantValue := 0 }, { name := "LOG2_ARRAY_CHAR_INDEX_SCALE", type := .int, accessFlags := 25, slot := 4, constantValue := 0 }, { name := "LOG2_ARRAY_SHORT_INDEX_SCALE", type := .int, accessFlags := 25, slot := 5, constantValue := 0 }, { name := "LOG2_ARRAY_INT_INDEX_SCALE", type := .int, accessFlags := 25, slot := 6, constantValue := 0 }, { name := "LOG2_ARRAY_LONG_INDEX_SCALE", type := .int, accessFlags := 25, slot := 7, constantValue := 0 }, { name := "LOG2_ARRAY_FLOAT_INDEX_SCALE", type := .int, accessFlags := 25, slot := 8, constantValue := 0 }, { name := "LOG2_ARRAY_DOUBLE_INDEX_SCALE", type := .int, accessFlags := 25, slot := 9, constantValue := 0 }, { name := "LOG2_BYTE_BIT_SIZE", type := .int, accessFlags := 26, slot := 10, constantValue := 0 }, { name := "T_BOOLEAN", type := .int, accessFlags := 25, slot := 11, constantValue := 0 }, { name := "T_CHAR", type := .int, accessFlags := 25, slot := 12, constantValue := 0 }, { name := "T_FLOAT", type := .int, accessFlags := 25, slot := 13, constantValue := 0 }, { name := "T_DOUBLE", type := .int, accessFlags := 25, slot := 14, constantValue := 0 }, { name := "T_BYTE", type := .int, accessFlags := 25, slot := 15, constantValue := 0 }, { name := "T_SHORT", type := .int, accessFlags := 25, slot := 16, constantValue := 0 }, { name := "T_INT", type := .int, accessFlags := 25, slot := 17, constantValue := 0 }, { name := "T_LONG", type := .int, accessFlags := 25, slot := 18, constantValue := 0 }, { name := "JLA", type := (.object "jdk/internal/access/JavaLangAccess"), accessFlags := 26, slot := 19, constantValue := 0 }, { name := "SOFT_MAX_ARRAY_LENGTH", type := .int, accessFlags := 25, slot := 20, constantValue := 0 }]
  methods := #[k22m0]
  instanceTypes := #[]
  staticTypes := #[(.object "jdk/internal/misc/Unsafe"), .boolean, .int, .int, .int, .int, .int, .int, .int, .int, .int, .int, .int, .int, .int, .int, .int, .int, .int, (.object "jdk/internal/access/JavaLangAccess"), .int]
  resolved := Array.replicate 378 none
  statics := none }

/-- the primitive byte -/
def k23 : Class := { plain "byte" none with kind := .primitive 'B', accessFlags := 0x411 }
/-- [B -/
def k24 : Class := { plain "[B" (some 0) with kind := .array 23 .byte, interfaces := #[19, 3], accessFlags := 1041 }

/-- the primitive int -/
def k25 : Class := { plain "int" none with kind := .primitive 'I', accessFlags := 0x411 }
/-- [I -/
def k26 : Class := { plain "[I" (some 0) with kind := .array 25 .int, interfaces := #[19, 3], accessFlags := 1041 }

/-- the primitive long -/
def k27 : Class := { plain "long" none with kind := .primitive 'J', accessFlags := 0x411 }
/-- [J -/
def k28 : Class := { plain "[J" (some 0) with kind := .array 27 .long, interfaces := #[19, 3], accessFlags := 1041 }

def heap : Heap := #[{ cls := 8, slots := #[.long 0, .int 1, .null, .int 0, .null, .int 0, .int 0], vm := .statics 8 },
  { cls := 9, slots := #[.ref 6, .null, .null, .null, .null, .null], vm := .statics 9 },
  { cls := 13, slots := #[.ref 6, .null], vm := .statics 13 },
  { cls := 15, slots := #[.ref 7, .null], vm := .statics 15 },
  { cls := 16, slots := #[.ref 8], vm := .statics 16 },
  { cls := 21, slots := #[.null, .null, .null], vm := .statics 21 },
  { cls := 13, slots := #[.null, .null, .null], vm := .none },
  { cls := 15, slots := #[.null, .null, .null], vm := .none },
  { cls := 16, slots := #[.null, .null, .null], vm := .none }]
def classes : Array Class := #[k0, k1, k2, k3, k4, k5, k6, k7, k8, k9, k10, k11, k12, k13, k14, k15, k16, k17, k18, k19, k20, k21, k22, k23, k24, k25, k26, k27, k28]
def interned : List (Array UInt16 × Addr) := []
def slotsUsed : Nat := 30
def theMethod : MethodId := ⟨1, 2⟩
def args0 : Array Value := #[.long 5, .int 7, .int 3]
def aboutOver (below : List Frame) : State where
  vm := { classes := classes, interned := interned.toArray }
  heap := heap
  slotsUsed := slotsUsed
  threads := #[{ frames := .invoking theMethod args0 :: below }]
def below0 : List Frame := [.native { method := ⟨0, 0⟩, args := #[] }]
def about1 : State := aboutOver below0
def p0 : Program := .bare "" "" ""
def e0 : Env := launch0.env 0 0 0
theorem w_frames : about1.frames = Frame.invoking theMethod args0 :: below0 := rfl
set_option maxRecDepth 65536 in
theorem w_args : argsFit about1.vm theMethod args0 = true := by decide +kernel
set_option maxRecDepth 65536 in
theorem w_heap : heapFits about1 = true := by decide +kernel
set_option maxRecDepth 65536 in
theorem w_runnable : about1.curStatus? = some .runnable := by decide +kernel
set_option maxRecDepth 65536 in
theorem w_alone : about1.alone = true := by decide +kernel
set_option maxRecDepth 65536 in
theorem w_named : about1.methodNamed? x = some theMethod := by decide +kernel
set_option maxRecDepth 65536 in
theorem w_hears : about1.hears theMethod below0 = true := by decide +kernel
set_option maxRecDepth 65536 in
theorem w_ripe : about1.ripe theMethod args0 below0 = true := by decide +kernel
theorem w_running : about1.status = .running := rfl
set_option maxRecDepth 65536 in
theorem w_room : about1.hasRoom e0.platform room_1 = true :=
  launch0.hasRoom_least _ room_1 (by decide +kernel) (by decide +kernel) (by decide +kernel) (by decide +kernel) (by decide +kernel) (by decide +kernel)
theorem allAtoms_all (ts : List Jvm.Cond) (a : Array Jvm.Value) (st : Jvm.State) : (allAtoms ts).before a st = ts.all (fun c => c.before a st) := by
  induction ts with
  | nil => rfl
  | cons c t ih =>
    show (Jvm.Cond.and c (allAtoms t)).before a st = _
    rw [Jvm.Cond.before_and, ih, List.all_cons]
def words1 : List Jvm.Cond := Jvm.Cond.code x code maxLocals ret :: tables_1
/-- a 'code' word, met by the world's own term for the bytes: nothing is compared byte by byte -/
theorem code_word {y : MethodName} {bytes : ByteArray} {mx : Nat} {rt : Option FieldType} {a : Array Value} {s : State} {m : MethodId} {meth : Method} {c : Code} (h1 : s.methodNamed? y = some m) (h2 : s.vm.method? m = some meth) (h3 : meth.code = some c) (h4 : c.code = bytes)
    (h5 : (c.maxLocals == mx && c.exceptionTable.isEmpty && decide (c.maxStack ≤ mostOperands) && decide (meth.sig.returnType = rt) && !meth.locks && decide (parseMethodDescriptor y.desc = some meth.sig)) = true) : (Jvm.Cond.code y bytes mx rt).before a s = true := by
  simp only [Bool.and_eq_true, beq_iff_eq, Bool.not_eq_true', decide_eq_true_eq] at h5
  obtain ⟨⟨⟨⟨⟨g1, g2⟩, g3⟩, g4⟩, g5⟩, g6⟩ := h5
  simp [Cond.before, Cond.holds, Cond.value, h1, h2, h3, h4, g1, g2, g3, g4, g5, g6]
theorem own_cword {y : MethodName} {bytes : ByteArray} {mx : Nat} {rt : Option FieldType} {hs : List (Nat × Nat × Nat × Nat)} {a : Array Value} {s : State} {m : MethodId} {meth : Method} {c : Code} (h1 : s.methodNamed? y = some m) (h2 : s.vm.method? m = some meth) (h3 : meth.code = some c) (h4 : c.code = bytes)
    (h5 : (c.maxLocals == mx && (c.exceptionTable.toList.map (fun h => (h.startPc, h.endPc, h.handlerPc, h.catchType)) == hs) && decide (c.maxStack ≤ mostOperands) && decide (meth.sig.returnType = rt) && !meth.locks && decide (parseMethodDescriptor y.desc = some meth.sig)) = true) : (Jvm.Cond.codeWith y bytes mx rt hs).before a s = true := by
  simp only [Bool.and_eq_true, beq_iff_eq, Bool.not_eq_true', decide_eq_true_eq] at h5
  obtain ⟨⟨⟨⟨⟨g1, g2⟩, g3⟩, g4⟩, g5⟩, g6⟩ := h5
  simp [Cond.before, Cond.holds, Cond.value, h1, h2, h3, h4, g1, g2, g3, g4, g5, g6]
def isCode : Jvm.Cond → Bool
  | .code _ _ _ _ => true
  | .codeWith _ _ _ _ _ => true
  | _ => false
theorem all_split {L : List Jvm.Cond} {P : Jvm.Cond → Bool} (h1 : L.all (fun c => isCode c || P c) = true) (h2 : ∀ c ∈ L.filter isCode, P c = true) : L.all P = true := by
  refine List.all_eq_true.mpr fun c hc => ?_
  have h := List.all_eq_true.mp h1 c hc
  rcases Bool.eq_false_or_eq_true (isCode c) with hi | hi
  · exact h2 c (List.mem_filter.mpr ⟨hc, hi⟩)
  · simpa [hi] using h
set_option maxRecDepth 65536 in
theorem w_c0 : (Jvm.Cond.code x code maxLocals ret).before args0 about1 = true := code_word (m := ⟨1, 2⟩) (meth := k1m2) (c := k1c2) (by decide +kernel) rfl rfl rfl (by decide +kernel)
set_option maxRecDepth 65536 in
theorem w_c1 : (Jvm.Cond.code ({ cls := "com/example/clotho/clotho/server/store/KeysNumberedPinLaw", name := "pow10", desc := "(I)J" } : Jvm.MethodName) method_2_code (2 : Nat) (Option.some Jvm.ClassFile.FieldType.long)).before args0 about1 = true := code_word (m := ⟨1, 1⟩) (meth := k1m1) (c := k1c1) (by decide +kernel) rfl rfl rfl (by decide +kernel)
set_option maxRecDepth 65536 in
theorem w_c2 : (Jvm.Cond.code ({ cls := "com/example/clotho/clotho/server/store/Keys", name := "numbered", desc := "(JI)Ljava/lang/String;" } : Jvm.MethodName) prog_10_method_4_code (7 : Nat) (Option.some (Jvm.ClassFile.FieldType.object "java/lang/String"))).before args0 about1 = true := code_word (m := ⟨2, 1⟩) (meth := k2m1) (c := k2c1) (by decide +kernel) rfl rfl rfl (by decide +kernel)
set_option maxRecDepth 65536 in
theorem w_c3 : (Jvm.Cond.code ({ cls := "java/lang/String", name := "<init>", desc := "([BLjava/nio/charset/Charset;)V" } : Jvm.MethodName) jdk_42_method_49_code (3 : Nat) (Option.none : Option Jvm.ClassFile.FieldType)).before args0 about1 = true := code_word (m := ⟨8, 2⟩) (meth := k8m2) (c := k8c2) (by decide +kernel) rfl rfl rfl (by decide +kernel)
set_option maxRecDepth 65536 in
theorem w_c4 : (Jvm.Cond.code ({ cls := "java/util/Objects", name := "requireNonNull", desc := "(Ljava/lang/Object;)Ljava/lang/Object;" } : Jvm.MethodName) jdk_31_method_10_code (1 : Nat) (Option.some (Jvm.ClassFile.FieldType.object "java/lang/Object"))).before args0 about1 = true := code_word (m := ⟨10, 1⟩) (meth := k10m1) (c := k10c1) (by decide +kernel) rfl rfl rfl (by decide +kernel)
set_option maxRecDepth 65536 in
theorem w_c5 : (Jvm.Cond.code ({ cls := "java/lang/Object", name := "<init>", desc := "()V" } : Jvm.MethodName) object_method_1_code (1 : Nat) (Option.none : Option Jvm.ClassFile.FieldType)).before args0 about1 = true := code_word (m := ⟨0, 0⟩) (meth := k0m0) (c := k0c0) (by decide +kernel) rfl rfl rfl (by decide +kernel)
set_option maxRecDepth 65536 in
theorem w_c6 : (Jvm.Cond.code ({ cls := "java/lang/StringCoding", name := "hasNegatives", desc := "([BII)Z" } : Jvm.MethodName) jdk_123_method_2_code (3 : Nat) (Option.some Jvm.ClassFile.FieldType.boolean)).before args0 about1 = true := code_word (m := ⟨17, 1⟩) (meth := k17m1) (c := k17c1) (by decide +kernel) rfl rfl rfl (by decide +kernel)
set_option maxRecDepth 65536 in
theorem w_c7 : (Jvm.Cond.code ({ cls := "java/lang/StringCoding", name := "countPositives", desc := "([BII)I" } : Jvm.MethodName) jdk_123_method_3_code (5 : Nat) (Option.some Jvm.ClassFile.FieldType.int)).before args0 about1 = true := code_word (m := ⟨17, 2⟩) (meth := k17m2) (c := k17c2) (by decide +kernel) rfl rfl rfl (by decide +kernel)
set_option maxRecDepth 65536 in
theorem w_c8 : (Jvm.Cond.code ({ cls := "java/util/Arrays", name := "copyOfRange", desc := "([BII)[B" } : Jvm.MethodName) jdk_65_method_132_code (3 : Nat) (Option.some (Jvm.ClassFile.FieldType.array Jvm.ClassFile.FieldType.byte))).before args0 about1 = true := code_word (m := ⟨18, 1⟩) (meth := k18m1) (c := k18c1) (by decide +kernel) rfl rfl rfl (by decide +kernel)
set_option maxRecDepth 65536 in
theorem w_c9 : (Jvm.Cond.code ({ cls := "java/lang/String", name := "length", desc := "()I" } : Jvm.MethodName) jdk_42_method_54_code (1 : Nat) (Option.some Jvm.ClassFile.FieldType.int)).before args0 about1 = true := code_word (m := ⟨8, 3⟩) (meth := k8m3) (c := k8c3) (by decide +kernel) rfl rfl rfl (by decide +kernel)
set_option maxRecDepth 65536 in
theorem w_c10 : (Jvm.Cond.code ({ cls := "java/lang/String", name := "coder", desc := "()B" } : Jvm.MethodName) jdk_42_method_152_code (1 : Nat) (Option.some Jvm.ClassFile.FieldType.byte)).before args0 about1 = true := code_word (m := ⟨8, 5⟩) (meth := k8m5) (c := k8c5) (by decide +kernel) rfl rfl rfl (by decide +kernel)
set_option maxRecDepth 65536 in
theorem w_c11 : (Jvm.Cond.code ({ cls := "java/lang/String", name := "charAt", desc := "(I)C" } : Jvm.MethodName) jdk_42_method_56_code (2 : Nat) (Option.some Jvm.ClassFile.FieldType.char)).before args0 about1 = true := code_word (m := ⟨8, 4⟩) (meth := k8m4) (c := k8c4) (by decide +kernel) rfl rfl rfl (by decide +kernel)
set_option maxRecDepth 65536 in
theorem w_c12 : (Jvm.Cond.code ({ cls := "java/lang/String", name := "isLatin1", desc := "()Z" } : Jvm.MethodName) jdk_42_method_154_code (1 : Nat) (Option.some Jvm.ClassFile.FieldType.boolean)).before args0 about1 = true := code_word (m := ⟨8, 6⟩) (meth := k8m6) (c := k8c6) (by decide +kernel) rfl rfl rfl (by decide +kernel)
set_option maxRecDepth 65536 in
theorem w_c13 : (Jvm.Cond.code ({ cls := "java/lang/StringLatin1", name := "charAt", desc := "([BI)C" } : Jvm.MethodName) jdk_43_method_2_code (2 : Nat) (Option.some Jvm.ClassFile.FieldType.char)).before args0 about1 = true := code_word (m := ⟨20, 1⟩) (meth := k20m1) (c := k20c1) (by decide +kernel) rfl rfl rfl (by decide +kernel)
set_option maxRecDepth 65536 in
theorem w_c14 : (Jvm.Cond.code ({ cls := "java/lang/String", name := "checkIndex", desc := "(II)V" } : Jvm.MethodName) jdk_42_method_155_code (2 : Nat) (Option.none : Option Jvm.ClassFile.FieldType)).before args0 about1 = true := code_word (m := ⟨8, 7⟩) (meth := k8m7) (c := k8c7) (by decide +kernel) rfl rfl rfl (by decide +kernel)
set_option maxRecDepth 65536 in
theorem w_c15 : (Jvm.Cond.code ({ cls := "jdk/internal/util/Preconditions", name := "checkIndex", desc := "(IILjava/util/function/BiFunction;)I" } : Jvm.MethodName) jdk_41_method_11_code (3 : Nat) (Option.some Jvm.ClassFile.FieldType.int)).before args0 about1 = true := code_word (m := ⟨21, 1⟩) (meth := k21m1) (c := k21c1) (by decide +kernel) rfl rfl rfl (by decide +kernel)
set_option maxRecDepth 65536 in
theorem w_cw : (Jvm.Cond.codeWith ({ cls := "java/lang/String", name := "<init>", desc := "(Ljava/nio/charset/Charset;[BII)V" } : Jvm.MethodName) jdk_42_method_11_code (11 : Nat) (Option.none : Option Jvm.ClassFile.FieldType) [((800 : Nat), (813 : Nat), (816 : Nat), (202 : Nat))]).before args0 about1 = true := own_cword (m := ⟨8, 1⟩) (meth := k8m1) (c := k8c1) (by decide +kernel) rfl rfl rfl (by decide +kernel)
def codes1 : List Jvm.Cond := [Jvm.Cond.code x code maxLocals ret, Jvm.Cond.code ({ cls := "com/example/clotho/clotho/server/store/KeysNumberedPinLaw", name := "pow10", desc := "(I)J" } : Jvm.MethodName) method_2_code (2 : Nat) (Option.some Jvm.ClassFile.FieldType.long), Jvm.Cond.code ({ cls := "com/example/clotho/clotho/server/store/Keys", name := "numbered", desc := "(JI)Ljava/lang/String;" } : Jvm.MethodName) prog_10_method_4_code (7 : Nat) (Option.some (Jvm.ClassFile.FieldType.object "java/lang/String")), Jvm.Cond.code ({ cls := "java/lang/String", name := "<init>", desc := "([BLjava/nio/charset/Charset;)V" } : Jvm.MethodName) jdk_42_method_49_code (3 : Nat) (Option.none : Option Jvm.ClassFile.FieldType), Jvm.Cond.code ({ cls := "java/util/Objects", name := "requireNonNull", desc := "(Ljava/lang/Object;)Ljava/lang/Object;" } : Jvm.MethodName) jdk_31_method_10_code (1 : Nat) (Option.some (Jvm.ClassFile.FieldType.object "java/lang/Object")), Jvm.Cond.codeWith ({ cls := "java/lang/String", name := "<init>", desc := "(Ljava/nio/charset/Charset;[BII)V" } : Jvm.MethodName) jdk_42_method_11_code (11 : Nat) (Option.none : Option Jvm.ClassFile.FieldType) [((800 : Nat), (813 : Nat), (816 : Nat), (202 : Nat))], Jvm.Cond.code ({ cls := "java/lang/Object", name := "<init>", desc := "()V" } : Jvm.MethodName) object_method_1_code (1 : Nat) (Option.none : Option Jvm.ClassFile.FieldType), Jvm.Cond.code ({ cls := "java/lang/StringCoding", name := "hasNegatives", desc := "([BII)Z" } : Jvm.MethodName) jdk_123_method_2_code (3 : Nat) (Option.some Jvm.ClassFile.FieldType.boolean), Jvm.Cond.code ({ cls := "java/lang/StringCoding", name := "countPositives", desc := "([BII)I" } : Jvm.MethodName) jdk_123_method_3_code (5 : Nat) (Option.some Jvm.ClassFile.FieldType.int), Jvm.Cond.code ({ cls := "java/util/Arrays", name := "copyOfRange", desc := "([BII)[B" } : Jvm.MethodName) jdk_65_method_132_code (3 : Nat) (Option.some (Jvm.ClassFile.FieldType.array Jvm.ClassFile.FieldType.byte)), Jvm.Cond.code ({ cls := "java/lang/String", name := "length", desc := "()I" } : Jvm.MethodName) jdk_42_method_54_code (1 : Nat) (Option.some Jvm.ClassFile.FieldType.int), Jvm.Cond.code ({ cls := "java/lang/String", name := "coder", desc := "()B" } : Jvm.MethodName) jdk_42_method_152_code (1 : Nat) (Option.some Jvm.ClassFile.FieldType.byte), Jvm.Cond.code ({ cls := "java/lang/String", name := "charAt", desc := "(I)C" } : Jvm.MethodName) jdk_42_method_56_code (2 : Nat) (Option.some Jvm.ClassFile.FieldType.char), Jvm.Cond.code ({ cls := "java/lang/String", name := "isLatin1", desc := "()Z" } : Jvm.MethodName) jdk_42_method_154_code (1 : Nat) (Option.some Jvm.ClassFile.FieldType.boolean), Jvm.Cond.code ({ cls := "java/lang/StringLatin1", name := "charAt", desc := "([BI)C" } : Jvm.MethodName) jdk_43_method_2_code (2 : Nat) (Option.some Jvm.ClassFile.FieldType.char), Jvm.Cond.code ({ cls := "java/lang/String", name := "checkIndex", desc := "(II)V" } : Jvm.MethodName) jdk_42_method_155_code (2 : Nat) (Option.none : Option Jvm.ClassFile.FieldType), Jvm.Cond.code ({ cls := "jdk/internal/util/Preconditions", name := "checkIndex", desc := "(IILjava/util/function/BiFunction;)I" } : Jvm.MethodName) jdk_41_method_11_code (3 : Nat) (Option.some Jvm.ClassFile.FieldType.int)]
set_option maxRecDepth 65536 in
theorem codes_eq : words1.filter isCode = codes1 := rfl
theorem w_codes : ∀ c ∈ words1.filter isCode, c.before args0 about1 = true := by
  rw [codes_eq]
  intro c hc
  simp only [codes1, List.mem_cons, List.not_mem_nil, or_false] at hc
  rcases hc with rfl | rfl | rfl | rfl | rfl | rfl | rfl | rfl | rfl | rfl | rfl | rfl | rfl | rfl | rfl | rfl | rfl
  · exact w_c0
  · exact w_c1
  · exact w_c2
  · exact w_c3
  · exact w_c4
  · exact w_cw
  · exact w_c5
  · exact w_c6
  · exact w_c7
  · exact w_c8
  · exact w_c9
  · exact w_c10
  · exact w_c11
  · exact w_c12
  · exact w_c13
  · exact w_c14
  · exact w_c15
set_option maxRecDepth 65536 in
theorem w_t1 : (words1.take 24).all (fun c => isCode c || c.before args0 about1) = true := by decide +kernel
set_option maxRecDepth 65536 in
theorem w_t2 : ((words1.drop 24).take 24).all (fun c => isCode c || c.before args0 about1) = true := by decide +kernel
set_option maxRecDepth 65536 in
theorem w_t3 : (((words1.drop 24).drop 24).take 24).all (fun c => isCode c || c.before args0 about1) = true := by decide +kernel
set_option maxRecDepth 65536 in
theorem w_t4 : ((((words1.drop 24).drop 24).drop 24).take 24).all (fun c => isCode c || c.before args0 about1) = true := by decide +kernel
set_option maxRecDepth 65536 in
theorem w_t5 : (((((words1.drop 24).drop 24).drop 24).drop 24).take 24).all (fun c => isCode c || c.before args0 about1) = true := by decide +kernel
set_option maxRecDepth 65536 in
theorem w_t6 : (((((words1.drop 24).drop 24).drop 24).drop 24).drop 24).all (fun c => isCode c || c.before args0 about1) = true := by decide +kernel
theorem w_tables : (allAtoms (Jvm.Cond.code x code maxLocals ret :: tables_1)).before args0 about1 = true := by
  rw [allAtoms_all]
  show words1.all (fun c => c.before args0 about1) = true
  refine all_split ?_ w_codes
  rw [← List.take_append_drop 24 words1, List.all_append, w_t1, ← List.take_append_drop 24 (words1.drop 24), List.all_append, w_t2, ← List.take_append_drop 24 ((words1.drop 24).drop 24), List.all_append, w_t3, ← List.take_append_drop 24 (((words1.drop 24).drop 24).drop 24), List.all_append, w_t4, ← List.take_append_drop 24 ((((words1.drop 24).drop 24).drop 24).drop 24), List.all_append, w_t5, w_t6]
  rfl
set_option maxRecDepth 65536 in
theorem w_rest : rest_1_c.before args0 about1 = true := by decide +kernel
set_option maxRecDepth 65536 in
theorem w_case : (Jvm.Cond.and given_1 narrow_1).before args0 about1 = true := by decide +kernel
set_option maxRecDepth 65536 in
theorem w_consts : constsHeld consts_1 about1 := Jvm.Lit.constsHeldB_iff.mp (by decide +kernel)
theorem w_applies : (headSpec (Jvm.Cond.code x code maxLocals ret :: tables_1) room_1).applies x e0.platform about1 = true :=
  (Spec.applies_iff w_frames).mpr ⟨w_running, w_runnable, w_alone, w_named, w_hears, w_ripe, w_room, w_tables⟩
theorem atStart : AtStart classFile x code maxLocals ret World_1 tables_1 room_1 Calls_1 rest_1 Pre_1 launch0 p0 e0 about1 theMethod args0 below0 :=
  ⟨lists_1, trivial, launch0.admits_env _ _ _, launch0.least_env, fairChoices_fair.cas, fairChoices_fair.clock, w_frames, w_args, w_heap, w_applies, ⟨w_consts, trivial⟩, w_rest, w_case⟩
end start1
theorem witness_1 : WitnessClaimed_1 := ⟨start1.p0, start1.e0, start1.about1, start1.theMethod, start1.args0, start1.below0, start1.atStart⟩
end Jvm.Pilot.@@N@@
