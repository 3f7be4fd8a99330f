import JvmDerived
import JvmDerived.Pilot.@@N@@Statement
import JvmDerived.Pilot.@@N@@Code
set_option linter.unusedVariables false
set_option linter.unusedSimpArgs false
@@BLOCK:NumsL.lean.txt@@
namespace Jvm.RoadKit
open Sem ClassFile Op Lib Jvm.Stand Jvm.Free Jvm.LawKit
section New
variable {p : Program} {l : Launch} {e : Env} {R : Room} {s : State} {m : MethodId} {args : Array Value} {below : List Frame} {meth : Method} {c : Code} {T : State} {locs : List Loc} {cells slots : Nat}
theorem retI (X : Stand p l e R s m args below meth c T locs cells slots) (hx : p.tables.exec = Jvm.exec) {pc : Nat} {Ls : Array Slot} {z : Int32} {rest : List Value} (hret : meth.sig.returnType = some .int) (hd : decode c.code pc = .ok (.ireturn, 1)) {fs : List Frame}
    (hl : ∀ (f : JFrame) (acts : List Action), f.method = m → f.locked = none → f.entered = [] → (doReturn e (T.setTop f) acts (some (.int z))).1 = T.setFrames fs) : Steps p.tables e below (T.setTop (mkF m pc Ls (.int z :: rest))) (T.setFrames fs) := by
  have hm' : T.vm.method? m = some meth := X.method'
  have hn : narrow .int (.int z) = .int z := rfl
  show Steps p.tables e below (T.setTop { method := m, pc := pc, locals := Ls, stack := _ :: rest, locked := none }) _
  jvm_step X.here [X.here.top, hx, hd, hm', hret, hn]
  first | (intro acts; rw [hl _ acts rfl rfl rfl]) | rw [hl _ _ rfl rfl rfl]
  exact Steps.refl _
end New
end Jvm.RoadKit
namespace Jvm.Pilot.@@N@@
open Jvm Jvm.ClassFile Sem Op Lib Jvm.Free Jvm.Stand Jvm.LawKit Jvm.RoadKit Bundle Jvm.Pilot.@@N@@.Jvm.D
/-- from here the run comes to an end of which G holds -/
def Go (tb : Tables) (e : Env) (below : List Frame) (G : State → Outcome → Prop) (U : State) : Prop := ∃ t o, Steps tb e below U t ∧ G t o
theorem Go.st {tb : Tables} {e : Env} {below : List Frame} {G : State → Outcome → Prop} {U U' : State} (h : ∀ t, Steps tb e below U' t → Steps tb e below U t) (k : Go tb e below G U') : Go tb e below G U :=
  let ⟨t, o, a, b⟩ := k
  ⟨t, o, h t a, b⟩
theorem Go.start {tb : Tables} {e : Env} {below : List Frame} {G0 : State → Outcome → Prop} {U : State} (h : ∀ G, G = G0 → Go tb e below G U) : Go tb e below G0 U := h _ rfl
theorem Go.join {tb : Tables} {e : Env} {below : List Frame} {G : State → Outcome → Prop} {U : State} {α : Type} {F : α → State} (k : ∀ z, Go tb e below G (F z)) (h : (∀ z, Go tb e below G (F z)) → Go tb e below G U) : Go tb e below G U := h k
theorem Go.joinR {tb : Tables} {e : Env} {below : List Frame} {G : State → Outcome → Prop} {U : State} {α : Type} {F : α → State} {R : α → Prop} (k : ∀ z, R z → Go tb e below G (F z)) (h : (∀ z, R z → Go tb e below G (F z)) → Go tb e below G U) : Go tb e below G U := h k
theorem own_lrem {tb : Tables} {e : Env} {below : List Frame} {T target : State} {g : JFrame} {n : Nat} {x y : Int64} {rest : List Value} (k : Steps tb e below (T.setTop { g with pc := n, stack := .long (x % y) :: rest }) target) :
    Steps tb e below (T.setTop { g with pc := n, stack := .long (x - (x / y) * y) :: rest }) target := by
  rw [lrem_mod]
  exact k
theorem i64_addc (x y : Int64) : (x + y).toInt = x.toInt + y.toInt ∧ -2 ^ 63 ≤ x.toInt + y.toInt ∧ x.toInt + y.toInt < 2 ^ 63 ∨ (x + y).toInt = x.toInt + y.toInt - 2 ^ 64 ∧ 2 ^ 63 ≤ x.toInt + y.toInt ∨ (x + y).toInt = x.toInt + y.toInt + 2 ^ 64 ∧ x.toInt + y.toInt < -2 ^ 63 := by
  have h := Int64.toInt_add x y
  have a1 := Int64.le_toInt x
  have a2 := Int64.toInt_lt x
  have b1 := Int64.le_toInt y
  have b2 := Int64.toInt_lt y
  rw [Int.bmod_def] at h
  split at h <;> omega
theorem i64_subc (x y : Int64) : (x - y).toInt = x.toInt - y.toInt ∧ -2 ^ 63 ≤ x.toInt - y.toInt ∧ x.toInt - y.toInt < 2 ^ 63 ∨ (x - y).toInt = x.toInt - y.toInt - 2 ^ 64 ∧ 2 ^ 63 ≤ x.toInt - y.toInt ∨ (x - y).toInt = x.toInt - y.toInt + 2 ^ 64 ∧ x.toInt - y.toInt < -2 ^ 63 := by
  have h := Int64.toInt_sub x y
  have a1 := Int64.le_toInt x
  have a2 := Int64.toInt_lt x
  have b1 := Int64.le_toInt y
  have b2 := Int64.toInt_lt y
  rw [Int.bmod_def] at h
  split at h <;> omega
theorem i32_i2c (x : Int32) : (x.toUInt32.toUInt16.toUInt32.toInt32).toInt = x.toInt % 65536 := by
  have h1 : (x.toUInt32.toUInt16.toUInt32.toInt32).toInt = ((x.toUInt32.toUInt16.toUInt32).toNat : Int).bmod (2 ^ 32) := by
    rw [← Int32.toInt_toBitVec, BitVec.toInt_eq_toNat_bmod]; rfl
  have h2 : (x.toUInt32.toUInt16.toUInt32).toNat = x.toBitVec.toNat % 65536 := by
    simp [UInt32.toNat_toUInt16, UInt16.toNat_toUInt32]; rfl
  have h3 : x.toInt = (x.toBitVec.toNat : Int).bmod (2 ^ 32) := by
    rw [← Int32.toInt_toBitVec, BitVec.toInt_eq_toNat_bmod]
  have h4 := x.toBitVec.isLt
  rw [h1, h2, h3, Int.bmod_def, Int.bmod_def]
  split <;> split <;> omega
theorem i32_addc (x y : Int32) : (x + y).toInt = x.toInt + y.toInt ∧ -2 ^ 31 ≤ x.toInt + y.toInt ∧ x.toInt + y.toInt < 2 ^ 31 ∨ (x + y).toInt = x.toInt + y.toInt - 2 ^ 32 ∧ 2 ^ 31 ≤ x.toInt + y.toInt ∨ (x + y).toInt = x.toInt + y.toInt + 2 ^ 32 ∧ x.toInt + y.toInt < -2 ^ 31 := by
  have h := Int32.toInt_add x y
  have a1 := Int32.le_toInt x
  have a2 := Int32.toInt_lt x
  have b1 := Int32.le_toInt y
  have b2 := Int32.toInt_lt y
  rw [Int.bmod_def] at h
  split at h <;> omega
theorem i32_subc (x y : Int32) : (x - y).toInt = x.toInt - y.toInt ∧ -2 ^ 31 ≤ x.toInt - y.toInt ∧ x.toInt - y.toInt < 2 ^ 31 ∨ (x - y).toInt = x.toInt - y.toInt - 2 ^ 32 ∧ 2 ^ 31 ≤ x.toInt - y.toInt ∨ (x - y).toInt = x.toInt - y.toInt + 2 ^ 32 ∧ x.toInt - y.toInt < -2 ^ 31 := by
  have h := Int32.toInt_sub x y
  have a1 := Int32.le_toInt x
  have a2 := Int32.toInt_lt x
  have b1 := Int32.le_toInt y
  have b2 := Int32.toInt_lt y
  rw [Int.bmod_def] at h
  split at h <;> omega
theorem own_eq32 {a b : Int32} (h : a.toInt = b.toInt) : a = b := Int32.toInt_inj.mp h
theorem own_eq64 {a b : Int64} (h : a.toInt = b.toInt) : a = b := Int64.toInt_inj.mp h
theorem own_lt64 {a b : Int64} (h : a.toInt < b.toInt) : a < b := Int64.lt_iff_toInt_lt.mpr h
theorem own_lt32 {a b : Int32} (h : a.toInt < b.toInt) : a < b := Int32.lt_iff_toInt_lt.mpr h
theorem own_nlt64 {a b : Int64} (h : b.toInt ≤ a.toInt) : ¬ a < b := fun z => by have := Int64.lt_iff_toInt_lt.mp z; omega
theorem own_nlt32 {a b : Int32} (h : b.toInt ≤ a.toInt) : ¬ a < b := fun z => by have := Int32.lt_iff_toInt_lt.mp z; omega
theorem own_ne32 {a b : Int32} (h : a.toInt ≠ b.toInt) : ¬ a = b := fun z => h (by rw [z])
theorem own_ne64 {a b : Int64} (h : a.toInt ≠ b.toInt) : ¬ a = b := fun z => h (by rw [z])
theorem own_lushr0 (y : Int64) (n : UInt64) (hy : 0 ≤ y.toInt) : 0 ≤ ((y.toUInt64 >>> n).toInt64).toInt := by
  have h0 : y.toInt = (y.toUInt64.toNat : Int).bmod (2 ^ 64) := by
    rw [← Int64.toInt_toBitVec, BitVec.toInt_eq_toNat_bmod]; rfl
  have h1 : ((y.toUInt64 >>> n).toInt64).toInt = ((y.toUInt64 >>> n).toNat : Int).bmod (2 ^ 64) := by
    rw [← Int64.toInt_toBitVec, BitVec.toInt_eq_toNat_bmod]; rfl
  have h2 : (y.toUInt64 >>> n).toNat = y.toUInt64.toNat >>> (n.toNat % 64) := by
    simp [UInt64.toNat_shiftRight]
  have h3 : y.toUInt64.toNat >>> (n.toNat % 64) ≤ y.toUInt64.toNat := by
    rw [Nat.shiftRight_eq_div_pow]; exact Nat.div_le_self _ _
  have h4 := y.toUInt64.toNat_lt
  rw [h1, h2]
  rw [h0] at hy
  generalize y.toUInt64.toNat >>> (n.toNat % 64) = u at *
  generalize y.toUInt64.toNat = w at *
  rw [Int.bmod_def] at hy ⊢
  split at hy <;> split <;> omega
theorem own_lushr32 (y : Int64) {n : UInt64} (hn : n.toNat = 32) : ((y.toUInt64 >>> n).toInt64).toInt = (y.toInt % 2 ^ 64) / 2 ^ 32 := by
  have h0 : y.toInt = (y.toUInt64.toNat : Int).bmod (2 ^ 64) := by
    rw [← Int64.toInt_toBitVec, BitVec.toInt_eq_toNat_bmod]; rfl
  have h1 : ((y.toUInt64 >>> n).toInt64).toInt = ((y.toUInt64 >>> n).toNat : Int).bmod (2 ^ 64) := by
    rw [← Int64.toInt_toBitVec, BitVec.toInt_eq_toNat_bmod]; rfl
  have h2 : (y.toUInt64 >>> n).toNat = y.toUInt64.toNat / 2 ^ 32 := by
    simp [UInt64.toNat_shiftRight, hn, Nat.shiftRight_eq_div_pow]
  have h4 := y.toUInt64.toNat_lt
  rw [h1, h2, h0]
  generalize y.toUInt64.toNat = w at *
  rw [Int.bmod_def, Int.bmod_def]
  split <;> split <;> omega
def fmul (a b : Int64) : Int64 := if a = 0 then a * b else if (9223372036854775807 : Int64) / a < b then 9223372036854775807 else a * b
theorem own_fmul {a b : Int64} (ha : 0 ≤ a.toInt) (hb : 0 ≤ b.toInt) : (a.toInt * b.toInt < 2 ^ 63 → fmul a b = a * b) ∧ (2 ^ 63 ≤ a.toInt * b.toInt → fmul a b = 9223372036854775807) := by
  have hm : (9223372036854775807 : Int64).toInt = 2 ^ 63 - 1 := by decide
  by_cases h0 : a = 0
  · subst h0
    have hz : (0 : Int64).toInt = 0 := rfl
    rw [hz]
    constructor
    · intro _; simp [fmul]
    · intro h; omega
  · have hp : 0 < a.toInt := by
      rcases Int.lt_or_eq_of_le ha with h | h
      · exact h
      · exact absurd (Int64.toInt_inj.mp (show a.toInt = (0 : Int64).toInt from h.symm)) h0
    have hd : ((9223372036854775807 : Int64) / a).toInt = (2 ^ 63 - 1) / a.toInt := by
      rw [Jvm.Kit.i64_div (by omega), hm, Int.tdiv_eq_ediv_of_nonneg (by decide)]
    have hi : ((9223372036854775807 : Int64) / a < b) ↔ 2 ^ 63 - 1 < b.toInt * a.toInt := by
      rw [Int64.lt_iff_toInt_lt, hd]
      exact Int.ediv_lt_iff_lt_mul hp
    rw [Int.mul_comm]
    constructor
    · intro h
      have hn : ¬ ((9223372036854775807 : Int64) / a < b) := fun q => by have := hi.mp q; omega
      simp [fmul, h0, hn]
    · intro h
      have hn : ((9223372036854775807 : Int64) / a < b) := hi.mpr (by omega)
      simp [fmul, h0, hn]
theorem own_M {x y a b r ah al bh bl : Int64} {n1 n2 n3 : UInt64} (e3 : n3.toNat = 32)
    (h1 : ((x &&& (9223372036854775807 : Int64)).toUInt64 >>> n1).toInt64 = a) (h2 : ((y &&& (9223372036854775807 : Int64)).toUInt64 >>> n2).toInt64 = b) (h3 : fmul a b = r)
    (h4 : (a.toUInt64 >>> n3).toInt64 = ah) (h5 : a &&& (4294967295 : Int64) = al) (h6 : (b.toUInt64 >>> n3).toInt64 = bh) (h7 : b &&& (4294967295 : Int64) = bl) :
    (¬ ah = 0 → ¬ bh = 0 → r = 9223372036854775807) ∧
    ∀ cr lo hi : Int64, (ah * bl + al * bh = cr) → (al * bl = lo) → (cr + (lo.toUInt64 >>> n3).toInt64 = hi) → (ah = 0 ∨ bh = 0) → (hi < 2147483648 → r = a * b) ∧ (¬ hi < 2147483648 → r = 9223372036854775807) := by
  have mx := Jvm.Kit.i64_mask x (9223372036854775807 : Int64) (k := 63) (by decide) (by decide)
  have my := Jvm.Kit.i64_mask y (9223372036854775807 : Int64) (k := 63) (by decide) (by decide)
  have ha : 0 ≤ a.toInt := by rw [← h1]; exact own_lushr0 _ _ (by omega)
  have hb : 0 ≤ b.toInt := by rw [← h2]; exact own_lushr0 _ _ (by omega)
  have ha2 := a.toInt_lt
  have hb2 := b.toInt_lt
  have i4 : ah.toInt = a.toInt / 2 ^ 32 := by rw [← h4, own_lushr32 a e3]; omega
  have i6 : bh.toInt = b.toInt / 2 ^ 32 := by rw [← h6, own_lushr32 b e3]; omega
  have i5 : al.toInt = a.toInt % 2 ^ 32 := by rw [← h5]; exact Jvm.Kit.i64_mask a _ (k := 32) (by decide) (by decide)
  have i7 : bl.toInt = b.toInt % 2 ^ 32 := by rw [← h7]; exact Jvm.Kit.i64_mask b _ (k := 32) (by decide) (by decide)
  have F := own_fmul ha hb
  rw [h3] at F
  have z : ∀ w : Int64, w = 0 ↔ w.toInt = 0 := fun w => by rw [← Int64.toInt_inj]; rfl
  have dA : a.toInt = ah.toInt * 2 ^ 32 + al.toInt := by omega
  have dB : b.toInt = bh.toInt * 2 ^ 32 + bl.toInt := by omega
  have rA : 0 ≤ ah.toInt ∧ ah.toInt < 2 ^ 31 ∧ 0 ≤ al.toInt ∧ al.toInt < 2 ^ 32 := by omega
  have rB : 0 ≤ bh.toInt ∧ bh.toInt < 2 ^ 31 ∧ 0 ≤ bl.toInt ∧ bl.toInt < 2 ^ 32 := by omega
  constructor
  · intro n1 n2
    rw [z] at n1 n2
    refine F.2 ?_
    have := Int.mul_le_mul (show 2 ^ 32 ≤ a.toInt by omega) (show 2 ^ 32 ≤ b.toInt by omega) (by decide) ha
    omega
  · intro cr lo hi c1 c2 c3 hz
    have P : ∀ u v : Int64, 0 ≤ u.toInt → u.toInt < 2 ^ 32 → 0 ≤ v.toInt → v.toInt < 2 ^ 32 → 0 ≤ u.toInt * v.toInt ∧ u.toInt * v.toInt ≤ (2 ^ 32 - 1) * (2 ^ 32 - 1) := fun u v u0 u1 v0 v1 =>
      ⟨Int.mul_nonneg u0 v0, Int.mul_le_mul (by omega) (by omega) v0 (by decide)⟩
    have pl := P al bl rA.2.2.1 rA.2.2.2 rB.2.2.1 rB.2.2.2
    have hlo : lo.toInt = (al.toInt * bl.toInt).bmod (2 ^ 64) := by rw [← c2, Int64.toInt_mul]
    have hls : ((lo.toUInt64 >>> n3).toInt64).toInt = (al.toInt * bl.toInt) / 2 ^ 32 := by
      rw [own_lushr32 lo e3, hlo, Int.bmod_def]
      generalize al.toInt * bl.toInt = q at *
      split <;> omega
    have hcr : cr.toInt = ah.toInt * bl.toInt + al.toInt * bh.toInt ∧ 0 ≤ cr.toInt ∧ cr.toInt ≤ (2 ^ 31 - 1) * (2 ^ 32 - 1) ∧ a.toInt * b.toInt = cr.toInt * 2 ^ 32 + al.toInt * bl.toInt := by
      rcases hz with h | h
      · have h0 := (z ah).mp h
        have e1 : 0 ≤ al.toInt * bh.toInt := Int.mul_nonneg rA.2.2.1 rB.1
        have e2 : al.toInt * bh.toInt ≤ (2 ^ 32 - 1) * (2 ^ 31 - 1) := Int.mul_le_mul (by omega) (by omega) rB.1 (by decide)
        have e3 : (al * bh).toInt = al.toInt * bh.toInt := Jvm.Kit.i64_mul (by omega) (by omega)
        have e4 : (ah * bl).toInt = 0 := by rw [h]; simp
        have e5 : cr.toInt = al.toInt * bh.toInt := by rw [← c1, Jvm.Kit.i64_add (by omega) (by omega)]; omega
        refine ⟨by rw [h0, e5]; simp, by omega, by omega, ?_⟩
        rw [dA, h0, dB, e5, Int.mul_add, ← Int.mul_assoc]
        simp
      · have h0 := (z bh).mp h
        have e1 : 0 ≤ ah.toInt * bl.toInt := Int.mul_nonneg rA.1 rB.2.2.1
        have e2 : ah.toInt * bl.toInt ≤ (2 ^ 31 - 1) * (2 ^ 32 - 1) := Int.mul_le_mul (by omega) (by omega) rB.2.2.1 (by decide)
        have e3 : (ah * bl).toInt = ah.toInt * bl.toInt := Jvm.Kit.i64_mul (by omega) (by omega)
        have e4 : (al * bh).toInt = 0 := by rw [h]; simp
        have e5 : cr.toInt = ah.toInt * bl.toInt := by rw [← c1, Jvm.Kit.i64_add (by omega) (by omega)]; omega
        refine ⟨by rw [h0, e5]; simp, by omega, by omega, ?_⟩
        rw [dA, dB, h0, e5, Int.add_mul, Int.mul_assoc, Int.mul_comm (2 ^ 32)]
        simp [Int.mul_assoc]
    generalize al.toInt * bl.toInt = q at *
    generalize a.toInt * b.toInt = ab at *
    have hhi : hi.toInt = cr.toInt + q / 2 ^ 32 := by
      rw [← c3, Jvm.Kit.i64_add (by omega) (by omega), hls]
    have e31 : (2147483648 : Int64).toInt = 2 ^ 31 := by decide
    rw [Int64.lt_iff_toInt_lt, e31, hhi]
    exact ⟨fun h => F.1 (by omega), fun h => F.2 (by omega)⟩

theorem pn_0 : plainName "com/example/tallyroot/tallyroot/aggregate/Figures" = true := by first | (simp [plainName, overriddenIn]; done) | decide +kernel
theorem d_mul_0 : decode prog_5_method_4_code 0 = .ok (.lload_n 0, 1) := by decide +kernel
theorem d_mul_1 : decode prog_5_method_4_code 1 = .ok (.lconst 0, 1) := by decide +kernel
theorem d_mul_2 : decode prog_5_method_4_code 2 = .ok (.lcmp, 1) := by decide +kernel
theorem d_mul_3 : decode prog_5_method_4_code 3 = .ok (.ifCond .eq 19, 3) := by decide +kernel
theorem d_mul_6 : decode prog_5_method_4_code 6 = .ok (.lload_n 2, 1) := by decide +kernel
theorem d_mul_7 : decode prog_5_method_4_code 7 = .ok (.ldc2_w 9, 3) := by decide +kernel
theorem d_mul_10 : decode prog_5_method_4_code 10 = .ok (.lload_n 0, 1) := by decide +kernel
theorem d_mul_11 : decode prog_5_method_4_code 11 = .ok (.ldiv, 1) := by decide +kernel
theorem d_mul_12 : decode prog_5_method_4_code 12 = .ok (.lcmp, 1) := by decide +kernel
theorem d_mul_13 : decode prog_5_method_4_code 13 = .ok (.ifCond .le 9, 3) := by decide +kernel
theorem d_mul_16 : decode prog_5_method_4_code 16 = .ok (.ldc2_w 9, 3) := by decide +kernel
theorem d_mul_19 : decode prog_5_method_4_code 19 = .ok (.goto 6, 3) := by decide +kernel
theorem d_mul_22 : decode prog_5_method_4_code 22 = .ok (.lload_n 0, 1) := by decide +kernel
theorem d_mul_23 : decode prog_5_method_4_code 23 = .ok (.lload_n 2, 1) := by decide +kernel
theorem d_mul_24 : decode prog_5_method_4_code 24 = .ok (.lmul, 1) := by decide +kernel
theorem d_mul_25 : decode prog_5_method_4_code 25 = .ok (.lreturn, 1) := by decide +kernel
theorem ef_mul (m : MethodId) (qa : Int64) (qb : Int64) : entryFrame m #[(.long qa), (.long qb)] 4 = mkF m 0 #[.val (.long qa), .second, .val (.long qb), .second] [] := by first | (simp [entryFrame, mkF, argsToLocals, Value.category]; done) | rfl
def Q_mul (Z : State) (qa : Int64) (qb : Int64) (h0 : Heap) (n0 : Nat) (v : Option Value) (h : Heap) (L : List Loc) : Prop := v = some (.long (fmul qa qb)) ∧ Fr n0 L ∧ h = h0
set_option maxRecDepth 65536 in
set_option maxHeartbeats 40000000 in
theorem rm_mul (l : Launch) (Z : State) (a0 : Array Value) (hw : ∀ d ∈ tables_1, d.before a0 Z = true) (ws : List Jvm.Cond) (qa : Int64) (qb : Int64) (h0 : Heap) (n0 : Nat) (Z0 : n0 ≤ h0.size)  :
    MetFree l (⟨"com/example/tallyroot/tallyroot/aggregate/Figures", "multiply", "(JJ)J"⟩ : MethodName) (head1 (Jvm.Cond.code (⟨"com/example/tallyroot/tallyroot/aggregate/Figures", "multiply", "(JJ)J"⟩ : MethodName) prog_5_method_4_code 4 (some .long) :: ws) ({ frames := 0, cells := 0, slots := 0, locals := 0 } : Room)) (fun a U => a = #[(.long qa), (.long qb)] ∧ Z.Warmed39 U.vm ∧ U.heap = h0) (fun _ _ _ _ _ => True) (fun _ U o U' => ∃ v L, o = .returned v ∧ Q_mul Z qa qb h0 n0 v U'.heap L ∧ FrameEnd U o U' L ({ frames := 0, cells := 0, slots := 0, locals := 0 } : Room).cells ({ frames := 0, cells := 0, slots := 0, locals := 0 } : Room).slots) := by
  refine MetFree.of_bodySF (plainFor_of_name pn_0) hisR ?_
  intro p e s m args below meth c s₁ Bd hml0 hP hK
  obtain ⟨rfl, hZ, hh⟩ := hP
  have hx := Bd.exec
  have hby := Bd.bytes
  have hml : c.maxLocals = 4 := hml0
  have hown : s.vm.findClass "com/example/tallyroot/tallyroot/aggregate/Figures" = some m.cls := findClass_of_methodNamed Bd.named
  have hnm := (name_of_methodNamed Bd.named Bd.method).1
  have X0 : Stand p l e ({ frames := 0, cells := 0, slots := 0, locals := 0 } : Room) s m #[(.long qa), (.long qb)] below meth c s₁ [] 0 0 := Stand.of_body Bd
  have e0 : s₁.heap = h0 := by rw [← hh, Bd.state]; rfl
  have N0 := Fr.nil n0
  have K0 : Keep h0 h0 [] := Keep.refl h0 []
  show Go p.tables e below _ (s₁.setTop (entryFrame m #[(.long qa), (.long qb)] 4))
  refine Go.start ?_
  intro G hG
  refine Go.st (fun t k => castTop (ef_mul m qa qb) k) ?_
  show Go p.tables e below _ (s₁.setTop (mkF m 0 #[.val (.long qa), .second, .val (.long qb), .second] []))
  refine Go.st (fun _ k => XS.lloadN X0.here hx rfl (hb hby d_mul_0) rfl k) ?_
  show Go p.tables e below _ (s₁.setTop (mkF m 1 #[.val (.long qa), .second, .val (.long qb), .second] [(.long qa)]))
  refine Go.st (fun _ k => XS.lconst X0.here hx rfl (hb hby d_mul_1) k) ?_
  show Go p.tables e below _ (s₁.setTop (mkF m 2 #[.val (.long qa), .second, .val (.long qb), .second] [(.long (0 : Int64)), (.long qa)]))
  refine Go.st (fun _ k => Jvm.Free.XT.lcmp X0.here hx rfl (hb hby d_mul_2) rfl k) ?_
  show Go p.tables e below _ (s₁.setTop (mkF m 3 #[.val (.long qa), .second, .val (.long qb), .second] [(.int (Jvm.Free.XT.cmpL qa (0 : Int64)))]))
  by_cases hc3 : qa = (0 : Int64)
  · skip
    refine Go.st (fun _ k => XS.ifYes X0.here hx rfl (pc0 := 3) (pc' := 22) rfl (hb hby d_mul_3) rfl (Jvm.Free.XT.ll_eq_t hc3) (by decide) (by decide) k) ?_
    show Go p.tables e below _ (s₁.setTop (mkF m 22 #[.val (.long qa), .second, .val (.long qb), .second] []))
    refine Go.st (fun _ k => XS.lloadN X0.here hx rfl (hb hby d_mul_22) rfl k) ?_
    show Go p.tables e below _ (s₁.setTop (mkF m 23 #[.val (.long qa), .second, .val (.long qb), .second] [(.long qa)]))
    refine Go.st (fun _ k => XS.lloadN X0.here hx rfl (hb hby d_mul_23) rfl k) ?_
    show Go p.tables e below _ (s₁.setTop (mkF m 24 #[.val (.long qa), .second, .val (.long qb), .second] [(.long qb), (.long qa)]))
    refine Go.st (fun _ k => XS.lmul X0.here hx rfl (hb hby d_mul_24) rfl k) ?_
    show Go p.tables e below _ (s₁.setTop (mkF m 25 #[.val (.long qa), .second, .val (.long qb), .second] [(.long (qa * qb))]))
    subst hG
    obtain ⟨fs, hr, hrun, hended, hW, hsame⟩ := X0.leave (v := some (.long (qa * qb))) (fun h => by rw [Bd.returns] at h; cases h)
    refine ⟨_, _, ?_, hrun, hended, _, _, rfl, ?_, ⟨_, rfl⟩, hW, hsame.mono (by decide) (by decide)⟩
    · exact retOut X0 hx Bd.returns rfl (Or.inr (Or.inl ⟨rfl, rfl, _, rfl⟩)) (hb hby d_mul_25) hr
    · show Q_mul Z qa qb h0 n0 _ s₁.heap _
      rw [e0]
      exact ⟨(by simp [fmul, hc3]), N0, rfl⟩
  · skip
    refine Go.st (fun _ k => XS.ifNo X0.here hx rfl (hb hby d_mul_3) rfl (Jvm.Free.XT.ll_eq_f hc3) k) ?_
    show Go p.tables e below _ (s₁.setTop (mkF m 6 #[.val (.long qa), .second, .val (.long qb), .second] []))
    refine Go.st (fun _ k => XS.lloadN X0.here hx rfl (hb hby d_mul_6) rfl k) ?_
    show Go p.tables e below _ (s₁.setTop (mkF m 7 #[.val (.long qa), .second, .val (.long qb), .second] [(.long qb)]))
    refine Go.st (fun _ k => X0.ldc2Long hx hown (mvT hZ (hw _ (List.mem_of_getElem? (i := 5) rfl))) (g := (mkF m 7 #[.val (.long qa), .second, .val (.long qb), .second] [(.long qb)])) rfl (hb hby d_mul_7) _ k) ?_
    show Go p.tables e below _ (s₁.setTop (mkF m 10 #[.val (.long qa), .second, .val (.long qb), .second] [(.long (9223372036854775807 : Int64)), (.long qb)]))
    refine Go.st (fun _ k => XS.lloadN X0.here hx rfl (hb hby d_mul_10) rfl k) ?_
    show Go p.tables e below _ (s₁.setTop (mkF m 11 #[.val (.long qa), .second, .val (.long qb), .second] [(.long qa), (.long (9223372036854775807 : Int64)), (.long qb)]))
    refine Go.st (fun _ k => XS.ldiv X0.here hx rfl (hb hby d_mul_11) rfl hc3 k) ?_
    show Go p.tables e below _ (s₁.setTop (mkF m 12 #[.val (.long qa), .second, .val (.long qb), .second] [(.long ((9223372036854775807 : Int64) / qa)), (.long qb)]))
    refine Go.st (fun _ k => Jvm.Free.XT.lcmp X0.here hx rfl (hb hby d_mul_12) rfl k) ?_
    show Go p.tables e below _ (s₁.setTop (mkF m 13 #[.val (.long qa), .second, .val (.long qb), .second] [(.int (Jvm.Free.XT.cmpL qb ((9223372036854775807 : Int64) / qa)))]))
    by_cases hc13 : ((9223372036854775807 : Int64) / qa) < qb
    · skip
      refine Go.st (fun _ k => XS.ifNo X0.here hx rfl (hb hby d_mul_13) rfl (Jvm.Free.XT.ll_le_f hc13) k) ?_
      show Go p.tables e below _ (s₁.setTop (mkF m 16 #[.val (.long qa), .second, .val (.long qb), .second] []))
      refine Go.st (fun _ k => X0.ldc2Long hx hown (mvT hZ (hw _ (List.mem_of_getElem? (i := 5) rfl))) (g := (mkF m 16 #[.val (.long qa), .second, .val (.long qb), .second] [])) rfl (hb hby d_mul_16) _ k) ?_
      show Go p.tables e below _ (s₁.setTop (mkF m 19 #[.val (.long qa), .second, .val (.long qb), .second] [(.long (9223372036854775807 : Int64))]))
      refine Go.st (fun _ k => XS.goto X0.here hx rfl (pc0 := 19) (pc' := 25) rfl (hb hby d_mul_19) (by decide) (by decide) k) ?_
      show Go p.tables e below _ (s₁.setTop (mkF m 25 #[.val (.long qa), .second, .val (.long qb), .second] [(.long (9223372036854775807 : Int64))]))
      subst hG
      obtain ⟨fs, hr, hrun, hended, hW, hsame⟩ := X0.leave (v := some (.long (9223372036854775807 : Int64))) (fun h => by rw [Bd.returns] at h; cases h)
      refine ⟨_, _, ?_, hrun, hended, _, _, rfl, ?_, ⟨_, rfl⟩, hW, hsame.mono (by decide) (by decide)⟩
      · exact retOut X0 hx Bd.returns rfl (Or.inr (Or.inl ⟨rfl, rfl, _, rfl⟩)) (hb hby d_mul_25) hr
      · show Q_mul Z qa qb h0 n0 _ s₁.heap _
        rw [e0]
        exact ⟨(by simp [fmul, hc3, hc13]), N0, rfl⟩
    · skip
      refine Go.st (fun _ k => XS.ifYes X0.here hx rfl (pc0 := 13) (pc' := 22) rfl (hb hby d_mul_13) rfl (Jvm.Free.XT.ll_le_t hc13) (by decide) (by decide) k) ?_
      show Go p.tables e below _ (s₁.setTop (mkF m 22 #[.val (.long qa), .second, .val (.long qb), .second] []))
      refine Go.st (fun _ k => XS.lloadN X0.here hx rfl (hb hby d_mul_22) rfl k) ?_
      show Go p.tables e below _ (s₁.setTop (mkF m 23 #[.val (.long qa), .second, .val (.long qb), .second] [(.long qa)]))
      refine Go.st (fun _ k => XS.lloadN X0.here hx rfl (hb hby d_mul_23) rfl k) ?_
      show Go p.tables e below _ (s₁.setTop (mkF m 24 #[.val (.long qa), .second, .val (.long qb), .second] [(.long qb), (.long qa)]))
      refine Go.st (fun _ k => XS.lmul X0.here hx rfl (hb hby d_mul_24) rfl k) ?_
      show Go p.tables e below _ (s₁.setTop (mkF m 25 #[.val (.long qa), .second, .val (.long qb), .second] [(.long (qa * qb))]))
      subst hG
      obtain ⟨fs, hr, hrun, hended, hW, hsame⟩ := X0.leave (v := some (.long (qa * qb))) (fun h => by rw [Bd.returns] at h; cases h)
      refine ⟨_, _, ?_, hrun, hended, _, _, rfl, ?_, ⟨_, rfl⟩, hW, hsame.mono (by decide) (by decide)⟩
      · exact retOut X0 hx Bd.returns rfl (Or.inr (Or.inl ⟨rfl, rfl, _, rfl⟩)) (hb hby d_mul_25) hr
      · show Q_mul Z qa qb h0 n0 _ s₁.heap _
        rw [e0]
        exact ⟨(by simp [fmul, hc3, hc13]), N0, rfl⟩
theorem pd_0 : parseMethodDescriptor "(JJ)J" = some ⟨[.long, .long], some .long⟩ := by decide +kernel
theorem pn_1 : plainName "com/example/tallyroot/tallyroot/aggregate/FiguresMultiplyPinLaw" = true := by first | (simp [plainName, overriddenIn]; done) | decide +kernel
theorem ef_law (m : MethodId) (qx : Int64) (qy : Int64) (ps : Int32) (pt : Int32) : entryFrame m #[(.long qx), (.long qy), (.int ps), (.int pt)] maxLocals = mkF m 0 #[.val (.long qx), .second, .val (.long qy), .second, .val (.int ps), .val (.int pt), .unset, .unset, .unset, .unset, .unset, .unset, .unset, .unset, .unset, .unset, .unset, .unset, .unset, .unset, .unset, .unset, .unset, .unset, .unset, .unset, .unset] [] := by first | (simp [entryFrame, mkF, argsToLocals, Value.category, maxLocals]; done) | rfl
def Q_law (Z : State) (qx : Int64) (qy : Int64) (ps : Int32) (pt : Int32) (h0 : Heap) (n0 : Nat) (v : Option Value) (h : Heap) (L : List Loc) : Prop := v = some (.int (1 : Int32)) ∧ Fr n0 L ∧ h = h0
set_option maxRecDepth 65536 in
set_option maxHeartbeats 40000000 in
theorem rm_law (l : Launch) (Z : State) (a0 : Array Value) (hw : ∀ d ∈ tables_1, d.before a0 Z = true) (ws : List Jvm.Cond) (qx : Int64) (qy : Int64) (ps : Int32) (pt : Int32) (h0 : Heap) (n0 : Nat) (Z0 : n0 ≤ h0.size)  :
    MetFree l x (head1 (Jvm.Cond.code x code maxLocals ret :: ws) room_1) (fun a U => a = #[(.long qx), (.long qy), (.int ps), (.int pt)] ∧ Z.Warmed39 U.vm ∧ U.heap = h0) (fun _ _ _ _ _ => True) (fun _ U o U' => ∃ v L, o = .returned v ∧ Q_law Z qx qy ps pt h0 n0 v U'.heap L ∧ FrameEnd U o U' L room_1.cells room_1.slots) := by
  refine MetFree.of_bodySF (plainFor_of_name pn_1) hisR ?_
  intro p e s m args below meth c s₁ Bd hml0 hP hK
  obtain ⟨rfl, hZ, hh⟩ := hP
  have hx := Bd.exec
  have hby := Bd.bytes
  have hml : c.maxLocals = 27 := hml0
  have hown : s.vm.findClass "com/example/tallyroot/tallyroot/aggregate/FiguresMultiplyPinLaw" = some m.cls := findClass_of_methodNamed Bd.named
  have hnm := (name_of_methodNamed Bd.named Bd.method).1
  have X0 : Stand p l e room_1 s m #[(.long qx), (.long qy), (.int ps), (.int pt)] below meth c s₁ [] 0 0 := Stand.of_body Bd
  have e0 : s₁.heap = h0 := by rw [← hh, Bd.state]; rfl
  have N0 := Fr.nil n0
  have K0 : Keep h0 h0 [] := Keep.refl h0 []
  show Go p.tables e below _ (s₁.setTop (entryFrame m #[(.long qx), (.long qy), (.int ps), (.int pt)] maxLocals))
  refine Go.start ?_
  intro G hG
  refine Go.st (fun t k => castTop (ef_law m qx qy ps pt) k) ?_
  show Go p.tables e below _ (s₁.setTop (mkF m 0 #[.val (.long qx), .second, .val (.long qy), .second, .val (.int ps), .val (.int pt), .unset, .unset, .unset, .unset, .unset, .unset, .unset, .unset, .unset, .unset, .unset, .unset, .unset, .unset, .unset, .unset, .unset, .unset, .unset, .unset, .unset] []))
  refine Go.st (fun _ k => XS.lloadN X0.here hx rfl (hb hby at_0) rfl k) ?_
  show Go p.tables e below _ (s₁.setTop (mkF m 1 #[.val (.long qx), .second, .val (.long qy), .second, .val (.int ps), .val (.int pt), .unset, .unset, .unset, .unset, .unset, .unset, .unset, .unset, .unset, .unset, .unset, .unset, .unset, .unset, .unset, .unset, .unset, .unset, .unset, .unset, .unset] [(.long qx)]))
  refine Go.st (fun _ k => X0.ldc2Long hx hown (mvT hZ (hw _ (List.mem_of_getElem? (i := 0) rfl))) (g := (mkF m 1 #[.val (.long qx), .second, .val (.long qy), .second, .val (.int ps), .val (.int pt), .unset, .unset, .unset, .unset, .unset, .unset, .unset, .unset, .unset, .unset, .unset, .unset, .unset, .unset, .unset, .unset, .unset, .unset, .unset, .unset, .unset] [(.long qx)])) rfl (hb hby at_1) _ k) ?_
  show Go p.tables e below _ (s₁.setTop (mkF m 4 #[.val (.long qx), .second, .val (.long qy), .second, .val (.int ps), .val (.int pt), .unset, .unset, .unset, .unset, .unset, .unset, .unset, .unset, .unset, .unset, .unset, .unset, .unset, .unset, .unset, .unset, .unset, .unset, .unset, .unset, .unset] [(.long (9223372036854775807 : Int64)), (.long qx)]))
  refine Go.st (fun _ k => XS.land X0.here hx rfl (hb hby at_4) rfl k) ?_
  show Go p.tables e below _ (s₁.setTop (mkF m 5 #[.val (.long qx), .second, .val (.long qy), .second, .val (.int ps), .val (.int pt), .unset, .unset, .unset, .unset, .unset, .unset, .unset, .unset, .unset, .unset, .unset, .unset, .unset, .unset, .unset, .unset, .unset, .unset, .unset, .unset, .unset] [(.long (qx &&& (9223372036854775807 : Int64)))]))
  refine Go.st (fun _ k => XS.iload X0.here hx rfl (hb hby at_5) rfl k) ?_
  show Go p.tables e below _ (s₁.setTop (mkF m 7 #[.val (.long qx), .second, .val (.long qy), .second, .val (.int ps), .val (.int pt), .unset, .unset, .unset, .unset, .unset, .unset, .unset, .unset, .unset, .unset, .unset, .unset, .unset, .unset, .unset, .unset, .unset, .unset, .unset, .unset, .unset] [(.int ps), (.long (qx &&& (9223372036854775807 : Int64)))]))
  refine Go.st (fun _ k => XS.bipush X0.here hx rfl (hb hby at_7) k) ?_
  show Go p.tables e below _ (s₁.setTop (mkF m 9 #[.val (.long qx), .second, .val (.long qy), .second, .val (.int ps), .val (.int pt), .unset, .unset, .unset, .unset, .unset, .unset, .unset, .unset, .unset, .unset, .unset, .unset, .unset, .unset, .unset, .unset, .unset, .unset, .unset, .unset, .unset] [(.int (63 : Int32)), (.int ps), (.long (qx &&& (9223372036854775807 : Int64)))]))
  refine Go.st (fun _ k => XS.iand X0.here hx rfl (hb hby at_9) rfl k) ?_
  show Go p.tables e below _ (s₁.setTop (mkF m 10 #[.val (.long qx), .second, .val (.long qy), .second, .val (.int ps), .val (.int pt), .unset, .unset, .unset, .unset, .unset, .unset, .unset, .unset, .unset, .unset, .unset, .unset, .unset, .unset, .unset, .unset, .unset, .unset, .unset, .unset, .unset] [(.int (ps &&& (63 : Int32))), (.long (qx &&& (9223372036854775807 : Int64)))]))
  refine Go.st (fun _ k => XS.lushr X0.here hx rfl (hb hby at_10) rfl k) ?_
  show Go p.tables e below _ (s₁.setTop (mkF m 11 #[.val (.long qx), .second, .val (.long qy), .second, .val (.int ps), .val (.int pt), .unset, .unset, .unset, .unset, .unset, .unset, .unset, .unset, .unset, .unset, .unset, .unset, .unset, .unset, .unset, .unset, .unset, .unset, .unset, .unset, .unset] [(.long (((qx &&& (9223372036854775807 : Int64)).toUInt64 >>> ((ps &&& (63 : Int32)) &&& 0x3f).toInt64.toUInt64).toInt64))]))
  refine Go.st (fun _ k => XS.lstore X0.here hx rfl (hb hby at_11) rfl (l' := #[.val (.long qx), .second, .val (.long qy), .second, .val (.int ps), .val (.int pt), .val (.long (((qx &&& (9223372036854775807 : Int64)).toUInt64 >>> ((ps &&& (63 : Int32)) &&& 0x3f).toInt64.toUInt64).toInt64)), .second, .unset, .unset, .unset, .unset, .unset, .unset, .unset, .unset, .unset, .unset, .unset, .unset, .unset, .unset, .unset, .unset, .unset, .unset, .unset]) rfl k) ?_
  show Go p.tables e below _ (s₁.setTop (mkF m 13 #[.val (.long qx), .second, .val (.long qy), .second, .val (.int ps), .val (.int pt), .val (.long (((qx &&& (9223372036854775807 : Int64)).toUInt64 >>> ((ps &&& (63 : Int32)) &&& 0x3f).toInt64.toUInt64).toInt64)), .second, .unset, .unset, .unset, .unset, .unset, .unset, .unset, .unset, .unset, .unset, .unset, .unset, .unset, .unset, .unset, .unset, .unset, .unset, .unset] []))
  generalize hqv11 : (((qx &&& (9223372036854775807 : Int64)).toUInt64 >>> ((ps &&& (63 : Int32)) &&& 0x3f).toInt64.toUInt64).toInt64) = v11
  show Go p.tables e below _ (s₁.setTop (mkF m 13 #[.val (.long qx), .second, .val (.long qy), .second, .val (.int ps), .val (.int pt), .val (.long v11), .second, .unset, .unset, .unset, .unset, .unset, .unset, .unset, .unset, .unset, .unset, .unset, .unset, .unset, .unset, .unset, .unset, .unset, .unset, .unset] []))
  refine Go.st (fun _ k => XS.lloadN X0.here hx rfl (hb hby at_13) rfl k) ?_
  show Go p.tables e below _ (s₁.setTop (mkF m 14 #[.val (.long qx), .second, .val (.long qy), .second, .val (.int ps), .val (.int pt), .val (.long v11), .second, .unset, .unset, .unset, .unset, .unset, .unset, .unset, .unset, .unset, .unset, .unset, .unset, .unset, .unset, .unset, .unset, .unset, .unset, .unset] [(.long qy)]))
  refine Go.st (fun _ k => X0.ldc2Long hx hown (mvT hZ (hw _ (List.mem_of_getElem? (i := 0) rfl))) (g := (mkF m 14 #[.val (.long qx), .second, .val (.long qy), .second, .val (.int ps), .val (.int pt), .val (.long v11), .second, .unset, .unset, .unset, .unset, .unset, .unset, .unset, .unset, .unset, .unset, .unset, .unset, .unset, .unset, .unset, .unset, .unset, .unset, .unset] [(.long qy)])) rfl (hb hby at_14) _ k) ?_
  show Go p.tables e below _ (s₁.setTop (mkF m 17 #[.val (.long qx), .second, .val (.long qy), .second, .val (.int ps), .val (.int pt), .val (.long v11), .second, .unset, .unset, .unset, .unset, .unset, .unset, .unset, .unset, .unset, .unset, .unset, .unset, .unset, .unset, .unset, .unset, .unset, .unset, .unset] [(.long (9223372036854775807 : Int64)), (.long qy)]))
  refine Go.st (fun _ k => XS.land X0.here hx rfl (hb hby at_17) rfl k) ?_
  show Go p.tables e below _ (s₁.setTop (mkF m 18 #[.val (.long qx), .second, .val (.long qy), .second, .val (.int ps), .val (.int pt), .val (.long v11), .second, .unset, .unset, .unset, .unset, .unset, .unset, .unset, .unset, .unset, .unset, .unset, .unset, .unset, .unset, .unset, .unset, .unset, .unset, .unset] [(.long (qy &&& (9223372036854775807 : Int64)))]))
  refine Go.st (fun _ k => XS.iload X0.here hx rfl (hb hby at_18) rfl k) ?_
  show Go p.tables e below _ (s₁.setTop (mkF m 20 #[.val (.long qx), .second, .val (.long qy), .second, .val (.int ps), .val (.int pt), .val (.long v11), .second, .unset, .unset, .unset, .unset, .unset, .unset, .unset, .unset, .unset, .unset, .unset, .unset, .unset, .unset, .unset, .unset, .unset, .unset, .unset] [(.int pt), (.long (qy &&& (9223372036854775807 : Int64)))]))
  refine Go.st (fun _ k => XS.bipush X0.here hx rfl (hb hby at_20) k) ?_
  show Go p.tables e below _ (s₁.setTop (mkF m 22 #[.val (.long qx), .second, .val (.long qy), .second, .val (.int ps), .val (.int pt), .val (.long v11), .second, .unset, .unset, .unset, .unset, .unset, .unset, .unset, .unset, .unset, .unset, .unset, .unset, .unset, .unset, .unset, .unset, .unset, .unset, .unset] [(.int (63 : Int32)), (.int pt), (.long (qy &&& (9223372036854775807 : Int64)))]))
  refine Go.st (fun _ k => XS.iand X0.here hx rfl (hb hby at_22) rfl k) ?_
  show Go p.tables e below _ (s₁.setTop (mkF m 23 #[.val (.long qx), .second, .val (.long qy), .second, .val (.int ps), .val (.int pt), .val (.long v11), .second, .unset, .unset, .unset, .unset, .unset, .unset, .unset, .unset, .unset, .unset, .unset, .unset, .unset, .unset, .unset, .unset, .unset, .unset, .unset] [(.int (pt &&& (63 : Int32))), (.long (qy &&& (9223372036854775807 : Int64)))]))
  refine Go.st (fun _ k => XS.lushr X0.here hx rfl (hb hby at_23) rfl k) ?_
  show Go p.tables e below _ (s₁.setTop (mkF m 24 #[.val (.long qx), .second, .val (.long qy), .second, .val (.int ps), .val (.int pt), .val (.long v11), .second, .unset, .unset, .unset, .unset, .unset, .unset, .unset, .unset, .unset, .unset, .unset, .unset, .unset, .unset, .unset, .unset, .unset, .unset, .unset] [(.long (((qy &&& (9223372036854775807 : Int64)).toUInt64 >>> ((pt &&& (63 : Int32)) &&& 0x3f).toInt64.toUInt64).toInt64))]))
  refine Go.st (fun _ k => XS.lstore X0.here hx rfl (hb hby at_24) rfl (l' := #[.val (.long qx), .second, .val (.long qy), .second, .val (.int ps), .val (.int pt), .val (.long v11), .second, .val (.long (((qy &&& (9223372036854775807 : Int64)).toUInt64 >>> ((pt &&& (63 : Int32)) &&& 0x3f).toInt64.toUInt64).toInt64)), .second, .unset, .unset, .unset, .unset, .unset, .unset, .unset, .unset, .unset, .unset, .unset, .unset, .unset, .unset, .unset, .unset, .unset]) rfl k) ?_
  show Go p.tables e below _ (s₁.setTop (mkF m 26 #[.val (.long qx), .second, .val (.long qy), .second, .val (.int ps), .val (.int pt), .val (.long v11), .second, .val (.long (((qy &&& (9223372036854775807 : Int64)).toUInt64 >>> ((pt &&& (63 : Int32)) &&& 0x3f).toInt64.toUInt64).toInt64)), .second, .unset, .unset, .unset, .unset, .unset, .unset, .unset, .unset, .unset, .unset, .unset, .unset, .unset, .unset, .unset, .unset, .unset] []))
  generalize hqv24 : (((qy &&& (9223372036854775807 : Int64)).toUInt64 >>> ((pt &&& (63 : Int32)) &&& 0x3f).toInt64.toUInt64).toInt64) = v24
  show Go p.tables e below _ (s₁.setTop (mkF m 26 #[.val (.long qx), .second, .val (.long qy), .second, .val (.int ps), .val (.int pt), .val (.long v11), .second, .val (.long v24), .second, .unset, .unset, .unset, .unset, .unset, .unset, .unset, .unset, .unset, .unset, .unset, .unset, .unset, .unset, .unset, .unset, .unset] []))
  refine Go.st (fun _ k => XS.lload X0.here hx rfl (hb hby at_26) rfl k) ?_
  show Go p.tables e below _ (s₁.setTop (mkF m 28 #[.val (.long qx), .second, .val (.long qy), .second, .val (.int ps), .val (.int pt), .val (.long v11), .second, .val (.long v24), .second, .unset, .unset, .unset, .unset, .unset, .unset, .unset, .unset, .unset, .unset, .unset, .unset, .unset, .unset, .unset, .unset, .unset] [(.long v11)]))
  refine Go.st (fun _ k => XS.lload X0.here hx rfl (hb hby at_28) rfl k) ?_
  show Go p.tables e below _ (s₁.setTop (mkF m 30 #[.val (.long qx), .second, .val (.long qy), .second, .val (.int ps), .val (.int pt), .val (.long v11), .second, .val (.long v24), .second, .unset, .unset, .unset, .unset, .unset, .unset, .unset, .unset, .unset, .unset, .unset, .unset, .unset, .unset, .unset, .unset, .unset] [(.long v24), (.long v11)]))
  obtain ⟨_, _, ⟨T1, L1, k1, n1⟩, -, X1, ⟨Lc1, hQ1, l1, y1, z1⟩, st1⟩ := Jvm.LawKit.callS X0 hx (y := (⟨"com/example/tallyroot/tallyroot/aggregate/Figures", "multiply", "(JJ)J"⟩ : MethodName)) hown (mvT hZ (hw _ (List.mem_of_getElem? (i := 1) rfl))) (mvT hZ (hw _ (List.mem_of_getElem? (i := 2) rfl))) (mvT hZ (hw _ (List.mem_of_getElem? (i := 3) rfl))) (mvT hZ (hw _ (List.mem_of_getElem? (i := 4) rfl))) (by decide) (backOf (W := 0) (rm_mul l Z a0 hw [] v11 v24 h0 n0 Z0 ) hZ (hw _ (List.mem_of_getElem? (i := 4) rfl)) (hw _ (List.mem_of_getElem? (i := 3) rfl)) (by decide) (by decide)) (g := (mkF m 30 #[.val (.long qx), .second, .val (.long qy), .second, .val (.int ps), .val (.int pt), .val (.long v11), .second, .val (.long v24), .second, .unset, .unset, .unset, .unset, .unset, .unset, .unset, .unset, .unset, .unset, .unset, .unset, .unset, .unset, .unset, .unset, .unset] [(.long v24), (.long v11)])) rfl (by rw [hml]; rfl) (argsL := [(.long v11), (.long v24)]) (rest := []) (lenOf pd_0 rfl) rfl (by show 2 * 0 + _ ≤ _; exact Nat.le_of_eq rfl) (hb hby at_30) (fun _ _ => ⟨rfl, e0, (by decide : 0 + 0 ≤ _), (by decide : 0 + 0 ≤ _)⟩)
  dsimp only [Pt.U, Pt.locs, Pt.cells, Pt.slots] at X1 l1 y1 z1 st1 hQ1
  subst l1 y1 z1
  obtain ⟨rfl, N1q, e1⟩ := hQ1
  have N1 := Fr.app N0 N1q
  refine Go.st st1 ?_
  show Go p.tables e below _ (T1.setTop (mkF m 33 #[.val (.long qx), .second, .val (.long qy), .second, .val (.int ps), .val (.int pt), .val (.long v11), .second, .val (.long v24), .second, .unset, .unset, .unset, .unset, .unset, .unset, .unset, .unset, .unset, .unset, .unset, .unset, .unset, .unset, .unset, .unset, .unset] [(.long (fmul v11 v24))]))
  refine Go.st (fun _ k => XS.lstore X1.here hx rfl (hb hby at_33) rfl (l' := #[.val (.long qx), .second, .val (.long qy), .second, .val (.int ps), .val (.int pt), .val (.long v11), .second, .val (.long v24), .second, .val (.long (fmul v11 v24)), .second, .unset, .unset, .unset, .unset, .unset, .unset, .unset, .unset, .unset, .unset, .unset, .unset, .unset, .unset, .unset]) rfl k) ?_
  show Go p.tables e below _ (T1.setTop (mkF m 35 #[.val (.long qx), .second, .val (.long qy), .second, .val (.int ps), .val (.int pt), .val (.long v11), .second, .val (.long v24), .second, .val (.long (fmul v11 v24)), .second, .unset, .unset, .unset, .unset, .unset, .unset, .unset, .unset, .unset, .unset, .unset, .unset, .unset, .unset, .unset] []))
  generalize hqv33 : (fmul v11 v24) = v33
  show Go p.tables e below _ (T1.setTop (mkF m 35 #[.val (.long qx), .second, .val (.long qy), .second, .val (.int ps), .val (.int pt), .val (.long v11), .second, .val (.long v24), .second, .val (.long v33), .second, .unset, .unset, .unset, .unset, .unset, .unset, .unset, .unset, .unset, .unset, .unset, .unset, .unset, .unset, .unset] []))
  refine Go.st (fun _ k => XS.lload X1.here hx rfl (hb hby at_35) rfl k) ?_
  show Go p.tables e below _ (T1.setTop (mkF m 37 #[.val (.long qx), .second, .val (.long qy), .second, .val (.int ps), .val (.int pt), .val (.long v11), .second, .val (.long v24), .second, .val (.long v33), .second, .unset, .unset, .unset, .unset, .unset, .unset, .unset, .unset, .unset, .unset, .unset, .unset, .unset, .unset, .unset] [(.long v11)]))
  refine Go.st (fun _ k => XS.bipush X1.here hx rfl (hb hby at_37) k) ?_
  show Go p.tables e below _ (T1.setTop (mkF m 39 #[.val (.long qx), .second, .val (.long qy), .second, .val (.int ps), .val (.int pt), .val (.long v11), .second, .val (.long v24), .second, .val (.long v33), .second, .unset, .unset, .unset, .unset, .unset, .unset, .unset, .unset, .unset, .unset, .unset, .unset, .unset, .unset, .unset] [(.int (32 : Int32)), (.long v11)]))
  refine Go.st (fun _ k => XS.lushr X1.here hx rfl (hb hby at_39) rfl k) ?_
  show Go p.tables e below _ (T1.setTop (mkF m 40 #[.val (.long qx), .second, .val (.long qy), .second, .val (.int ps), .val (.int pt), .val (.long v11), .second, .val (.long v24), .second, .val (.long v33), .second, .unset, .unset, .unset, .unset, .unset, .unset, .unset, .unset, .unset, .unset, .unset, .unset, .unset, .unset, .unset] [(.long ((v11.toUInt64 >>> ((32 : Int32) &&& 0x3f).toInt64.toUInt64).toInt64))]))
  refine Go.st (fun _ k => XS.lstore X1.here hx rfl (hb hby at_40) rfl (l' := #[.val (.long qx), .second, .val (.long qy), .second, .val (.int ps), .val (.int pt), .val (.long v11), .second, .val (.long v24), .second, .val (.long v33), .second, .val (.long ((v11.toUInt64 >>> ((32 : Int32) &&& 0x3f).toInt64.toUInt64).toInt64)), .second, .unset, .unset, .unset, .unset, .unset, .unset, .unset, .unset, .unset, .unset, .unset, .unset, .unset]) rfl k) ?_
  show Go p.tables e below _ (T1.setTop (mkF m 42 #[.val (.long qx), .second, .val (.long qy), .second, .val (.int ps), .val (.int pt), .val (.long v11), .second, .val (.long v24), .second, .val (.long v33), .second, .val (.long ((v11.toUInt64 >>> ((32 : Int32) &&& 0x3f).toInt64.toUInt64).toInt64)), .second, .unset, .unset, .unset, .unset, .unset, .unset, .unset, .unset, .unset, .unset, .unset, .unset, .unset] []))
  generalize hqv40 : ((v11.toUInt64 >>> ((32 : Int32) &&& 0x3f).toInt64.toUInt64).toInt64) = v40
  show Go p.tables e below _ (T1.setTop (mkF m 42 #[.val (.long qx), .second, .val (.long qy), .second, .val (.int ps), .val (.int pt), .val (.long v11), .second, .val (.long v24), .second, .val (.long v33), .second, .val (.long v40), .second, .unset, .unset, .unset, .unset, .unset, .unset, .unset, .unset, .unset, .unset, .unset, .unset, .unset] []))
  refine Go.st (fun _ k => XS.lload X1.here hx rfl (hb hby at_42) rfl k) ?_
  show Go p.tables e below _ (T1.setTop (mkF m 44 #[.val (.long qx), .second, .val (.long qy), .second, .val (.int ps), .val (.int pt), .val (.long v11), .second, .val (.long v24), .second, .val (.long v33), .second, .val (.long v40), .second, .unset, .unset, .unset, .unset, .unset, .unset, .unset, .unset, .unset, .unset, .unset, .unset, .unset] [(.long v11)]))
  refine Go.st (fun _ k => X1.ldc2Long hx hown (mvT hZ (hw _ (List.mem_of_getElem? (i := 6) rfl))) (g := (mkF m 44 #[.val (.long qx), .second, .val (.long qy), .second, .val (.int ps), .val (.int pt), .val (.long v11), .second, .val (.long v24), .second, .val (.long v33), .second, .val (.long v40), .second, .unset, .unset, .unset, .unset, .unset, .unset, .unset, .unset, .unset, .unset, .unset, .unset, .unset] [(.long v11)])) rfl (hb hby at_44) _ k) ?_
  show Go p.tables e below _ (T1.setTop (mkF m 47 #[.val (.long qx), .second, .val (.long qy), .second, .val (.int ps), .val (.int pt), .val (.long v11), .second, .val (.long v24), .second, .val (.long v33), .second, .val (.long v40), .second, .unset, .unset, .unset, .unset, .unset, .unset, .unset, .unset, .unset, .unset, .unset, .unset, .unset] [(.long (4294967295 : Int64)), (.long v11)]))
  refine Go.st (fun _ k => XS.land X1.here hx rfl (hb hby at_47) rfl k) ?_
  show Go p.tables e below _ (T1.setTop (mkF m 48 #[.val (.long qx), .second, .val (.long qy), .second, .val (.int ps), .val (.int pt), .val (.long v11), .second, .val (.long v24), .second, .val (.long v33), .second, .val (.long v40), .second, .unset, .unset, .unset, .unset, .unset, .unset, .unset, .unset, .unset, .unset, .unset, .unset, .unset] [(.long (v11 &&& (4294967295 : Int64)))]))
  refine Go.st (fun _ k => XS.lstore X1.here hx rfl (hb hby at_48) rfl (l' := #[.val (.long qx), .second, .val (.long qy), .second, .val (.int ps), .val (.int pt), .val (.long v11), .second, .val (.long v24), .second, .val (.long v33), .second, .val (.long v40), .second, .val (.long (v11 &&& (4294967295 : Int64))), .second, .unset, .unset, .unset, .unset, .unset, .unset, .unset, .unset, .unset, .unset, .unset]) rfl k) ?_
  show Go p.tables e below _ (T1.setTop (mkF m 50 #[.val (.long qx), .second, .val (.long qy), .second, .val (.int ps), .val (.int pt), .val (.long v11), .second, .val (.long v24), .second, .val (.long v33), .second, .val (.long v40), .second, .val (.long (v11 &&& (4294967295 : Int64))), .second, .unset, .unset, .unset, .unset, .unset, .unset, .unset, .unset, .unset, .unset, .unset] []))
  generalize hqv48 : (v11 &&& (4294967295 : Int64)) = v48
  show Go p.tables e below _ (T1.setTop (mkF m 50 #[.val (.long qx), .second, .val (.long qy), .second, .val (.int ps), .val (.int pt), .val (.long v11), .second, .val (.long v24), .second, .val (.long v33), .second, .val (.long v40), .second, .val (.long v48), .second, .unset, .unset, .unset, .unset, .unset, .unset, .unset, .unset, .unset, .unset, .unset] []))
  refine Go.st (fun _ k => XS.lload X1.here hx rfl (hb hby at_50) rfl k) ?_
  show Go p.tables e below _ (T1.setTop (mkF m 52 #[.val (.long qx), .second, .val (.long qy), .second, .val (.int ps), .val (.int pt), .val (.long v11), .second, .val (.long v24), .second, .val (.long v33), .second, .val (.long v40), .second, .val (.long v48), .second, .unset, .unset, .unset, .unset, .unset, .unset, .unset, .unset, .unset, .unset, .unset] [(.long v24)]))
  refine Go.st (fun _ k => XS.bipush X1.here hx rfl (hb hby at_52) k) ?_
  show Go p.tables e below _ (T1.setTop (mkF m 54 #[.val (.long qx), .second, .val (.long qy), .second, .val (.int ps), .val (.int pt), .val (.long v11), .second, .val (.long v24), .second, .val (.long v33), .second, .val (.long v40), .second, .val (.long v48), .second, .unset, .unset, .unset, .unset, .unset, .unset, .unset, .unset, .unset, .unset, .unset] [(.int (32 : Int32)), (.long v24)]))
  refine Go.st (fun _ k => XS.lushr X1.here hx rfl (hb hby at_54) rfl k) ?_
  show Go p.tables e below _ (T1.setTop (mkF m 55 #[.val (.long qx), .second, .val (.long qy), .second, .val (.int ps), .val (.int pt), .val (.long v11), .second, .val (.long v24), .second, .val (.long v33), .second, .val (.long v40), .second, .val (.long v48), .second, .unset, .unset, .unset, .unset, .unset, .unset, .unset, .unset, .unset, .unset, .unset] [(.long ((v24.toUInt64 >>> ((32 : Int32) &&& 0x3f).toInt64.toUInt64).toInt64))]))
  refine Go.st (fun _ k => XS.lstore X1.here hx rfl (hb hby at_55) rfl (l' := #[.val (.long qx), .second, .val (.long qy), .second, .val (.int ps), .val (.int pt), .val (.long v11), .second, .val (.long v24), .second, .val (.long v33), .second, .val (.long v40), .second, .val (.long v48), .second, .val (.long ((v24.toUInt64 >>> ((32 : Int32) &&& 0x3f).toInt64.toUInt64).toInt64)), .second, .unset, .unset, .unset, .unset, .unset, .unset, .unset, .unset, .unset]) rfl k) ?_
  show Go p.tables e below _ (T1.setTop (mkF m 57 #[.val (.long qx), .second, .val (.long qy), .second, .val (.int ps), .val (.int pt), .val (.long v11), .second, .val (.long v24), .second, .val (.long v33), .second, .val (.long v40), .second, .val (.long v48), .second, .val (.long ((v24.toUInt64 >>> ((32 : Int32) &&& 0x3f).toInt64.toUInt64).toInt64)), .second, .unset, .unset, .unset, .unset, .unset, .unset, .unset, .unset, .unset] []))
  generalize hqv55 : ((v24.toUInt64 >>> ((32 : Int32) &&& 0x3f).toInt64.toUInt64).toInt64) = v55
  show Go p.tables e below _ (T1.setTop (mkF m 57 #[.val (.long qx), .second, .val (.long qy), .second, .val (.int ps), .val (.int pt), .val (.long v11), .second, .val (.long v24), .second, .val (.long v33), .second, .val (.long v40), .second, .val (.long v48), .second, .val (.long v55), .second, .unset, .unset, .unset, .unset, .unset, .unset, .unset, .unset, .unset] []))
  refine Go.st (fun _ k => XS.lload X1.here hx rfl (hb hby at_57) rfl k) ?_
  show Go p.tables e below _ (T1.setTop (mkF m 59 #[.val (.long qx), .second, .val (.long qy), .second, .val (.int ps), .val (.int pt), .val (.long v11), .second, .val (.long v24), .second, .val (.long v33), .second, .val (.long v40), .second, .val (.long v48), .second, .val (.long v55), .second, .unset, .unset, .unset, .unset, .unset, .unset, .unset, .unset, .unset] [(.long v24)]))
  refine Go.st (fun _ k => X1.ldc2Long hx hown (mvT hZ (hw _ (List.mem_of_getElem? (i := 6) rfl))) (g := (mkF m 59 #[.val (.long qx), .second, .val (.long qy), .second, .val (.int ps), .val (.int pt), .val (.long v11), .second, .val (.long v24), .second, .val (.long v33), .second, .val (.long v40), .second, .val (.long v48), .second, .val (.long v55), .second, .unset, .unset, .unset, .unset, .unset, .unset, .unset, .unset, .unset] [(.long v24)])) rfl (hb hby at_59) _ k) ?_
  show Go p.tables e below _ (T1.setTop (mkF m 62 #[.val (.long qx), .second, .val (.long qy), .second, .val (.int ps), .val (.int pt), .val (.long v11), .second, .val (.long v24), .second, .val (.long v33), .second, .val (.long v40), .second, .val (.long v48), .second, .val (.long v55), .second, .unset, .unset, .unset, .unset, .unset, .unset, .unset, .unset, .unset] [(.long (4294967295 : Int64)), (.long v24)]))
  refine Go.st (fun _ k => XS.land X1.here hx rfl (hb hby at_62) rfl k) ?_
  show Go p.tables e below _ (T1.setTop (mkF m 63 #[.val (.long qx), .second, .val (.long qy), .second, .val (.int ps), .val (.int pt), .val (.long v11), .second, .val (.long v24), .second, .val (.long v33), .second, .val (.long v40), .second, .val (.long v48), .second, .val (.long v55), .second, .unset, .unset, .unset, .unset, .unset, .unset, .unset, .unset, .unset] [(.long (v24 &&& (4294967295 : Int64)))]))
  refine Go.st (fun _ k => XS.lstore X1.here hx rfl (hb hby at_63) rfl (l' := #[.val (.long qx), .second, .val (.long qy), .second, .val (.int ps), .val (.int pt), .val (.long v11), .second, .val (.long v24), .second, .val (.long v33), .second, .val (.long v40), .second, .val (.long v48), .second, .val (.long v55), .second, .val (.long (v24 &&& (4294967295 : Int64))), .second, .unset, .unset, .unset, .unset, .unset, .unset, .unset]) rfl k) ?_
  show Go p.tables e below _ (T1.setTop (mkF m 65 #[.val (.long qx), .second, .val (.long qy), .second, .val (.int ps), .val (.int pt), .val (.long v11), .second, .val (.long v24), .second, .val (.long v33), .second, .val (.long v40), .second, .val (.long v48), .second, .val (.long v55), .second, .val (.long (v24 &&& (4294967295 : Int64))), .second, .unset, .unset, .unset, .unset, .unset, .unset, .unset] []))
  generalize hqv63 : (v24 &&& (4294967295 : Int64)) = v63
  show Go p.tables e below _ (T1.setTop (mkF m 65 #[.val (.long qx), .second, .val (.long qy), .second, .val (.int ps), .val (.int pt), .val (.long v11), .second, .val (.long v24), .second, .val (.long v33), .second, .val (.long v40), .second, .val (.long v48), .second, .val (.long v55), .second, .val (.long v63), .second, .unset, .unset, .unset, .unset, .unset, .unset, .unset] []))
  refine Go.st (fun _ k => XS.lload X1.here hx rfl (hb hby at_65) rfl k) ?_
  show Go p.tables e below _ (T1.setTop (mkF m 67 #[.val (.long qx), .second, .val (.long qy), .second, .val (.int ps), .val (.int pt), .val (.long v11), .second, .val (.long v24), .second, .val (.long v33), .second, .val (.long v40), .second, .val (.long v48), .second, .val (.long v55), .second, .val (.long v63), .second, .unset, .unset, .unset, .unset, .unset, .unset, .unset] [(.long v40)]))
  refine Go.st (fun _ k => XS.lconst X1.here hx rfl (hb hby at_67) k) ?_
  show Go p.tables e below _ (T1.setTop (mkF m 68 #[.val (.long qx), .second, .val (.long qy), .second, .val (.int ps), .val (.int pt), .val (.long v11), .second, .val (.long v24), .second, .val (.long v33), .second, .val (.long v40), .second, .val (.long v48), .second, .val (.long v55), .second, .val (.long v63), .second, .unset, .unset, .unset, .unset, .unset, .unset, .unset] [(.long (0 : Int64)), (.long v40)]))
  refine Go.st (fun _ k => Jvm.Free.XT.lcmp X1.here hx rfl (hb hby at_68) rfl k) ?_
  show Go p.tables e below _ (T1.setTop (mkF m 69 #[.val (.long qx), .second, .val (.long qy), .second, .val (.int ps), .val (.int pt), .val (.long v11), .second, .val (.long v24), .second, .val (.long v33), .second, .val (.long v40), .second, .val (.long v48), .second, .val (.long v55), .second, .val (.long v63), .second, .unset, .unset, .unset, .unset, .unset, .unset, .unset] [(.int (Jvm.Free.XT.cmpL v40 (0 : Int64)))]))
  by_cases hc69 : v40 = (0 : Int64)
  · skip
    refine Go.st (fun _ k => XS.ifYes X1.here hx rfl (pc0 := 69) (pc' := 85) rfl (hb hby at_69) rfl (Jvm.Free.XT.ll_eq_t hc69) (by decide) (by decide) k) ?_
    show Go p.tables e below _ (T1.setTop (mkF m 85 #[.val (.long qx), .second, .val (.long qy), .second, .val (.int ps), .val (.int pt), .val (.long v11), .second, .val (.long v24), .second, .val (.long v33), .second, .val (.long v40), .second, .val (.long v48), .second, .val (.long v55), .second, .val (.long v63), .second, .unset, .unset, .unset, .unset, .unset, .unset, .unset] []))
    refine Go.st (fun _ k => XS.lload X1.here hx rfl (hb hby at_85) rfl k) ?_
    show Go p.tables e below _ (T1.setTop (mkF m 87 #[.val (.long qx), .second, .val (.long qy), .second, .val (.int ps), .val (.int pt), .val (.long v11), .second, .val (.long v24), .second, .val (.long v33), .second, .val (.long v40), .second, .val (.long v48), .second, .val (.long v55), .second, .val (.long v63), .second, .unset, .unset, .unset, .unset, .unset, .unset, .unset] [(.long v40)]))
    refine Go.st (fun _ k => XS.lload X1.here hx rfl (hb hby at_87) rfl k) ?_
    show Go p.tables e below _ (T1.setTop (mkF m 89 #[.val (.long qx), .second, .val (.long qy), .second, .val (.int ps), .val (.int pt), .val (.long v11), .second, .val (.long v24), .second, .val (.long v33), .second, .val (.long v40), .second, .val (.long v48), .second, .val (.long v55), .second, .val (.long v63), .second, .unset, .unset, .unset, .unset, .unset, .unset, .unset] [(.long v63), (.long v40)]))
    refine Go.st (fun _ k => XS.lmul X1.here hx rfl (hb hby at_89) rfl k) ?_
    show Go p.tables e below _ (T1.setTop (mkF m 90 #[.val (.long qx), .second, .val (.long qy), .second, .val (.int ps), .val (.int pt), .val (.long v11), .second, .val (.long v24), .second, .val (.long v33), .second, .val (.long v40), .second, .val (.long v48), .second, .val (.long v55), .second, .val (.long v63), .second, .unset, .unset, .unset, .unset, .unset, .unset, .unset] [(.long (v40 * v63))]))
    refine Go.st (fun _ k => XS.lload X1.here hx rfl (hb hby at_90) rfl k) ?_
    show Go p.tables e below _ (T1.setTop (mkF m 92 #[.val (.long qx), .second, .val (.long qy), .second, .val (.int ps), .val (.int pt), .val (.long v11), .second, .val (.long v24), .second, .val (.long v33), .second, .val (.long v40), .second, .val (.long v48), .second, .val (.long v55), .second, .val (.long v63), .second, .unset, .unset, .unset, .unset, .unset, .unset, .unset] [(.long v48), (.long (v40 * v63))]))
    refine Go.st (fun _ k => XS.lload X1.here hx rfl (hb hby at_92) rfl k) ?_
    show Go p.tables e below _ (T1.setTop (mkF m 94 #[.val (.long qx), .second, .val (.long qy), .second, .val (.int ps), .val (.int pt), .val (.long v11), .second, .val (.long v24), .second, .val (.long v33), .second, .val (.long v40), .second, .val (.long v48), .second, .val (.long v55), .second, .val (.long v63), .second, .unset, .unset, .unset, .unset, .unset, .unset, .unset] [(.long v55), (.long v48), (.long (v40 * v63))]))
    refine Go.st (fun _ k => XS.lmul X1.here hx rfl (hb hby at_94) rfl k) ?_
    show Go p.tables e below _ (T1.setTop (mkF m 95 #[.val (.long qx), .second, .val (.long qy), .second, .val (.int ps), .val (.int pt), .val (.long v11), .second, .val (.long v24), .second, .val (.long v33), .second, .val (.long v40), .second, .val (.long v48), .second, .val (.long v55), .second, .val (.long v63), .second, .unset, .unset, .unset, .unset, .unset, .unset, .unset] [(.long (v48 * v55)), (.long (v40 * v63))]))
    refine Go.st (fun _ k => XS.ladd X1.here hx rfl (hb hby at_95) rfl k) ?_
    show Go p.tables e below _ (T1.setTop (mkF m 96 #[.val (.long qx), .second, .val (.long qy), .second, .val (.int ps), .val (.int pt), .val (.long v11), .second, .val (.long v24), .second, .val (.long v33), .second, .val (.long v40), .second, .val (.long v48), .second, .val (.long v55), .second, .val (.long v63), .second, .unset, .unset, .unset, .unset, .unset, .unset, .unset] [(.long ((v40 * v63) + (v48 * v55)))]))
    refine Go.st (fun _ k => XS.lstore X1.here hx rfl (hb hby at_96) rfl (l' := #[.val (.long qx), .second, .val (.long qy), .second, .val (.int ps), .val (.int pt), .val (.long v11), .second, .val (.long v24), .second, .val (.long v33), .second, .val (.long v40), .second, .val (.long v48), .second, .val (.long v55), .second, .val (.long v63), .second, .unset, .val (.long ((v40 * v63) + (v48 * v55))), .second, .unset, .unset, .unset, .unset]) rfl k) ?_
    show Go p.tables e below _ (T1.setTop (mkF m 98 #[.val (.long qx), .second, .val (.long qy), .second, .val (.int ps), .val (.int pt), .val (.long v11), .second, .val (.long v24), .second, .val (.long v33), .second, .val (.long v40), .second, .val (.long v48), .second, .val (.long v55), .second, .val (.long v63), .second, .unset, .val (.long ((v40 * v63) + (v48 * v55))), .second, .unset, .unset, .unset, .unset] []))
    generalize hqv96 : ((v40 * v63) + (v48 * v55)) = v96
    show Go p.tables e below _ (T1.setTop (mkF m 98 #[.val (.long qx), .second, .val (.long qy), .second, .val (.int ps), .val (.int pt), .val (.long v11), .second, .val (.long v24), .second, .val (.long v33), .second, .val (.long v40), .second, .val (.long v48), .second, .val (.long v55), .second, .val (.long v63), .second, .unset, .val (.long v96), .second, .unset, .unset, .unset, .unset] []))
    refine Go.st (fun _ k => XS.lload X1.here hx rfl (hb hby at_98) rfl k) ?_
    show Go p.tables e below _ (T1.setTop (mkF m 100 #[.val (.long qx), .second, .val (.long qy), .second, .val (.int ps), .val (.int pt), .val (.long v11), .second, .val (.long v24), .second, .val (.long v33), .second, .val (.long v40), .second, .val (.long v48), .second, .val (.long v55), .second, .val (.long v63), .second, .unset, .val (.long v96), .second, .unset, .unset, .unset, .unset] [(.long v48)]))
    refine Go.st (fun _ k => XS.lload X1.here hx rfl (hb hby at_100) rfl k) ?_
    show Go p.tables e below _ (T1.setTop (mkF m 102 #[.val (.long qx), .second, .val (.long qy), .second, .val (.int ps), .val (.int pt), .val (.long v11), .second, .val (.long v24), .second, .val (.long v33), .second, .val (.long v40), .second, .val (.long v48), .second, .val (.long v55), .second, .val (.long v63), .second, .unset, .val (.long v96), .second, .unset, .unset, .unset, .unset] [(.long v63), (.long v48)]))
    refine Go.st (fun _ k => XS.lmul X1.here hx rfl (hb hby at_102) rfl k) ?_
    show Go p.tables e below _ (T1.setTop (mkF m 103 #[.val (.long qx), .second, .val (.long qy), .second, .val (.int ps), .val (.int pt), .val (.long v11), .second, .val (.long v24), .second, .val (.long v33), .second, .val (.long v40), .second, .val (.long v48), .second, .val (.long v55), .second, .val (.long v63), .second, .unset, .val (.long v96), .second, .unset, .unset, .unset, .unset] [(.long (v48 * v63))]))
    refine Go.st (fun _ k => XS.lstore X1.here hx rfl (hb hby at_103) rfl (l' := #[.val (.long qx), .second, .val (.long qy), .second, .val (.int ps), .val (.int pt), .val (.long v11), .second, .val (.long v24), .second, .val (.long v33), .second, .val (.long v40), .second, .val (.long v48), .second, .val (.long v55), .second, .val (.long v63), .second, .unset, .val (.long v96), .second, .val (.long (v48 * v63)), .second, .unset, .unset]) rfl k) ?_
    show Go p.tables e below _ (T1.setTop (mkF m 105 #[.val (.long qx), .second, .val (.long qy), .second, .val (.int ps), .val (.int pt), .val (.long v11), .second, .val (.long v24), .second, .val (.long v33), .second, .val (.long v40), .second, .val (.long v48), .second, .val (.long v55), .second, .val (.long v63), .second, .unset, .val (.long v96), .second, .val (.long (v48 * v63)), .second, .unset, .unset] []))
    generalize hqv103 : (v48 * v63) = v103
    show Go p.tables e below _ (T1.setTop (mkF m 105 #[.val (.long qx), .second, .val (.long qy), .second, .val (.int ps), .val (.int pt), .val (.long v11), .second, .val (.long v24), .second, .val (.long v33), .second, .val (.long v40), .second, .val (.long v48), .second, .val (.long v55), .second, .val (.long v63), .second, .unset, .val (.long v96), .second, .val (.long v103), .second, .unset, .unset] []))
    refine Go.st (fun _ k => XS.lload X1.here hx rfl (hb hby at_105) rfl k) ?_
    show Go p.tables e below _ (T1.setTop (mkF m 107 #[.val (.long qx), .second, .val (.long qy), .second, .val (.int ps), .val (.int pt), .val (.long v11), .second, .val (.long v24), .second, .val (.long v33), .second, .val (.long v40), .second, .val (.long v48), .second, .val (.long v55), .second, .val (.long v63), .second, .unset, .val (.long v96), .second, .val (.long v103), .second, .unset, .unset] [(.long v96)]))
    refine Go.st (fun _ k => XS.lload X1.here hx rfl (hb hby at_107) rfl k) ?_
    show Go p.tables e below _ (T1.setTop (mkF m 109 #[.val (.long qx), .second, .val (.long qy), .second, .val (.int ps), .val (.int pt), .val (.long v11), .second, .val (.long v24), .second, .val (.long v33), .second, .val (.long v40), .second, .val (.long v48), .second, .val (.long v55), .second, .val (.long v63), .second, .unset, .val (.long v96), .second, .val (.long v103), .second, .unset, .unset] [(.long v103), (.long v96)]))
    refine Go.st (fun _ k => XS.bipush X1.here hx rfl (hb hby at_109) k) ?_
    show Go p.tables e below _ (T1.setTop (mkF m 111 #[.val (.long qx), .second, .val (.long qy), .second, .val (.int ps), .val (.int pt), .val (.long v11), .second, .val (.long v24), .second, .val (.long v33), .second, .val (.long v40), .second, .val (.long v48), .second, .val (.long v55), .second, .val (.long v63), .second, .unset, .val (.long v96), .second, .val (.long v103), .second, .unset, .unset] [(.int (32 : Int32)), (.long v103), (.long v96)]))
    refine Go.st (fun _ k => XS.lushr X1.here hx rfl (hb hby at_111) rfl k) ?_
    show Go p.tables e below _ (T1.setTop (mkF m 112 #[.val (.long qx), .second, .val (.long qy), .second, .val (.int ps), .val (.int pt), .val (.long v11), .second, .val (.long v24), .second, .val (.long v33), .second, .val (.long v40), .second, .val (.long v48), .second, .val (.long v55), .second, .val (.long v63), .second, .unset, .val (.long v96), .second, .val (.long v103), .second, .unset, .unset] [(.long ((v103.toUInt64 >>> ((32 : Int32) &&& 0x3f).toInt64.toUInt64).toInt64)), (.long v96)]))
    refine Go.st (fun _ k => XS.ladd X1.here hx rfl (hb hby at_112) rfl k) ?_
    show Go p.tables e below _ (T1.setTop (mkF m 113 #[.val (.long qx), .second, .val (.long qy), .second, .val (.int ps), .val (.int pt), .val (.long v11), .second, .val (.long v24), .second, .val (.long v33), .second, .val (.long v40), .second, .val (.long v48), .second, .val (.long v55), .second, .val (.long v63), .second, .unset, .val (.long v96), .second, .val (.long v103), .second, .unset, .unset] [(.long (v96 + ((v103.toUInt64 >>> ((32 : Int32) &&& 0x3f).toInt64.toUInt64).toInt64)))]))
    refine Go.st (fun _ k => XS.lstore X1.here hx rfl (hb hby at_113) rfl (l' := #[.val (.long qx), .second, .val (.long qy), .second, .val (.int ps), .val (.int pt), .val (.long v11), .second, .val (.long v24), .second, .val (.long v33), .second, .val (.long v40), .second, .val (.long v48), .second, .val (.long v55), .second, .val (.long v63), .second, .unset, .val (.long v96), .second, .val (.long v103), .second, .val (.long (v96 + ((v103.toUInt64 >>> ((32 : Int32) &&& 0x3f).toInt64.toUInt64).toInt64))), .second]) rfl k) ?_
    show Go p.tables e below _ (T1.setTop (mkF m 115 #[.val (.long qx), .second, .val (.long qy), .second, .val (.int ps), .val (.int pt), .val (.long v11), .second, .val (.long v24), .second, .val (.long v33), .second, .val (.long v40), .second, .val (.long v48), .second, .val (.long v55), .second, .val (.long v63), .second, .unset, .val (.long v96), .second, .val (.long v103), .second, .val (.long (v96 + ((v103.toUInt64 >>> ((32 : Int32) &&& 0x3f).toInt64.toUInt64).toInt64))), .second] []))
    generalize hqv113 : (v96 + ((v103.toUInt64 >>> ((32 : Int32) &&& 0x3f).toInt64.toUInt64).toInt64)) = v113
    show Go p.tables e below _ (T1.setTop (mkF m 115 #[.val (.long qx), .second, .val (.long qy), .second, .val (.int ps), .val (.int pt), .val (.long v11), .second, .val (.long v24), .second, .val (.long v33), .second, .val (.long v40), .second, .val (.long v48), .second, .val (.long v55), .second, .val (.long v63), .second, .unset, .val (.long v96), .second, .val (.long v103), .second, .val (.long v113), .second] []))
    refine Go.st (fun _ k => XS.lload X1.here hx rfl (hb hby at_115) rfl k) ?_
    show Go p.tables e below _ (T1.setTop (mkF m 117 #[.val (.long qx), .second, .val (.long qy), .second, .val (.int ps), .val (.int pt), .val (.long v11), .second, .val (.long v24), .second, .val (.long v33), .second, .val (.long v40), .second, .val (.long v48), .second, .val (.long v55), .second, .val (.long v63), .second, .unset, .val (.long v96), .second, .val (.long v103), .second, .val (.long v113), .second] [(.long v113)]))
    refine Go.st (fun _ k => X1.ldc2Long hx hown (mvT hZ (hw _ (List.mem_of_getElem? (i := 7) rfl))) (g := (mkF m 117 #[.val (.long qx), .second, .val (.long qy), .second, .val (.int ps), .val (.int pt), .val (.long v11), .second, .val (.long v24), .second, .val (.long v33), .second, .val (.long v40), .second, .val (.long v48), .second, .val (.long v55), .second, .val (.long v63), .second, .unset, .val (.long v96), .second, .val (.long v103), .second, .val (.long v113), .second] [(.long v113)])) rfl (hb hby at_117) _ k) ?_
    show Go p.tables e below _ (T1.setTop (mkF m 120 #[.val (.long qx), .second, .val (.long qy), .second, .val (.int ps), .val (.int pt), .val (.long v11), .second, .val (.long v24), .second, .val (.long v33), .second, .val (.long v40), .second, .val (.long v48), .second, .val (.long v55), .second, .val (.long v63), .second, .unset, .val (.long v96), .second, .val (.long v103), .second, .val (.long v113), .second] [(.long (2147483648 : Int64)), (.long v113)]))
    refine Go.st (fun _ k => Jvm.Free.XT.lcmp X1.here hx rfl (hb hby at_120) rfl k) ?_
    show Go p.tables e below _ (T1.setTop (mkF m 121 #[.val (.long qx), .second, .val (.long qy), .second, .val (.int ps), .val (.int pt), .val (.long v11), .second, .val (.long v24), .second, .val (.long v33), .second, .val (.long v40), .second, .val (.long v48), .second, .val (.long v55), .second, .val (.long v63), .second, .unset, .val (.long v96), .second, .val (.long v103), .second, .val (.long v113), .second] [(.int (Jvm.Free.XT.cmpL v113 (2147483648 : Int64)))]))
    by_cases hc121 : v113 < (2147483648 : Int64)
    · skip
      refine Go.st (fun _ k => XS.ifYes X1.here hx rfl (pc0 := 121) (pc' := 128) rfl (hb hby at_121) rfl (Jvm.Free.XT.ll_lt_t hc121) (by decide) (by decide) k) ?_
      show Go p.tables e below _ (T1.setTop (mkF m 128 #[.val (.long qx), .second, .val (.long qy), .second, .val (.int ps), .val (.int pt), .val (.long v11), .second, .val (.long v24), .second, .val (.long v33), .second, .val (.long v40), .second, .val (.long v48), .second, .val (.long v55), .second, .val (.long v63), .second, .unset, .val (.long v96), .second, .val (.long v103), .second, .val (.long v113), .second] []))
      refine Go.st (fun _ k => XS.iconst X1.here hx rfl (hb hby at_128) k) ?_
      show Go p.tables e below _ (T1.setTop (mkF m 129 #[.val (.long qx), .second, .val (.long qy), .second, .val (.int ps), .val (.int pt), .val (.long v11), .second, .val (.long v24), .second, .val (.long v33), .second, .val (.long v40), .second, .val (.long v48), .second, .val (.long v55), .second, .val (.long v63), .second, .unset, .val (.long v96), .second, .val (.long v103), .second, .val (.long v113), .second] [(.int (0 : Int32))]))
      refine Go.st (fun _ k => XS.istore X1.here hx rfl (hb hby at_129) rfl (l' := #[.val (.long qx), .second, .val (.long qy), .second, .val (.int ps), .val (.int pt), .val (.long v11), .second, .val (.long v24), .second, .val (.long v33), .second, .val (.long v40), .second, .val (.long v48), .second, .val (.long v55), .second, .val (.long v63), .second, .val (.int (0 : Int32)), .val (.long v96), .second, .val (.long v103), .second, .val (.long v113), .second]) rfl k) ?_
      show Go p.tables e below _ (T1.setTop (mkF m 131 #[.val (.long qx), .second, .val (.long qy), .second, .val (.int ps), .val (.int pt), .val (.long v11), .second, .val (.long v24), .second, .val (.long v33), .second, .val (.long v40), .second, .val (.long v48), .second, .val (.long v55), .second, .val (.long v63), .second, .val (.int (0 : Int32)), .val (.long v96), .second, .val (.long v103), .second, .val (.long v113), .second] []))
      show Go p.tables e below _ (T1.setTop (mkF m 131 #[.val (.long qx), .second, .val (.long qy), .second, .val (.int ps), .val (.int pt), .val (.long v11), .second, .val (.long v24), .second, .val (.long v33), .second, .val (.long v40), .second, .val (.long v48), .second, .val (.long v55), .second, .val (.long v63), .second, .val (.int (0 : Int32)), .val (.long v96), .second, .val (.long v103), .second, .val (.long v113), .second] []))
      refine Go.st (fun _ k => XS.iload X1.here hx rfl (hb hby at_131) rfl k) ?_
      show Go p.tables e below _ (T1.setTop (mkF m 133 #[.val (.long qx), .second, .val (.long qy), .second, .val (.int ps), .val (.int pt), .val (.long v11), .second, .val (.long v24), .second, .val (.long v33), .second, .val (.long v40), .second, .val (.long v48), .second, .val (.long v55), .second, .val (.long v63), .second, .val (.int (0 : Int32)), .val (.long v96), .second, .val (.long v103), .second, .val (.long v113), .second] [(.int (0 : Int32))]))
      have hl2 : (0 : Int32) = (0 : Int32) := by decide
      refine Go.st (fun _ k => XS.ifYes X1.here hx rfl (pc0 := 133) (pc' := 142) rfl (hb hby at_133) rfl (Jvm.Free.XT.i0_eq_t hl2) (by decide) (by decide) k) ?_
      show Go p.tables e below _ (T1.setTop (mkF m 142 #[.val (.long qx), .second, .val (.long qy), .second, .val (.int ps), .val (.int pt), .val (.long v11), .second, .val (.long v24), .second, .val (.long v33), .second, .val (.long v40), .second, .val (.long v48), .second, .val (.long v55), .second, .val (.long v63), .second, .val (.int (0 : Int32)), .val (.long v96), .second, .val (.long v103), .second, .val (.long v113), .second] []))
      refine Go.st (fun _ k => XS.lload X1.here hx rfl (hb hby at_142) rfl k) ?_
      show Go p.tables e below _ (T1.setTop (mkF m 144 #[.val (.long qx), .second, .val (.long qy), .second, .val (.int ps), .val (.int pt), .val (.long v11), .second, .val (.long v24), .second, .val (.long v33), .second, .val (.long v40), .second, .val (.long v48), .second, .val (.long v55), .second, .val (.long v63), .second, .val (.int (0 : Int32)), .val (.long v96), .second, .val (.long v103), .second, .val (.long v113), .second] [(.long v11)]))
      refine Go.st (fun _ k => XS.lload X1.here hx rfl (hb hby at_144) rfl k) ?_
      show Go p.tables e below _ (T1.setTop (mkF m 146 #[.val (.long qx), .second, .val (.long qy), .second, .val (.int ps), .val (.int pt), .val (.long v11), .second, .val (.long v24), .second, .val (.long v33), .second, .val (.long v40), .second, .val (.long v48), .second, .val (.long v55), .second, .val (.long v63), .second, .val (.int (0 : Int32)), .val (.long v96), .second, .val (.long v103), .second, .val (.long v113), .second] [(.long v24), (.long v11)]))
      refine Go.st (fun _ k => XS.lmul X1.here hx rfl (hb hby at_146) rfl k) ?_
      show Go p.tables e below _ (T1.setTop (mkF m 147 #[.val (.long qx), .second, .val (.long qy), .second, .val (.int ps), .val (.int pt), .val (.long v11), .second, .val (.long v24), .second, .val (.long v33), .second, .val (.long v40), .second, .val (.long v48), .second, .val (.long v55), .second, .val (.long v63), .second, .val (.int (0 : Int32)), .val (.long v96), .second, .val (.long v103), .second, .val (.long v113), .second] [(.long (v11 * v24))]))
      refine Go.st (fun _ k => XS.lstore X1.here hx rfl (hb hby at_147) rfl (l' := #[.val (.long qx), .second, .val (.long qy), .second, .val (.int ps), .val (.int pt), .val (.long v11), .second, .val (.long v24), .second, .val (.long v33), .second, .val (.long v40), .second, .val (.long v48), .second, .val (.long v55), .second, .val (.long v63), .second, .val (.int (0 : Int32)), .val (.long (v11 * v24)), .second, .val (.long v103), .second, .val (.long v113), .second]) rfl k) ?_
      show Go p.tables e below _ (T1.setTop (mkF m 149 #[.val (.long qx), .second, .val (.long qy), .second, .val (.int ps), .val (.int pt), .val (.long v11), .second, .val (.long v24), .second, .val (.long v33), .second, .val (.long v40), .second, .val (.long v48), .second, .val (.long v55), .second, .val (.long v63), .second, .val (.int (0 : Int32)), .val (.long (v11 * v24)), .second, .val (.long v103), .second, .val (.long v113), .second] []))
      generalize hqv147 : (v11 * v24) = v147
      show Go p.tables e below _ (T1.setTop (mkF m 149 #[.val (.long qx), .second, .val (.long qy), .second, .val (.int ps), .val (.int pt), .val (.long v11), .second, .val (.long v24), .second, .val (.long v33), .second, .val (.long v40), .second, .val (.long v48), .second, .val (.long v55), .second, .val (.long v63), .second, .val (.int (0 : Int32)), .val (.long v147), .second, .val (.long v103), .second, .val (.long v113), .second] []))
      refine Go.st (fun _ k => XS.lload X1.here hx rfl (hb hby at_149) rfl k) ?_
      show Go p.tables e below _ (T1.setTop (mkF m 151 #[.val (.long qx), .second, .val (.long qy), .second, .val (.int ps), .val (.int pt), .val (.long v11), .second, .val (.long v24), .second, .val (.long v33), .second, .val (.long v40), .second, .val (.long v48), .second, .val (.long v55), .second, .val (.long v63), .second, .val (.int (0 : Int32)), .val (.long v147), .second, .val (.long v103), .second, .val (.long v113), .second] [(.long v33)]))
      refine Go.st (fun _ k => XS.lload X1.here hx rfl (hb hby at_151) rfl k) ?_
      show Go p.tables e below _ (T1.setTop (mkF m 153 #[.val (.long qx), .second, .val (.long qy), .second, .val (.int ps), .val (.int pt), .val (.long v11), .second, .val (.long v24), .second, .val (.long v33), .second, .val (.long v40), .second, .val (.long v48), .second, .val (.long v55), .second, .val (.long v63), .second, .val (.int (0 : Int32)), .val (.long v147), .second, .val (.long v103), .second, .val (.long v113), .second] [(.long v147), (.long v33)]))
      refine Go.st (fun _ k => Jvm.Free.XT.lcmp X1.here hx rfl (hb hby at_153) rfl k) ?_
      show Go p.tables e below _ (T1.setTop (mkF m 154 #[.val (.long qx), .second, .val (.long qy), .second, .val (.int ps), .val (.int pt), .val (.long v11), .second, .val (.long v24), .second, .val (.long v33), .second, .val (.long v40), .second, .val (.long v48), .second, .val (.long v55), .second, .val (.long v63), .second, .val (.int (0 : Int32)), .val (.long v147), .second, .val (.long v103), .second, .val (.long v113), .second] [(.int (Jvm.Free.XT.cmpL v33 v147))]))
      have hc154 : v33 = v147 := ((own_M (n3 := ((32 : Int32) &&& 0x3f).toInt64.toUInt64) (by decide) hqv11 hqv24 hqv33 hqv40 hqv48 hqv55 hqv63).2 _ _ _ hqv96 hqv103 hqv113 (Or.inl hc69)).1 hc121 |>.trans hqv147
      refine Go.st (fun _ k => XS.ifNo X1.here hx rfl (hb hby at_154) rfl (Jvm.Free.XT.ll_ne_f hc154) k) ?_
      show Go p.tables e below _ (T1.setTop (mkF m 157 #[.val (.long qx), .second, .val (.long qy), .second, .val (.int ps), .val (.int pt), .val (.long v11), .second, .val (.long v24), .second, .val (.long v33), .second, .val (.long v40), .second, .val (.long v48), .second, .val (.long v55), .second, .val (.long v63), .second, .val (.int (0 : Int32)), .val (.long v147), .second, .val (.long v103), .second, .val (.long v113), .second] []))
      refine Go.st (fun _ k => XS.iconst X1.here hx rfl (hb hby at_157) k) ?_
      show Go p.tables e below _ (T1.setTop (mkF m 158 #[.val (.long qx), .second, .val (.long qy), .second, .val (.int ps), .val (.int pt), .val (.long v11), .second, .val (.long v24), .second, .val (.long v33), .second, .val (.long v40), .second, .val (.long v48), .second, .val (.long v55), .second, .val (.long v63), .second, .val (.int (0 : Int32)), .val (.long v147), .second, .val (.long v103), .second, .val (.long v113), .second] [(.int (1 : Int32))]))
      refine Go.st (fun _ k => XS.goto X1.here hx rfl (pc0 := 158) (pc' := 162) rfl (hb hby at_158) (by decide) (by decide) k) ?_
      show Go p.tables e below _ (T1.setTop (mkF m 162 #[.val (.long qx), .second, .val (.long qy), .second, .val (.int ps), .val (.int pt), .val (.long v11), .second, .val (.long v24), .second, .val (.long v33), .second, .val (.long v40), .second, .val (.long v48), .second, .val (.long v55), .second, .val (.long v63), .second, .val (.int (0 : Int32)), .val (.long v147), .second, .val (.long v103), .second, .val (.long v113), .second] [(.int (1 : Int32))]))
      subst hG
      obtain ⟨fs, hr, hrun, hended, hW, hsame⟩ := X1.leave (v := some (.int (nar .boolean (1 : Int32)))) (fun h => by rw [Bd.returns] at h; cases h)
      refine ⟨_, _, ?_, hrun, hended, _, _, rfl, ?_, ⟨_, rfl⟩, hW, hsame.mono (by decide) (by decide)⟩
      · exact retN X1 hx (t := .boolean) Bd.returns (by simp) (hb hby at_162) hr
      · show Q_law Z qx qy ps pt h0 n0 _ T1.heap _
        rw [e1]
        exact ⟨rfl, N1, rfl⟩
    · skip
      refine Go.st (fun _ k => XS.ifNo X1.here hx rfl (hb hby at_121) rfl (Jvm.Free.XT.ll_lt_f hc121) k) ?_
      show Go p.tables e below _ (T1.setTop (mkF m 124 #[.val (.long qx), .second, .val (.long qy), .second, .val (.int ps), .val (.int pt), .val (.long v11), .second, .val (.long v24), .second, .val (.long v33), .second, .val (.long v40), .second, .val (.long v48), .second, .val (.long v55), .second, .val (.long v63), .second, .unset, .val (.long v96), .second, .val (.long v103), .second, .val (.long v113), .second] []))
      refine Go.st (fun _ k => XS.iconst X1.here hx rfl (hb hby at_124) k) ?_
      show Go p.tables e below _ (T1.setTop (mkF m 125 #[.val (.long qx), .second, .val (.long qy), .second, .val (.int ps), .val (.int pt), .val (.long v11), .second, .val (.long v24), .second, .val (.long v33), .second, .val (.long v40), .second, .val (.long v48), .second, .val (.long v55), .second, .val (.long v63), .second, .unset, .val (.long v96), .second, .val (.long v103), .second, .val (.long v113), .second] [(.int (1 : Int32))]))
      refine Go.st (fun _ k => XS.goto X1.here hx rfl (pc0 := 125) (pc' := 129) rfl (hb hby at_125) (by decide) (by decide) k) ?_
      show Go p.tables e below _ (T1.setTop (mkF m 129 #[.val (.long qx), .second, .val (.long qy), .second, .val (.int ps), .val (.int pt), .val (.long v11), .second, .val (.long v24), .second, .val (.long v33), .second, .val (.long v40), .second, .val (.long v48), .second, .val (.long v55), .second, .val (.long v63), .second, .unset, .val (.long v96), .second, .val (.long v103), .second, .val (.long v113), .second] [(.int (1 : Int32))]))
      refine Go.st (fun _ k => XS.istore X1.here hx rfl (hb hby at_129) rfl (l' := #[.val (.long qx), .second, .val (.long qy), .second, .val (.int ps), .val (.int pt), .val (.long v11), .second, .val (.long v24), .second, .val (.long v33), .second, .val (.long v40), .second, .val (.long v48), .second, .val (.long v55), .second, .val (.long v63), .second, .val (.int (1 : Int32)), .val (.long v96), .second, .val (.long v103), .second, .val (.long v113), .second]) rfl k) ?_
      show Go p.tables e below _ (T1.setTop (mkF m 131 #[.val (.long qx), .second, .val (.long qy), .second, .val (.int ps), .val (.int pt), .val (.long v11), .second, .val (.long v24), .second, .val (.long v33), .second, .val (.long v40), .second, .val (.long v48), .second, .val (.long v55), .second, .val (.long v63), .second, .val (.int (1 : Int32)), .val (.long v96), .second, .val (.long v103), .second, .val (.long v113), .second] []))
      show Go p.tables e below _ (T1.setTop (mkF m 131 #[.val (.long qx), .second, .val (.long qy), .second, .val (.int ps), .val (.int pt), .val (.long v11), .second, .val (.long v24), .second, .val (.long v33), .second, .val (.long v40), .second, .val (.long v48), .second, .val (.long v55), .second, .val (.long v63), .second, .val (.int (1 : Int32)), .val (.long v96), .second, .val (.long v103), .second, .val (.long v113), .second] []))
      refine Go.st (fun _ k => XS.iload X1.here hx rfl (hb hby at_131) rfl k) ?_
      show Go p.tables e below _ (T1.setTop (mkF m 133 #[.val (.long qx), .second, .val (.long qy), .second, .val (.int ps), .val (.int pt), .val (.long v11), .second, .val (.long v24), .second, .val (.long v33), .second, .val (.long v40), .second, .val (.long v48), .second, .val (.long v55), .second, .val (.long v63), .second, .val (.int (1 : Int32)), .val (.long v96), .second, .val (.long v103), .second, .val (.long v113), .second] [(.int (1 : Int32))]))
      have hl3 : ¬ ((1 : Int32) = (0 : Int32)) := by decide
      refine Go.st (fun _ k => XS.ifNo X1.here hx rfl (hb hby at_133) rfl (Jvm.Free.XT.i0_eq_f hl3) k) ?_
      show Go p.tables e below _ (T1.setTop (mkF m 136 #[.val (.long qx), .second, .val (.long qy), .second, .val (.int ps), .val (.int pt), .val (.long v11), .second, .val (.long v24), .second, .val (.long v33), .second, .val (.long v40), .second, .val (.long v48), .second, .val (.long v55), .second, .val (.long v63), .second, .val (.int (1 : Int32)), .val (.long v96), .second, .val (.long v103), .second, .val (.long v113), .second] []))
      refine Go.st (fun _ k => X1.ldc2Long hx hown (mvT hZ (hw _ (List.mem_of_getElem? (i := 0) rfl))) (g := (mkF m 136 #[.val (.long qx), .second, .val (.long qy), .second, .val (.int ps), .val (.int pt), .val (.long v11), .second, .val (.long v24), .second, .val (.long v33), .second, .val (.long v40), .second, .val (.long v48), .second, .val (.long v55), .second, .val (.long v63), .second, .val (.int (1 : Int32)), .val (.long v96), .second, .val (.long v103), .second, .val (.long v113), .second] [])) rfl (hb hby at_136) _ k) ?_
      show Go p.tables e below _ (T1.setTop (mkF m 139 #[.val (.long qx), .second, .val (.long qy), .second, .val (.int ps), .val (.int pt), .val (.long v11), .second, .val (.long v24), .second, .val (.long v33), .second, .val (.long v40), .second, .val (.long v48), .second, .val (.long v55), .second, .val (.long v63), .second, .val (.int (1 : Int32)), .val (.long v96), .second, .val (.long v103), .second, .val (.long v113), .second] [(.long (9223372036854775807 : Int64))]))
      refine Go.st (fun _ k => XS.goto X1.here hx rfl (pc0 := 139) (pc' := 147) rfl (hb hby at_139) (by decide) (by decide) k) ?_
      show Go p.tables e below _ (T1.setTop (mkF m 147 #[.val (.long qx), .second, .val (.long qy), .second, .val (.int ps), .val (.int pt), .val (.long v11), .second, .val (.long v24), .second, .val (.long v33), .second, .val (.long v40), .second, .val (.long v48), .second, .val (.long v55), .second, .val (.long v63), .second, .val (.int (1 : Int32)), .val (.long v96), .second, .val (.long v103), .second, .val (.long v113), .second] [(.long (9223372036854775807 : Int64))]))
      refine Go.st (fun _ k => XS.lstore X1.here hx rfl (hb hby at_147) rfl (l' := #[.val (.long qx), .second, .val (.long qy), .second, .val (.int ps), .val (.int pt), .val (.long v11), .second, .val (.long v24), .second, .val (.long v33), .second, .val (.long v40), .second, .val (.long v48), .second, .val (.long v55), .second, .val (.long v63), .second, .val (.int (1 : Int32)), .val (.long (9223372036854775807 : Int64)), .second, .val (.long v103), .second, .val (.long v113), .second]) rfl k) ?_
      show Go p.tables e below _ (T1.setTop (mkF m 149 #[.val (.long qx), .second, .val (.long qy), .second, .val (.int ps), .val (.int pt), .val (.long v11), .second, .val (.long v24), .second, .val (.long v33), .second, .val (.long v40), .second, .val (.long v48), .second, .val (.long v55), .second, .val (.long v63), .second, .val (.int (1 : Int32)), .val (.long (9223372036854775807 : Int64)), .second, .val (.long v103), .second, .val (.long v113), .second] []))
      show Go p.tables e below _ (T1.setTop (mkF m 149 #[.val (.long qx), .second, .val (.long qy), .second, .val (.int ps), .val (.int pt), .val (.long v11), .second, .val (.long v24), .second, .val (.long v33), .second, .val (.long v40), .second, .val (.long v48), .second, .val (.long v55), .second, .val (.long v63), .second, .val (.int (1 : Int32)), .val (.long (9223372036854775807 : Int64)), .second, .val (.long v103), .second, .val (.long v113), .second] []))
      refine Go.st (fun _ k => XS.lload X1.here hx rfl (hb hby at_149) rfl k) ?_
      show Go p.tables e below _ (T1.setTop (mkF m 151 #[.val (.long qx), .second, .val (.long qy), .second, .val (.int ps), .val (.int pt), .val (.long v11), .second, .val (.long v24), .second, .val (.long v33), .second, .val (.long v40), .second, .val (.long v48), .second, .val (.long v55), .second, .val (.long v63), .second, .val (.int (1 : Int32)), .val (.long (9223372036854775807 : Int64)), .second, .val (.long v103), .second, .val (.long v113), .second] [(.long v33)]))
      refine Go.st (fun _ k => XS.lload X1.here hx rfl (hb hby at_151) rfl k) ?_
      show Go p.tables e below _ (T1.setTop (mkF m 153 #[.val (.long qx), .second, .val (.long qy), .second, .val (.int ps), .val (.int pt), .val (.long v11), .second, .val (.long v24), .second, .val (.long v33), .second, .val (.long v40), .second, .val (.long v48), .second, .val (.long v55), .second, .val (.long v63), .second, .val (.int (1 : Int32)), .val (.long (9223372036854775807 : Int64)), .second, .val (.long v103), .second, .val (.long v113), .second] [(.long (9223372036854775807 : Int64)), (.long v33)]))
      refine Go.st (fun _ k => Jvm.Free.XT.lcmp X1.here hx rfl (hb hby at_153) rfl k) ?_
      show Go p.tables e below _ (T1.setTop (mkF m 154 #[.val (.long qx), .second, .val (.long qy), .second, .val (.int ps), .val (.int pt), .val (.long v11), .second, .val (.long v24), .second, .val (.long v33), .second, .val (.long v40), .second, .val (.long v48), .second, .val (.long v55), .second, .val (.long v63), .second, .val (.int (1 : Int32)), .val (.long (9223372036854775807 : Int64)), .second, .val (.long v103), .second, .val (.long v113), .second] [(.int (Jvm.Free.XT.cmpL v33 (9223372036854775807 : Int64)))]))
      have hc154 : v33 = (9223372036854775807 : Int64) := ((own_M (n3 := ((32 : Int32) &&& 0x3f).toInt64.toUInt64) (by decide) hqv11 hqv24 hqv33 hqv40 hqv48 hqv55 hqv63).2 _ _ _ hqv96 hqv103 hqv113 (Or.inl hc69)).2 hc121
      refine Go.st (fun _ k => XS.ifNo X1.here hx rfl (hb hby at_154) rfl (Jvm.Free.XT.ll_ne_f hc154) k) ?_
      show Go p.tables e below _ (T1.setTop (mkF m 157 #[.val (.long qx), .second, .val (.long qy), .second, .val (.int ps), .val (.int pt), .val (.long v11), .second, .val (.long v24), .second, .val (.long v33), .second, .val (.long v40), .second, .val (.long v48), .second, .val (.long v55), .second, .val (.long v63), .second, .val (.int (1 : Int32)), .val (.long (9223372036854775807 : Int64)), .second, .val (.long v103), .second, .val (.long v113), .second] []))
      refine Go.st (fun _ k => XS.iconst X1.here hx rfl (hb hby at_157) k) ?_
      show Go p.tables e below _ (T1.setTop (mkF m 158 #[.val (.long qx), .second, .val (.long qy), .second, .val (.int ps), .val (.int pt), .val (.long v11), .second, .val (.long v24), .second, .val (.long v33), .second, .val (.long v40), .second, .val (.long v48), .second, .val (.long v55), .second, .val (.long v63), .second, .val (.int (1 : Int32)), .val (.long (9223372036854775807 : Int64)), .second, .val (.long v103), .second, .val (.long v113), .second] [(.int (1 : Int32))]))
      refine Go.st (fun _ k => XS.goto X1.here hx rfl (pc0 := 158) (pc' := 162) rfl (hb hby at_158) (by decide) (by decide) k) ?_
      show Go p.tables e below _ (T1.setTop (mkF m 162 #[.val (.long qx), .second, .val (.long qy), .second, .val (.int ps), .val (.int pt), .val (.long v11), .second, .val (.long v24), .second, .val (.long v33), .second, .val (.long v40), .second, .val (.long v48), .second, .val (.long v55), .second, .val (.long v63), .second, .val (.int (1 : Int32)), .val (.long (9223372036854775807 : Int64)), .second, .val (.long v103), .second, .val (.long v113), .second] [(.int (1 : Int32))]))
      subst hG
      obtain ⟨fs, hr, hrun, hended, hW, hsame⟩ := X1.leave (v := some (.int (nar .boolean (1 : Int32)))) (fun h => by rw [Bd.returns] at h; cases h)
      refine ⟨_, _, ?_, hrun, hended, _, _, rfl, ?_, ⟨_, rfl⟩, hW, hsame.mono (by decide) (by decide)⟩
      · exact retN X1 hx (t := .boolean) Bd.returns (by simp) (hb hby at_162) hr
      · show Q_law Z qx qy ps pt h0 n0 _ T1.heap _
        rw [e1]
        exact ⟨rfl, N1, rfl⟩
  · skip
    refine Go.st (fun _ k => XS.ifNo X1.here hx rfl (hb hby at_69) rfl (Jvm.Free.XT.ll_eq_f hc69) k) ?_
    show Go p.tables e below _ (T1.setTop (mkF m 72 #[.val (.long qx), .second, .val (.long qy), .second, .val (.int ps), .val (.int pt), .val (.long v11), .second, .val (.long v24), .second, .val (.long v33), .second, .val (.long v40), .second, .val (.long v48), .second, .val (.long v55), .second, .val (.long v63), .second, .unset, .unset, .unset, .unset, .unset, .unset, .unset] []))
    refine Go.st (fun _ k => XS.lload X1.here hx rfl (hb hby at_72) rfl k) ?_
    show Go p.tables e below _ (T1.setTop (mkF m 74 #[.val (.long qx), .second, .val (.long qy), .second, .val (.int ps), .val (.int pt), .val (.long v11), .second, .val (.long v24), .second, .val (.long v33), .second, .val (.long v40), .second, .val (.long v48), .second, .val (.long v55), .second, .val (.long v63), .second, .unset, .unset, .unset, .unset, .unset, .unset, .unset] [(.long v55)]))
    refine Go.st (fun _ k => XS.lconst X1.here hx rfl (hb hby at_74) k) ?_
    show Go p.tables e below _ (T1.setTop (mkF m 75 #[.val (.long qx), .second, .val (.long qy), .second, .val (.int ps), .val (.int pt), .val (.long v11), .second, .val (.long v24), .second, .val (.long v33), .second, .val (.long v40), .second, .val (.long v48), .second, .val (.long v55), .second, .val (.long v63), .second, .unset, .unset, .unset, .unset, .unset, .unset, .unset] [(.long (0 : Int64)), (.long v55)]))
    refine Go.st (fun _ k => Jvm.Free.XT.lcmp X1.here hx rfl (hb hby at_75) rfl k) ?_
    show Go p.tables e below _ (T1.setTop (mkF m 76 #[.val (.long qx), .second, .val (.long qy), .second, .val (.int ps), .val (.int pt), .val (.long v11), .second, .val (.long v24), .second, .val (.long v33), .second, .val (.long v40), .second, .val (.long v48), .second, .val (.long v55), .second, .val (.long v63), .second, .unset, .unset, .unset, .unset, .unset, .unset, .unset] [(.int (Jvm.Free.XT.cmpL v55 (0 : Int64)))]))
    by_cases hc76 : v55 = (0 : Int64)
    · skip
      refine Go.st (fun _ k => XS.ifYes X1.here hx rfl (pc0 := 76) (pc' := 85) rfl (hb hby at_76) rfl (Jvm.Free.XT.ll_eq_t hc76) (by decide) (by decide) k) ?_
      show Go p.tables e below _ (T1.setTop (mkF m 85 #[.val (.long qx), .second, .val (.long qy), .second, .val (.int ps), .val (.int pt), .val (.long v11), .second, .val (.long v24), .second, .val (.long v33), .second, .val (.long v40), .second, .val (.long v48), .second, .val (.long v55), .second, .val (.long v63), .second, .unset, .unset, .unset, .unset, .unset, .unset, .unset] []))
      refine Go.st (fun _ k => XS.lload X1.here hx rfl (hb hby at_85) rfl k) ?_
      show Go p.tables e below _ (T1.setTop (mkF m 87 #[.val (.long qx), .second, .val (.long qy), .second, .val (.int ps), .val (.int pt), .val (.long v11), .second, .val (.long v24), .second, .val (.long v33), .second, .val (.long v40), .second, .val (.long v48), .second, .val (.long v55), .second, .val (.long v63), .second, .unset, .unset, .unset, .unset, .unset, .unset, .unset] [(.long v40)]))
      refine Go.st (fun _ k => XS.lload X1.here hx rfl (hb hby at_87) rfl k) ?_
      show Go p.tables e below _ (T1.setTop (mkF m 89 #[.val (.long qx), .second, .val (.long qy), .second, .val (.int ps), .val (.int pt), .val (.long v11), .second, .val (.long v24), .second, .val (.long v33), .second, .val (.long v40), .second, .val (.long v48), .second, .val (.long v55), .second, .val (.long v63), .second, .unset, .unset, .unset, .unset, .unset, .unset, .unset] [(.long v63), (.long v40)]))
      refine Go.st (fun _ k => XS.lmul X1.here hx rfl (hb hby at_89) rfl k) ?_
      show Go p.tables e below _ (T1.setTop (mkF m 90 #[.val (.long qx), .second, .val (.long qy), .second, .val (.int ps), .val (.int pt), .val (.long v11), .second, .val (.long v24), .second, .val (.long v33), .second, .val (.long v40), .second, .val (.long v48), .second, .val (.long v55), .second, .val (.long v63), .second, .unset, .unset, .unset, .unset, .unset, .unset, .unset] [(.long (v40 * v63))]))
      refine Go.st (fun _ k => XS.lload X1.here hx rfl (hb hby at_90) rfl k) ?_
      show Go p.tables e below _ (T1.setTop (mkF m 92 #[.val (.long qx), .second, .val (.long qy), .second, .val (.int ps), .val (.int pt), .val (.long v11), .second, .val (.long v24), .second, .val (.long v33), .second, .val (.long v40), .second, .val (.long v48), .second, .val (.long v55), .second, .val (.long v63), .second, .unset, .unset, .unset, .unset, .unset, .unset, .unset] [(.long v48), (.long (v40 * v63))]))
      refine Go.st (fun _ k => XS.lload X1.here hx rfl (hb hby at_92) rfl k) ?_
      show Go p.tables e below _ (T1.setTop (mkF m 94 #[.val (.long qx), .second, .val (.long qy), .second, .val (.int ps), .val (.int pt), .val (.long v11), .second, .val (.long v24), .second, .val (.long v33), .second, .val (.long v40), .second, .val (.long v48), .second, .val (.long v55), .second, .val (.long v63), .second, .unset, .unset, .unset, .unset, .unset, .unset, .unset] [(.long v55), (.long v48), (.long (v40 * v63))]))
      refine Go.st (fun _ k => XS.lmul X1.here hx rfl (hb hby at_94) rfl k) ?_
      show Go p.tables e below _ (T1.setTop (mkF m 95 #[.val (.long qx), .second, .val (.long qy), .second, .val (.int ps), .val (.int pt), .val (.long v11), .second, .val (.long v24), .second, .val (.long v33), .second, .val (.long v40), .second, .val (.long v48), .second, .val (.long v55), .second, .val (.long v63), .second, .unset, .unset, .unset, .unset, .unset, .unset, .unset] [(.long (v48 * v55)), (.long (v40 * v63))]))
      refine Go.st (fun _ k => XS.ladd X1.here hx rfl (hb hby at_95) rfl k) ?_
      show Go p.tables e below _ (T1.setTop (mkF m 96 #[.val (.long qx), .second, .val (.long qy), .second, .val (.int ps), .val (.int pt), .val (.long v11), .second, .val (.long v24), .second, .val (.long v33), .second, .val (.long v40), .second, .val (.long v48), .second, .val (.long v55), .second, .val (.long v63), .second, .unset, .unset, .unset, .unset, .unset, .unset, .unset] [(.long ((v40 * v63) + (v48 * v55)))]))
      refine Go.st (fun _ k => XS.lstore X1.here hx rfl (hb hby at_96) rfl (l' := #[.val (.long qx), .second, .val (.long qy), .second, .val (.int ps), .val (.int pt), .val (.long v11), .second, .val (.long v24), .second, .val (.long v33), .second, .val (.long v40), .second, .val (.long v48), .second, .val (.long v55), .second, .val (.long v63), .second, .unset, .val (.long ((v40 * v63) + (v48 * v55))), .second, .unset, .unset, .unset, .unset]) rfl k) ?_
      show Go p.tables e below _ (T1.setTop (mkF m 98 #[.val (.long qx), .second, .val (.long qy), .second, .val (.int ps), .val (.int pt), .val (.long v11), .second, .val (.long v24), .second, .val (.long v33), .second, .val (.long v40), .second, .val (.long v48), .second, .val (.long v55), .second, .val (.long v63), .second, .unset, .val (.long ((v40 * v63) + (v48 * v55))), .second, .unset, .unset, .unset, .unset] []))
      generalize hqv96 : ((v40 * v63) + (v48 * v55)) = v96
      show Go p.tables e below _ (T1.setTop (mkF m 98 #[.val (.long qx), .second, .val (.long qy), .second, .val (.int ps), .val (.int pt), .val (.long v11), .second, .val (.long v24), .second, .val (.long v33), .second, .val (.long v40), .second, .val (.long v48), .second, .val (.long v55), .second, .val (.long v63), .second, .unset, .val (.long v96), .second, .unset, .unset, .unset, .unset] []))
      refine Go.st (fun _ k => XS.lload X1.here hx rfl (hb hby at_98) rfl k) ?_
      show Go p.tables e below _ (T1.setTop (mkF m 100 #[.val (.long qx), .second, .val (.long qy), .second, .val (.int ps), .val (.int pt), .val (.long v11), .second, .val (.long v24), .second, .val (.long v33), .second, .val (.long v40), .second, .val (.long v48), .second, .val (.long v55), .second, .val (.long v63), .second, .unset, .val (.long v96), .second, .unset, .unset, .unset, .unset] [(.long v48)]))
      refine Go.st (fun _ k => XS.lload X1.here hx rfl (hb hby at_100) rfl k) ?_
      show Go p.tables e below _ (T1.setTop (mkF m 102 #[.val (.long qx), .second, .val (.long qy), .second, .val (.int ps), .val (.int pt), .val (.long v11), .second, .val (.long v24), .second, .val (.long v33), .second, .val (.long v40), .second, .val (.long v48), .second, .val (.long v55), .second, .val (.long v63), .second, .unset, .val (.long v96), .second, .unset, .unset, .unset, .unset] [(.long v63), (.long v48)]))
      refine Go.st (fun _ k => XS.lmul X1.here hx rfl (hb hby at_102) rfl k) ?_
      show Go p.tables e below _ (T1.setTop (mkF m 103 #[.val (.long qx), .second, .val (.long qy), .second, .val (.int ps), .val (.int pt), .val (.long v11), .second, .val (.long v24), .second, .val (.long v33), .second, .val (.long v40), .second, .val (.long v48), .second, .val (.long v55), .second, .val (.long v63), .second, .unset, .val (.long v96), .second, .unset, .unset, .unset, .unset] [(.long (v48 * v63))]))
      refine Go.st (fun _ k => XS.lstore X1.here hx rfl (hb hby at_103) rfl (l' := #[.val (.long qx), .second, .val (.long qy), .second, .val (.int ps), .val (.int pt), .val (.long v11), .second, .val (.long v24), .second, .val (.long v33), .second, .val (.long v40), .second, .val (.long v48), .second, .val (.long v55), .second, .val (.long v63), .second, .unset, .val (.long v96), .second, .val (.long (v48 * v63)), .second, .unset, .unset]) rfl k) ?_
      show Go p.tables e below _ (T1.setTop (mkF m 105 #[.val (.long qx), .second, .val (.long qy), .second, .val (.int ps), .val (.int pt), .val (.long v11), .second, .val (.long v24), .second, .val (.long v33), .second, .val (.long v40), .second, .val (.long v48), .second, .val (.long v55), .second, .val (.long v63), .second, .unset, .val (.long v96), .second, .val (.long (v48 * v63)), .second, .unset, .unset] []))
      generalize hqv103 : (v48 * v63) = v103
      show Go p.tables e below _ (T1.setTop (mkF m 105 #[.val (.long qx), .second, .val (.long qy), .second, .val (.int ps), .val (.int pt), .val (.long v11), .second, .val (.long v24), .second, .val (.long v33), .second, .val (.long v40), .second, .val (.long v48), .second, .val (.long v55), .second, .val (.long v63), .second, .unset, .val (.long v96), .second, .val (.long v103), .second, .unset, .unset] []))
      refine Go.st (fun _ k => XS.lload X1.here hx rfl (hb hby at_105) rfl k) ?_
      show Go p.tables e below _ (T1.setTop (mkF m 107 #[.val (.long qx), .second, .val (.long qy), .second, .val (.int ps), .val (.int pt), .val (.long v11), .second, .val (.long v24), .second, .val (.long v33), .second, .val (.long v40), .second, .val (.long v48), .second, .val (.long v55), .second, .val (.long v63), .second, .unset, .val (.long v96), .second, .val (.long v103), .second, .unset, .unset] [(.long v96)]))
      refine Go.st (fun _ k => XS.lload X1.here hx rfl (hb hby at_107) rfl k) ?_
      show Go p.tables e below _ (T1.setTop (mkF m 109 #[.val (.long qx), .second, .val (.long qy), .second, .val (.int ps), .val (.int pt), .val (.long v11), .second, .val (.long v24), .second, .val (.long v33), .second, .val (.long v40), .second, .val (.long v48), .second, .val (.long v55), .second, .val (.long v63), .second, .unset, .val (.long v96), .second, .val (.long v103), .second, .unset, .unset] [(.long v103), (.long v96)]))
      refine Go.st (fun _ k => XS.bipush X1.here hx rfl (hb hby at_109) k) ?_
      show Go p.tables e below _ (T1.setTop (mkF m 111 #[.val (.long qx), .second, .val (.long qy), .second, .val (.int ps), .val (.int pt), .val (.long v11), .second, .val (.long v24), .second, .val (.long v33), .second, .val (.long v40), .second, .val (.long v48), .second, .val (.long v55), .second, .val (.long v63), .second, .unset, .val (.long v96), .second, .val (.long v103), .second, .unset, .unset] [(.int (32 : Int32)), (.long v103), (.long v96)]))
      refine Go.st (fun _ k => XS.lushr X1.here hx rfl (hb hby at_111) rfl k) ?_
      show Go p.tables e below _ (T1.setTop (mkF m 112 #[.val (.long qx), .second, .val (.long qy), .second, .val (.int ps), .val (.int pt), .val (.long v11), .second, .val (.long v24), .second, .val (.long v33), .second, .val (.long v40), .second, .val (.long v48), .second, .val (.long v55), .second, .val (.long v63), .second, .unset, .val (.long v96), .second, .val (.long v103), .second, .unset, .unset] [(.long ((v103.toUInt64 >>> ((32 : Int32) &&& 0x3f).toInt64.toUInt64).toInt64)), (.long v96)]))
      refine Go.st (fun _ k => XS.ladd X1.here hx rfl (hb hby at_112) rfl k) ?_
      show Go p.tables e below _ (T1.setTop (mkF m 113 #[.val (.long qx), .second, .val (.long qy), .second, .val (.int ps), .val (.int pt), .val (.long v11), .second, .val (.long v24), .second, .val (.long v33), .second, .val (.long v40), .second, .val (.long v48), .second, .val (.long v55), .second, .val (.long v63), .second, .unset, .val (.long v96), .second, .val (.long v103), .second, .unset, .unset] [(.long (v96 + ((v103.toUInt64 >>> ((32 : Int32) &&& 0x3f).toInt64.toUInt64).toInt64)))]))
      refine Go.st (fun _ k => XS.lstore X1.here hx rfl (hb hby at_113) rfl (l' := #[.val (.long qx), .second, .val (.long qy), .second, .val (.int ps), .val (.int pt), .val (.long v11), .second, .val (.long v24), .second, .val (.long v33), .second, .val (.long v40), .second, .val (.long v48), .second, .val (.long v55), .second, .val (.long v63), .second, .unset, .val (.long v96), .second, .val (.long v103), .second, .val (.long (v96 + ((v103.toUInt64 >>> ((32 : Int32) &&& 0x3f).toInt64.toUInt64).toInt64))), .second]) rfl k) ?_
      show Go p.tables e below _ (T1.setTop (mkF m 115 #[.val (.long qx), .second, .val (.long qy), .second, .val (.int ps), .val (.int pt), .val (.long v11), .second, .val (.long v24), .second, .val (.long v33), .second, .val (.long v40), .second, .val (.long v48), .second, .val (.long v55), .second, .val (.long v63), .second, .unset, .val (.long v96), .second, .val (.long v103), .second, .val (.long (v96 + ((v103.toUInt64 >>> ((32 : Int32) &&& 0x3f).toInt64.toUInt64).toInt64))), .second] []))
      generalize hqv113 : (v96 + ((v103.toUInt64 >>> ((32 : Int32) &&& 0x3f).toInt64.toUInt64).toInt64)) = v113
      show Go p.tables e below _ (T1.setTop (mkF m 115 #[.val (.long qx), .second, .val (.long qy), .second, .val (.int ps), .val (.int pt), .val (.long v11), .second, .val (.long v24), .second, .val (.long v33), .second, .val (.long v40), .second, .val (.long v48), .second, .val (.long v55), .second, .val (.long v63), .second, .unset, .val (.long v96), .second, .val (.long v103), .second, .val (.long v113), .second] []))
      refine Go.st (fun _ k => XS.lload X1.here hx rfl (hb hby at_115) rfl k) ?_
      show Go p.tables e below _ (T1.setTop (mkF m 117 #[.val (.long qx), .second, .val (.long qy), .second, .val (.int ps), .val (.int pt), .val (.long v11), .second, .val (.long v24), .second, .val (.long v33), .second, .val (.long v40), .second, .val (.long v48), .second, .val (.long v55), .second, .val (.long v63), .second, .unset, .val (.long v96), .second, .val (.long v103), .second, .val (.long v113), .second] [(.long v113)]))
      refine Go.st (fun _ k => X1.ldc2Long hx hown (mvT hZ (hw _ (List.mem_of_getElem? (i := 7) rfl))) (g := (mkF m 117 #[.val (.long qx), .second, .val (.long qy), .second, .val (.int ps), .val (.int pt), .val (.long v11), .second, .val (.long v24), .second, .val (.long v33), .second, .val (.long v40), .second, .val (.long v48), .second, .val (.long v55), .second, .val (.long v63), .second, .unset, .val (.long v96), .second, .val (.long v103), .second, .val (.long v113), .second] [(.long v113)])) rfl (hb hby at_117) _ k) ?_
      show Go p.tables e below _ (T1.setTop (mkF m 120 #[.val (.long qx), .second, .val (.long qy), .second, .val (.int ps), .val (.int pt), .val (.long v11), .second, .val (.long v24), .second, .val (.long v33), .second, .val (.long v40), .second, .val (.long v48), .second, .val (.long v55), .second, .val (.long v63), .second, .unset, .val (.long v96), .second, .val (.long v103), .second, .val (.long v113), .second] [(.long (2147483648 : Int64)), (.long v113)]))
      refine Go.st (fun _ k => Jvm.Free.XT.lcmp X1.here hx rfl (hb hby at_120) rfl k) ?_
      show Go p.tables e below _ (T1.setTop (mkF m 121 #[.val (.long qx), .second, .val (.long qy), .second, .val (.int ps), .val (.int pt), .val (.long v11), .second, .val (.long v24), .second, .val (.long v33), .second, .val (.long v40), .second, .val (.long v48), .second, .val (.long v55), .second, .val (.long v63), .second, .unset, .val (.long v96), .second, .val (.long v103), .second, .val (.long v113), .second] [(.int (Jvm.Free.XT.cmpL v113 (2147483648 : Int64)))]))
      by_cases hc121 : v113 < (2147483648 : Int64)
      · skip
        refine Go.st (fun _ k => XS.ifYes X1.here hx rfl (pc0 := 121) (pc' := 128) rfl (hb hby at_121) rfl (Jvm.Free.XT.ll_lt_t hc121) (by decide) (by decide) k) ?_
        show Go p.tables e below _ (T1.setTop (mkF m 128 #[.val (.long qx), .second, .val (.long qy), .second, .val (.int ps), .val (.int pt), .val (.long v11), .second, .val (.long v24), .second, .val (.long v33), .second, .val (.long v40), .second, .val (.long v48), .second, .val (.long v55), .second, .val (.long v63), .second, .unset, .val (.long v96), .second, .val (.long v103), .second, .val (.long v113), .second] []))
        refine Go.st (fun _ k => XS.iconst X1.here hx rfl (hb hby at_128) k) ?_
        show Go p.tables e below _ (T1.setTop (mkF m 129 #[.val (.long qx), .second, .val (.long qy), .second, .val (.int ps), .val (.int pt), .val (.long v11), .second, .val (.long v24), .second, .val (.long v33), .second, .val (.long v40), .second, .val (.long v48), .second, .val (.long v55), .second, .val (.long v63), .second, .unset, .val (.long v96), .second, .val (.long v103), .second, .val (.long v113), .second] [(.int (0 : Int32))]))
        refine Go.st (fun _ k => XS.istore X1.here hx rfl (hb hby at_129) rfl (l' := #[.val (.long qx), .second, .val (.long qy), .second, .val (.int ps), .val (.int pt), .val (.long v11), .second, .val (.long v24), .second, .val (.long v33), .second, .val (.long v40), .second, .val (.long v48), .second, .val (.long v55), .second, .val (.long v63), .second, .val (.int (0 : Int32)), .val (.long v96), .second, .val (.long v103), .second, .val (.long v113), .second]) rfl k) ?_
        show Go p.tables e below _ (T1.setTop (mkF m 131 #[.val (.long qx), .second, .val (.long qy), .second, .val (.int ps), .val (.int pt), .val (.long v11), .second, .val (.long v24), .second, .val (.long v33), .second, .val (.long v40), .second, .val (.long v48), .second, .val (.long v55), .second, .val (.long v63), .second, .val (.int (0 : Int32)), .val (.long v96), .second, .val (.long v103), .second, .val (.long v113), .second] []))
        show Go p.tables e below _ (T1.setTop (mkF m 131 #[.val (.long qx), .second, .val (.long qy), .second, .val (.int ps), .val (.int pt), .val (.long v11), .second, .val (.long v24), .second, .val (.long v33), .second, .val (.long v40), .second, .val (.long v48), .second, .val (.long v55), .second, .val (.long v63), .second, .val (.int (0 : Int32)), .val (.long v96), .second, .val (.long v103), .second, .val (.long v113), .second] []))
        refine Go.st (fun _ k => XS.iload X1.here hx rfl (hb hby at_131) rfl k) ?_
        show Go p.tables e below _ (T1.setTop (mkF m 133 #[.val (.long qx), .second, .val (.long qy), .second, .val (.int ps), .val (.int pt), .val (.long v11), .second, .val (.long v24), .second, .val (.long v33), .second, .val (.long v40), .second, .val (.long v48), .second, .val (.long v55), .second, .val (.long v63), .second, .val (.int (0 : Int32)), .val (.long v96), .second, .val (.long v103), .second, .val (.long v113), .second] [(.int (0 : Int32))]))
        have hl4 : (0 : Int32) = (0 : Int32) := by decide
        refine Go.st (fun _ k => XS.ifYes X1.here hx rfl (pc0 := 133) (pc' := 142) rfl (hb hby at_133) rfl (Jvm.Free.XT.i0_eq_t hl4) (by decide) (by decide) k) ?_
        show Go p.tables e below _ (T1.setTop (mkF m 142 #[.val (.long qx), .second, .val (.long qy), .second, .val (.int ps), .val (.int pt), .val (.long v11), .second, .val (.long v24), .second, .val (.long v33), .second, .val (.long v40), .second, .val (.long v48), .second, .val (.long v55), .second, .val (.long v63), .second, .val (.int (0 : Int32)), .val (.long v96), .second, .val (.long v103), .second, .val (.long v113), .second] []))
        refine Go.st (fun _ k => XS.lload X1.here hx rfl (hb hby at_142) rfl k) ?_
        show Go p.tables e below _ (T1.setTop (mkF m 144 #[.val (.long qx), .second, .val (.long qy), .second, .val (.int ps), .val (.int pt), .val (.long v11), .second, .val (.long v24), .second, .val (.long v33), .second, .val (.long v40), .second, .val (.long v48), .second, .val (.long v55), .second, .val (.long v63), .second, .val (.int (0 : Int32)), .val (.long v96), .second, .val (.long v103), .second, .val (.long v113), .second] [(.long v11)]))
        refine Go.st (fun _ k => XS.lload X1.here hx rfl (hb hby at_144) rfl k) ?_
        show Go p.tables e below _ (T1.setTop (mkF m 146 #[.val (.long qx), .second, .val (.long qy), .second, .val (.int ps), .val (.int pt), .val (.long v11), .second, .val (.long v24), .second, .val (.long v33), .second, .val (.long v40), .second, .val (.long v48), .second, .val (.long v55), .second, .val (.long v63), .second, .val (.int (0 : Int32)), .val (.long v96), .second, .val (.long v103), .second, .val (.long v113), .second] [(.long v24), (.long v11)]))
        refine Go.st (fun _ k => XS.lmul X1.here hx rfl (hb hby at_146) rfl k) ?_
        show Go p.tables e below _ (T1.setTop (mkF m 147 #[.val (.long qx), .second, .val (.long qy), .second, .val (.int ps), .val (.int pt), .val (.long v11), .second, .val (.long v24), .second, .val (.long v33), .second, .val (.long v40), .second, .val (.long v48), .second, .val (.long v55), .second, .val (.long v63), .second, .val (.int (0 : Int32)), .val (.long v96), .second, .val (.long v103), .second, .val (.long v113), .second] [(.long (v11 * v24))]))
        refine Go.st (fun _ k => XS.lstore X1.here hx rfl (hb hby at_147) rfl (l' := #[.val (.long qx), .second, .val (.long qy), .second, .val (.int ps), .val (.int pt), .val (.long v11), .second, .val (.long v24), .second, .val (.long v33), .second, .val (.long v40), .second, .val (.long v48), .second, .val (.long v55), .second, .val (.long v63), .second, .val (.int (0 : Int32)), .val (.long (v11 * v24)), .second, .val (.long v103), .second, .val (.long v113), .second]) rfl k) ?_
        show Go p.tables e below _ (T1.setTop (mkF m 149 #[.val (.long qx), .second, .val (.long qy), .second, .val (.int ps), .val (.int pt), .val (.long v11), .second, .val (.long v24), .second, .val (.long v33), .second, .val (.long v40), .second, .val (.long v48), .second, .val (.long v55), .second, .val (.long v63), .second, .val (.int (0 : Int32)), .val (.long (v11 * v24)), .second, .val (.long v103), .second, .val (.long v113), .second] []))
        generalize hqv147 : (v11 * v24) = v147
        show Go p.tables e below _ (T1.setTop (mkF m 149 #[.val (.long qx), .second, .val (.long qy), .second, .val (.int ps), .val (.int pt), .val (.long v11), .second, .val (.long v24), .second, .val (.long v33), .second, .val (.long v40), .second, .val (.long v48), .second, .val (.long v55), .second, .val (.long v63), .second, .val (.int (0 : Int32)), .val (.long v147), .second, .val (.long v103), .second, .val (.long v113), .second] []))
        refine Go.st (fun _ k => XS.lload X1.here hx rfl (hb hby at_149) rfl k) ?_
        show Go p.tables e below _ (T1.setTop (mkF m 151 #[.val (.long qx), .second, .val (.long qy), .second, .val (.int ps), .val (.int pt), .val (.long v11), .second, .val (.long v24), .second, .val (.long v33), .second, .val (.long v40), .second, .val (.long v48), .second, .val (.long v55), .second, .val (.long v63), .second, .val (.int (0 : Int32)), .val (.long v147), .second, .val (.long v103), .second, .val (.long v113), .second] [(.long v33)]))
        refine Go.st (fun _ k => XS.lload X1.here hx rfl (hb hby at_151) rfl k) ?_
        show Go p.tables e below _ (T1.setTop (mkF m 153 #[.val (.long qx), .second, .val (.long qy), .second, .val (.int ps), .val (.int pt), .val (.long v11), .second, .val (.long v24), .second, .val (.long v33), .second, .val (.long v40), .second, .val (.long v48), .second, .val (.long v55), .second, .val (.long v63), .second, .val (.int (0 : Int32)), .val (.long v147), .second, .val (.long v103), .second, .val (.long v113), .second] [(.long v147), (.long v33)]))
        refine Go.st (fun _ k => Jvm.Free.XT.lcmp X1.here hx rfl (hb hby at_153) rfl k) ?_
        show Go p.tables e below _ (T1.setTop (mkF m 154 #[.val (.long qx), .second, .val (.long qy), .second, .val (.int ps), .val (.int pt), .val (.long v11), .second, .val (.long v24), .second, .val (.long v33), .second, .val (.long v40), .second, .val (.long v48), .second, .val (.long v55), .second, .val (.long v63), .second, .val (.int (0 : Int32)), .val (.long v147), .second, .val (.long v103), .second, .val (.long v113), .second] [(.int (Jvm.Free.XT.cmpL v33 v147))]))
        have hc154 : v33 = v147 := ((own_M (n3 := ((32 : Int32) &&& 0x3f).toInt64.toUInt64) (by decide) hqv11 hqv24 hqv33 hqv40 hqv48 hqv55 hqv63).2 _ _ _ hqv96 hqv103 hqv113 (Or.inr hc76)).1 hc121 |>.trans hqv147
        refine Go.st (fun _ k => XS.ifNo X1.here hx rfl (hb hby at_154) rfl (Jvm.Free.XT.ll_ne_f hc154) k) ?_
        show Go p.tables e below _ (T1.setTop (mkF m 157 #[.val (.long qx), .second, .val (.long qy), .second, .val (.int ps), .val (.int pt), .val (.long v11), .second, .val (.long v24), .second, .val (.long v33), .second, .val (.long v40), .second, .val (.long v48), .second, .val (.long v55), .second, .val (.long v63), .second, .val (.int (0 : Int32)), .val (.long v147), .second, .val (.long v103), .second, .val (.long v113), .second] []))
        refine Go.st (fun _ k => XS.iconst X1.here hx rfl (hb hby at_157) k) ?_
        show Go p.tables e below _ (T1.setTop (mkF m 158 #[.val (.long qx), .second, .val (.long qy), .second, .val (.int ps), .val (.int pt), .val (.long v11), .second, .val (.long v24), .second, .val (.long v33), .second, .val (.long v40), .second, .val (.long v48), .second, .val (.long v55), .second, .val (.long v63), .second, .val (.int (0 : Int32)), .val (.long v147), .second, .val (.long v103), .second, .val (.long v113), .second] [(.int (1 : Int32))]))
        refine Go.st (fun _ k => XS.goto X1.here hx rfl (pc0 := 158) (pc' := 162) rfl (hb hby at_158) (by decide) (by decide) k) ?_
        show Go p.tables e below _ (T1.setTop (mkF m 162 #[.val (.long qx), .second, .val (.long qy), .second, .val (.int ps), .val (.int pt), .val (.long v11), .second, .val (.long v24), .second, .val (.long v33), .second, .val (.long v40), .second, .val (.long v48), .second, .val (.long v55), .second, .val (.long v63), .second, .val (.int (0 : Int32)), .val (.long v147), .second, .val (.long v103), .second, .val (.long v113), .second] [(.int (1 : Int32))]))
        subst hG
        obtain ⟨fs, hr, hrun, hended, hW, hsame⟩ := X1.leave (v := some (.int (nar .boolean (1 : Int32)))) (fun h => by rw [Bd.returns] at h; cases h)
        refine ⟨_, _, ?_, hrun, hended, _, _, rfl, ?_, ⟨_, rfl⟩, hW, hsame.mono (by decide) (by decide)⟩
        · exact retN X1 hx (t := .boolean) Bd.returns (by simp) (hb hby at_162) hr
        · show Q_law Z qx qy ps pt h0 n0 _ T1.heap _
          rw [e1]
          exact ⟨rfl, N1, rfl⟩
      · skip
        refine Go.st (fun _ k => XS.ifNo X1.here hx rfl (hb hby at_121) rfl (Jvm.Free.XT.ll_lt_f hc121) k) ?_
        show Go p.tables e below _ (T1.setTop (mkF m 124 #[.val (.long qx), .second, .val (.long qy), .second, .val (.int ps), .val (.int pt), .val (.long v11), .second, .val (.long v24), .second, .val (.long v33), .second, .val (.long v40), .second, .val (.long v48), .second, .val (.long v55), .second, .val (.long v63), .second, .unset, .val (.long v96), .second, .val (.long v103), .second, .val (.long v113), .second] []))
        refine Go.st (fun _ k => XS.iconst X1.here hx rfl (hb hby at_124) k) ?_
        show Go p.tables e below _ (T1.setTop (mkF m 125 #[.val (.long qx), .second, .val (.long qy), .second, .val (.int ps), .val (.int pt), .val (.long v11), .second, .val (.long v24), .second, .val (.long v33), .second, .val (.long v40), .second, .val (.long v48), .second, .val (.long v55), .second, .val (.long v63), .second, .unset, .val (.long v96), .second, .val (.long v103), .second, .val (.long v113), .second] [(.int (1 : Int32))]))
        refine Go.st (fun _ k => XS.goto X1.here hx rfl (pc0 := 125) (pc' := 129) rfl (hb hby at_125) (by decide) (by decide) k) ?_
        show Go p.tables e below _ (T1.setTop (mkF m 129 #[.val (.long qx), .second, .val (.long qy), .second, .val (.int ps), .val (.int pt), .val (.long v11), .second, .val (.long v24), .second, .val (.long v33), .second, .val (.long v40), .second, .val (.long v48), .second, .val (.long v55), .second, .val (.long v63), .second, .unset, .val (.long v96), .second, .val (.long v103), .second, .val (.long v113), .second] [(.int (1 : Int32))]))
        refine Go.st (fun _ k => XS.istore X1.here hx rfl (hb hby at_129) rfl (l' := #[.val (.long qx), .second, .val (.long qy), .second, .val (.int ps), .val (.int pt), .val (.long v11), .second, .val (.long v24), .second, .val (.long v33), .second, .val (.long v40), .second, .val (.long v48), .second, .val (.long v55), .second, .val (.long v63), .second, .val (.int (1 : Int32)), .val (.long v96), .second, .val (.long v103), .second, .val (.long v113), .second]) rfl k) ?_
        show Go p.tables e below _ (T1.setTop (mkF m 131 #[.val (.long qx), .second, .val (.long qy), .second, .val (.int ps), .val (.int pt), .val (.long v11), .second, .val (.long v24), .second, .val (.long v33), .second, .val (.long v40), .second, .val (.long v48), .second, .val (.long v55), .second, .val (.long v63), .second, .val (.int (1 : Int32)), .val (.long v96), .second, .val (.long v103), .second, .val (.long v113), .second] []))
        show Go p.tables e below _ (T1.setTop (mkF m 131 #[.val (.long qx), .second, .val (.long qy), .second, .val (.int ps), .val (.int pt), .val (.long v11), .second, .val (.long v24), .second, .val (.long v33), .second, .val (.long v40), .second, .val (.long v48), .second, .val (.long v55), .second, .val (.long v63), .second, .val (.int (1 : Int32)), .val (.long v96), .second, .val (.long v103), .second, .val (.long v113), .second] []))
        refine Go.st (fun _ k => XS.iload X1.here hx rfl (hb hby at_131) rfl k) ?_
        show Go p.tables e below _ (T1.setTop (mkF m 133 #[.val (.long qx), .second, .val (.long qy), .second, .val (.int ps), .val (.int pt), .val (.long v11), .second, .val (.long v24), .second, .val (.long v33), .second, .val (.long v40), .second, .val (.long v48), .second, .val (.long v55), .second, .val (.long v63), .second, .val (.int (1 : Int32)), .val (.long v96), .second, .val (.long v103), .second, .val (.long v113), .second] [(.int (1 : Int32))]))
        have hl5 : ¬ ((1 : Int32) = (0 : Int32)) := by decide
        refine Go.st (fun _ k => XS.ifNo X1.here hx rfl (hb hby at_133) rfl (Jvm.Free.XT.i0_eq_f hl5) k) ?_
        show Go p.tables e below _ (T1.setTop (mkF m 136 #[.val (.long qx), .second, .val (.long qy), .second, .val (.int ps), .val (.int pt), .val (.long v11), .second, .val (.long v24), .second, .val (.long v33), .second, .val (.long v40), .second, .val (.long v48), .second, .val (.long v55), .second, .val (.long v63), .second, .val (.int (1 : Int32)), .val (.long v96), .second, .val (.long v103), .second, .val (.long v113), .second] []))
        refine Go.st (fun _ k => X1.ldc2Long hx hown (mvT hZ (hw _ (List.mem_of_getElem? (i := 0) rfl))) (g := (mkF m 136 #[.val (.long qx), .second, .val (.long qy), .second, .val (.int ps), .val (.int pt), .val (.long v11), .second, .val (.long v24), .second, .val (.long v33), .second, .val (.long v40), .second, .val (.long v48), .second, .val (.long v55), .second, .val (.long v63), .second, .val (.int (1 : Int32)), .val (.long v96), .second, .val (.long v103), .second, .val (.long v113), .second] [])) rfl (hb hby at_136) _ k) ?_
        show Go p.tables e below _ (T1.setTop (mkF m 139 #[.val (.long qx), .second, .val (.long qy), .second, .val (.int ps), .val (.int pt), .val (.long v11), .second, .val (.long v24), .second, .val (.long v33), .second, .val (.long v40), .second, .val (.long v48), .second, .val (.long v55), .second, .val (.long v63), .second, .val (.int (1 : Int32)), .val (.long v96), .second, .val (.long v103), .second, .val (.long v113), .second] [(.long (9223372036854775807 : Int64))]))
        refine Go.st (fun _ k => XS.goto X1.here hx rfl (pc0 := 139) (pc' := 147) rfl (hb hby at_139) (by decide) (by decide) k) ?_
        show Go p.tables e below _ (T1.setTop (mkF m 147 #[.val (.long qx), .second, .val (.long qy), .second, .val (.int ps), .val (.int pt), .val (.long v11), .second, .val (.long v24), .second, .val (.long v33), .second, .val (.long v40), .second, .val (.long v48), .second, .val (.long v55), .second, .val (.long v63), .second, .val (.int (1 : Int32)), .val (.long v96), .second, .val (.long v103), .second, .val (.long v113), .second] [(.long (9223372036854775807 : Int64))]))
        refine Go.st (fun _ k => XS.lstore X1.here hx rfl (hb hby at_147) rfl (l' := #[.val (.long qx), .second, .val (.long qy), .second, .val (.int ps), .val (.int pt), .val (.long v11), .second, .val (.long v24), .second, .val (.long v33), .second, .val (.long v40), .second, .val (.long v48), .second, .val (.long v55), .second, .val (.long v63), .second, .val (.int (1 : Int32)), .val (.long (9223372036854775807 : Int64)), .second, .val (.long v103), .second, .val (.long v113), .second]) rfl k) ?_
        show Go p.tables e below _ (T1.setTop (mkF m 149 #[.val (.long qx), .second, .val (.long qy), .second, .val (.int ps), .val (.int pt), .val (.long v11), .second, .val (.long v24), .second, .val (.long v33), .second, .val (.long v40), .second, .val (.long v48), .second, .val (.long v55), .second, .val (.long v63), .second, .val (.int (1 : Int32)), .val (.long (9223372036854775807 : Int64)), .second, .val (.long v103), .second, .val (.long v113), .second] []))
        show Go p.tables e below _ (T1.setTop (mkF m 149 #[.val (.long qx), .second, .val (.long qy), .second, .val (.int ps), .val (.int pt), .val (.long v11), .second, .val (.long v24), .second, .val (.long v33), .second, .val (.long v40), .second, .val (.long v48), .second, .val (.long v55), .second, .val (.long v63), .second, .val (.int (1 : Int32)), .val (.long (9223372036854775807 : Int64)), .second, .val (.long v103), .second, .val (.long v113), .second] []))
        refine Go.st (fun _ k => XS.lload X1.here hx rfl (hb hby at_149) rfl k) ?_
        show Go p.tables e below _ (T1.setTop (mkF m 151 #[.val (.long qx), .second, .val (.long qy), .second, .val (.int ps), .val (.int pt), .val (.long v11), .second, .val (.long v24), .second, .val (.long v33), .second, .val (.long v40), .second, .val (.long v48), .second, .val (.long v55), .second, .val (.long v63), .second, .val (.int (1 : Int32)), .val (.long (9223372036854775807 : Int64)), .second, .val (.long v103), .second, .val (.long v113), .second] [(.long v33)]))
        refine Go.st (fun _ k => XS.lload X1.here hx rfl (hb hby at_151) rfl k) ?_
        show Go p.tables e below _ (T1.setTop (mkF m 153 #[.val (.long qx), .second, .val (.long qy), .second, .val (.int ps), .val (.int pt), .val (.long v11), .second, .val (.long v24), .second, .val (.long v33), .second, .val (.long v40), .second, .val (.long v48), .second, .val (.long v55), .second, .val (.long v63), .second, .val (.int (1 : Int32)), .val (.long (9223372036854775807 : Int64)), .second, .val (.long v103), .second, .val (.long v113), .second] [(.long (9223372036854775807 : Int64)), (.long v33)]))
        refine Go.st (fun _ k => Jvm.Free.XT.lcmp X1.here hx rfl (hb hby at_153) rfl k) ?_
        show Go p.tables e below _ (T1.setTop (mkF m 154 #[.val (.long qx), .second, .val (.long qy), .second, .val (.int ps), .val (.int pt), .val (.long v11), .second, .val (.long v24), .second, .val (.long v33), .second, .val (.long v40), .second, .val (.long v48), .second, .val (.long v55), .second, .val (.long v63), .second, .val (.int (1 : Int32)), .val (.long (9223372036854775807 : Int64)), .second, .val (.long v103), .second, .val (.long v113), .second] [(.int (Jvm.Free.XT.cmpL v33 (9223372036854775807 : Int64)))]))
        have hc154 : v33 = (9223372036854775807 : Int64) := ((own_M (n3 := ((32 : Int32) &&& 0x3f).toInt64.toUInt64) (by decide) hqv11 hqv24 hqv33 hqv40 hqv48 hqv55 hqv63).2 _ _ _ hqv96 hqv103 hqv113 (Or.inr hc76)).2 hc121
        refine Go.st (fun _ k => XS.ifNo X1.here hx rfl (hb hby at_154) rfl (Jvm.Free.XT.ll_ne_f hc154) k) ?_
        show Go p.tables e below _ (T1.setTop (mkF m 157 #[.val (.long qx), .second, .val (.long qy), .second, .val (.int ps), .val (.int pt), .val (.long v11), .second, .val (.long v24), .second, .val (.long v33), .second, .val (.long v40), .second, .val (.long v48), .second, .val (.long v55), .second, .val (.long v63), .second, .val (.int (1 : Int32)), .val (.long (9223372036854775807 : Int64)), .second, .val (.long v103), .second, .val (.long v113), .second] []))
        refine Go.st (fun _ k => XS.iconst X1.here hx rfl (hb hby at_157) k) ?_
        show Go p.tables e below _ (T1.setTop (mkF m 158 #[.val (.long qx), .second, .val (.long qy), .second, .val (.int ps), .val (.int pt), .val (.long v11), .second, .val (.long v24), .second, .val (.long v33), .second, .val (.long v40), .second, .val (.long v48), .second, .val (.long v55), .second, .val (.long v63), .second, .val (.int (1 : Int32)), .val (.long (9223372036854775807 : Int64)), .second, .val (.long v103), .second, .val (.long v113), .second] [(.int (1 : Int32))]))
        refine Go.st (fun _ k => XS.goto X1.here hx rfl (pc0 := 158) (pc' := 162) rfl (hb hby at_158) (by decide) (by decide) k) ?_
        show Go p.tables e below _ (T1.setTop (mkF m 162 #[.val (.long qx), .second, .val (.long qy), .second, .val (.int ps), .val (.int pt), .val (.long v11), .second, .val (.long v24), .second, .val (.long v33), .second, .val (.long v40), .second, .val (.long v48), .second, .val (.long v55), .second, .val (.long v63), .second, .val (.int (1 : Int32)), .val (.long (9223372036854775807 : Int64)), .second, .val (.long v103), .second, .val (.long v113), .second] [(.int (1 : Int32))]))
        subst hG
        obtain ⟨fs, hr, hrun, hended, hW, hsame⟩ := X1.leave (v := some (.int (nar .boolean (1 : Int32)))) (fun h => by rw [Bd.returns] at h; cases h)
        refine ⟨_, _, ?_, hrun, hended, _, _, rfl, ?_, ⟨_, rfl⟩, hW, hsame.mono (by decide) (by decide)⟩
        · exact retN X1 hx (t := .boolean) Bd.returns (by simp) (hb hby at_162) hr
        · show Q_law Z qx qy ps pt h0 n0 _ T1.heap _
          rw [e1]
          exact ⟨rfl, N1, rfl⟩
    · skip
      refine Go.st (fun _ k => XS.ifNo X1.here hx rfl (hb hby at_76) rfl (Jvm.Free.XT.ll_eq_f hc76) k) ?_
      show Go p.tables e below _ (T1.setTop (mkF m 79 #[.val (.long qx), .second, .val (.long qy), .second, .val (.int ps), .val (.int pt), .val (.long v11), .second, .val (.long v24), .second, .val (.long v33), .second, .val (.long v40), .second, .val (.long v48), .second, .val (.long v55), .second, .val (.long v63), .second, .unset, .unset, .unset, .unset, .unset, .unset, .unset] []))
      refine Go.st (fun _ k => XS.iconst X1.here hx rfl (hb hby at_79) k) ?_
      show Go p.tables e below _ (T1.setTop (mkF m 80 #[.val (.long qx), .second, .val (.long qy), .second, .val (.int ps), .val (.int pt), .val (.long v11), .second, .val (.long v24), .second, .val (.long v33), .second, .val (.long v40), .second, .val (.long v48), .second, .val (.long v55), .second, .val (.long v63), .second, .unset, .unset, .unset, .unset, .unset, .unset, .unset] [(.int (1 : Int32))]))
      refine Go.st (fun _ k => XS.istore X1.here hx rfl (hb hby at_80) rfl (l' := #[.val (.long qx), .second, .val (.long qy), .second, .val (.int ps), .val (.int pt), .val (.long v11), .second, .val (.long v24), .second, .val (.long v33), .second, .val (.long v40), .second, .val (.long v48), .second, .val (.long v55), .second, .val (.long v63), .second, .val (.int (1 : Int32)), .unset, .unset, .unset, .unset, .unset, .unset]) rfl k) ?_
      show Go p.tables e below _ (T1.setTop (mkF m 82 #[.val (.long qx), .second, .val (.long qy), .second, .val (.int ps), .val (.int pt), .val (.long v11), .second, .val (.long v24), .second, .val (.long v33), .second, .val (.long v40), .second, .val (.long v48), .second, .val (.long v55), .second, .val (.long v63), .second, .val (.int (1 : Int32)), .unset, .unset, .unset, .unset, .unset, .unset] []))
      show Go p.tables e below _ (T1.setTop (mkF m 82 #[.val (.long qx), .second, .val (.long qy), .second, .val (.int ps), .val (.int pt), .val (.long v11), .second, .val (.long v24), .second, .val (.long v33), .second, .val (.long v40), .second, .val (.long v48), .second, .val (.long v55), .second, .val (.long v63), .second, .val (.int (1 : Int32)), .unset, .unset, .unset, .unset, .unset, .unset] []))
      refine Go.st (fun _ k => XS.goto X1.here hx rfl (pc0 := 82) (pc' := 131) rfl (hb hby at_82) (by decide) (by decide) k) ?_
      show Go p.tables e below _ (T1.setTop (mkF m 131 #[.val (.long qx), .second, .val (.long qy), .second, .val (.int ps), .val (.int pt), .val (.long v11), .second, .val (.long v24), .second, .val (.long v33), .second, .val (.long v40), .second, .val (.long v48), .second, .val (.long v55), .second, .val (.long v63), .second, .val (.int (1 : Int32)), .unset, .unset, .unset, .unset, .unset, .unset] []))
      refine Go.st (fun _ k => XS.iload X1.here hx rfl (hb hby at_131) rfl k) ?_
      show Go p.tables e below _ (T1.setTop (mkF m 133 #[.val (.long qx), .second, .val (.long qy), .second, .val (.int ps), .val (.int pt), .val (.long v11), .second, .val (.long v24), .second, .val (.long v33), .second, .val (.long v40), .second, .val (.long v48), .second, .val (.long v55), .second, .val (.long v63), .second, .val (.int (1 : Int32)), .unset, .unset, .unset, .unset, .unset, .unset] [(.int (1 : Int32))]))
      have hl6 : ¬ ((1 : Int32) = (0 : Int32)) := by decide
      refine Go.st (fun _ k => XS.ifNo X1.here hx rfl (hb hby at_133) rfl (Jvm.Free.XT.i0_eq_f hl6) k) ?_
      show Go p.tables e below _ (T1.setTop (mkF m 136 #[.val (.long qx), .second, .val (.long qy), .second, .val (.int ps), .val (.int pt), .val (.long v11), .second, .val (.long v24), .second, .val (.long v33), .second, .val (.long v40), .second, .val (.long v48), .second, .val (.long v55), .second, .val (.long v63), .second, .val (.int (1 : Int32)), .unset, .unset, .unset, .unset, .unset, .unset] []))
      refine Go.st (fun _ k => X1.ldc2Long hx hown (mvT hZ (hw _ (List.mem_of_getElem? (i := 0) rfl))) (g := (mkF m 136 #[.val (.long qx), .second, .val (.long qy), .second, .val (.int ps), .val (.int pt), .val (.long v11), .second, .val (.long v24), .second, .val (.long v33), .second, .val (.long v40), .second, .val (.long v48), .second, .val (.long v55), .second, .val (.long v63), .second, .val (.int (1 : Int32)), .unset, .unset, .unset, .unset, .unset, .unset] [])) rfl (hb hby at_136) _ k) ?_
      show Go p.tables e below _ (T1.setTop (mkF m 139 #[.val (.long qx), .second, .val (.long qy), .second, .val (.int ps), .val (.int pt), .val (.long v11), .second, .val (.long v24), .second, .val (.long v33), .second, .val (.long v40), .second, .val (.long v48), .second, .val (.long v55), .second, .val (.long v63), .second, .val (.int (1 : Int32)), .unset, .unset, .unset, .unset, .unset, .unset] [(.long (9223372036854775807 : Int64))]))
      refine Go.st (fun _ k => XS.goto X1.here hx rfl (pc0 := 139) (pc' := 147) rfl (hb hby at_139) (by decide) (by decide) k) ?_
      show Go p.tables e below _ (T1.setTop (mkF m 147 #[.val (.long qx), .second, .val (.long qy), .second, .val (.int ps), .val (.int pt), .val (.long v11), .second, .val (.long v24), .second, .val (.long v33), .second, .val (.long v40), .second, .val (.long v48), .second, .val (.long v55), .second, .val (.long v63), .second, .val (.int (1 : Int32)), .unset, .unset, .unset, .unset, .unset, .unset] [(.long (9223372036854775807 : Int64))]))
      refine Go.st (fun _ k => XS.lstore X1.here hx rfl (hb hby at_147) rfl (l' := #[.val (.long qx), .second, .val (.long qy), .second, .val (.int ps), .val (.int pt), .val (.long v11), .second, .val (.long v24), .second, .val (.long v33), .second, .val (.long v40), .second, .val (.long v48), .second, .val (.long v55), .second, .val (.long v63), .second, .val (.int (1 : Int32)), .val (.long (9223372036854775807 : Int64)), .second, .unset, .unset, .unset, .unset]) rfl k) ?_
      show Go p.tables e below _ (T1.setTop (mkF m 149 #[.val (.long qx), .second, .val (.long qy), .second, .val (.int ps), .val (.int pt), .val (.long v11), .second, .val (.long v24), .second, .val (.long v33), .second, .val (.long v40), .second, .val (.long v48), .second, .val (.long v55), .second, .val (.long v63), .second, .val (.int (1 : Int32)), .val (.long (9223372036854775807 : Int64)), .second, .unset, .unset, .unset, .unset] []))
      show Go p.tables e below _ (T1.setTop (mkF m 149 #[.val (.long qx), .second, .val (.long qy), .second, .val (.int ps), .val (.int pt), .val (.long v11), .second, .val (.long v24), .second, .val (.long v33), .second, .val (.long v40), .second, .val (.long v48), .second, .val (.long v55), .second, .val (.long v63), .second, .val (.int (1 : Int32)), .val (.long (9223372036854775807 : Int64)), .second, .unset, .unset, .unset, .unset] []))
      refine Go.st (fun _ k => XS.lload X1.here hx rfl (hb hby at_149) rfl k) ?_
      show Go p.tables e below _ (T1.setTop (mkF m 151 #[.val (.long qx), .second, .val (.long qy), .second, .val (.int ps), .val (.int pt), .val (.long v11), .second, .val (.long v24), .second, .val (.long v33), .second, .val (.long v40), .second, .val (.long v48), .second, .val (.long v55), .second, .val (.long v63), .second, .val (.int (1 : Int32)), .val (.long (9223372036854775807 : Int64)), .second, .unset, .unset, .unset, .unset] [(.long v33)]))
      refine Go.st (fun _ k => XS.lload X1.here hx rfl (hb hby at_151) rfl k) ?_
      show Go p.tables e below _ (T1.setTop (mkF m 153 #[.val (.long qx), .second, .val (.long qy), .second, .val (.int ps), .val (.int pt), .val (.long v11), .second, .val (.long v24), .second, .val (.long v33), .second, .val (.long v40), .second, .val (.long v48), .second, .val (.long v55), .second, .val (.long v63), .second, .val (.int (1 : Int32)), .val (.long (9223372036854775807 : Int64)), .second, .unset, .unset, .unset, .unset] [(.long (9223372036854775807 : Int64)), (.long v33)]))
      refine Go.st (fun _ k => Jvm.Free.XT.lcmp X1.here hx rfl (hb hby at_153) rfl k) ?_
      show Go p.tables e below _ (T1.setTop (mkF m 154 #[.val (.long qx), .second, .val (.long qy), .second, .val (.int ps), .val (.int pt), .val (.long v11), .second, .val (.long v24), .second, .val (.long v33), .second, .val (.long v40), .second, .val (.long v48), .second, .val (.long v55), .second, .val (.long v63), .second, .val (.int (1 : Int32)), .val (.long (9223372036854775807 : Int64)), .second, .unset, .unset, .unset, .unset] [(.int (Jvm.Free.XT.cmpL v33 (9223372036854775807 : Int64)))]))
      have hc154 : v33 = (9223372036854775807 : Int64) := (own_M (n3 := ((32 : Int32) &&& 0x3f).toInt64.toUInt64) (by decide) hqv11 hqv24 hqv33 hqv40 hqv48 hqv55 hqv63).1 hc69 hc76
      refine Go.st (fun _ k => XS.ifNo X1.here hx rfl (hb hby at_154) rfl (Jvm.Free.XT.ll_ne_f hc154) k) ?_
      show Go p.tables e below _ (T1.setTop (mkF m 157 #[.val (.long qx), .second, .val (.long qy), .second, .val (.int ps), .val (.int pt), .val (.long v11), .second, .val (.long v24), .second, .val (.long v33), .second, .val (.long v40), .second, .val (.long v48), .second, .val (.long v55), .second, .val (.long v63), .second, .val (.int (1 : Int32)), .val (.long (9223372036854775807 : Int64)), .second, .unset, .unset, .unset, .unset] []))
      refine Go.st (fun _ k => XS.iconst X1.here hx rfl (hb hby at_157) k) ?_
      show Go p.tables e below _ (T1.setTop (mkF m 158 #[.val (.long qx), .second, .val (.long qy), .second, .val (.int ps), .val (.int pt), .val (.long v11), .second, .val (.long v24), .second, .val (.long v33), .second, .val (.long v40), .second, .val (.long v48), .second, .val (.long v55), .second, .val (.long v63), .second, .val (.int (1 : Int32)), .val (.long (9223372036854775807 : Int64)), .second, .unset, .unset, .unset, .unset] [(.int (1 : Int32))]))
      refine Go.st (fun _ k => XS.goto X1.here hx rfl (pc0 := 158) (pc' := 162) rfl (hb hby at_158) (by decide) (by decide) k) ?_
      show Go p.tables e below _ (T1.setTop (mkF m 162 #[.val (.long qx), .second, .val (.long qy), .second, .val (.int ps), .val (.int pt), .val (.long v11), .second, .val (.long v24), .second, .val (.long v33), .second, .val (.long v40), .second, .val (.long v48), .second, .val (.long v55), .second, .val (.long v63), .second, .val (.int (1 : Int32)), .val (.long (9223372036854775807 : Int64)), .second, .unset, .unset, .unset, .unset] [(.int (1 : Int32))]))
      subst hG
      obtain ⟨fs, hr, hrun, hended, hW, hsame⟩ := X1.leave (v := some (.int (nar .boolean (1 : Int32)))) (fun h => by rw [Bd.returns] at h; cases h)
      refine ⟨_, _, ?_, hrun, hended, _, _, rfl, ?_, ⟨_, rfl⟩, hW, hsame.mono (by decide) (by decide)⟩
      · exact retN X1 hx (t := .boolean) Bd.returns (by simp) (hb hby at_162) hr
      · show Q_law Z qx qy ps pt h0 n0 _ T1.heap _
        rw [e1]
        exact ⟨rfl, N1, rfl⟩
set_option maxRecDepth 65536 in
set_option maxHeartbeats 40000000 in
theorem comes_1 {Post : Tables → Env → Array Value → State → Outcome → State → Prop} (hpost : ∀ tb e args s v u, (limb_1_1.after args s (.returned v) u = true ∧ limb_1_2.after args s (.returned v) u = true ∧ True) → FrameEnd s (.returned v) u (Jvm.fieldLocs frame_1_writes args s ++ Jvm.arrayLocs frame_1_arrays args s ++ Jvm.staticLocs frame_1_statics s) 0 0 → Post tb e args s (.returned v) u) :
    ArmFor flags0 classFile x code maxLocals ret World_1 tables_1 room_1 Calls_1 rest_1 Pre_1 Post := by
  intro l hfl _ _ p e ha hc hk s m args below hf hA hF happ hP
  obtain ⟨hcalls, hrest, hpre⟩ := hP
  obtain ⟨-, -, -, hnamed, -, -, -, hat⟩ := (Spec.applies_iff hf).mp happ
  obtain ⟨hg, hn⟩ := and_e (Cond.before_iff.mp (show (Jvm.Cond.and given_1 narrow_1).before args s = true from hpre))
  obtain ⟨hcount, hg0⟩ := and_e hg
  obtain ⟨hv0, hg1⟩ := and_e hg0
  obtain ⟨hv1, hg2⟩ := and_e hg1
  obtain ⟨hv2, hg3⟩ := and_e hg2
  obtain ⟨w0, w1, w2, w3, rfl⟩ : ∃ w0 w1 w2 w3 : Value, args = #[w0, w1, w2, w3] := by
    have hs : args.size = 4 := by simpa [Cond.value, given_1] using hcount
    obtain ⟨L⟩ := args
    match L, hs with
    | [w0, w1, w2, w3], _ => exact ⟨w0, w1, w2, w3, rfl⟩
  have hw := fun d (hd : d ∈ tables_1) => atoms_spec (ws := Jvm.Cond.code x code maxLocals ret :: tables_1) hat d (List.mem_cons_of_mem _ hd)
  have hfit : Fit s := fun {y c} hc i hi => by
    obtain ⟨ha, rfl⟩ := Array.getElem?_eq_some_iff.mp hc
    have q := List.all_eq_true.mp ((Array.all_eq_true_iff_forall_mem.mp hF) _ (Array.getElem_mem ha)) i (List.mem_range.mpr hi)
    simpa [Array.getElem?_eq_getElem hi] using q
  obtain ⟨i0, ei0⟩ := isL_v hv0
  obtain rfl : w0 = (.long i0) := Option.some.inj ei0
  obtain ⟨i1, ei1⟩ := isL_v hv1
  obtain rfl : w1 = (.long i1) := Option.some.inj ei1
  obtain ⟨i2, ei2⟩ := is_v hv2
  obtain rfl : w2 = (.int i2) := Option.some.inj ei2
  obtain ⟨i3, ei3⟩ := is_v hg3
  obtain rfl : w3 = (.int i3) := Option.some.inj ei3
  obtain ⟨n, o, h1, h2, h3, _, L, rfl, ⟨rfl, N, -⟩, hq⟩ := rm_law l s _ hw tables_1 i0 i1 i2 i3 s.heap s.heap.size (Nat.le_refl _)  p e ha hc hk s m _ below hf ((Spec.applies_iff_loose hf).mp happ).1 ⟨rfl, State.Warmed39.refl s, rfl⟩ trivial
  refine ⟨n, _, h1, h2, h3, hpost _ _ _ _ _ _ ⟨Cond.after_iff.mpr rfl, Cond.after_iff.mpr (eq_i res_at (Term.int_eval (1)) rfl), trivial⟩ ⟨hq.1, hq.2.1, (hq.2.2.sift fun y hy => Or.inr (N y hy)).mono (by decide) (by decide)⟩⟩
theorem main_1_1 : Claimed_1_1 := comes_1 fun _ _ _ _ _ _ h hF => ⟨h.1, hF⟩
theorem main_1_2 : Claimed_1_2 := comes_1 fun _ _ _ _ _ _ h hF => ⟨h.2.1, hF⟩
end Jvm.Pilot.@@N@@
namespace Jvm.Pilot.@@N@@
open Jvm Jvm.ClassFile Sem Op Lib Jvm.Free Jvm.Stand Jvm.Pilot.@@N@@.Jvm.D
/-! MADE BY PROGRAM (witnessworld.py) out of the Statement's table words and the real class files: 7 classes; the members and pool entries that the words name. The judged class is class 1, her method 1. -/
namespace start1
open Jvm.ClassFile
def u (s : String) : CpInfo := .utf8 (stringToUtf16 s)
/-- a pool by its gaps: so many unusable entries, then the entry; so many at the end -/
def gap : Nat → List CpInfo → List CpInfo
  | 0, r => r
  | n + 1, r => .unusable :: gap n r
def poolList (es : List (Nat × CpInfo)) (last : Nat) : List CpInfo := es.foldr (fun e r => gap e.1 (e.2 :: r)) (gap last [])
def pool (es : List (Nat × CpInfo)) (last : Nat) : Array CpInfo := ⟨poolList es last⟩
def fileOf (pool : Array CpInfo) (this : Nat) (attrs : Array Attribute := #[]) (ms : Array MethodInfo := #[]) (fl : Nat := 33) (sup : Nat := 0) (ifs : Array Nat := #[]) (fds : Array FieldInfo := #[]) : ClassFile where
  minorVersion := 0
  majorVersion := 65
  constantPool := pool
  accessFlags := fl
  thisClass := this
  superClass := sup
  interfaces := ifs
  fields := fds
  methods := ms
  attributes := attrs
def plain (name : String) (sup : Option ClassId) : Class where
  name := name
  kind := .ordinary
  loader := none
  accessFlags := 33
  super := sup
  interfaces := #[]
  cf := none
  fields := #[]
  methods := #[]
  instanceTypes := #[]
  staticTypes := #[]
  resolved := #[]
  callSites := []
  init := .initialized
  statics := none
  mirror := none

def pool0 : Array CpInfo := pool [(5, u "<init>"), (0, u "()V"), (1, .class_ 10), (1, u "java/lang/Object")] 113

def k0m0 : Method := { name := "<init>", desc := "()V", sig := { parameters := [], returnType := none }, accessFlags := 1, code := none }
/-- java/lang/Object -/
def k0 : Class := { plain "java/lang/Object" none with
  accessFlags := 33
  interfaces := #[]
  cf := some (fileOf pool0 8 #[] #[{ accessFlags := 1, nameIndex := 5, descriptorIndex := 6, attributes := #[] }] 33 0 #[] #[])
  fields := #[]
  methods := #[k0m0]
  instanceTypes := #[]
  staticTypes := #[]
  resolved := Array.replicate 124 none
  statics := none }

def pool1 : Array CpInfo := pool [(2, .class_ 4), (1, u "java/lang/Object"), (0, u "<init>"), (0, u "()V"), (2, .long 9223372036854775807), (1, .methodref 12 13), (0, .class_ 14), (0, .nameAndType 15 16), (0, u "com/example/tallyroot/tallyroot/aggregate/Figures"), (0, u "multiply"), (0, u "(JJ)J"), (0, .long 4294967295), (1, .long 2147483648), (1, .class_ 22), (0, u "com/example/tallyroot/tallyroot/aggregate/FiguresMultiplyPinLaw"), (2, u "law"), (0, u "(JJII)Z")] 3

def k1m0 : Method := { name := "<init>", desc := "()V", sig := { parameters := [], returnType := none }, accessFlags := 2, code := none }
def k1c1 : Code := { maxStack := 6, maxLocals := 27, code := code, exceptionTable := #[], attributes := #[] }
def k1m1 : Method := { name := "law", desc := "(JJII)Z", sig := { parameters := [.long, .long, .int, .int], returnType := some .boolean }, accessFlags := 9, code := some k1c1 }
/-- com/example/tallyroot/tallyroot/aggregate/FiguresMultiplyPinLaw -/
def k1 : Class := { plain "com/example/tallyroot/tallyroot/aggregate/FiguresMultiplyPinLaw" (some 0) with
  accessFlags := 49
  interfaces := #[]
  cf := some (fileOf pool1 21 #[] #[{ accessFlags := 2, nameIndex := 5, descriptorIndex := 6, attributes := #[] }, { accessFlags := 9, nameIndex := 25, descriptorIndex := 26, attributes := #[] }] 49 2 #[] #[])
  fields := #[]
  methods := #[k1m0, k1m1]
  instanceTypes := #[]
  staticTypes := #[]
  resolved := Array.replicate 30 none
  statics := none }

def pool2 : Array CpInfo := pool [(2, .class_ 4), (1, u "java/lang/Object"), (0, u "<init>"), (0, u "()V"), (2, .long 9223372036854775807), (10, u "(JJ)J"), (0, .class_ 22), (0, u "com/example/tallyroot/tallyroot/aggregate/Figures"), (5, u "multiply")] 2

def k2m0 : Method := { name := "<init>", desc := "()V", sig := { parameters := [], returnType := none }, accessFlags := 2, code := none }
def k2c1 : Code := { maxStack := 6, maxLocals := 4, code := prog_5_method_4_code, exceptionTable := #[], attributes := #[] }
def k2m1 : Method := { name := "multiply", desc := "(JJ)J", sig := { parameters := [.long, .long], returnType := some .long }, accessFlags := 8, code := some k2c1 }
/-- com/example/tallyroot/tallyroot/aggregate/Figures -/
def k2 : Class := { plain "com/example/tallyroot/tallyroot/aggregate/Figures" (some 0) with
  accessFlags := 48
  interfaces := #[]
  cf := some (fileOf pool2 21 #[] #[{ accessFlags := 2, nameIndex := 5, descriptorIndex := 6, attributes := #[] }, { accessFlags := 8, nameIndex := 28, descriptorIndex := 20, attributes := #[] }] 48 2 #[] #[])
  fields := #[]
  methods := #[k2m0, k2m1]
  instanceTypes := #[]
  staticTypes := #[]
  resolved := Array.replicate 31 none
  statics := none }

def pool3 : Array CpInfo := pool [(1, u "java/lang/Cloneable"), (0, .class_ 1), (0, u "java/lang/Object"), (0, .class_ 3)] 3

/-- java/lang/Cloneable -/
def k3 : Class := { plain "java/lang/Cloneable" (some 0) with
  accessFlags := 1537
  interfaces := #[]
  cf := some (fileOf pool3 2 #[] #[] 1537 4 #[] #[])
  fields := #[]
  methods := #[]
  instanceTypes := #[]
  staticTypes := #[]
  resolved := Array.replicate 8 none
  statics := none }

def pool4 : Array CpInfo := pool [(1, u "java/io/Serializable"), (0, .class_ 1), (0, u "java/lang/Object"), (0, .class_ 3)] 3

/-- java/io/Serializable -/
def k4 : Class := { plain "java/io/Serializable" (some 0) with
  accessFlags := 1537
  interfaces := #[]
  cf := some (fileOf pool4 2 #[] #[] 1537 4 #[] #[])
  fields := #[]
  methods := #[]
  instanceTypes := #[]
  staticTypes := #[]
  resolved := Array.replicate 8 none
  statics := none }

/-- the primitive byte -/
def k5 : Class := { plain "byte" none with kind := .primitive 'B', accessFlags := 0x411 }
/-- [B -/
def k6 : Class := { plain "[B" (some 0) with kind := .array 5 .byte, interfaces := #[3, 4], accessFlags := 1041 }

def heap : Heap := #[]
def classes : Array Class := #[k0, k1, k2, k3, k4, k5, k6]
def interned : List (Array UInt16 × Addr) := []
def slotsUsed : Nat := 0
def theMethod : MethodId := ⟨1, 1⟩
def args0 : Array Value := #[.long 5, .long 7, .int 3, .int 4]
def aboutOver (below : List Frame) : State where
  vm := { classes := classes, interned := interned.toArray }
  heap := heap
  slotsUsed := slotsUsed
  threads := #[{ frames := .invoking theMethod args0 :: below }]
def below0 : List Frame := [.native { method := ⟨0, 0⟩, args := #[] }]
def about1 : State := aboutOver below0
def p0 : Program := .bare "" "" ""
def e0 : Env := launch0.env 0 0 0
theorem w_frames : about1.frames = Frame.invoking theMethod args0 :: below0 := rfl
set_option maxRecDepth 65536 in
theorem w_args : argsFit about1.vm theMethod args0 = true := by decide +kernel
set_option maxRecDepth 65536 in
theorem w_heap : heapFits about1 = true := by decide +kernel
set_option maxRecDepth 65536 in
theorem w_runnable : about1.curStatus? = some .runnable := by decide +kernel
set_option maxRecDepth 65536 in
theorem w_alone : about1.alone = true := by decide +kernel
set_option maxRecDepth 65536 in
theorem w_named : about1.methodNamed? x = some theMethod := by decide +kernel
set_option maxRecDepth 65536 in
theorem w_hears : about1.hears theMethod below0 = true := by decide +kernel
set_option maxRecDepth 65536 in
theorem w_ripe : about1.ripe theMethod args0 below0 = true := by decide +kernel
theorem w_running : about1.status = .running := rfl
set_option maxRecDepth 65536 in
theorem w_room : about1.hasRoom e0.platform room_1 = true :=
  launch0.hasRoom_least _ room_1 (by decide +kernel) (by decide +kernel) (by decide +kernel) (by decide +kernel) (by decide +kernel) (by decide +kernel)
theorem allAtoms_all (ts : List Jvm.Cond) (a : Array Jvm.Value) (st : Jvm.State) : (allAtoms ts).before a st = ts.all (fun c => c.before a st) := by
  induction ts with
  | nil => rfl
  | cons c t ih =>
    show (Jvm.Cond.and c (allAtoms t)).before a st = _
    rw [Jvm.Cond.before_and, ih, List.all_cons]
def words1 : List Jvm.Cond := Jvm.Cond.code x code maxLocals ret :: tables_1
/-- a 'code' word, met by the world's own term for the bytes: nothing is compared byte by byte -/
theorem code_word {y : MethodName} {bytes : ByteArray} {mx : Nat} {rt : Option FieldType} {a : Array Value} {s : State} {m : MethodId} {meth : Method} {c : Code} (h1 : s.methodNamed? y = some m) (h2 : s.vm.method? m = some meth) (h3 : meth.code = some c) (h4 : c.code = bytes)
    (h5 : (c.maxLocals == mx && c.exceptionTable.isEmpty && decide (c.maxStack ≤ mostOperands) && decide (meth.sig.returnType = rt) && !meth.locks && decide (parseMethodDescriptor y.desc = some meth.sig)) = true) : (Jvm.Cond.code y bytes mx rt).before a s = true := by
  simp only [Bool.and_eq_true, beq_iff_eq, Bool.not_eq_true', decide_eq_true_eq] at h5
  obtain ⟨⟨⟨⟨⟨g1, g2⟩, g3⟩, g4⟩, g5⟩, g6⟩ := h5
  simp [Cond.before, Cond.holds, Cond.value, h1, h2, h3, h4, g1, g2, g3, g4, g5, g6]
def isCode : Jvm.Cond → Bool
  | .code _ _ _ _ => true
  | _ => false
theorem all_split {L : List Jvm.Cond} {P : Jvm.Cond → Bool} (h1 : L.all (fun c => isCode c || P c) = true) (h2 : ∀ c ∈ L.filter isCode, P c = true) : L.all P = true := by
  refine List.all_eq_true.mpr fun c hc => ?_
  have h := List.all_eq_true.mp h1 c hc
  rcases Bool.eq_false_or_eq_true (isCode c) with hi | hi
  · exact h2 c (List.mem_filter.mpr ⟨hc, hi⟩)
  · simpa [hi] using h
set_option maxRecDepth 65536 in
theorem w_c0 : (Jvm.Cond.code x code maxLocals ret).before args0 about1 = true := code_word (m := ⟨1, 1⟩) (meth := k1m1) (c := k1c1) (by decide +kernel) rfl rfl rfl (by decide +kernel)
set_option maxRecDepth 65536 in
theorem w_c1 : (Jvm.Cond.code ({ cls := "com/example/tallyroot/tallyroot/aggregate/Figures", name := "multiply", desc := "(JJ)J" } : Jvm.MethodName) prog_5_method_4_code (4 : Nat) (Option.some Jvm.ClassFile.FieldType.long)).before args0 about1 = true := code_word (m := ⟨2, 1⟩) (meth := k2m1) (c := k2c1) (by decide +kernel) rfl rfl rfl (by decide +kernel)
def codes1 : List Jvm.Cond := [Jvm.Cond.code x code maxLocals ret, Jvm.Cond.code ({ cls := "com/example/tallyroot/tallyroot/aggregate/Figures", name := "multiply", desc := "(JJ)J" } : Jvm.MethodName) prog_5_method_4_code (4 : Nat) (Option.some Jvm.ClassFile.FieldType.long)]
set_option maxRecDepth 65536 in
theorem codes_eq : words1.filter isCode = codes1 := rfl
theorem w_codes : ∀ c ∈ words1.filter isCode, c.before args0 about1 = true := by
  rw [codes_eq]
  intro c hc
  simp only [codes1, List.mem_cons, List.not_mem_nil, or_false] at hc
  rcases hc with rfl | rfl
  · exact w_c0
  · exact w_c1
set_option maxRecDepth 65536 in
theorem w_t1 : words1.all (fun c => isCode c || c.before args0 about1) = true := by decide +kernel
theorem w_tables : (allAtoms (Jvm.Cond.code x code maxLocals ret :: tables_1)).before args0 about1 = true := by
  rw [allAtoms_all]
  show words1.all (fun c => c.before args0 about1) = true
  refine all_split ?_ w_codes
  rw [w_t1]
set_option maxRecDepth 65536 in
theorem w_case : (Jvm.Cond.and given_1 narrow_1).before args0 about1 = true := by decide +kernel
theorem w_applies : (headSpec (Jvm.Cond.code x code maxLocals ret :: tables_1) room_1).applies x e0.platform about1 = true :=
  (Spec.applies_iff w_frames).mpr ⟨w_running, w_runnable, w_alone, w_named, w_hears, w_ripe, w_room, w_tables⟩
theorem atStart : AtStart classFile x code maxLocals ret World_1 tables_1 room_1 Calls_1 rest_1 Pre_1 launch0 p0 e0 about1 theMethod args0 below0 :=
  ⟨lists_1, trivial, launch0.admits_env _ _ _, launch0.least_env, fairChoices_fair.cas, fairChoices_fair.clock, w_frames, w_args, w_heap, w_applies, trivial, trivial, w_case⟩
end start1
theorem witness_1 : WitnessClaimed_1 := ⟨start1.p0, start1.e0, start1.about1, start1.theMethod, start1.args0, start1.below0, start1.atStart⟩
end Jvm.Pilot.@@N@@
