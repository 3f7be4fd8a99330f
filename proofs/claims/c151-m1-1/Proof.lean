import JvmDerived
import JvmDerived.Pilot.@@N@@Statement
import JvmDerived.Pilot.@@N@@Code
set_option linter.unusedVariables false
set_option linter.unusedSimpArgs false
@@BLOCK:NumsL.lean.txt@@
namespace Jvm.RoadKit
open Sem ClassFile Op Lib Jvm.Stand Jvm.Free Jvm.LawKit
section New
variable {p : Program} {l : Launch} {e : Env} {R : Room} {s : State} {m : MethodId} {args : Array Value} {below : List Frame} {meth : Method} {c : Code} {T : State} {locs : List Loc} {cells slots : Nat}
theorem retI (X : Stand p l e R s m args below meth c T locs cells slots) (hx : p.tables.exec = Jvm.exec) {pc : Nat} {Ls : Array Slot} {z : Int32} {rest : List Value} (hret : meth.sig.returnType = some .int) (hd : decode c.code pc = .ok (.ireturn, 1)) {fs : List Frame}
    (hl : ∀ (f : JFrame) (acts : List Action), f.method = m → f.locked = none → f.entered = [] → (doReturn e (T.setTop f) acts (some (.int z))).1 = T.setFrames fs) : Steps p.tables e below (T.setTop (mkF m pc Ls (.int z :: rest))) (T.setFrames fs) := by
  have hm' : T.vm.method? m = some meth := X.method'
  have hn : narrow .int (.int z) = .int z := rfl
  show Steps p.tables e below (T.setTop { method := m, pc := pc, locals := Ls, stack := _ :: rest, locked := none }) _
  jvm_step X.here [X.here.top, hx, hd, hm', hret, hn]
  first | (intro acts; rw [hl _ acts rfl rfl rfl]) | rw [hl _ _ rfl rfl rfl]
  exact Steps.refl _
end New
end Jvm.RoadKit
namespace Jvm.Pilot.@@N@@
open Jvm Jvm.ClassFile Sem Op Lib Jvm.Free Jvm.Stand Jvm.LawKit Jvm.RoadKit Bundle Jvm.Pilot.@@N@@.Jvm.D
/-- from here the run comes to an end of which G holds -/
def Go (tb : Tables) (e : Env) (below : List Frame) (G : State → Outcome → Prop) (U : State) : Prop := ∃ t o, Steps tb e below U t ∧ G t o
theorem Go.st {tb : Tables} {e : Env} {below : List Frame} {G : State → Outcome → Prop} {U U' : State} (h : ∀ t, Steps tb e below U' t → Steps tb e below U t) (k : Go tb e below G U') : Go tb e below G U :=
  let ⟨t, o, a, b⟩ := k
  ⟨t, o, h t a, b⟩
theorem Go.start {tb : Tables} {e : Env} {below : List Frame} {G0 : State → Outcome → Prop} {U : State} (h : ∀ G, G = G0 → Go tb e below G U) : Go tb e below G0 U := h _ rfl
theorem Go.join {tb : Tables} {e : Env} {below : List Frame} {G : State → Outcome → Prop} {U : State} {α : Type} {F : α → State} (k : ∀ z, Go tb e below G (F z)) (h : (∀ z, Go tb e below G (F z)) → Go tb e below G U) : Go tb e below G U := h k
theorem Go.joinR {tb : Tables} {e : Env} {below : List Frame} {G : State → Outcome → Prop} {U : State} {α : Type} {F : α → State} {R : α → Prop} (k : ∀ z, R z → Go tb e below G (F z)) (h : (∀ z, R z → Go tb e below G (F z)) → Go tb e below G U) : Go tb e below G U := h k
theorem own_lrem {tb : Tables} {e : Env} {below : List Frame} {T target : State} {g : JFrame} {n : Nat} {x y : Int64} {rest : List Value} (k : Steps tb e below (T.setTop { g with pc := n, stack := .long (x % y) :: rest }) target) :
    Steps tb e below (T.setTop { g with pc := n, stack := .long (x - (x / y) * y) :: rest }) target := by
  rw [lrem_mod]
  exact k
theorem i64_addc (x y : Int64) : (x + y).toInt = x.toInt + y.toInt ∧ -2 ^ 63 ≤ x.toInt + y.toInt ∧ x.toInt + y.toInt < 2 ^ 63 ∨ (x + y).toInt = x.toInt + y.toInt - 2 ^ 64 ∧ 2 ^ 63 ≤ x.toInt + y.toInt ∨ (x + y).toInt = x.toInt + y.toInt + 2 ^ 64 ∧ x.toInt + y.toInt < -2 ^ 63 := by
  have h := Int64.toInt_add x y
  have a1 := Int64.le_toInt x
  have a2 := Int64.toInt_lt x
  have b1 := Int64.le_toInt y
  have b2 := Int64.toInt_lt y
  rw [Int.bmod_def] at h
  split at h <;> omega
theorem i64_subc (x y : Int64) : (x - y).toInt = x.toInt - y.toInt ∧ -2 ^ 63 ≤ x.toInt - y.toInt ∧ x.toInt - y.toInt < 2 ^ 63 ∨ (x - y).toInt = x.toInt - y.toInt - 2 ^ 64 ∧ 2 ^ 63 ≤ x.toInt - y.toInt ∨ (x - y).toInt = x.toInt - y.toInt + 2 ^ 64 ∧ x.toInt - y.toInt < -2 ^ 63 := by
  have h := Int64.toInt_sub x y
  have a1 := Int64.le_toInt x
  have a2 := Int64.toInt_lt x
  have b1 := Int64.le_toInt y
  have b2 := Int64.toInt_lt y
  rw [Int.bmod_def] at h
  split at h <;> omega
theorem i32_i2c (x : Int32) : (x.toUInt32.toUInt16.toUInt32.toInt32).toInt = x.toInt % 65536 := by
  have h1 : (x.toUInt32.toUInt16.toUInt32.toInt32).toInt = ((x.toUInt32.toUInt16.toUInt32).toNat : Int).bmod (2 ^ 32) := by
    rw [← Int32.toInt_toBitVec, BitVec.toInt_eq_toNat_bmod]; rfl
  have h2 : (x.toUInt32.toUInt16.toUInt32).toNat = x.toBitVec.toNat % 65536 := by
    simp [UInt32.toNat_toUInt16, UInt16.toNat_toUInt32]; rfl
  have h3 : x.toInt = (x.toBitVec.toNat : Int).bmod (2 ^ 32) := by
    rw [← Int32.toInt_toBitVec, BitVec.toInt_eq_toNat_bmod]
  have h4 := x.toBitVec.isLt
  rw [h1, h2, h3, Int.bmod_def, Int.bmod_def]
  split <;> split <;> omega
theorem i32_addc (x y : Int32) : (x + y).toInt = x.toInt + y.toInt ∧ -2 ^ 31 ≤ x.toInt + y.toInt ∧ x.toInt + y.toInt < 2 ^ 31 ∨ (x + y).toInt = x.toInt + y.toInt - 2 ^ 32 ∧ 2 ^ 31 ≤ x.toInt + y.toInt ∨ (x + y).toInt = x.toInt + y.toInt + 2 ^ 32 ∧ x.toInt + y.toInt < -2 ^ 31 := by
  have h := Int32.toInt_add x y
  have a1 := Int32.le_toInt x
  have a2 := Int32.toInt_lt x
  have b1 := Int32.le_toInt y
  have b2 := Int32.toInt_lt y
  rw [Int.bmod_def] at h
  split at h <;> omega
theorem i32_subc (x y : Int32) : (x - y).toInt = x.toInt - y.toInt ∧ -2 ^ 31 ≤ x.toInt - y.toInt ∧ x.toInt - y.toInt < 2 ^ 31 ∨ (x - y).toInt = x.toInt - y.toInt - 2 ^ 32 ∧ 2 ^ 31 ≤ x.toInt - y.toInt ∨ (x - y).toInt = x.toInt - y.toInt + 2 ^ 32 ∧ x.toInt - y.toInt < -2 ^ 31 := by
  have h := Int32.toInt_sub x y
  have a1 := Int32.le_toInt x
  have a2 := Int32.toInt_lt x
  have b1 := Int32.le_toInt y
  have b2 := Int32.toInt_lt y
  rw [Int.bmod_def] at h
  split at h <;> omega
theorem own_eq32 {a b : Int32} (h : a.toInt = b.toInt) : a = b := Int32.toInt_inj.mp h
theorem own_eq64 {a b : Int64} (h : a.toInt = b.toInt) : a = b := Int64.toInt_inj.mp h
theorem own_lt64 {a b : Int64} (h : a.toInt < b.toInt) : a < b := Int64.lt_iff_toInt_lt.mpr h
theorem own_lt32 {a b : Int32} (h : a.toInt < b.toInt) : a < b := Int32.lt_iff_toInt_lt.mpr h
theorem own_nlt64 {a b : Int64} (h : b.toInt ≤ a.toInt) : ¬ a < b := fun z => by have := Int64.lt_iff_toInt_lt.mp z; omega
theorem own_nlt32 {a b : Int32} (h : b.toInt ≤ a.toInt) : ¬ a < b := fun z => by have := Int32.lt_iff_toInt_lt.mp z; omega
theorem own_ne32 {a b : Int32} (h : a.toInt ≠ b.toInt) : ¬ a = b := fun z => h (by rw [z])
theorem own_ne64 {a b : Int64} (h : a.toInt ≠ b.toInt) : ¬ a = b := fun z => h (by rw [z])
def hnF (a b c : Int64) : Int32 := if a = 0 then if b = 0 then if c = 0 then 1 else 0 else 0 else 0
theorem own_or2 (a b : Int64) : a ||| b = 0 ↔ a = 0 ∧ b = 0 := by
  rw [← Int64.toBitVec_inj, ← Int64.toBitVec_inj, ← Int64.toBitVec_inj, Int64.toBitVec_or]
  exact BitVec.or_eq_zero_iff
theorem own_or (a b c : Int64) : (((a ||| b) ||| c) = 0 → hnF a b c = 1) ∧ (¬ ((a ||| b) ||| c) = 0 → hnF a b c = 0) := by
  rw [own_or2, own_or2]
  constructor
  · rintro ⟨⟨h1, h2⟩, h3⟩
    simp [hnF, h1, h2, h3]
  · intro h
    by_cases h1 : a = 0
    · by_cases h2 : b = 0
      · have h3 : ¬ c = 0 := fun z => h ⟨⟨h1, h2⟩, z⟩
        simp [hnF, h3]
      · simp [hnF, h2]
    · simp [hnF, h1]

theorem pn_0 : plainName "com/example/lapsed/lapsed/QueueCounts" = true := by first | (simp [plainName, overriddenIn]; done) | decide +kernel
theorem d_qinit_0 : decode prog_6_method_1_code 0 = .ok (.aload_n 0, 1) := by decide +kernel
theorem d_qinit_1 : decode prog_6_method_1_code 1 = .ok (.invokespecial 1, 3) := by decide +kernel
theorem d_qinit_4 : decode prog_6_method_1_code 4 = .ok (.aload_n 0, 1) := by decide +kernel
theorem d_qinit_5 : decode prog_6_method_1_code 5 = .ok (.lload_n 1, 1) := by decide +kernel
theorem d_qinit_6 : decode prog_6_method_1_code 6 = .ok (.putfield 7, 3) := by decide +kernel
theorem d_qinit_9 : decode prog_6_method_1_code 9 = .ok (.aload_n 0, 1) := by decide +kernel
theorem d_qinit_10 : decode prog_6_method_1_code 10 = .ok (.lload_n 3, 1) := by decide +kernel
theorem d_qinit_11 : decode prog_6_method_1_code 11 = .ok (.putfield 13, 3) := by decide +kernel
theorem d_qinit_14 : decode prog_6_method_1_code 14 = .ok (.aload_n 0, 1) := by decide +kernel
theorem d_qinit_15 : decode prog_6_method_1_code 15 = .ok (.lload 5, 2) := by decide +kernel
theorem d_qinit_17 : decode prog_6_method_1_code 17 = .ok (.putfield 16, 3) := by decide +kernel
theorem d_qinit_20 : decode prog_6_method_1_code 20 = .ok (.return_, 1) := by decide +kernel
theorem ef_qinit (m : MethodId) (ao : Addr) (q1 : Int64) (q2 : Int64) (q3 : Int64) : entryFrame m #[(.ref ao), (.long q1), (.long q2), (.long q3)] 7 = mkF m 0 #[.val (.ref ao), .val (.long q1), .second, .val (.long q2), .second, .val (.long q3), .second] [] := by first | (simp [entryFrame, mkF, argsToLocals, Value.category]; done) | rfl
def Q_qinit (Z : State) (ao : Addr) (q1 : Int64) (q2 : Int64) (q3 : Int64) (h0 : Heap) (n0 : Nat) (v : Option Value) (h : Heap) (L : List Loc) : Prop := v = none ∧ Fr n0 L ∧ Keep h0 h [ao] ∧ Exa Z h ao "com/example/lapsed/lapsed/QueueCounts" ∧ Fld Z h ao "com/example/lapsed/lapsed/QueueCounts" "pending" "J" (.long q1) ∧ Fld Z h ao "com/example/lapsed/lapsed/QueueCounts" "claimed" "J" (.long q2) ∧ Fld Z h ao "com/example/lapsed/lapsed/QueueCounts" "dead" "J" (.long q3)
set_option maxRecDepth 65536 in
set_option maxHeartbeats 40000000 in
theorem rm_qinit (l : Launch) (Z : State) (a0 : Array Value) (hw : ∀ d ∈ tables_1, d.before a0 Z = true) (ws : List Jvm.Cond) (ao : Addr) (q1 : Int64) (q2 : Int64) (q3 : Int64) (h0 : Heap) (n0 : Nat) (Z0 : n0 ≤ h0.size) (P0 : Exa Z h0 ao "com/example/lapsed/lapsed/QueueCounts") (P1 : Fld Z h0 ao "com/example/lapsed/lapsed/QueueCounts" "pending" "J" (.long (0 : Int64))) (P2 : Fld Z h0 ao "com/example/lapsed/lapsed/QueueCounts" "claimed" "J" (.long (0 : Int64))) (P3 : Fld Z h0 ao "com/example/lapsed/lapsed/QueueCounts" "dead" "J" (.long (0 : Int64))) (P4 : n0 ≤ ao) :
    MetFree l (⟨"com/example/lapsed/lapsed/QueueCounts", "<init>", "(JJJ)V"⟩ : MethodName) (head1 (Jvm.Cond.code (⟨"com/example/lapsed/lapsed/QueueCounts", "<init>", "(JJJ)V"⟩ : MethodName) prog_6_method_1_code 7 none :: ws) ({ frames := 1, cells := 0, slots := 0, locals := 12 } : Room)) (fun a U => a = #[(.ref ao), (.long q1), (.long q2), (.long q3)] ∧ Z.Warmed39 U.vm ∧ U.heap = h0) (fun _ _ _ _ _ => True) (fun _ U o U' => ∃ v L, o = .returned v ∧ Q_qinit Z ao q1 q2 q3 h0 n0 v U'.heap L ∧ FrameEnd U o U' L ({ frames := 1, cells := 0, slots := 0, locals := 12 } : Room).cells ({ frames := 1, cells := 0, slots := 0, locals := 12 } : Room).slots) := by
  refine MetFree.of_bodySF (plainFor_of_name pn_0) hisR ?_
  intro p e s m args below meth c s₁ Bd hml0 hP hK
  obtain ⟨rfl, hZ, hh⟩ := hP
  have hx := Bd.exec
  have hby := Bd.bytes
  have hml : c.maxLocals = 7 := hml0
  have hown : s.vm.findClass "com/example/lapsed/lapsed/QueueCounts" = some m.cls := findClass_of_methodNamed Bd.named
  have hnm := (name_of_methodNamed Bd.named Bd.method).1
  have X0 : Stand p l e ({ frames := 1, cells := 0, slots := 0, locals := 12 } : Room) s m #[(.ref ao), (.long q1), (.long q2), (.long q3)] below meth c s₁ [] 0 0 := Stand.of_body Bd
  have e0 : s₁.heap = h0 := by rw [← hh, Bd.state]; rfl
  have N0 := Fr.nil n0
  have K0 : Keep h0 h0 [ao] := Keep.refl h0 [ao]
  show Go p.tables e below _ (s₁.setTop (entryFrame m #[(.ref ao), (.long q1), (.long q2), (.long q3)] 7))
  refine Go.start ?_
  intro G hG
  refine Go.st (fun t k => castTop (ef_qinit m ao q1 q2 q3) k) ?_
  show Go p.tables e below _ (s₁.setTop (mkF m 0 #[.val (.ref ao), .val (.long q1), .second, .val (.long q2), .second, .val (.long q3), .second] []))
  refine Go.st (fun _ k => XS.aloadN X0.here hx rfl (hb hby d_qinit_0) rfl rfl k) ?_
  show Go p.tables e below _ (s₁.setTop (mkF m 1 #[.val (.ref ao), .val (.long q1), .second, .val (.long q2), .second, .val (.long q3), .second] [(.ref ao)]))
  obtain ⟨T1, X1, e1, st1⟩ := initO X0 hx hZ hown (hw _ (List.mem_of_getElem? (i := 6) rfl)) (hw _ (List.mem_of_getElem? (i := 7) rfl)) (hw _ (List.mem_of_getElem? (i := 8) rfl)) e0 (g := (mkF m 1 #[.val (.ref ao), .val (.long q1), .second, .val (.long q2), .second, .val (.long q3), .second] [(.ref ao)])) rfl (by rw [hml]; rfl) rfl (hb hby d_qinit_1) (by decide) (W := 0) (by show 2 * 0 + _ ≤ _; exact Nat.le_of_eq rfl) (by decide)
  refine Go.st st1 ?_
  show Go p.tables e below _ (T1.setTop (mkF m 4 #[.val (.ref ao), .val (.long q1), .second, .val (.long q2), .second, .val (.long q3), .second] []))
  refine Go.st (fun _ k => XS.aloadN X1.here hx rfl (hb hby d_qinit_4) rfl rfl k) ?_
  show Go p.tables e below _ (T1.setTop (mkF m 5 #[.val (.ref ao), .val (.long q1), .second, .val (.long q2), .second, .val (.long q3), .second] [(.ref ao)]))
  refine Go.st (fun _ k => XS.lloadN X1.here hx rfl (hb hby d_qinit_5) rfl k) ?_
  show Go p.tables e below _ (T1.setTop (mkF m 6 #[.val (.ref ao), .val (.long q1), .second, .val (.long q2), .second, .val (.long q3), .second] [(.long q1), (.ref ao)]))
  obtain ⟨T2, h2, X2, e2, W2, st2⟩ := putF X1 hx hZ hown (host := "") (Or.inl (hw _ (List.mem_of_getElem? (i := 9) rfl))) Via.refl e1 P1 P0 (Or.inr ⟨(hw _ (List.mem_of_getElem? (i := 10) rfl)), rfl, hnm⟩) (hw _ (List.mem_of_getElem? (i := 1) rfl)) (ty := .long) (by decide) rfl rfl (g := (mkF m 6 #[.val (.ref ao), .val (.long q1), .second, .val (.long q2), .second, .val (.long q3), .second] [(.long q1), (.ref ao)])) rfl rfl (hb hby d_qinit_6)
  refine Go.st st2 ?_
  have F3 : Exa Z h2 ao "com/example/lapsed/lapsed/QueueCounts" := P0.wr W2
  have F4 : Fld Z h2 ao "com/example/lapsed/lapsed/QueueCounts" "pending" "J" (.long q1) := P1.same W2
  have F5 : Fld Z h2 ao "com/example/lapsed/lapsed/QueueCounts" "claimed" "J" (.long (0 : Int64)) := P2.other W2 (Or.inr (slot_ne (Or.inr (hw _ (List.mem_of_getElem? (i := 12) rfl))) (Or.inr (hw _ (List.mem_of_getElem? (i := 10) rfl))) (by decide) (t := .long) (t' := .long) (by decide) (by decide)))
  have F6 : Fld Z h2 ao "com/example/lapsed/lapsed/QueueCounts" "dead" "J" (.long (0 : Int64)) := P3.other W2 (Or.inr (slot_ne (Or.inr (hw _ (List.mem_of_getElem? (i := 14) rfl))) (Or.inr (hw _ (List.mem_of_getElem? (i := 10) rfl))) (by decide) (t := .long) (t' := .long) (by decide) (by decide)))
  have K7 : Keep h0 h2 [ao] := K0.wr W2 (Or.inl (List.mem_of_getElem? (i := 0) rfl))
  have Z8 : n0 ≤ h2.size := Nat.le_trans Z0 (Nat.le_of_eq W2.size.symm)
  have N9 := Fr.snoc X2 N0 P4
  show Go p.tables e below _ (T2.setTop (mkF m 9 #[.val (.ref ao), .val (.long q1), .second, .val (.long q2), .second, .val (.long q3), .second] []))
  refine Go.st (fun _ k => XS.aloadN X2.here hx rfl (hb hby d_qinit_9) rfl rfl k) ?_
  show Go p.tables e below _ (T2.setTop (mkF m 10 #[.val (.ref ao), .val (.long q1), .second, .val (.long q2), .second, .val (.long q3), .second] [(.ref ao)]))
  refine Go.st (fun _ k => XS.lloadN X2.here hx rfl (hb hby d_qinit_10) rfl k) ?_
  show Go p.tables e below _ (T2.setTop (mkF m 11 #[.val (.ref ao), .val (.long q1), .second, .val (.long q2), .second, .val (.long q3), .second] [(.long q2), (.ref ao)]))
  obtain ⟨T10, h10, X10, e10, W10, st10⟩ := putF X2 hx hZ hown (host := "") (Or.inl (hw _ (List.mem_of_getElem? (i := 11) rfl))) Via.refl e2 F5 F3 (Or.inr ⟨(hw _ (List.mem_of_getElem? (i := 12) rfl)), rfl, hnm⟩) (hw _ (List.mem_of_getElem? (i := 1) rfl)) (ty := .long) (by decide) rfl rfl (g := (mkF m 11 #[.val (.ref ao), .val (.long q1), .second, .val (.long q2), .second, .val (.long q3), .second] [(.long q2), (.ref ao)])) rfl rfl (hb hby d_qinit_11)
  refine Go.st st10 ?_
  have F11 : Exa Z h10 ao "com/example/lapsed/lapsed/QueueCounts" := F3.wr W10
  have F12 : Fld Z h10 ao "com/example/lapsed/lapsed/QueueCounts" "pending" "J" (.long q1) := F4.other W10 (Or.inr (slot_ne (Or.inr (hw _ (List.mem_of_getElem? (i := 10) rfl))) (Or.inr (hw _ (List.mem_of_getElem? (i := 12) rfl))) (by decide) (t := .long) (t' := .long) (by decide) (by decide)))
  have F13 : Fld Z h10 ao "com/example/lapsed/lapsed/QueueCounts" "claimed" "J" (.long q2) := F5.same W10
  have F14 : Fld Z h10 ao "com/example/lapsed/lapsed/QueueCounts" "dead" "J" (.long (0 : Int64)) := F6.other W10 (Or.inr (slot_ne (Or.inr (hw _ (List.mem_of_getElem? (i := 14) rfl))) (Or.inr (hw _ (List.mem_of_getElem? (i := 12) rfl))) (by decide) (t := .long) (t' := .long) (by decide) (by decide)))
  have K15 : Keep h0 h10 [ao] := K7.wr W10 (Or.inl (List.mem_of_getElem? (i := 0) rfl))
  have Z16 : n0 ≤ h10.size := Nat.le_trans Z8 (Nat.le_of_eq W10.size.symm)
  have N17 := Fr.snoc X10 N9 P4
  show Go p.tables e below _ (T10.setTop (mkF m 14 #[.val (.ref ao), .val (.long q1), .second, .val (.long q2), .second, .val (.long q3), .second] []))
  refine Go.st (fun _ k => XS.aloadN X10.here hx rfl (hb hby d_qinit_14) rfl rfl k) ?_
  show Go p.tables e below _ (T10.setTop (mkF m 15 #[.val (.ref ao), .val (.long q1), .second, .val (.long q2), .second, .val (.long q3), .second] [(.ref ao)]))
  refine Go.st (fun _ k => XS.lload X10.here hx rfl (hb hby d_qinit_15) rfl k) ?_
  show Go p.tables e below _ (T10.setTop (mkF m 17 #[.val (.ref ao), .val (.long q1), .second, .val (.long q2), .second, .val (.long q3), .second] [(.long q3), (.ref ao)]))
  obtain ⟨T18, h18, X18, e18, W18, st18⟩ := putF X10 hx hZ hown (host := "") (Or.inl (hw _ (List.mem_of_getElem? (i := 13) rfl))) Via.refl e10 F14 F11 (Or.inr ⟨(hw _ (List.mem_of_getElem? (i := 14) rfl)), rfl, hnm⟩) (hw _ (List.mem_of_getElem? (i := 1) rfl)) (ty := .long) (by decide) rfl rfl (g := (mkF m 17 #[.val (.ref ao), .val (.long q1), .second, .val (.long q2), .second, .val (.long q3), .second] [(.long q3), (.ref ao)])) rfl rfl (hb hby d_qinit_17)
  refine Go.st st18 ?_
  have F19 : Exa Z h18 ao "com/example/lapsed/lapsed/QueueCounts" := F11.wr W18
  have F20 : Fld Z h18 ao "com/example/lapsed/lapsed/QueueCounts" "pending" "J" (.long q1) := F12.other W18 (Or.inr (slot_ne (Or.inr (hw _ (List.mem_of_getElem? (i := 10) rfl))) (Or.inr (hw _ (List.mem_of_getElem? (i := 14) rfl))) (by decide) (t := .long) (t' := .long) (by decide) (by decide)))
  have F21 : Fld Z h18 ao "com/example/lapsed/lapsed/QueueCounts" "claimed" "J" (.long q2) := F13.other W18 (Or.inr (slot_ne (Or.inr (hw _ (List.mem_of_getElem? (i := 12) rfl))) (Or.inr (hw _ (List.mem_of_getElem? (i := 14) rfl))) (by decide) (t := .long) (t' := .long) (by decide) (by decide)))
  have F22 : Fld Z h18 ao "com/example/lapsed/lapsed/QueueCounts" "dead" "J" (.long q3) := F14.same W18
  have K23 : Keep h0 h18 [ao] := K15.wr W18 (Or.inl (List.mem_of_getElem? (i := 0) rfl))
  have Z24 : n0 ≤ h18.size := Nat.le_trans Z16 (Nat.le_of_eq W18.size.symm)
  have N25 := Fr.snoc X18 N17 P4
  show Go p.tables e below _ (T18.setTop (mkF m 20 #[.val (.ref ao), .val (.long q1), .second, .val (.long q2), .second, .val (.long q3), .second] []))
  subst hG
  obtain ⟨fs, hr, hrun, hended, hW, hsame⟩ := X18.leave (v := none) (fun _ => rfl)
  refine ⟨_, _, ?_, hrun, hended, _, _, rfl, ?_, ⟨_, rfl⟩, hW, hsame.mono (by decide) (by decide)⟩
  · exact X18.returnOut hx Bd.returns (hb hby d_qinit_20) hr
  · show Q_qinit Z ao q1 q2 q3 h0 n0 _ T18.heap _
    rw [e18]
    exact ⟨rfl, N25, K23, F19, F20, F21, F22⟩
theorem d_hnone_0 : decode prog_6_method_4_code 0 = .ok (.aload_n 0, 1) := by decide +kernel
theorem d_hnone_1 : decode prog_6_method_4_code 1 = .ok (.getfield 7, 3) := by decide +kernel
theorem d_hnone_4 : decode prog_6_method_4_code 4 = .ok (.lconst 0, 1) := by decide +kernel
theorem d_hnone_5 : decode prog_6_method_4_code 5 = .ok (.lcmp, 1) := by decide +kernel
theorem d_hnone_6 : decode prog_6_method_4_code 6 = .ok (.ifCond .ne 25, 3) := by decide +kernel
theorem d_hnone_9 : decode prog_6_method_4_code 9 = .ok (.aload_n 0, 1) := by decide +kernel
theorem d_hnone_10 : decode prog_6_method_4_code 10 = .ok (.getfield 13, 3) := by decide +kernel
theorem d_hnone_13 : decode prog_6_method_4_code 13 = .ok (.lconst 0, 1) := by decide +kernel
theorem d_hnone_14 : decode prog_6_method_4_code 14 = .ok (.lcmp, 1) := by decide +kernel
theorem d_hnone_15 : decode prog_6_method_4_code 15 = .ok (.ifCond .ne 16, 3) := by decide +kernel
theorem d_hnone_18 : decode prog_6_method_4_code 18 = .ok (.aload_n 0, 1) := by decide +kernel
theorem d_hnone_19 : decode prog_6_method_4_code 19 = .ok (.getfield 16, 3) := by decide +kernel
theorem d_hnone_22 : decode prog_6_method_4_code 22 = .ok (.lconst 0, 1) := by decide +kernel
theorem d_hnone_23 : decode prog_6_method_4_code 23 = .ok (.lcmp, 1) := by decide +kernel
theorem d_hnone_24 : decode prog_6_method_4_code 24 = .ok (.ifCond .ne 7, 3) := by decide +kernel
theorem d_hnone_27 : decode prog_6_method_4_code 27 = .ok (.iconst 1, 1) := by decide +kernel
theorem d_hnone_28 : decode prog_6_method_4_code 28 = .ok (.goto 4, 3) := by decide +kernel
theorem d_hnone_31 : decode prog_6_method_4_code 31 = .ok (.iconst 0, 1) := by decide +kernel
theorem d_hnone_32 : decode prog_6_method_4_code 32 = .ok (.ireturn, 1) := by decide +kernel
theorem ef_hnone (m : MethodId) (ao : Addr) : entryFrame m #[(.ref ao)] 1 = mkF m 0 #[.val (.ref ao)] [] := by first | (simp [entryFrame, mkF, argsToLocals, Value.category]; done) | rfl
def Q_hnone (Z : State) (ao : Addr) (w1 : Int64) (w2 : Int64) (w3 : Int64) (h0 : Heap) (n0 : Nat) (v : Option Value) (h : Heap) (L : List Loc) : Prop := v = some (.int (hnF w1 w2 w3)) ∧ Fr n0 L ∧ h = h0
set_option maxRecDepth 65536 in
set_option maxHeartbeats 40000000 in
theorem rm_hnone (l : Launch) (Z : State) (a0 : Array Value) (hw : ∀ d ∈ tables_1, d.before a0 Z = true) (ws : List Jvm.Cond) (ao : Addr) (w1 : Int64) (w2 : Int64) (w3 : Int64) (h0 : Heap) (n0 : Nat) (Z0 : n0 ≤ h0.size) (P0 : Fld Z h0 ao "com/example/lapsed/lapsed/QueueCounts" "pending" "J" (.long w1)) (P1 : Fld Z h0 ao "com/example/lapsed/lapsed/QueueCounts" "claimed" "J" (.long w2)) (P2 : Fld Z h0 ao "com/example/lapsed/lapsed/QueueCounts" "dead" "J" (.long w3)) :
    MetFree l (⟨"com/example/lapsed/lapsed/QueueCounts", "holdsNone", "()Z"⟩ : MethodName) (head1 (Jvm.Cond.code (⟨"com/example/lapsed/lapsed/QueueCounts", "holdsNone", "()Z"⟩ : MethodName) prog_6_method_4_code 1 (some .boolean) :: ws) ({ frames := 0, cells := 0, slots := 0, locals := 0 } : Room)) (fun a U => a = #[(.ref ao)] ∧ Z.Warmed39 U.vm ∧ U.heap = h0) (fun _ _ _ _ _ => True) (fun _ U o U' => ∃ v L, o = .returned v ∧ Q_hnone Z ao w1 w2 w3 h0 n0 v U'.heap L ∧ FrameEnd U o U' L ({ frames := 0, cells := 0, slots := 0, locals := 0 } : Room).cells ({ frames := 0, cells := 0, slots := 0, locals := 0 } : Room).slots) := by
  refine MetFree.of_bodySF (plainFor_of_name pn_0) hisR ?_
  intro p e s m args below meth c s₁ Bd hml0 hP hK
  obtain ⟨rfl, hZ, hh⟩ := hP
  have hx := Bd.exec
  have hby := Bd.bytes
  have hml : c.maxLocals = 1 := hml0
  have hown : s.vm.findClass "com/example/lapsed/lapsed/QueueCounts" = some m.cls := findClass_of_methodNamed Bd.named
  have hnm := (name_of_methodNamed Bd.named Bd.method).1
  have X0 : Stand p l e ({ frames := 0, cells := 0, slots := 0, locals := 0 } : Room) s m #[(.ref ao)] below meth c s₁ [] 0 0 := Stand.of_body Bd
  have e0 : s₁.heap = h0 := by rw [← hh, Bd.state]; rfl
  have N0 := Fr.nil n0
  have K0 : Keep h0 h0 [] := Keep.refl h0 []
  show Go p.tables e below _ (s₁.setTop (entryFrame m #[(.ref ao)] 1))
  refine Go.start ?_
  intro G hG
  refine Go.st (fun t k => castTop (ef_hnone m ao) k) ?_
  show Go p.tables e below _ (s₁.setTop (mkF m 0 #[.val (.ref ao)] []))
  refine Go.st (fun _ k => XS.aloadN X0.here hx rfl (hb hby d_hnone_0) rfl rfl k) ?_
  show Go p.tables e below _ (s₁.setTop (mkF m 1 #[.val (.ref ao)] [(.ref ao)]))
  obtain ⟨T1, X1, e1, st1⟩ := getF X0 hx hZ hown (host := "") (Or.inl (hw _ (List.mem_of_getElem? (i := 9) rfl))) Via.refl e0 P0 (g := (mkF m 1 #[.val (.ref ao)] [(.ref ao)])) rfl rfl (hb hby d_hnone_1)
  refine Go.st st1 ?_
  show Go p.tables e below _ (T1.setTop (mkF m 4 #[.val (.ref ao)] [(.long w1)]))
  refine Go.st (fun _ k => XS.lconst X1.here hx rfl (hb hby d_hnone_4) k) ?_
  show Go p.tables e below _ (T1.setTop (mkF m 5 #[.val (.ref ao)] [(.long (0 : Int64)), (.long w1)]))
  refine Go.st (fun _ k => Jvm.Free.XT.lcmp X1.here hx rfl (hb hby d_hnone_5) rfl k) ?_
  show Go p.tables e below _ (T1.setTop (mkF m 6 #[.val (.ref ao)] [(.int (Jvm.Free.XT.cmpL w1 (0 : Int64)))]))
  by_cases hc6 : w1 = (0 : Int64)
  · skip
    refine Go.st (fun _ k => XS.ifNo X1.here hx rfl (hb hby d_hnone_6) rfl (Jvm.Free.XT.ll_ne_f hc6) k) ?_
    show Go p.tables e below _ (T1.setTop (mkF m 9 #[.val (.ref ao)] []))
    refine Go.st (fun _ k => XS.aloadN X1.here hx rfl (hb hby d_hnone_9) rfl rfl k) ?_
    show Go p.tables e below _ (T1.setTop (mkF m 10 #[.val (.ref ao)] [(.ref ao)]))
    obtain ⟨T2, X2, e2, st2⟩ := getF X1 hx hZ hown (host := "") (Or.inl (hw _ (List.mem_of_getElem? (i := 11) rfl))) Via.refl e1 P1 (g := (mkF m 10 #[.val (.ref ao)] [(.ref ao)])) rfl rfl (hb hby d_hnone_10)
    refine Go.st st2 ?_
    show Go p.tables e below _ (T2.setTop (mkF m 13 #[.val (.ref ao)] [(.long w2)]))
    refine Go.st (fun _ k => XS.lconst X2.here hx rfl (hb hby d_hnone_13) k) ?_
    show Go p.tables e below _ (T2.setTop (mkF m 14 #[.val (.ref ao)] [(.long (0 : Int64)), (.long w2)]))
    refine Go.st (fun _ k => Jvm.Free.XT.lcmp X2.here hx rfl (hb hby d_hnone_14) rfl k) ?_
    show Go p.tables e below _ (T2.setTop (mkF m 15 #[.val (.ref ao)] [(.int (Jvm.Free.XT.cmpL w2 (0 : Int64)))]))
    by_cases hc15 : w2 = (0 : Int64)
    · skip
      refine Go.st (fun _ k => XS.ifNo X2.here hx rfl (hb hby d_hnone_15) rfl (Jvm.Free.XT.ll_ne_f hc15) k) ?_
      show Go p.tables e below _ (T2.setTop (mkF m 18 #[.val (.ref ao)] []))
      refine Go.st (fun _ k => XS.aloadN X2.here hx rfl (hb hby d_hnone_18) rfl rfl k) ?_
      show Go p.tables e below _ (T2.setTop (mkF m 19 #[.val (.ref ao)] [(.ref ao)]))
      obtain ⟨T3, X3, e3, st3⟩ := getF X2 hx hZ hown (host := "") (Or.inl (hw _ (List.mem_of_getElem? (i := 13) rfl))) Via.refl e2 P2 (g := (mkF m 19 #[.val (.ref ao)] [(.ref ao)])) rfl rfl (hb hby d_hnone_19)
      refine Go.st st3 ?_
      show Go p.tables e below _ (T3.setTop (mkF m 22 #[.val (.ref ao)] [(.long w3)]))
      refine Go.st (fun _ k => XS.lconst X3.here hx rfl (hb hby d_hnone_22) k) ?_
      show Go p.tables e below _ (T3.setTop (mkF m 23 #[.val (.ref ao)] [(.long (0 : Int64)), (.long w3)]))
      refine Go.st (fun _ k => Jvm.Free.XT.lcmp X3.here hx rfl (hb hby d_hnone_23) rfl k) ?_
      show Go p.tables e below _ (T3.setTop (mkF m 24 #[.val (.ref ao)] [(.int (Jvm.Free.XT.cmpL w3 (0 : Int64)))]))
      by_cases hc24 : w3 = (0 : Int64)
      · skip
        refine Go.st (fun _ k => XS.ifNo X3.here hx rfl (hb hby d_hnone_24) rfl (Jvm.Free.XT.ll_ne_f hc24) k) ?_
        show Go p.tables e below _ (T3.setTop (mkF m 27 #[.val (.ref ao)] []))
        refine Go.st (fun _ k => XS.iconst X3.here hx rfl (hb hby d_hnone_27) k) ?_
        show Go p.tables e below _ (T3.setTop (mkF m 28 #[.val (.ref ao)] [(.int (1 : Int32))]))
        refine Go.st (fun _ k => XS.goto X3.here hx rfl (pc0 := 28) (pc' := 32) rfl (hb hby d_hnone_28) (by decide) (by decide) k) ?_
        show Go p.tables e below _ (T3.setTop (mkF m 32 #[.val (.ref ao)] [(.int (1 : Int32))]))
        subst hG
        obtain ⟨fs, hr, hrun, hended, hW, hsame⟩ := X3.leave (v := some (.int (nar .boolean (1 : Int32)))) (fun h => by rw [Bd.returns] at h; cases h)
        refine ⟨_, _, ?_, hrun, hended, _, _, rfl, ?_, ⟨_, rfl⟩, hW, hsame.mono (by decide) (by decide)⟩
        · exact retN X3 hx (t := .boolean) Bd.returns (by simp) (hb hby d_hnone_32) hr
        · show Q_hnone Z ao w1 w2 w3 h0 n0 _ T3.heap _
          rw [e3]
          exact ⟨(by show some (Value.int (1 : Int32)) = _; simp [hnF, hc6, hc15, hc24]), N0, rfl⟩
      · skip
        refine Go.st (fun _ k => XS.ifYes X3.here hx rfl (pc0 := 24) (pc' := 31) rfl (hb hby d_hnone_24) rfl (Jvm.Free.XT.ll_ne_t hc24) (by decide) (by decide) k) ?_
        show Go p.tables e below _ (T3.setTop (mkF m 31 #[.val (.ref ao)] []))
        refine Go.st (fun _ k => XS.iconst X3.here hx rfl (hb hby d_hnone_31) k) ?_
        show Go p.tables e below _ (T3.setTop (mkF m 32 #[.val (.ref ao)] [(.int (0 : Int32))]))
        subst hG
        obtain ⟨fs, hr, hrun, hended, hW, hsame⟩ := X3.leave (v := some (.int (nar .boolean (0 : Int32)))) (fun h => by rw [Bd.returns] at h; cases h)
        refine ⟨_, _, ?_, hrun, hended, _, _, rfl, ?_, ⟨_, rfl⟩, hW, hsame.mono (by decide) (by decide)⟩
        · exact retN X3 hx (t := .boolean) Bd.returns (by simp) (hb hby d_hnone_32) hr
        · show Q_hnone Z ao w1 w2 w3 h0 n0 _ T3.heap _
          rw [e3]
          exact ⟨(by show some (Value.int (0 : Int32)) = _; simp [hnF, hc6, hc15, hc24]), N0, rfl⟩
    · skip
      refine Go.st (fun _ k => XS.ifYes X2.here hx rfl (pc0 := 15) (pc' := 31) rfl (hb hby d_hnone_15) rfl (Jvm.Free.XT.ll_ne_t hc15) (by decide) (by decide) k) ?_
      show Go p.tables e below _ (T2.setTop (mkF m 31 #[.val (.ref ao)] []))
      refine Go.st (fun _ k => XS.iconst X2.here hx rfl (hb hby d_hnone_31) k) ?_
      show Go p.tables e below _ (T2.setTop (mkF m 32 #[.val (.ref ao)] [(.int (0 : Int32))]))
      subst hG
      obtain ⟨fs, hr, hrun, hended, hW, hsame⟩ := X2.leave (v := some (.int (nar .boolean (0 : Int32)))) (fun h => by rw [Bd.returns] at h; cases h)
      refine ⟨_, _, ?_, hrun, hended, _, _, rfl, ?_, ⟨_, rfl⟩, hW, hsame.mono (by decide) (by decide)⟩
      · exact retN X2 hx (t := .boolean) Bd.returns (by simp) (hb hby d_hnone_32) hr
      · show Q_hnone Z ao w1 w2 w3 h0 n0 _ T2.heap _
        rw [e2]
        exact ⟨(by show some (Value.int (0 : Int32)) = _; simp [hnF, hc6, hc15]), N0, rfl⟩
  · skip
    refine Go.st (fun _ k => XS.ifYes X1.here hx rfl (pc0 := 6) (pc' := 31) rfl (hb hby d_hnone_6) rfl (Jvm.Free.XT.ll_ne_t hc6) (by decide) (by decide) k) ?_
    show Go p.tables e below _ (T1.setTop (mkF m 31 #[.val (.ref ao)] []))
    refine Go.st (fun _ k => XS.iconst X1.here hx rfl (hb hby d_hnone_31) k) ?_
    show Go p.tables e below _ (T1.setTop (mkF m 32 #[.val (.ref ao)] [(.int (0 : Int32))]))
    subst hG
    obtain ⟨fs, hr, hrun, hended, hW, hsame⟩ := X1.leave (v := some (.int (nar .boolean (0 : Int32)))) (fun h => by rw [Bd.returns] at h; cases h)
    refine ⟨_, _, ?_, hrun, hended, _, _, rfl, ?_, ⟨_, rfl⟩, hW, hsame.mono (by decide) (by decide)⟩
    · exact retN X1 hx (t := .boolean) Bd.returns (by simp) (hb hby d_hnone_32) hr
    · show Q_hnone Z ao w1 w2 w3 h0 n0 _ T1.heap _
      rw [e1]
      exact ⟨(by show some (Value.int (0 : Int32)) = _; simp [hnF, hc6]), N0, rfl⟩
theorem pd_0 : parseMethodDescriptor "(JJJ)V" = some ⟨[.long, .long, .long], none⟩ := by decide +kernel
theorem pd_1 : parseMethodDescriptor "()Z" = some ⟨[], some .boolean⟩ := by decide +kernel
theorem pn_1 : plainName "com/example/lapsed/lapsed/QueueCountsHoldsNonePinLaw" = true := by first | (simp [plainName, overriddenIn]; done) | decide +kernel
theorem ef_law (m : MethodId) (q1 : Int64) (q2 : Int64) (q3 : Int64) (pf : Int32) : entryFrame m #[(.long q1), (.long q2), (.long q3), (.int pf)] maxLocals = mkF m 0 #[.val (.long q1), .second, .val (.long q2), .second, .val (.long q3), .second, .val (.int pf), .unset, .unset, .unset, .unset, .unset, .unset, .unset, .unset] [] := by first | (simp [entryFrame, mkF, argsToLocals, Value.category, maxLocals]; done) | rfl
def Q_law (Z : State) (q1 : Int64) (q2 : Int64) (q3 : Int64) (pf : Int32) (h0 : Heap) (n0 : Nat) (v : Option Value) (h : Heap) (L : List Loc) : Prop := v = some (.int (1 : Int32)) ∧ Fr n0 L ∧ Keep h0 h []
set_option maxRecDepth 65536 in
set_option maxHeartbeats 40000000 in
theorem rm_law (l : Launch) (Z : State) (a0 : Array Value) (hw : ∀ d ∈ tables_1, d.before a0 Z = true) (ws : List Jvm.Cond) (q1 : Int64) (q2 : Int64) (q3 : Int64) (pf : Int32) (h0 : Heap) (n0 : Nat) (Z0 : n0 ≤ h0.size)  :
    MetFree l x (head1 (Jvm.Cond.code x code maxLocals ret :: ws) room_1) (fun a U => a = #[(.long q1), (.long q2), (.long q3), (.int pf)] ∧ Z.Warmed39 U.vm ∧ U.heap = h0) (fun _ _ _ _ _ => True) (fun _ U o U' => ∃ v L, o = .returned v ∧ Q_law Z q1 q2 q3 pf h0 n0 v U'.heap L ∧ FrameEnd U o U' L room_1.cells room_1.slots) := by
  refine MetFree.of_bodySF (plainFor_of_name pn_1) hisR ?_
  intro p e s m args below meth c s₁ Bd hml0 hP hK
  obtain ⟨rfl, hZ, hh⟩ := hP
  have hx := Bd.exec
  have hby := Bd.bytes
  have hml : c.maxLocals = 15 := hml0
  have hown : s.vm.findClass "com/example/lapsed/lapsed/QueueCountsHoldsNonePinLaw" = some m.cls := findClass_of_methodNamed Bd.named
  have hnm := (name_of_methodNamed Bd.named Bd.method).1
  have X0 : Stand p l e room_1 s m #[(.long q1), (.long q2), (.long q3), (.int pf)] below meth c s₁ [] 0 0 := Stand.of_body Bd
  have e0 : s₁.heap = h0 := by rw [← hh, Bd.state]; rfl
  have N0 := Fr.nil n0
  have K0 : Keep h0 h0 [] := Keep.refl h0 []
  show Go p.tables e below _ (s₁.setTop (entryFrame m #[(.long q1), (.long q2), (.long q3), (.int pf)] maxLocals))
  refine Go.start ?_
  intro G hG
  refine Go.st (fun t k => castTop (ef_law m q1 q2 q3 pf) k) ?_
  show Go p.tables e below _ (s₁.setTop (mkF m 0 #[.val (.long q1), .second, .val (.long q2), .second, .val (.long q3), .second, .val (.int pf), .unset, .unset, .unset, .unset, .unset, .unset, .unset, .unset] []))
  refine Go.st (fun _ k => XS.iload X0.here hx rfl (hb hby at_0) rfl k) ?_
  show Go p.tables e below _ (s₁.setTop (mkF m 2 #[.val (.long q1), .second, .val (.long q2), .second, .val (.long q3), .second, .val (.int pf), .unset, .unset, .unset, .unset, .unset, .unset, .unset, .unset] [(.int pf)]))
  refine Go.st (fun _ k => XS.iconst X0.here hx rfl (hb hby at_2) k) ?_
  show Go p.tables e below _ (s₁.setTop (mkF m 3 #[.val (.long q1), .second, .val (.long q2), .second, .val (.long q3), .second, .val (.int pf), .unset, .unset, .unset, .unset, .unset, .unset, .unset, .unset] [(.int (1 : Int32)), (.int pf)]))
  refine Go.st (fun _ k => XS.iand X0.here hx rfl (hb hby at_3) rfl k) ?_
  show Go p.tables e below _ (s₁.setTop (mkF m 4 #[.val (.long q1), .second, .val (.long q2), .second, .val (.long q3), .second, .val (.int pf), .unset, .unset, .unset, .unset, .unset, .unset, .unset, .unset] [(.int (pf &&& (1 : Int32)))]))
  refine Go.join (F := fun j12 : Int64 => s₁.setTop (mkF m 12 #[.val (.long q1), .second, .val (.long q2), .second, .val (.long q3), .second, .val (.int pf), .unset, .unset, .unset, .unset, .unset, .unset, .unset, .unset] [(.long j12)])) ?_ (fun J12 => ?_)
  · intro j12
    show Go p.tables e below _ (s₁.setTop (mkF m 12 #[.val (.long q1), .second, .val (.long q2), .second, .val (.long q3), .second, .val (.int pf), .unset, .unset, .unset, .unset, .unset, .unset, .unset, .unset] [(.long j12)]))
    refine Go.st (fun _ k => XS.lstore X0.here hx rfl (hb hby at_12) rfl (l' := #[.val (.long q1), .second, .val (.long q2), .second, .val (.long q3), .second, .val (.int pf), .val (.long j12), .second, .unset, .unset, .unset, .unset, .unset, .unset]) rfl k) ?_
    show Go p.tables e below _ (s₁.setTop (mkF m 14 #[.val (.long q1), .second, .val (.long q2), .second, .val (.long q3), .second, .val (.int pf), .val (.long j12), .second, .unset, .unset, .unset, .unset, .unset, .unset] []))
    show Go p.tables e below _ (s₁.setTop (mkF m 14 #[.val (.long q1), .second, .val (.long q2), .second, .val (.long q3), .second, .val (.int pf), .val (.long j12), .second, .unset, .unset, .unset, .unset, .unset, .unset] []))
    refine Go.st (fun _ k => XS.iload X0.here hx rfl (hb hby at_14) rfl k) ?_
    show Go p.tables e below _ (s₁.setTop (mkF m 16 #[.val (.long q1), .second, .val (.long q2), .second, .val (.long q3), .second, .val (.int pf), .val (.long j12), .second, .unset, .unset, .unset, .unset, .unset, .unset] [(.int pf)]))
    refine Go.st (fun _ k => XS.iconst X0.here hx rfl (hb hby at_16) k) ?_
    show Go p.tables e below _ (s₁.setTop (mkF m 17 #[.val (.long q1), .second, .val (.long q2), .second, .val (.long q3), .second, .val (.int pf), .val (.long j12), .second, .unset, .unset, .unset, .unset, .unset, .unset] [(.int (2 : Int32)), (.int pf)]))
    refine Go.st (fun _ k => XS.iand X0.here hx rfl (hb hby at_17) rfl k) ?_
    show Go p.tables e below _ (s₁.setTop (mkF m 18 #[.val (.long q1), .second, .val (.long q2), .second, .val (.long q3), .second, .val (.int pf), .val (.long j12), .second, .unset, .unset, .unset, .unset, .unset, .unset] [(.int (pf &&& (2 : Int32)))]))
    refine Go.join (F := fun j26 : Int64 => s₁.setTop (mkF m 26 #[.val (.long q1), .second, .val (.long q2), .second, .val (.long q3), .second, .val (.int pf), .val (.long j12), .second, .unset, .unset, .unset, .unset, .unset, .unset] [(.long j26)])) ?_ (fun J26 => ?_)
    · intro j26
      show Go p.tables e below _ (s₁.setTop (mkF m 26 #[.val (.long q1), .second, .val (.long q2), .second, .val (.long q3), .second, .val (.int pf), .val (.long j12), .second, .unset, .unset, .unset, .unset, .unset, .unset] [(.long j26)]))
      refine Go.st (fun _ k => XS.lstore X0.here hx rfl (hb hby at_26) rfl (l' := #[.val (.long q1), .second, .val (.long q2), .second, .val (.long q3), .second, .val (.int pf), .val (.long j12), .second, .val (.long j26), .second, .unset, .unset, .unset, .unset]) rfl k) ?_
      show Go p.tables e below _ (s₁.setTop (mkF m 28 #[.val (.long q1), .second, .val (.long q2), .second, .val (.long q3), .second, .val (.int pf), .val (.long j12), .second, .val (.long j26), .second, .unset, .unset, .unset, .unset] []))
      show Go p.tables e below _ (s₁.setTop (mkF m 28 #[.val (.long q1), .second, .val (.long q2), .second, .val (.long q3), .second, .val (.int pf), .val (.long j12), .second, .val (.long j26), .second, .unset, .unset, .unset, .unset] []))
      refine Go.st (fun _ k => XS.iload X0.here hx rfl (hb hby at_28) rfl k) ?_
      show Go p.tables e below _ (s₁.setTop (mkF m 30 #[.val (.long q1), .second, .val (.long q2), .second, .val (.long q3), .second, .val (.int pf), .val (.long j12), .second, .val (.long j26), .second, .unset, .unset, .unset, .unset] [(.int pf)]))
      refine Go.st (fun _ k => XS.iconst X0.here hx rfl (hb hby at_30) k) ?_
      show Go p.tables e below _ (s₁.setTop (mkF m 31 #[.val (.long q1), .second, .val (.long q2), .second, .val (.long q3), .second, .val (.int pf), .val (.long j12), .second, .val (.long j26), .second, .unset, .unset, .unset, .unset] [(.int (4 : Int32)), (.int pf)]))
      refine Go.st (fun _ k => XS.iand X0.here hx rfl (hb hby at_31) rfl k) ?_
      show Go p.tables e below _ (s₁.setTop (mkF m 32 #[.val (.long q1), .second, .val (.long q2), .second, .val (.long q3), .second, .val (.int pf), .val (.long j12), .second, .val (.long j26), .second, .unset, .unset, .unset, .unset] [(.int (pf &&& (4 : Int32)))]))
      refine Go.join (F := fun j41 : Int64 => s₁.setTop (mkF m 41 #[.val (.long q1), .second, .val (.long q2), .second, .val (.long q3), .second, .val (.int pf), .val (.long j12), .second, .val (.long j26), .second, .unset, .unset, .unset, .unset] [(.long j41)])) ?_ (fun J41 => ?_)
      · intro j41
        show Go p.tables e below _ (s₁.setTop (mkF m 41 #[.val (.long q1), .second, .val (.long q2), .second, .val (.long q3), .second, .val (.int pf), .val (.long j12), .second, .val (.long j26), .second, .unset, .unset, .unset, .unset] [(.long j41)]))
        refine Go.st (fun _ k => XS.lstore X0.here hx rfl (hb hby at_41) rfl (l' := #[.val (.long q1), .second, .val (.long q2), .second, .val (.long q3), .second, .val (.int pf), .val (.long j12), .second, .val (.long j26), .second, .val (.long j41), .second, .unset, .unset]) rfl k) ?_
        show Go p.tables e below _ (s₁.setTop (mkF m 43 #[.val (.long q1), .second, .val (.long q2), .second, .val (.long q3), .second, .val (.int pf), .val (.long j12), .second, .val (.long j26), .second, .val (.long j41), .second, .unset, .unset] []))
        show Go p.tables e below _ (s₁.setTop (mkF m 43 #[.val (.long q1), .second, .val (.long q2), .second, .val (.long q3), .second, .val (.int pf), .val (.long j12), .second, .val (.long j26), .second, .val (.long j41), .second, .unset, .unset] []))
        obtain ⟨T1, h1, X1, e1, E1, A1, D1, -, st1⟩ := newO X0 hx hZ hown (hw _ (List.mem_of_getElem? (i := 0) rfl)) (hw _ (List.mem_of_getElem? (i := 1) rfl)) (hw _ (List.mem_of_getElem? (i := 2) rfl)) e0 (g := (mkF m 43 #[.val (.long q1), .second, .val (.long q2), .second, .val (.long q3), .second, .val (.int pf), .val (.long j12), .second, .val (.long j26), .second, .val (.long j41), .second, .unset, .unset] [])) rfl (hb hby at_43) (by decide) (by decide)
        obtain ⟨b1, g1⟩ : ∃ z, z = h0.size := ⟨_, rfl⟩
        rw [← g1] at A1 D1 st1
        refine Go.st st1 ?_
        have ge2 : n0 ≤ b1 := Nat.le_trans Z0 (Nat.le_of_eq g1.symm)
        have sz3 : h0.size ≤ b1 := Nat.le_trans K0.1 (Nat.le_of_eq g1.symm)
        have Z4 : n0 ≤ h1.size := Nat.le_trans Z0 E1.1
        have K5 : Keep h0 h1 [] := K0.ext E1
        have F6 : Fld Z h1 b1 "com/example/lapsed/lapsed/QueueCounts" "pending" "J" (.long (0 : Int64)) := D1 (Or.inr (hw _ (List.mem_of_getElem? (i := 10) rfl))) (ty := .long) (by decide)
        have F7 : Fld Z h1 b1 "com/example/lapsed/lapsed/QueueCounts" "claimed" "J" (.long (0 : Int64)) := D1 (Or.inr (hw _ (List.mem_of_getElem? (i := 12) rfl))) (ty := .long) (by decide)
        have F8 : Fld Z h1 b1 "com/example/lapsed/lapsed/QueueCounts" "dead" "J" (.long (0 : Int64)) := D1 (Or.inr (hw _ (List.mem_of_getElem? (i := 14) rfl))) (ty := .long) (by decide)
        show Go p.tables e below _ (T1.setTop (mkF m 46 #[.val (.long q1), .second, .val (.long q2), .second, .val (.long q3), .second, .val (.int pf), .val (.long j12), .second, .val (.long j26), .second, .val (.long j41), .second, .unset, .unset] [(.ref b1)]))
        refine Go.st (fun _ k => XS.dup X1.here hx rfl (hb hby at_46) rfl rfl k) ?_
        show Go p.tables e below _ (T1.setTop (mkF m 47 #[.val (.long q1), .second, .val (.long q2), .second, .val (.long q3), .second, .val (.int pf), .val (.long j12), .second, .val (.long j26), .second, .val (.long j41), .second, .unset, .unset] [(.ref b1), (.ref b1)]))
        refine Go.st (fun _ k => XS.lload X1.here hx rfl (hb hby at_47) rfl k) ?_
        show Go p.tables e below _ (T1.setTop (mkF m 49 #[.val (.long q1), .second, .val (.long q2), .second, .val (.long q3), .second, .val (.int pf), .val (.long j12), .second, .val (.long j26), .second, .val (.long j41), .second, .unset, .unset] [(.long j12), (.ref b1), (.ref b1)]))
        refine Go.st (fun _ k => XS.lload X1.here hx rfl (hb hby at_49) rfl k) ?_
        show Go p.tables e below _ (T1.setTop (mkF m 51 #[.val (.long q1), .second, .val (.long q2), .second, .val (.long q3), .second, .val (.int pf), .val (.long j12), .second, .val (.long j26), .second, .val (.long j41), .second, .unset, .unset] [(.long j26), (.long j12), (.ref b1), (.ref b1)]))
        refine Go.st (fun _ k => XS.lload X1.here hx rfl (hb hby at_51) rfl k) ?_
        show Go p.tables e below _ (T1.setTop (mkF m 53 #[.val (.long q1), .second, .val (.long q2), .second, .val (.long q3), .second, .val (.int pf), .val (.long j12), .second, .val (.long j26), .second, .val (.long j41), .second, .unset, .unset] [(.long j41), (.long j26), (.long j12), (.ref b1), (.ref b1)]))
        obtain ⟨_, _, ⟨T9, L9, k9, n9⟩, -, X9, ⟨Lc9, hQ9, l9, y9, z9⟩, st9⟩ := X1.specialBack hx (y := (⟨"com/example/lapsed/lapsed/QueueCounts", "<init>", "(JJJ)V"⟩ : MethodName)) rfl hown (mvT hZ (hw _ (List.mem_of_getElem? (i := 3) rfl))) (mvT hZ (hw _ (List.mem_of_getElem? (i := 4) rfl))) (mvT hZ (hw _ (List.mem_of_getElem? (i := 5) rfl))) (by decide) (backOf (W := 1) (rm_qinit l Z a0 hw [] b1 j12 j26 j41 h1 n0 Z4 A1 F6 F7 F8 ge2) hZ (hw _ (List.mem_of_getElem? (i := 5) rfl)) (hw _ (List.mem_of_getElem? (i := 2) rfl)) (by decide) (by decide)) (g := (mkF m 53 #[.val (.long q1), .second, .val (.long q2), .second, .val (.long q3), .second, .val (.int pf), .val (.long j12), .second, .val (.long j26), .second, .val (.long j41), .second, .unset, .unset] [(.long j41), (.long j26), (.long j12), (.ref b1), (.ref b1)])) rfl (by rw [hml]; rfl) (Steps.refl _) (a := b1) (argsL := [(.long j12), (.long j26), (.long j41)]) (rest := [(.ref b1)]) (lenOf pd_0 rfl) rfl (by show 2 * 0 + _ ≤ _; exact Nat.le_of_eq rfl) (hb hby at_53) (fun _ _ => ⟨rfl, e1, (by decide : 1 + 0 ≤ _), (by decide : 3 + 0 ≤ _)⟩)
        dsimp only [Pt.U, Pt.locs, Pt.cells, Pt.slots] at X9 l9 y9 z9 st9 hQ9
        subst l9 y9 z9
        obtain ⟨rfl, N9q, K9q, Fq9_0, Fq9_1, Fq9_2, Fq9_3⟩ := hQ9
        have N9 := Fr.app N0 N9q
        refine Go.st (fun _ k => st9.trans k) ?_
        have Z10 : n0 ≤ T9.heap.size := Nat.le_trans Z4 K9q.1
        have K11 : Keep h0 T9.heap [] := K5.trans K9q (fun z hz => (List.mem_cons.mp hz).elim (fun q => by rw [q]; exact Or.inr sz3) (fun hz => absurd hz List.not_mem_nil))
        have F12 : Exa Z T9.heap b1 "com/example/lapsed/lapsed/QueueCounts" := A1.keep K9q
        show Go p.tables e below _ (T9.setTop (mkF m 56 #[.val (.long q1), .second, .val (.long q2), .second, .val (.long q3), .second, .val (.int pf), .val (.long j12), .second, .val (.long j26), .second, .val (.long j41), .second, .unset, .unset] [(.ref b1)]))
        refine Go.st (fun _ k => XS.astore X9.here hx rfl (hb hby at_56) rfl rfl (l' := #[.val (.long q1), .second, .val (.long q2), .second, .val (.long q3), .second, .val (.int pf), .val (.long j12), .second, .val (.long j26), .second, .val (.long j41), .second, .val (.ref b1), .unset]) rfl k) ?_
        show Go p.tables e below _ (T9.setTop (mkF m 58 #[.val (.long q1), .second, .val (.long q2), .second, .val (.long q3), .second, .val (.int pf), .val (.long j12), .second, .val (.long j26), .second, .val (.long j41), .second, .val (.ref b1), .unset] []))
        show Go p.tables e below _ (T9.setTop (mkF m 58 #[.val (.long q1), .second, .val (.long q2), .second, .val (.long q3), .second, .val (.int pf), .val (.long j12), .second, .val (.long j26), .second, .val (.long j41), .second, .val (.ref b1), .unset] []))
        refine Go.st (fun _ k => XS.lload X9.here hx rfl (hb hby at_58) rfl k) ?_
        show Go p.tables e below _ (T9.setTop (mkF m 60 #[.val (.long q1), .second, .val (.long q2), .second, .val (.long q3), .second, .val (.int pf), .val (.long j12), .second, .val (.long j26), .second, .val (.long j41), .second, .val (.ref b1), .unset] [(.long j12)]))
        refine Go.st (fun _ k => XS.lload X9.here hx rfl (hb hby at_60) rfl k) ?_
        show Go p.tables e below _ (T9.setTop (mkF m 62 #[.val (.long q1), .second, .val (.long q2), .second, .val (.long q3), .second, .val (.int pf), .val (.long j12), .second, .val (.long j26), .second, .val (.long j41), .second, .val (.ref b1), .unset] [(.long j26), (.long j12)]))
        refine Go.st (fun _ k => XS.lor X9.here hx rfl (hb hby at_62) rfl k) ?_
        show Go p.tables e below _ (T9.setTop (mkF m 63 #[.val (.long q1), .second, .val (.long q2), .second, .val (.long q3), .second, .val (.int pf), .val (.long j12), .second, .val (.long j26), .second, .val (.long j41), .second, .val (.ref b1), .unset] [(.long (j12 ||| j26))]))
        refine Go.st (fun _ k => XS.lload X9.here hx rfl (hb hby at_63) rfl k) ?_
        show Go p.tables e below _ (T9.setTop (mkF m 65 #[.val (.long q1), .second, .val (.long q2), .second, .val (.long q3), .second, .val (.int pf), .val (.long j12), .second, .val (.long j26), .second, .val (.long j41), .second, .val (.ref b1), .unset] [(.long j41), (.long (j12 ||| j26))]))
        refine Go.st (fun _ k => XS.lor X9.here hx rfl (hb hby at_65) rfl k) ?_
        show Go p.tables e below _ (T9.setTop (mkF m 66 #[.val (.long q1), .second, .val (.long q2), .second, .val (.long q3), .second, .val (.int pf), .val (.long j12), .second, .val (.long j26), .second, .val (.long j41), .second, .val (.ref b1), .unset] [(.long ((j12 ||| j26) ||| j41))]))
        refine Go.st (fun _ k => XS.lconst X9.here hx rfl (hb hby at_66) k) ?_
        show Go p.tables e below _ (T9.setTop (mkF m 67 #[.val (.long q1), .second, .val (.long q2), .second, .val (.long q3), .second, .val (.int pf), .val (.long j12), .second, .val (.long j26), .second, .val (.long j41), .second, .val (.ref b1), .unset] [(.long (0 : Int64)), (.long ((j12 ||| j26) ||| j41))]))
        refine Go.st (fun _ k => Jvm.Free.XT.lcmp X9.here hx rfl (hb hby at_67) rfl k) ?_
        show Go p.tables e below _ (T9.setTop (mkF m 68 #[.val (.long q1), .second, .val (.long q2), .second, .val (.long q3), .second, .val (.int pf), .val (.long j12), .second, .val (.long j26), .second, .val (.long j41), .second, .val (.ref b1), .unset] [(.int (Jvm.Free.XT.cmpL ((j12 ||| j26) ||| j41) (0 : Int64)))]))
        by_cases hc68 : ((j12 ||| j26) ||| j41) = (0 : Int64)
        · skip
          refine Go.st (fun _ k => XS.ifNo X9.here hx rfl (hb hby at_68) rfl (Jvm.Free.XT.ll_ne_f hc68) k) ?_
          show Go p.tables e below _ (T9.setTop (mkF m 71 #[.val (.long q1), .second, .val (.long q2), .second, .val (.long q3), .second, .val (.int pf), .val (.long j12), .second, .val (.long j26), .second, .val (.long j41), .second, .val (.ref b1), .unset] []))
          refine Go.st (fun _ k => XS.iconst X9.here hx rfl (hb hby at_71) k) ?_
          show Go p.tables e below _ (T9.setTop (mkF m 72 #[.val (.long q1), .second, .val (.long q2), .second, .val (.long q3), .second, .val (.int pf), .val (.long j12), .second, .val (.long j26), .second, .val (.long j41), .second, .val (.ref b1), .unset] [(.int (1 : Int32))]))
          refine Go.st (fun _ k => XS.goto X9.here hx rfl (pc0 := 72) (pc' := 76) rfl (hb hby at_72) (by decide) (by decide) k) ?_
          show Go p.tables e below _ (T9.setTop (mkF m 76 #[.val (.long q1), .second, .val (.long q2), .second, .val (.long q3), .second, .val (.int pf), .val (.long j12), .second, .val (.long j26), .second, .val (.long j41), .second, .val (.ref b1), .unset] [(.int (1 : Int32))]))
          refine Go.st (fun _ k => XS.istore X9.here hx rfl (hb hby at_76) rfl (l' := #[.val (.long q1), .second, .val (.long q2), .second, .val (.long q3), .second, .val (.int pf), .val (.long j12), .second, .val (.long j26), .second, .val (.long j41), .second, .val (.ref b1), .val (.int (1 : Int32))]) rfl k) ?_
          show Go p.tables e below _ (T9.setTop (mkF m 78 #[.val (.long q1), .second, .val (.long q2), .second, .val (.long q3), .second, .val (.int pf), .val (.long j12), .second, .val (.long j26), .second, .val (.long j41), .second, .val (.ref b1), .val (.int (1 : Int32))] []))
          show Go p.tables e below _ (T9.setTop (mkF m 78 #[.val (.long q1), .second, .val (.long q2), .second, .val (.long q3), .second, .val (.int pf), .val (.long j12), .second, .val (.long j26), .second, .val (.long j41), .second, .val (.ref b1), .val (.int (1 : Int32))] []))
          refine Go.st (fun _ k => XS.aload X9.here hx rfl (hb hby at_78) rfl rfl k) ?_
          show Go p.tables e below _ (T9.setTop (mkF m 80 #[.val (.long q1), .second, .val (.long q2), .second, .val (.long q3), .second, .val (.int pf), .val (.long j12), .second, .val (.long j26), .second, .val (.long j41), .second, .val (.ref b1), .val (.int (1 : Int32))] [(.ref b1)]))
          obtain ⟨cq13, kq13, q13a, q13b, q13c⟩ := isOf hZ (rfl : T9.heap = T9.heap) Fq9_0
          obtain ⟨_, _, ⟨T13, L13, k13, n13⟩, -, X13, ⟨Lc13, hQ13, l13, y13, z13⟩, st13⟩ := X9.virtualBack hx (y := (⟨"com/example/lapsed/lapsed/QueueCounts", "holdsNone", "()Z"⟩ : MethodName)) (z := (⟨"com/example/lapsed/lapsed/QueueCounts", "holdsNone", "()Z"⟩ : MethodName)) hown (mvT hZ (hw _ (List.mem_of_getElem? (i := 15) rfl))) (mvT hZ (hw _ (List.mem_of_getElem? (i := 16) rfl))) (notFace_of_selects (args := #[]) (mvT hZ (hw _ (List.mem_of_getElem? (i := 18) rfl)))) (mvT hZ (hw _ (List.mem_of_getElem? (i := 18) rfl))) (mvT hZ (hw _ (List.mem_of_getElem? (i := 17) rfl))) (by decide) (backOf (W := 0) (rm_hnone l Z a0 hw [] b1 j12 j26 j41 T9.heap n0 Z10 Fq9_1 Fq9_2 Fq9_3) hZ (hw _ (List.mem_of_getElem? (i := 19) rfl)) (hw _ (List.mem_of_getElem? (i := 2) rfl)) (by decide) (by decide)) q13a q13c (g := (mkF m 80 #[.val (.long q1), .second, .val (.long q2), .second, .val (.long q3), .second, .val (.int pf), .val (.long j12), .second, .val (.long j26), .second, .val (.long j41), .second, .val (.ref b1), .val (.int (1 : Int32))] [(.ref b1)])) rfl (by rw [hml]; rfl) (Steps.refl _) (argsL := []) (rest := []) (lenOf pd_1 rfl) rfl (by show 2 * 0 + _ ≤ _; exact Nat.le_of_eq rfl) (hb hby at_80) (fun _ _ => ⟨rfl, (rfl : T9.heap = T9.heap), (by decide : 1 + 0 ≤ _), (by decide : 3 + 0 ≤ _)⟩)
          dsimp only [Pt.U, Pt.locs, Pt.cells, Pt.slots] at X13 l13 y13 z13 st13 hQ13
          subst l13 y13 z13
          obtain ⟨rfl, N13q, e13⟩ := hQ13
          have N13 := Fr.app N9 N13q
          refine Go.st (fun _ k => st13.trans k) ?_
          show Go p.tables e below _ (T13.setTop (mkF m 83 #[.val (.long q1), .second, .val (.long q2), .second, .val (.long q3), .second, .val (.int pf), .val (.long j12), .second, .val (.long j26), .second, .val (.long j41), .second, .val (.ref b1), .val (.int (1 : Int32))] [(.int (hnF j12 j26 j41))]))
          refine Go.st (fun _ k => XS.iload X13.here hx rfl (hb hby at_83) rfl k) ?_
          show Go p.tables e below _ (T13.setTop (mkF m 85 #[.val (.long q1), .second, .val (.long q2), .second, .val (.long q3), .second, .val (.int pf), .val (.long j12), .second, .val (.long j26), .second, .val (.long j41), .second, .val (.ref b1), .val (.int (1 : Int32))] [(.int (1 : Int32)), (.int (hnF j12 j26 j41))]))
          have hc85 : (hnF j12 j26 j41) = (1 : Int32) := (own_or _ _ _).1 hc68
          refine Go.st (fun _ k => XS.icmpNo X13.here hx rfl (hb hby at_85) rfl (Jvm.Free.XT.ii_ne_f hc85) k) ?_
          show Go p.tables e below _ (T13.setTop (mkF m 88 #[.val (.long q1), .second, .val (.long q2), .second, .val (.long q3), .second, .val (.int pf), .val (.long j12), .second, .val (.long j26), .second, .val (.long j41), .second, .val (.ref b1), .val (.int (1 : Int32))] []))
          refine Go.st (fun _ k => XS.iconst X13.here hx rfl (hb hby at_88) k) ?_
          show Go p.tables e below _ (T13.setTop (mkF m 89 #[.val (.long q1), .second, .val (.long q2), .second, .val (.long q3), .second, .val (.int pf), .val (.long j12), .second, .val (.long j26), .second, .val (.long j41), .second, .val (.ref b1), .val (.int (1 : Int32))] [(.int (1 : Int32))]))
          refine Go.st (fun _ k => XS.goto X13.here hx rfl (pc0 := 89) (pc' := 93) rfl (hb hby at_89) (by decide) (by decide) k) ?_
          show Go p.tables e below _ (T13.setTop (mkF m 93 #[.val (.long q1), .second, .val (.long q2), .second, .val (.long q3), .second, .val (.int pf), .val (.long j12), .second, .val (.long j26), .second, .val (.long j41), .second, .val (.ref b1), .val (.int (1 : Int32))] [(.int (1 : Int32))]))
          subst hG
          obtain ⟨fs, hr, hrun, hended, hW, hsame⟩ := X13.leave (v := some (.int (nar .boolean (1 : Int32)))) (fun h => by rw [Bd.returns] at h; cases h)
          refine ⟨_, _, ?_, hrun, hended, _, _, rfl, ?_, ⟨_, rfl⟩, hW, hsame.mono (by decide) (by decide)⟩
          · exact retN X13 hx (t := .boolean) Bd.returns (by simp) (hb hby at_93) hr
          · show Q_law Z q1 q2 q3 pf h0 n0 _ T13.heap _
            rw [e13]
            exact ⟨rfl, N13, K11⟩
        · skip
          refine Go.st (fun _ k => XS.ifYes X9.here hx rfl (pc0 := 68) (pc' := 75) rfl (hb hby at_68) rfl (Jvm.Free.XT.ll_ne_t hc68) (by decide) (by decide) k) ?_
          show Go p.tables e below _ (T9.setTop (mkF m 75 #[.val (.long q1), .second, .val (.long q2), .second, .val (.long q3), .second, .val (.int pf), .val (.long j12), .second, .val (.long j26), .second, .val (.long j41), .second, .val (.ref b1), .unset] []))
          refine Go.st (fun _ k => XS.iconst X9.here hx rfl (hb hby at_75) k) ?_
          show Go p.tables e below _ (T9.setTop (mkF m 76 #[.val (.long q1), .second, .val (.long q2), .second, .val (.long q3), .second, .val (.int pf), .val (.long j12), .second, .val (.long j26), .second, .val (.long j41), .second, .val (.ref b1), .unset] [(.int (0 : Int32))]))
          refine Go.st (fun _ k => XS.istore X9.here hx rfl (hb hby at_76) rfl (l' := #[.val (.long q1), .second, .val (.long q2), .second, .val (.long q3), .second, .val (.int pf), .val (.long j12), .second, .val (.long j26), .second, .val (.long j41), .second, .val (.ref b1), .val (.int (0 : Int32))]) rfl k) ?_
          show Go p.tables e below _ (T9.setTop (mkF m 78 #[.val (.long q1), .second, .val (.long q2), .second, .val (.long q3), .second, .val (.int pf), .val (.long j12), .second, .val (.long j26), .second, .val (.long j41), .second, .val (.ref b1), .val (.int (0 : Int32))] []))
          show Go p.tables e below _ (T9.setTop (mkF m 78 #[.val (.long q1), .second, .val (.long q2), .second, .val (.long q3), .second, .val (.int pf), .val (.long j12), .second, .val (.long j26), .second, .val (.long j41), .second, .val (.ref b1), .val (.int (0 : Int32))] []))
          refine Go.st (fun _ k => XS.aload X9.here hx rfl (hb hby at_78) rfl rfl k) ?_
          show Go p.tables e below _ (T9.setTop (mkF m 80 #[.val (.long q1), .second, .val (.long q2), .second, .val (.long q3), .second, .val (.int pf), .val (.long j12), .second, .val (.long j26), .second, .val (.long j41), .second, .val (.ref b1), .val (.int (0 : Int32))] [(.ref b1)]))
          obtain ⟨cq14, kq14, q14a, q14b, q14c⟩ := isOf hZ (rfl : T9.heap = T9.heap) Fq9_0
          obtain ⟨_, _, ⟨T14, L14, k14, n14⟩, -, X14, ⟨Lc14, hQ14, l14, y14, z14⟩, st14⟩ := X9.virtualBack hx (y := (⟨"com/example/lapsed/lapsed/QueueCounts", "holdsNone", "()Z"⟩ : MethodName)) (z := (⟨"com/example/lapsed/lapsed/QueueCounts", "holdsNone", "()Z"⟩ : MethodName)) hown (mvT hZ (hw _ (List.mem_of_getElem? (i := 15) rfl))) (mvT hZ (hw _ (List.mem_of_getElem? (i := 16) rfl))) (notFace_of_selects (args := #[]) (mvT hZ (hw _ (List.mem_of_getElem? (i := 18) rfl)))) (mvT hZ (hw _ (List.mem_of_getElem? (i := 18) rfl))) (mvT hZ (hw _ (List.mem_of_getElem? (i := 17) rfl))) (by decide) (backOf (W := 0) (rm_hnone l Z a0 hw [] b1 j12 j26 j41 T9.heap n0 Z10 Fq9_1 Fq9_2 Fq9_3) hZ (hw _ (List.mem_of_getElem? (i := 19) rfl)) (hw _ (List.mem_of_getElem? (i := 2) rfl)) (by decide) (by decide)) q14a q14c (g := (mkF m 80 #[.val (.long q1), .second, .val (.long q2), .second, .val (.long q3), .second, .val (.int pf), .val (.long j12), .second, .val (.long j26), .second, .val (.long j41), .second, .val (.ref b1), .val (.int (0 : Int32))] [(.ref b1)])) rfl (by rw [hml]; rfl) (Steps.refl _) (argsL := []) (rest := []) (lenOf pd_1 rfl) rfl (by show 2 * 0 + _ ≤ _; exact Nat.le_of_eq rfl) (hb hby at_80) (fun _ _ => ⟨rfl, (rfl : T9.heap = T9.heap), (by decide : 1 + 0 ≤ _), (by decide : 3 + 0 ≤ _)⟩)
          dsimp only [Pt.U, Pt.locs, Pt.cells, Pt.slots] at X14 l14 y14 z14 st14 hQ14
          subst l14 y14 z14
          obtain ⟨rfl, N14q, e14⟩ := hQ14
          have N14 := Fr.app N9 N14q
          refine Go.st (fun _ k => st14.trans k) ?_
          show Go p.tables e below _ (T14.setTop (mkF m 83 #[.val (.long q1), .second, .val (.long q2), .second, .val (.long q3), .second, .val (.int pf), .val (.long j12), .second, .val (.long j26), .second, .val (.long j41), .second, .val (.ref b1), .val (.int (0 : Int32))] [(.int (hnF j12 j26 j41))]))
          refine Go.st (fun _ k => XS.iload X14.here hx rfl (hb hby at_83) rfl k) ?_
          show Go p.tables e below _ (T14.setTop (mkF m 85 #[.val (.long q1), .second, .val (.long q2), .second, .val (.long q3), .second, .val (.int pf), .val (.long j12), .second, .val (.long j26), .second, .val (.long j41), .second, .val (.ref b1), .val (.int (0 : Int32))] [(.int (0 : Int32)), (.int (hnF j12 j26 j41))]))
          have hc85 : (hnF j12 j26 j41) = (0 : Int32) := (own_or _ _ _).2 hc68
          refine Go.st (fun _ k => XS.icmpNo X14.here hx rfl (hb hby at_85) rfl (Jvm.Free.XT.ii_ne_f hc85) k) ?_
          show Go p.tables e below _ (T14.setTop (mkF m 88 #[.val (.long q1), .second, .val (.long q2), .second, .val (.long q3), .second, .val (.int pf), .val (.long j12), .second, .val (.long j26), .second, .val (.long j41), .second, .val (.ref b1), .val (.int (0 : Int32))] []))
          refine Go.st (fun _ k => XS.iconst X14.here hx rfl (hb hby at_88) k) ?_
          show Go p.tables e below _ (T14.setTop (mkF m 89 #[.val (.long q1), .second, .val (.long q2), .second, .val (.long q3), .second, .val (.int pf), .val (.long j12), .second, .val (.long j26), .second, .val (.long j41), .second, .val (.ref b1), .val (.int (0 : Int32))] [(.int (1 : Int32))]))
          refine Go.st (fun _ k => XS.goto X14.here hx rfl (pc0 := 89) (pc' := 93) rfl (hb hby at_89) (by decide) (by decide) k) ?_
          show Go p.tables e below _ (T14.setTop (mkF m 93 #[.val (.long q1), .second, .val (.long q2), .second, .val (.long q3), .second, .val (.int pf), .val (.long j12), .second, .val (.long j26), .second, .val (.long j41), .second, .val (.ref b1), .val (.int (0 : Int32))] [(.int (1 : Int32))]))
          subst hG
          obtain ⟨fs, hr, hrun, hended, hW, hsame⟩ := X14.leave (v := some (.int (nar .boolean (1 : Int32)))) (fun h => by rw [Bd.returns] at h; cases h)
          refine ⟨_, _, ?_, hrun, hended, _, _, rfl, ?_, ⟨_, rfl⟩, hW, hsame.mono (by decide) (by decide)⟩
          · exact retN X14 hx (t := .boolean) Bd.returns (by simp) (hb hby at_93) hr
          · show Q_law Z q1 q2 q3 pf h0 n0 _ T14.heap _
            rw [e14]
            exact ⟨rfl, N14, K11⟩
      by_cases hc32 : (pf &&& (4 : Int32)) = (0 : Int32)
      · skip
        refine Go.st (fun _ k => XS.ifYes X0.here hx rfl (pc0 := 32) (pc' := 39) rfl (hb hby at_32) rfl (Jvm.Free.XT.i0_eq_t hc32) (by decide) (by decide) k) ?_
        show Go p.tables e below _ (s₁.setTop (mkF m 39 #[.val (.long q1), .second, .val (.long q2), .second, .val (.long q3), .second, .val (.int pf), .val (.long j12), .second, .val (.long j26), .second, .unset, .unset, .unset, .unset] []))
        refine Go.st (fun _ k => XS.lload X0.here hx rfl (hb hby at_39) rfl k) ?_
        show Go p.tables e below _ (s₁.setTop (mkF m 41 #[.val (.long q1), .second, .val (.long q2), .second, .val (.long q3), .second, .val (.int pf), .val (.long j12), .second, .val (.long j26), .second, .unset, .unset, .unset, .unset] [(.long q3)]))
        exact J41 _
      · skip
        refine Go.st (fun _ k => XS.ifNo X0.here hx rfl (hb hby at_32) rfl (Jvm.Free.XT.i0_eq_f hc32) k) ?_
        show Go p.tables e below _ (s₁.setTop (mkF m 35 #[.val (.long q1), .second, .val (.long q2), .second, .val (.long q3), .second, .val (.int pf), .val (.long j12), .second, .val (.long j26), .second, .unset, .unset, .unset, .unset] []))
        refine Go.st (fun _ k => XS.lconst X0.here hx rfl (hb hby at_35) k) ?_
        show Go p.tables e below _ (s₁.setTop (mkF m 36 #[.val (.long q1), .second, .val (.long q2), .second, .val (.long q3), .second, .val (.int pf), .val (.long j12), .second, .val (.long j26), .second, .unset, .unset, .unset, .unset] [(.long (0 : Int64))]))
        refine Go.st (fun _ k => XS.goto X0.here hx rfl (pc0 := 36) (pc' := 41) rfl (hb hby at_36) (by decide) (by decide) k) ?_
        show Go p.tables e below _ (s₁.setTop (mkF m 41 #[.val (.long q1), .second, .val (.long q2), .second, .val (.long q3), .second, .val (.int pf), .val (.long j12), .second, .val (.long j26), .second, .unset, .unset, .unset, .unset] [(.long (0 : Int64))]))
        exact J41 _
    by_cases hc18 : (pf &&& (2 : Int32)) = (0 : Int32)
    · skip
      refine Go.st (fun _ k => XS.ifYes X0.here hx rfl (pc0 := 18) (pc' := 25) rfl (hb hby at_18) rfl (Jvm.Free.XT.i0_eq_t hc18) (by decide) (by decide) k) ?_
      show Go p.tables e below _ (s₁.setTop (mkF m 25 #[.val (.long q1), .second, .val (.long q2), .second, .val (.long q3), .second, .val (.int pf), .val (.long j12), .second, .unset, .unset, .unset, .unset, .unset, .unset] []))
      refine Go.st (fun _ k => XS.lloadN X0.here hx rfl (hb hby at_25) rfl k) ?_
      show Go p.tables e below _ (s₁.setTop (mkF m 26 #[.val (.long q1), .second, .val (.long q2), .second, .val (.long q3), .second, .val (.int pf), .val (.long j12), .second, .unset, .unset, .unset, .unset, .unset, .unset] [(.long q2)]))
      exact J26 _
    · skip
      refine Go.st (fun _ k => XS.ifNo X0.here hx rfl (hb hby at_18) rfl (Jvm.Free.XT.i0_eq_f hc18) k) ?_
      show Go p.tables e below _ (s₁.setTop (mkF m 21 #[.val (.long q1), .second, .val (.long q2), .second, .val (.long q3), .second, .val (.int pf), .val (.long j12), .second, .unset, .unset, .unset, .unset, .unset, .unset] []))
      refine Go.st (fun _ k => XS.lconst X0.here hx rfl (hb hby at_21) k) ?_
      show Go p.tables e below _ (s₁.setTop (mkF m 22 #[.val (.long q1), .second, .val (.long q2), .second, .val (.long q3), .second, .val (.int pf), .val (.long j12), .second, .unset, .unset, .unset, .unset, .unset, .unset] [(.long (0 : Int64))]))
      refine Go.st (fun _ k => XS.goto X0.here hx rfl (pc0 := 22) (pc' := 26) rfl (hb hby at_22) (by decide) (by decide) k) ?_
      show Go p.tables e below _ (s₁.setTop (mkF m 26 #[.val (.long q1), .second, .val (.long q2), .second, .val (.long q3), .second, .val (.int pf), .val (.long j12), .second, .unset, .unset, .unset, .unset, .unset, .unset] [(.long (0 : Int64))]))
      exact J26 _
  by_cases hc4 : (pf &&& (1 : Int32)) = (0 : Int32)
  · skip
    refine Go.st (fun _ k => XS.ifYes X0.here hx rfl (pc0 := 4) (pc' := 11) rfl (hb hby at_4) rfl (Jvm.Free.XT.i0_eq_t hc4) (by decide) (by decide) k) ?_
    show Go p.tables e below _ (s₁.setTop (mkF m 11 #[.val (.long q1), .second, .val (.long q2), .second, .val (.long q3), .second, .val (.int pf), .unset, .unset, .unset, .unset, .unset, .unset, .unset, .unset] []))
    refine Go.st (fun _ k => XS.lloadN X0.here hx rfl (hb hby at_11) rfl k) ?_
    show Go p.tables e below _ (s₁.setTop (mkF m 12 #[.val (.long q1), .second, .val (.long q2), .second, .val (.long q3), .second, .val (.int pf), .unset, .unset, .unset, .unset, .unset, .unset, .unset, .unset] [(.long q1)]))
    exact J12 _
  · skip
    refine Go.st (fun _ k => XS.ifNo X0.here hx rfl (hb hby at_4) rfl (Jvm.Free.XT.i0_eq_f hc4) k) ?_
    show Go p.tables e below _ (s₁.setTop (mkF m 7 #[.val (.long q1), .second, .val (.long q2), .second, .val (.long q3), .second, .val (.int pf), .unset, .unset, .unset, .unset, .unset, .unset, .unset, .unset] []))
    refine Go.st (fun _ k => XS.lconst X0.here hx rfl (hb hby at_7) k) ?_
    show Go p.tables e below _ (s₁.setTop (mkF m 8 #[.val (.long q1), .second, .val (.long q2), .second, .val (.long q3), .second, .val (.int pf), .unset, .unset, .unset, .unset, .unset, .unset, .unset, .unset] [(.long (0 : Int64))]))
    refine Go.st (fun _ k => XS.goto X0.here hx rfl (pc0 := 8) (pc' := 12) rfl (hb hby at_8) (by decide) (by decide) k) ?_
    show Go p.tables e below _ (s₁.setTop (mkF m 12 #[.val (.long q1), .second, .val (.long q2), .second, .val (.long q3), .second, .val (.int pf), .unset, .unset, .unset, .unset, .unset, .unset, .unset, .unset] [(.long (0 : Int64))]))
    exact J12 _
set_option maxRecDepth 65536 in
set_option maxHeartbeats 40000000 in
theorem comes_1 {Post : Tables → Env → Array Value → State → Outcome → State → Prop} (hpost : ∀ tb e args s v u, (limb_1_1.after args s (.returned v) u = true ∧ limb_1_2.after args s (.returned v) u = true ∧ True) → FrameEnd s (.returned v) u (Jvm.fieldLocs frame_1_writes args s ++ Jvm.arrayLocs frame_1_arrays args s ++ Jvm.staticLocs frame_1_statics s) 16 128 → Post tb e args s (.returned v) u) :
    ArmFor flags0 classFile x code maxLocals ret World_1 tables_1 room_1 Calls_1 rest_1 Pre_1 Post := by
  intro l hfl _ _ p e ha hc hk s m args below hf hA hF happ hP
  obtain ⟨hcalls, hrest, hpre⟩ := hP
  obtain ⟨-, -, -, hnamed, -, -, -, hat⟩ := (Spec.applies_iff hf).mp happ
  obtain ⟨hg, hn⟩ := and_e (Cond.before_iff.mp (show (Jvm.Cond.and given_1 narrow_1).before args s = true from hpre))
  obtain ⟨hcount, hg0⟩ := and_e hg
  obtain ⟨hv0, hg1⟩ := and_e hg0
  obtain ⟨hv1, hg2⟩ := and_e hg1
  obtain ⟨hv2, hg3⟩ := and_e hg2
  obtain ⟨w0, w1, w2, w3, rfl⟩ : ∃ w0 w1 w2 w3 : Value, args = #[w0, w1, w2, w3] := by
    have hs : args.size = 4 := by simpa [Cond.value, given_1] using hcount
    obtain ⟨L⟩ := args
    match L, hs with
    | [w0, w1, w2, w3], _ => exact ⟨w0, w1, w2, w3, rfl⟩
  have hw := fun d (hd : d ∈ tables_1) => atoms_spec (ws := Jvm.Cond.code x code maxLocals ret :: tables_1) hat d (List.mem_cons_of_mem _ hd)
  have hfit : Fit s := fun {y c} hc i hi => by
    obtain ⟨ha, rfl⟩ := Array.getElem?_eq_some_iff.mp hc
    have q := List.all_eq_true.mp ((Array.all_eq_true_iff_forall_mem.mp hF) _ (Array.getElem_mem ha)) i (List.mem_range.mpr hi)
    simpa [Array.getElem?_eq_getElem hi] using q
  obtain ⟨i0, ei0⟩ := isL_v hv0
  obtain rfl : w0 = (.long i0) := Option.some.inj ei0
  obtain ⟨i1, ei1⟩ := isL_v hv1
  obtain rfl : w1 = (.long i1) := Option.some.inj ei1
  obtain ⟨i2, ei2⟩ := isL_v hv2
  obtain rfl : w2 = (.long i2) := Option.some.inj ei2
  obtain ⟨i3, ei3⟩ := is_v hg3
  obtain rfl : w3 = (.int i3) := Option.some.inj ei3
  obtain ⟨n, o, h1, h2, h3, _, L, rfl, ⟨rfl, N, -⟩, hq⟩ := rm_law l s _ hw tables_1 i0 i1 i2 i3 s.heap s.heap.size (Nat.le_refl _)  p e ha hc hk s m _ below hf ((Spec.applies_iff_loose hf).mp happ).1 ⟨rfl, State.Warmed39.refl s, rfl⟩ trivial
  refine ⟨n, _, h1, h2, h3, hpost _ _ _ _ _ _ ⟨Cond.after_iff.mpr rfl, Cond.after_iff.mpr (eq_i res_at (Term.int_eval (1)) rfl), trivial⟩ ⟨hq.1, hq.2.1, (hq.2.2.sift fun y hy => Or.inr (N y hy)).mono (by decide) (by decide)⟩⟩
theorem main_1_1 : Claimed_1_1 := comes_1 fun _ _ _ _ _ _ h hF => ⟨h.1, hF⟩
theorem main_1_2 : Claimed_1_2 := comes_1 fun _ _ _ _ _ _ h hF => ⟨h.2.1, hF⟩
end Jvm.Pilot.@@N@@
namespace Jvm.Pilot.@@N@@
open Jvm Jvm.ClassFile Sem Op Lib Jvm.Free Jvm.Stand Jvm.Pilot.@@N@@.Jvm.D
/-! MADE BY PROGRAM (witnessworld.py) out of the Statement's table words and the real class files: 7 classes; the members and pool entries that the words name. The judged class is class 1, her method 1. -/
namespace start1
open Jvm.ClassFile
def u (s : String) : CpInfo := .utf8 (stringToUtf16 s)
/-- a pool by its gaps: so many unusable entries, then the entry; so many at the end -/
def gap : Nat → List CpInfo → List CpInfo
  | 0, r => r
  | n + 1, r => .unusable :: gap n r
def poolList (es : List (Nat × CpInfo)) (last : Nat) : List CpInfo := es.foldr (fun e r => gap e.1 (e.2 :: r)) (gap last [])
def pool (es : List (Nat × CpInfo)) (last : Nat) : Array CpInfo := ⟨poolList es last⟩
def fileOf (pool : Array CpInfo) (this : Nat) (attrs : Array Attribute := #[]) (ms : Array MethodInfo := #[]) (fl : Nat := 33) (sup : Nat := 0) (ifs : Array Nat := #[]) (fds : Array FieldInfo := #[]) : ClassFile where
  minorVersion := 0
  majorVersion := 65
  constantPool := pool
  accessFlags := fl
  thisClass := this
  superClass := sup
  interfaces := ifs
  fields := fds
  methods := ms
  attributes := attrs
def plain (name : String) (sup : Option ClassId) : Class where
  name := name
  kind := .ordinary
  loader := none
  accessFlags := 33
  super := sup
  interfaces := #[]
  cf := none
  fields := #[]
  methods := #[]
  instanceTypes := #[]
  staticTypes := #[]
  resolved := #[]
  callSites := []
  init := .initialized
  statics := none
  mirror := none

def pool0 : Array CpInfo := pool [(5, u "<init>"), (0, u "()V"), (1, .class_ 10), (1, u "java/lang/Object")] 113

def k0c0 : Code := { maxStack := 0, maxLocals := 1, code := object_method_1_code, exceptionTable := #[], attributes := #[] }
def k0m0 : Method := { name := "<init>", desc := "()V", sig := { parameters := [], returnType := none }, accessFlags := 1, code := some k0c0 }
/-- java/lang/Object -/
def k0 : Class := { plain "java/lang/Object" none with
  accessFlags := 33
  interfaces := #[]
  cf := some (fileOf pool0 8 #[] #[{ accessFlags := 1, nameIndex := 5, descriptorIndex := 6, attributes := #[] }] 33 0 #[] #[])
  fields := #[]
  methods := #[k0m0]
  instanceTypes := #[]
  staticTypes := #[]
  resolved := Array.replicate 124 none
  statics := none }

def pool1 : Array CpInfo := pool [(2, .class_ 4), (1, u "java/lang/Object"), (0, u "<init>"), (0, u "()V"), (0, .class_ 8), (0, u "com/example/lapsed/lapsed/QueueCounts"), (0, .methodref 7 10), (0, .nameAndType 5 11), (0, u "(JJJ)V"), (0, .methodref 7 13), (0, .nameAndType 14 15), (0, u "holdsNone"), (0, u "()Z"), (0, .class_ 17), (0, u "com/example/lapsed/lapsed/QueueCountsHoldsNonePinLaw"), (2, u "law"), (0, u "(JJJI)Z")] 3

def k1m0 : Method := { name := "<init>", desc := "()V", sig := { parameters := [], returnType := none }, accessFlags := 1, code := none }
def k1c1 : Code := { maxStack := 8, maxLocals := 15, code := code, exceptionTable := #[], attributes := #[] }
def k1m1 : Method := { name := "law", desc := "(JJJI)Z", sig := { parameters := [.long, .long, .long, .int], returnType := some .boolean }, accessFlags := 9, code := some k1c1 }
/-- com/example/lapsed/lapsed/QueueCountsHoldsNonePinLaw -/
def k1 : Class := { plain "com/example/lapsed/lapsed/QueueCountsHoldsNonePinLaw" (some 0) with
  accessFlags := 49
  interfaces := #[]
  cf := some (fileOf pool1 16 #[] #[{ accessFlags := 1, nameIndex := 5, descriptorIndex := 6, attributes := #[] }, { accessFlags := 9, nameIndex := 20, descriptorIndex := 21, attributes := #[] }] 49 2 #[] #[])
  fields := #[]
  methods := #[k1m0, k1m1]
  instanceTypes := #[]
  staticTypes := #[]
  resolved := Array.replicate 25 none
  statics := none }

def pool2 : Array CpInfo := pool [(1, .methodref 2 3), (0, .class_ 4), (0, .nameAndType 5 6), (0, u "java/lang/Object"), (0, u "<init>"), (0, u "()V"), (0, .fieldref 8 9), (0, .class_ 10), (0, .nameAndType 11 12), (0, u "com/example/lapsed/lapsed/QueueCounts"), (0, u "pending"), (0, u "J"), (0, .fieldref 8 14), (0, .nameAndType 15 12), (0, u "claimed"), (0, .fieldref 8 17), (0, .nameAndType 18 12), (0, u "dead"), (14, u "(JJJ)V"), (2, u "NONE"), (0, u "Lcom/example/lapsed/lapsed/QueueCounts;"), (7, u "holdsNone"), (0, u "()Z")] 4

def k2c0 : Code := { maxStack := 3, maxLocals := 7, code := prog_6_method_1_code, exceptionTable := #[], attributes := #[] }
def k2m0 : Method := { name := "<init>", desc := "(JJJ)V", sig := { parameters := [.long, .long, .long], returnType := none }, accessFlags := 0, code := some k2c0 }
def k2c1 : Code := { maxStack := 4, maxLocals := 1, code := prog_6_method_4_code, exceptionTable := #[], attributes := #[] }
def k2m1 : Method := { name := "holdsNone", desc := "()Z", sig := { parameters := [], returnType := some .boolean }, accessFlags := 0, code := some k2c1 }
/-- com/example/lapsed/lapsed/QueueCounts -/
def k2 : Class := { plain "com/example/lapsed/lapsed/QueueCounts" (some 0) with
  accessFlags := 33
  interfaces := #[]
  cf := some (fileOf pool2 8 #[] #[{ accessFlags := 0, nameIndex := 5, descriptorIndex := 33, attributes := #[] }, { accessFlags := 0, nameIndex := 45, descriptorIndex := 46, attributes := #[] }] 33 2 #[] #[{ accessFlags := 24, nameIndex := 36, descriptorIndex := 37, attributes := #[] }, { accessFlags := 18, nameIndex := 11, descriptorIndex := 12, attributes := #[] }, { accessFlags := 18, nameIndex := 15, descriptorIndex := 12, attributes := #[] }, { accessFlags := 18, nameIndex := 18, descriptorIndex := 12, attributes := #[] }])
  fields := #[{ name := "NONE", type := (.object "com/example/lapsed/lapsed/QueueCounts"), accessFlags := 24, slot := 0, constantValue := 0 }, { name := "pending", type := .long, accessFlags := 18, slot := 0, constantValue := 0 }, { name := "claimed", type := .long, accessFlags := 18, slot := 1, constantValue := 0 }, { name := "dead", type := .long, accessFlags := 18, slot := 2, constantValue := 0 }]
  methods := #[k2m0, k2m1]
  instanceTypes := #[.long, .long, .long]
  staticTypes := #[(.object "com/example/lapsed/lapsed/QueueCounts")]
  resolved := Array.replicate 51 none
  statics := none }

def pool3 : Array CpInfo := pool [(1, u "java/lang/Cloneable"), (0, .class_ 1), (0, u "java/lang/Object"), (0, .class_ 3)] 3

/-- java/lang/Cloneable -/
def k3 : Class := { plain "java/lang/Cloneable" (some 0) with
  accessFlags := 1537
  interfaces := #[]
  cf := some (fileOf pool3 2 #[] #[] 1537 4 #[] #[])
  fields := #[]
  methods := #[]
  instanceTypes := #[]
  staticTypes := #[]
  resolved := Array.replicate 8 none
  statics := none }

def pool4 : Array CpInfo := pool [(1, u "java/io/Serializable"), (0, .class_ 1), (0, u "java/lang/Object"), (0, .class_ 3)] 3

/-- java/io/Serializable -/
def k4 : Class := { plain "java/io/Serializable" (some 0) with
  accessFlags := 1537
  interfaces := #[]
  cf := some (fileOf pool4 2 #[] #[] 1537 4 #[] #[])
  fields := #[]
  methods := #[]
  instanceTypes := #[]
  staticTypes := #[]
  resolved := Array.replicate 8 none
  statics := none }

/-- the primitive byte -/
def k5 : Class := { plain "byte" none with kind := .primitive 'B', accessFlags := 0x411 }
/-- [B -/
def k6 : Class := { plain "[B" (some 0) with kind := .array 5 .byte, interfaces := #[3, 4], accessFlags := 1041 }

def heap : Heap := #[]
def classes : Array Class := #[k0, k1, k2, k3, k4, k5, k6]
def interned : List (Array UInt16 × Addr) := []
def slotsUsed : Nat := 0
def theMethod : MethodId := ⟨1, 1⟩
def args0 : Array Value := #[.long 5, .long 7, .long 0, .int 3]
def aboutOver (below : List Frame) : State where
  vm := { classes := classes, interned := interned.toArray }
  heap := heap
  slotsUsed := slotsUsed
  threads := #[{ frames := .invoking theMethod args0 :: below }]
def below0 : List Frame := [.native { method := ⟨0, 0⟩, args := #[] }]
def about1 : State := aboutOver below0
def p0 : Program := .bare "" "" ""
def e0 : Env := launch0.env 0 0 0
theorem w_frames : about1.frames = Frame.invoking theMethod args0 :: below0 := rfl
set_option maxRecDepth 65536 in
theorem w_args : argsFit about1.vm theMethod args0 = true := by decide +kernel
set_option maxRecDepth 65536 in
theorem w_heap : heapFits about1 = true := by decide +kernel
set_option maxRecDepth 65536 in
theorem w_runnable : about1.curStatus? = some .runnable := by decide +kernel
set_option maxRecDepth 65536 in
theorem w_alone : about1.alone = true := by decide +kernel
set_option maxRecDepth 65536 in
theorem w_named : about1.methodNamed? x = some theMethod := by decide +kernel
set_option maxRecDepth 65536 in
theorem w_hears : about1.hears theMethod below0 = true := by decide +kernel
set_option maxRecDepth 65536 in
theorem w_ripe : about1.ripe theMethod args0 below0 = true := by decide +kernel
theorem w_running : about1.status = .running := rfl
set_option maxRecDepth 65536 in
theorem w_room : about1.hasRoom e0.platform room_1 = true :=
  launch0.hasRoom_least _ room_1 (by decide +kernel) (by decide +kernel) (by decide +kernel) (by decide +kernel) (by decide +kernel) (by decide +kernel)
theorem allAtoms_all (ts : List Jvm.Cond) (a : Array Jvm.Value) (st : Jvm.State) : (allAtoms ts).before a st = ts.all (fun c => c.before a st) := by
  induction ts with
  | nil => rfl
  | cons c t ih =>
    show (Jvm.Cond.and c (allAtoms t)).before a st = _
    rw [Jvm.Cond.before_and, ih, List.all_cons]
def words1 : List Jvm.Cond := Jvm.Cond.code x code maxLocals ret :: tables_1
/-- a 'code' word, met by the world's own term for the bytes: nothing is compared byte by byte -/
theorem code_word {y : MethodName} {bytes : ByteArray} {mx : Nat} {rt : Option FieldType} {a : Array Value} {s : State} {m : MethodId} {meth : Method} {c : Code} (h1 : s.methodNamed? y = some m) (h2 : s.vm.method? m = some meth) (h3 : meth.code = some c) (h4 : c.code = bytes)
    (h5 : (c.maxLocals == mx && c.exceptionTable.isEmpty && decide (c.maxStack ≤ mostOperands) && decide (meth.sig.returnType = rt) && !meth.locks && decide (parseMethodDescriptor y.desc = some meth.sig)) = true) : (Jvm.Cond.code y bytes mx rt).before a s = true := by
  simp only [Bool.and_eq_true, beq_iff_eq, Bool.not_eq_true', decide_eq_true_eq] at h5
  obtain ⟨⟨⟨⟨⟨g1, g2⟩, g3⟩, g4⟩, g5⟩, g6⟩ := h5
  simp [Cond.before, Cond.holds, Cond.value, h1, h2, h3, h4, g1, g2, g3, g4, g5, g6]
def isCode : Jvm.Cond → Bool
  | .code _ _ _ _ => true
  | _ => false
theorem all_split {L : List Jvm.Cond} {P : Jvm.Cond → Bool} (h1 : L.all (fun c => isCode c || P c) = true) (h2 : ∀ c ∈ L.filter isCode, P c = true) : L.all P = true := by
  refine List.all_eq_true.mpr fun c hc => ?_
  have h := List.all_eq_true.mp h1 c hc
  rcases Bool.eq_false_or_eq_true (isCode c) with hi | hi
  · exact h2 c (List.mem_filter.mpr ⟨hc, hi⟩)
  · simpa [hi] using h
set_option maxRecDepth 65536 in
theorem w_c0 : (Jvm.Cond.code x code maxLocals ret).before args0 about1 = true := code_word (m := ⟨1, 1⟩) (meth := k1m1) (c := k1c1) (by decide +kernel) rfl rfl rfl (by decide +kernel)
set_option maxRecDepth 65536 in
theorem w_c1 : (Jvm.Cond.code ({ cls := "com/example/lapsed/lapsed/QueueCounts", name := "<init>", desc := "(JJJ)V" } : Jvm.MethodName) prog_6_method_1_code (7 : Nat) (Option.none : Option Jvm.ClassFile.FieldType)).before args0 about1 = true := code_word (m := ⟨2, 0⟩) (meth := k2m0) (c := k2c0) (by decide +kernel) rfl rfl rfl (by decide +kernel)
set_option maxRecDepth 65536 in
theorem w_c2 : (Jvm.Cond.code ({ cls := "java/lang/Object", name := "<init>", desc := "()V" } : Jvm.MethodName) object_method_1_code (1 : Nat) (Option.none : Option Jvm.ClassFile.FieldType)).before args0 about1 = true := code_word (m := ⟨0, 0⟩) (meth := k0m0) (c := k0c0) (by decide +kernel) rfl rfl rfl (by decide +kernel)
set_option maxRecDepth 65536 in
theorem w_c3 : (Jvm.Cond.code ({ cls := "com/example/lapsed/lapsed/QueueCounts", name := "holdsNone", desc := "()Z" } : Jvm.MethodName) prog_6_method_4_code (1 : Nat) (Option.some Jvm.ClassFile.FieldType.boolean)).before args0 about1 = true := code_word (m := ⟨2, 1⟩) (meth := k2m1) (c := k2c1) (by decide +kernel) rfl rfl rfl (by decide +kernel)
def codes1 : List Jvm.Cond := [Jvm.Cond.code x code maxLocals ret, Jvm.Cond.code ({ cls := "com/example/lapsed/lapsed/QueueCounts", name := "<init>", desc := "(JJJ)V" } : Jvm.MethodName) prog_6_method_1_code (7 : Nat) (Option.none : Option Jvm.ClassFile.FieldType), Jvm.Cond.code ({ cls := "java/lang/Object", name := "<init>", desc := "()V" } : Jvm.MethodName) object_method_1_code (1 : Nat) (Option.none : Option Jvm.ClassFile.FieldType), Jvm.Cond.code ({ cls := "com/example/lapsed/lapsed/QueueCounts", name := "holdsNone", desc := "()Z" } : Jvm.MethodName) prog_6_method_4_code (1 : Nat) (Option.some Jvm.ClassFile.FieldType.boolean)]
set_option maxRecDepth 65536 in
theorem codes_eq : words1.filter isCode = codes1 := rfl
theorem w_codes : ∀ c ∈ words1.filter isCode, c.before args0 about1 = true := by
  rw [codes_eq]
  intro c hc
  simp only [codes1, List.mem_cons, List.not_mem_nil, or_false] at hc
  rcases hc with rfl | rfl | rfl | rfl
  · exact w_c0
  · exact w_c1
  · exact w_c2
  · exact w_c3
set_option maxRecDepth 65536 in
theorem w_t1 : words1.all (fun c => isCode c || c.before args0 about1) = true := by decide +kernel
theorem w_tables : (allAtoms (Jvm.Cond.code x code maxLocals ret :: tables_1)).before args0 about1 = true := by
  rw [allAtoms_all]
  show words1.all (fun c => c.before args0 about1) = true
  refine all_split ?_ w_codes
  rw [w_t1]
set_option maxRecDepth 65536 in
theorem w_case : (Jvm.Cond.and given_1 narrow_1).before args0 about1 = true := by decide +kernel
theorem w_applies : (headSpec (Jvm.Cond.code x code maxLocals ret :: tables_1) room_1).applies x e0.platform about1 = true :=
  (Spec.applies_iff w_frames).mpr ⟨w_running, w_runnable, w_alone, w_named, w_hears, w_ripe, w_room, w_tables⟩
theorem atStart : AtStart classFile x code maxLocals ret World_1 tables_1 room_1 Calls_1 rest_1 Pre_1 launch0 p0 e0 about1 theMethod args0 below0 :=
  ⟨lists_1, trivial, launch0.admits_env _ _ _, launch0.least_env, fairChoices_fair.cas, fairChoices_fair.clock, w_frames, w_args, w_heap, w_applies, trivial, trivial, w_case⟩
end start1
theorem witness_1 : WitnessClaimed_1 := ⟨start1.p0, start1.e0, start1.about1, start1.theMethod, start1.args0, start1.below0, start1.atStart⟩
end Jvm.Pilot.@@N@@
