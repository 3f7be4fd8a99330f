import JvmDerived
import JvmDerived.Pilot.@@N@@Statement
import JvmDerived.Pilot.@@N@@Code
set_option linter.unusedVariables false
set_option linter.unusedSimpArgs false
@@BLOCK:NumsL.lean.txt@@
namespace Jvm.RoadKit
open Sem ClassFile Op Lib Jvm.Stand Jvm.Free Jvm.LawKit
section New
variable {p : Program} {l : Launch} {e : Env} {R : Room} {s : State} {m : MethodId} {args : Array Value} {below : List Frame} {meth : Method} {c : Code} {T : State} {locs : List Loc} {cells slots : Nat}
theorem retI (X : Stand p l e R s m args below meth c T locs cells slots) (hx : p.tables.exec = Jvm.exec) {pc : Nat} {Ls : Array Slot} {z : Int32} {rest : List Value} (hret : meth.sig.returnType = some .int) (hd : decode c.code pc = .ok (.ireturn, 1)) {fs : List Frame}
    (hl : ∀ (f : JFrame) (acts : List Action), f.method = m → f.locked = none → f.entered = [] → (doReturn e (T.setTop f) acts (some (.int z))).1 = T.setFrames fs) : Steps p.tables e below (T.setTop (mkF m pc Ls (.int z :: rest))) (T.setFrames fs) := by
  have hm' : T.vm.method? m = some meth := X.method'
  have hn : narrow .int (.int z) = .int z := rfl
  show Steps p.tables e below (T.setTop { method := m, pc := pc, locals := Ls, stack := _ :: rest, locked := none }) _
  jvm_step X.here [X.here.top, hx, hd, hm', hret, hn]
  first | (intro acts; rw [hl _ acts rfl rfl rfl]) | rw [hl _ _ rfl rfl rfl]
  exact Steps.refl _
end New
end Jvm.RoadKit
namespace Jvm.Pilot.@@N@@
open Jvm Jvm.ClassFile Sem Op Lib Jvm.Free Jvm.Stand Jvm.LawKit Jvm.RoadKit Bundle Jvm.Pilot.@@N@@.Jvm.D
/-- from here the run comes to an end of which G holds -/
def Go (tb : Tables) (e : Env) (below : List Frame) (G : State → Outcome → Prop) (U : State) : Prop := ∃ t o, Steps tb e below U t ∧ G t o
theorem Go.st {tb : Tables} {e : Env} {below : List Frame} {G : State → Outcome → Prop} {U U' : State} (h : ∀ t, Steps tb e below U' t → Steps tb e below U t) (k : Go tb e below G U') : Go tb e below G U :=
  let ⟨t, o, a, b⟩ := k
  ⟨t, o, h t a, b⟩
theorem Go.start {tb : Tables} {e : Env} {below : List Frame} {G0 : State → Outcome → Prop} {U : State} (h : ∀ G, G = G0 → Go tb e below G U) : Go tb e below G0 U := h _ rfl
theorem Go.join {tb : Tables} {e : Env} {below : List Frame} {G : State → Outcome → Prop} {U : State} {α : Type} {F : α → State} (k : ∀ z, Go tb e below G (F z)) (h : (∀ z, Go tb e below G (F z)) → Go tb e below G U) : Go tb e below G U := h k
theorem Go.joinR {tb : Tables} {e : Env} {below : List Frame} {G : State → Outcome → Prop} {U : State} {α : Type} {F : α → State} {R : α → Prop} (k : ∀ z, R z → Go tb e below G (F z)) (h : (∀ z, R z → Go tb e below G (F z)) → Go tb e below G U) : Go tb e below G U := h k
theorem own_lrem {tb : Tables} {e : Env} {below : List Frame} {T target : State} {g : JFrame} {n : Nat} {x y : Int64} {rest : List Value} (k : Steps tb e below (T.setTop { g with pc := n, stack := .long (x % y) :: rest }) target) :
    Steps tb e below (T.setTop { g with pc := n, stack := .long (x - (x / y) * y) :: rest }) target := by
  rw [lrem_mod]
  exact k
theorem i64_addc (x y : Int64) : (x + y).toInt = x.toInt + y.toInt ∧ -2 ^ 63 ≤ x.toInt + y.toInt ∧ x.toInt + y.toInt < 2 ^ 63 ∨ (x + y).toInt = x.toInt + y.toInt - 2 ^ 64 ∧ 2 ^ 63 ≤ x.toInt + y.toInt ∨ (x + y).toInt = x.toInt + y.toInt + 2 ^ 64 ∧ x.toInt + y.toInt < -2 ^ 63 := by
  have h := Int64.toInt_add x y
  have a1 := Int64.le_toInt x
  have a2 := Int64.toInt_lt x
  have b1 := Int64.le_toInt y
  have b2 := Int64.toInt_lt y
  rw [Int.bmod_def] at h
  split at h <;> omega
theorem i64_subc (x y : Int64) : (x - y).toInt = x.toInt - y.toInt ∧ -2 ^ 63 ≤ x.toInt - y.toInt ∧ x.toInt - y.toInt < 2 ^ 63 ∨ (x - y).toInt = x.toInt - y.toInt - 2 ^ 64 ∧ 2 ^ 63 ≤ x.toInt - y.toInt ∨ (x - y).toInt = x.toInt - y.toInt + 2 ^ 64 ∧ x.toInt - y.toInt < -2 ^ 63 := by
  have h := Int64.toInt_sub x y
  have a1 := Int64.le_toInt x
  have a2 := Int64.toInt_lt x
  have b1 := Int64.le_toInt y
  have b2 := Int64.toInt_lt y
  rw [Int.bmod_def] at h
  split at h <;> omega
theorem i32_i2c (x : Int32) : (x.toUInt32.toUInt16.toUInt32.toInt32).toInt = x.toInt % 65536 := by
  have h1 : (x.toUInt32.toUInt16.toUInt32.toInt32).toInt = ((x.toUInt32.toUInt16.toUInt32).toNat : Int).bmod (2 ^ 32) := by
    rw [← Int32.toInt_toBitVec, BitVec.toInt_eq_toNat_bmod]; rfl
  have h2 : (x.toUInt32.toUInt16.toUInt32).toNat = x.toBitVec.toNat % 65536 := by
    simp [UInt32.toNat_toUInt16, UInt16.toNat_toUInt32]; rfl
  have h3 : x.toInt = (x.toBitVec.toNat : Int).bmod (2 ^ 32) := by
    rw [← Int32.toInt_toBitVec, BitVec.toInt_eq_toNat_bmod]
  have h4 := x.toBitVec.isLt
  rw [h1, h2, h3, Int.bmod_def, Int.bmod_def]
  split <;> split <;> omega
theorem i32_addc (x y : Int32) : (x + y).toInt = x.toInt + y.toInt ∧ -2 ^ 31 ≤ x.toInt + y.toInt ∧ x.toInt + y.toInt < 2 ^ 31 ∨ (x + y).toInt = x.toInt + y.toInt - 2 ^ 32 ∧ 2 ^ 31 ≤ x.toInt + y.toInt ∨ (x + y).toInt = x.toInt + y.toInt + 2 ^ 32 ∧ x.toInt + y.toInt < -2 ^ 31 := by
  have h := Int32.toInt_add x y
  have a1 := Int32.le_toInt x
  have a2 := Int32.toInt_lt x
  have b1 := Int32.le_toInt y
  have b2 := Int32.toInt_lt y
  rw [Int.bmod_def] at h
  split at h <;> omega
theorem i32_subc (x y : Int32) : (x - y).toInt = x.toInt - y.toInt ∧ -2 ^ 31 ≤ x.toInt - y.toInt ∧ x.toInt - y.toInt < 2 ^ 31 ∨ (x - y).toInt = x.toInt - y.toInt - 2 ^ 32 ∧ 2 ^ 31 ≤ x.toInt - y.toInt ∨ (x - y).toInt = x.toInt - y.toInt + 2 ^ 32 ∧ x.toInt - y.toInt < -2 ^ 31 := by
  have h := Int32.toInt_sub x y
  have a1 := Int32.le_toInt x
  have a2 := Int32.toInt_lt x
  have b1 := Int32.le_toInt y
  have b2 := Int32.toInt_lt y
  rw [Int.bmod_def] at h
  split at h <;> omega
theorem own_eq32 {a b : Int32} (h : a.toInt = b.toInt) : a = b := Int32.toInt_inj.mp h
theorem own_eq64 {a b : Int64} (h : a.toInt = b.toInt) : a = b := Int64.toInt_inj.mp h
theorem own_lt64 {a b : Int64} (h : a.toInt < b.toInt) : a < b := Int64.lt_iff_toInt_lt.mpr h
theorem own_lt32 {a b : Int32} (h : a.toInt < b.toInt) : a < b := Int32.lt_iff_toInt_lt.mpr h
theorem own_nlt64 {a b : Int64} (h : b.toInt ≤ a.toInt) : ¬ a < b := fun z => by have := Int64.lt_iff_toInt_lt.mp z; omega
theorem own_nlt32 {a b : Int32} (h : b.toInt ≤ a.toInt) : ¬ a < b := fun z => by have := Int32.lt_iff_toInt_lt.mp z; omega
theorem own_ne32 {a b : Int32} (h : a.toInt ≠ b.toInt) : ¬ a = b := fun z => h (by rw [z])
theorem own_ne64 {a b : Int64} (h : a.toInt ≠ b.toInt) : ¬ a = b := fun z => h (by rw [z])
theorem pn_0 : plainName "com/example/lapsed/lapsed/QueueCounts" = true := by first | (simp [plainName, overriddenIn]; done) | decide +kernel
theorem d_qinit_0 : decode prog_6_method_1_code 0 = .ok (.aload_n 0, 1) := by decide +kernel
theorem d_qinit_1 : decode prog_6_method_1_code 1 = .ok (.invokespecial 1, 3) := by decide +kernel
theorem d_qinit_4 : decode prog_6_method_1_code 4 = .ok (.aload_n 0, 1) := by decide +kernel
theorem d_qinit_5 : decode prog_6_method_1_code 5 = .ok (.lload_n 1, 1) := by decide +kernel
theorem d_qinit_6 : decode prog_6_method_1_code 6 = .ok (.putfield 7, 3) := by decide +kernel
theorem d_qinit_9 : decode prog_6_method_1_code 9 = .ok (.aload_n 0, 1) := by decide +kernel
theorem d_qinit_10 : decode prog_6_method_1_code 10 = .ok (.lload_n 3, 1) := by decide +kernel
theorem d_qinit_11 : decode prog_6_method_1_code 11 = .ok (.putfield 13, 3) := by decide +kernel
theorem d_qinit_14 : decode prog_6_method_1_code 14 = .ok (.aload_n 0, 1) := by decide +kernel
theorem d_qinit_15 : decode prog_6_method_1_code 15 = .ok (.lload 5, 2) := by decide +kernel
theorem d_qinit_17 : decode prog_6_method_1_code 17 = .ok (.putfield 16, 3) := by decide +kernel
theorem d_qinit_20 : decode prog_6_method_1_code 20 = .ok (.return_, 1) := by decide +kernel
theorem ef_qinit (m : MethodId) (ao : Addr) (q1 : Int64) (q2 : Int64) (q3 : Int64) : entryFrame m #[(.ref ao), (.long q1), (.long q2), (.long q3)] 7 = mkF m 0 #[.val (.ref ao), .val (.long q1), .second, .val (.long q2), .second, .val (.long q3), .second] [] := by first | (simp [entryFrame, mkF, argsToLocals, Value.category]; done) | rfl
def Q_qinit (Z : State) (ao : Addr) (q1 : Int64) (q2 : Int64) (q3 : Int64) (h0 : Heap) (n0 : Nat) (v : Option Value) (h : Heap) (L : List Loc) : Prop := v = none ∧ Fr n0 L ∧ Keep h0 h [ao] ∧ Exa Z h ao "com/example/lapsed/lapsed/QueueCounts" ∧ Fld Z h ao "com/example/lapsed/lapsed/QueueCounts" "pending" "J" (.long q1) ∧ Fld Z h ao "com/example/lapsed/lapsed/QueueCounts" "claimed" "J" (.long q2) ∧ Fld Z h ao "com/example/lapsed/lapsed/QueueCounts" "dead" "J" (.long q3)
set_option maxRecDepth 65536 in
set_option maxHeartbeats 40000000 in
theorem rm_qinit (l : Launch) (Z : State) (a0 : Array Value) (hw : ∀ d ∈ tables_1, d.before a0 Z = true) (ws : List Jvm.Cond) (ao : Addr) (q1 : Int64) (q2 : Int64) (q3 : Int64) (h0 : Heap) (n0 : Nat) (Z0 : n0 ≤ h0.size) (P0 : Exa Z h0 ao "com/example/lapsed/lapsed/QueueCounts") (P1 : Fld Z h0 ao "com/example/lapsed/lapsed/QueueCounts" "pending" "J" (.long (0 : Int64))) (P2 : Fld Z h0 ao "com/example/lapsed/lapsed/QueueCounts" "claimed" "J" (.long (0 : Int64))) (P3 : Fld Z h0 ao "com/example/lapsed/lapsed/QueueCounts" "dead" "J" (.long (0 : Int64))) (P4 : n0 ≤ ao) :
    MetFree l (⟨"com/example/lapsed/lapsed/QueueCounts", "<init>", "(JJJ)V"⟩ : MethodName) (head1 (Jvm.Cond.code (⟨"com/example/lapsed/lapsed/QueueCounts", "<init>", "(JJJ)V"⟩ : MethodName) prog_6_method_1_code 7 none :: ws) ({ frames := 1, cells := 0, slots := 0, locals := 12 } : Room)) (fun a U => a = #[(.ref ao), (.long q1), (.long q2), (.long q3)] ∧ Z.Warmed39 U.vm ∧ U.heap = h0) (fun _ _ _ _ _ => True) (fun _ U o U' => ∃ v L, o = .returned v ∧ Q_qinit Z ao q1 q2 q3 h0 n0 v U'.heap L ∧ FrameEnd U o U' L ({ frames := 1, cells := 0, slots := 0, locals := 12 } : Room).cells ({ frames := 1, cells := 0, slots := 0, locals := 12 } : Room).slots) := by
  refine MetFree.of_bodySF (plainFor_of_name pn_0) hisR ?_
  intro p e s m args below meth c s₁ Bd hml0 hP hK
  obtain ⟨rfl, hZ, hh⟩ := hP
  have hx := Bd.exec
  have hby := Bd.bytes
  have hml : c.maxLocals = 7 := hml0
  have hown : s.vm.findClass "com/example/lapsed/lapsed/QueueCounts" = some m.cls := findClass_of_methodNamed Bd.named
  have hnm := (name_of_methodNamed Bd.named Bd.method).1
  have X0 : Stand p l e ({ frames := 1, cells := 0, slots := 0, locals := 12 } : Room) s m #[(.ref ao), (.long q1), (.long q2), (.long q3)] below meth c s₁ [] 0 0 := Stand.of_body Bd
  have e0 : s₁.heap = h0 := by rw [← hh, Bd.state]; rfl
  have N0 := Fr.nil n0
  have K0 : Keep h0 h0 [ao] := Keep.refl h0 [ao]
  show Go p.tables e below _ (s₁.setTop (entryFrame m #[(.ref ao), (.long q1), (.long q2), (.long q3)] 7))
  refine Go.start ?_
  intro G hG
  refine Go.st (fun t k => castTop (ef_qinit m ao q1 q2 q3) k) ?_
  show Go p.tables e below _ (s₁.setTop (mkF m 0 #[.val (.ref ao), .val (.long q1), .second, .val (.long q2), .second, .val (.long q3), .second] []))
  refine Go.st (fun _ k => XS.aloadN X0.here hx rfl (hb hby d_qinit_0) rfl rfl k) ?_
  show Go p.tables e below _ (s₁.setTop (mkF m 1 #[.val (.ref ao), .val (.long q1), .second, .val (.long q2), .second, .val (.long q3), .second] [(.ref ao)]))
  obtain ⟨T1, X1, e1, st1⟩ := initO X0 hx hZ hown (hw _ (List.mem_of_getElem? (i := 6) rfl)) (hw _ (List.mem_of_getElem? (i := 7) rfl)) (hw _ (List.mem_of_getElem? (i := 8) rfl)) e0 (g := (mkF m 1 #[.val (.ref ao), .val (.long q1), .second, .val (.long q2), .second, .val (.long q3), .second] [(.ref ao)])) rfl (by rw [hml]; rfl) rfl (hb hby d_qinit_1) (by decide) (W := 0) (by show 2 * 0 + _ ≤ _; exact Nat.le_of_eq rfl) (by decide)
  refine Go.st st1 ?_
  show Go p.tables e below _ (T1.setTop (mkF m 4 #[.val (.ref ao), .val (.long q1), .second, .val (.long q2), .second, .val (.long q3), .second] []))
  refine Go.st (fun _ k => XS.aloadN X1.here hx rfl (hb hby d_qinit_4) rfl rfl k) ?_
  show Go p.tables e below _ (T1.setTop (mkF m 5 #[.val (.ref ao), .val (.long q1), .second, .val (.long q2), .second, .val (.long q3), .second] [(.ref ao)]))
  refine Go.st (fun _ k => XS.lloadN X1.here hx rfl (hb hby d_qinit_5) rfl k) ?_
  show Go p.tables e below _ (T1.setTop (mkF m 6 #[.val (.ref ao), .val (.long q1), .second, .val (.long q2), .second, .val (.long q3), .second] [(.long q1), (.ref ao)]))
  obtain ⟨T2, h2, X2, e2, W2, st2⟩ := putF X1 hx hZ hown (host := "") (Or.inl (hw _ (List.mem_of_getElem? (i := 9) rfl))) Via.refl e1 P1 P0 (Or.inr ⟨(hw _ (List.mem_of_getElem? (i := 10) rfl)), rfl, hnm⟩) (hw _ (List.mem_of_getElem? (i := 1) rfl)) (ty := .long) (by decide) rfl rfl (g := (mkF m 6 #[.val (.ref ao), .val (.long q1), .second, .val (.long q2), .second, .val (.long q3), .second] [(.long q1), (.ref ao)])) rfl rfl (hb hby d_qinit_6)
  refine Go.st st2 ?_
  have F3 : Exa Z h2 ao "com/example/lapsed/lapsed/QueueCounts" := P0.wr W2
  have F4 : Fld Z h2 ao "com/example/lapsed/lapsed/QueueCounts" "pending" "J" (.long q1) := P1.same W2
  have F5 : Fld Z h2 ao "com/example/lapsed/lapsed/QueueCounts" "claimed" "J" (.long (0 : Int64)) := P2.other W2 (Or.inr (slot_ne (Or.inr (hw _ (List.mem_of_getElem? (i := 12) rfl))) (Or.inr (hw _ (List.mem_of_getElem? (i := 10) rfl))) (by decide) (t := .long) (t' := .long) (by decide) (by decide)))
  have F6 : Fld Z h2 ao "com/example/lapsed/lapsed/QueueCounts" "dead" "J" (.long (0 : Int64)) := P3.other W2 (Or.inr (slot_ne (Or.inr (hw _ (List.mem_of_getElem? (i := 14) rfl))) (Or.inr (hw _ (List.mem_of_getElem? (i := 10) rfl))) (by decide) (t := .long) (t' := .long) (by decide) (by decide)))
  have K7 : Keep h0 h2 [ao] := K0.wr W2 (Or.inl (List.mem_of_getElem? (i := 0) rfl))
  have Z8 : n0 ≤ h2.size := Nat.le_trans Z0 (Nat.le_of_eq W2.size.symm)
  have N9 := Fr.snoc X2 N0 P4
  show Go p.tables e below _ (T2.setTop (mkF m 9 #[.val (.ref ao), .val (.long q1), .second, .val (.long q2), .second, .val (.long q3), .second] []))
  refine Go.st (fun _ k => XS.aloadN X2.here hx rfl (hb hby d_qinit_9) rfl rfl k) ?_
  show Go p.tables e below _ (T2.setTop (mkF m 10 #[.val (.ref ao), .val (.long q1), .second, .val (.long q2), .second, .val (.long q3), .second] [(.ref ao)]))
  refine Go.st (fun _ k => XS.lloadN X2.here hx rfl (hb hby d_qinit_10) rfl k) ?_
  show Go p.tables e below _ (T2.setTop (mkF m 11 #[.val (.ref ao), .val (.long q1), .second, .val (.long q2), .second, .val (.long q3), .second] [(.long q2), (.ref ao)]))
  obtain ⟨T10, h10, X10, e10, W10, st10⟩ := putF X2 hx hZ hown (host := "") (Or.inl (hw _ (List.mem_of_getElem? (i := 11) rfl))) Via.refl e2 F5 F3 (Or.inr ⟨(hw _ (List.mem_of_getElem? (i := 12) rfl)), rfl, hnm⟩) (hw _ (List.mem_of_getElem? (i := 1) rfl)) (ty := .long) (by decide) rfl rfl (g := (mkF m 11 #[.val (.ref ao), .val (.long q1), .second, .val (.long q2), .second, .val (.long q3), .second] [(.long q2), (.ref ao)])) rfl rfl (hb hby d_qinit_11)
  refine Go.st st10 ?_
  have F11 : Exa Z h10 ao "com/example/lapsed/lapsed/QueueCounts" := F3.wr W10
  have F12 : Fld Z h10 ao "com/example/lapsed/lapsed/QueueCounts" "pending" "J" (.long q1) := F4.other W10 (Or.inr (slot_ne (Or.inr (hw _ (List.mem_of_getElem? (i := 10) rfl))) (Or.inr (hw _ (List.mem_of_getElem? (i := 12) rfl))) (by decide) (t := .long) (t' := .long) (by decide) (by decide)))
  have F13 : Fld Z h10 ao "com/example/lapsed/lapsed/QueueCounts" "claimed" "J" (.long q2) := F5.same W10
  have F14 : Fld Z h10 ao "com/example/lapsed/lapsed/QueueCounts" "dead" "J" (.long (0 : Int64)) := F6.other W10 (Or.inr (slot_ne (Or.inr (hw _ (List.mem_of_getElem? (i := 14) rfl))) (Or.inr (hw _ (List.mem_of_getElem? (i := 12) rfl))) (by decide) (t := .long) (t' := .long) (by decide) (by decide)))
  have K15 : Keep h0 h10 [ao] := K7.wr W10 (Or.inl (List.mem_of_getElem? (i := 0) rfl))
  have Z16 : n0 ≤ h10.size := Nat.le_trans Z8 (Nat.le_of_eq W10.size.symm)
  have N17 := Fr.snoc X10 N9 P4
  show Go p.tables e below _ (T10.setTop (mkF m 14 #[.val (.ref ao), .val (.long q1), .second, .val (.long q2), .second, .val (.long q3), .second] []))
  refine Go.st (fun _ k => XS.aloadN X10.here hx rfl (hb hby d_qinit_14) rfl rfl k) ?_
  show Go p.tables e below _ (T10.setTop (mkF m 15 #[.val (.ref ao), .val (.long q1), .second, .val (.long q2), .second, .val (.long q3), .second] [(.ref ao)]))
  refine Go.st (fun _ k => XS.lload X10.here hx rfl (hb hby d_qinit_15) rfl k) ?_
  show Go p.tables e below _ (T10.setTop (mkF m 17 #[.val (.ref ao), .val (.long q1), .second, .val (.long q2), .second, .val (.long q3), .second] [(.long q3), (.ref ao)]))
  obtain ⟨T18, h18, X18, e18, W18, st18⟩ := putF X10 hx hZ hown (host := "") (Or.inl (hw _ (List.mem_of_getElem? (i := 13) rfl))) Via.refl e10 F14 F11 (Or.inr ⟨(hw _ (List.mem_of_getElem? (i := 14) rfl)), rfl, hnm⟩) (hw _ (List.mem_of_getElem? (i := 1) rfl)) (ty := .long) (by decide) rfl rfl (g := (mkF m 17 #[.val (.ref ao), .val (.long q1), .second, .val (.long q2), .second, .val (.long q3), .second] [(.long q3), (.ref ao)])) rfl rfl (hb hby d_qinit_17)
  refine Go.st st18 ?_
  have F19 : Exa Z h18 ao "com/example/lapsed/lapsed/QueueCounts" := F11.wr W18
  have F20 : Fld Z h18 ao "com/example/lapsed/lapsed/QueueCounts" "pending" "J" (.long q1) := F12.other W18 (Or.inr (slot_ne (Or.inr (hw _ (List.mem_of_getElem? (i := 10) rfl))) (Or.inr (hw _ (List.mem_of_getElem? (i := 14) rfl))) (by decide) (t := .long) (t' := .long) (by decide) (by decide)))
  have F21 : Fld Z h18 ao "com/example/lapsed/lapsed/QueueCounts" "claimed" "J" (.long q2) := F13.other W18 (Or.inr (slot_ne (Or.inr (hw _ (List.mem_of_getElem? (i := 12) rfl))) (Or.inr (hw _ (List.mem_of_getElem? (i := 14) rfl))) (by decide) (t := .long) (t' := .long) (by decide) (by decide)))
  have F22 : Fld Z h18 ao "com/example/lapsed/lapsed/QueueCounts" "dead" "J" (.long q3) := F14.same W18
  have K23 : Keep h0 h18 [ao] := K15.wr W18 (Or.inl (List.mem_of_getElem? (i := 0) rfl))
  have Z24 : n0 ≤ h18.size := Nat.le_trans Z16 (Nat.le_of_eq W18.size.symm)
  have N25 := Fr.snoc X18 N17 P4
  show Go p.tables e below _ (T18.setTop (mkF m 20 #[.val (.ref ao), .val (.long q1), .second, .val (.long q2), .second, .val (.long q3), .second] []))
  subst hG
  obtain ⟨fs, hr, hrun, hended, hW, hsame⟩ := X18.leave (v := none) (fun _ => rfl)
  refine ⟨_, _, ?_, hrun, hended, _, _, rfl, ?_, ⟨_, rfl⟩, hW, hsame.mono (by decide) (by decide)⟩
  · exact X18.returnOut hx Bd.returns (hb hby d_qinit_20) hr
  · show Q_qinit Z ao q1 q2 q3 h0 n0 _ T18.heap _
    rw [e18]
    exact ⟨rfl, N25, K23, F19, F20, F21, F22⟩
theorem pd_0 : parseMethodDescriptor "(JJJ)V" = some ⟨[.long, .long, .long], none⟩ := by decide +kernel
theorem d_plus_0 : decode prog_6_method_3_code 0 = .ok (.new 8, 3) := by decide +kernel
theorem d_plus_3 : decode prog_6_method_3_code 3 = .ok (.dup, 1) := by decide +kernel
theorem d_plus_4 : decode prog_6_method_3_code 4 = .ok (.aload_n 0, 1) := by decide +kernel
theorem d_plus_5 : decode prog_6_method_3_code 5 = .ok (.getfield 7, 3) := by decide +kernel
theorem d_plus_8 : decode prog_6_method_3_code 8 = .ok (.aload_n 1, 1) := by decide +kernel
theorem d_plus_9 : decode prog_6_method_3_code 9 = .ok (.getfield 7, 3) := by decide +kernel
theorem d_plus_12 : decode prog_6_method_3_code 12 = .ok (.ladd, 1) := by decide +kernel
theorem d_plus_13 : decode prog_6_method_3_code 13 = .ok (.aload_n 0, 1) := by decide +kernel
theorem d_plus_14 : decode prog_6_method_3_code 14 = .ok (.getfield 13, 3) := by decide +kernel
theorem d_plus_17 : decode prog_6_method_3_code 17 = .ok (.aload_n 1, 1) := by decide +kernel
theorem d_plus_18 : decode prog_6_method_3_code 18 = .ok (.getfield 13, 3) := by decide +kernel
theorem d_plus_21 : decode prog_6_method_3_code 21 = .ok (.ladd, 1) := by decide +kernel
theorem d_plus_22 : decode prog_6_method_3_code 22 = .ok (.aload_n 0, 1) := by decide +kernel
theorem d_plus_23 : decode prog_6_method_3_code 23 = .ok (.getfield 16, 3) := by decide +kernel
theorem d_plus_26 : decode prog_6_method_3_code 26 = .ok (.aload_n 1, 1) := by decide +kernel
theorem d_plus_27 : decode prog_6_method_3_code 27 = .ok (.getfield 16, 3) := by decide +kernel
theorem d_plus_30 : decode prog_6_method_3_code 30 = .ok (.ladd, 1) := by decide +kernel
theorem d_plus_31 : decode prog_6_method_3_code 31 = .ok (.invokespecial 31, 3) := by decide +kernel
theorem d_plus_34 : decode prog_6_method_3_code 34 = .ok (.areturn, 1) := by decide +kernel
theorem ef_plus (m : MethodId) (ao : Addr) (bo : Addr) : entryFrame m #[(.ref ao), (.ref bo)] 2 = mkF m 0 #[.val (.ref ao), .val (.ref bo)] [] := by first | (simp [entryFrame, mkF, argsToLocals, Value.category]; done) | rfl
def Q_plus (Z : State) (ao : Addr) (bo : Addr) (w1 : Int64) (w2 : Int64) (w3 : Int64) (u1 : Int64) (u2 : Int64) (u3 : Int64) (h0 : Heap) (n0 : Nat) (v : Option Value) (h : Heap) (L : List Loc) : Prop := ∃ fr : Addr, v = some (.ref fr) ∧ Fr n0 L ∧ Keep h0 h [] ∧ n0 ≤ fr ∧ h0.size ≤ fr ∧ Exa Z h fr "com/example/lapsed/lapsed/QueueCounts" ∧ Fld Z h fr "com/example/lapsed/lapsed/QueueCounts" "pending" "J" (.long (w1 + u1)) ∧ Fld Z h fr "com/example/lapsed/lapsed/QueueCounts" "claimed" "J" (.long (w2 + u2)) ∧ Fld Z h fr "com/example/lapsed/lapsed/QueueCounts" "dead" "J" (.long (w3 + u3))
set_option maxRecDepth 65536 in
set_option maxHeartbeats 40000000 in
theorem rm_plus (l : Launch) (Z : State) (a0 : Array Value) (hw : ∀ d ∈ tables_1, d.before a0 Z = true) (ws : List Jvm.Cond) (ao : Addr) (bo : Addr) (w1 : Int64) (w2 : Int64) (w3 : Int64) (u1 : Int64) (u2 : Int64) (u3 : Int64) (h0 : Heap) (n0 : Nat) (Z0 : n0 ≤ h0.size) (P0 : Fld Z h0 ao "com/example/lapsed/lapsed/QueueCounts" "pending" "J" (.long w1)) (P1 : Fld Z h0 ao "com/example/lapsed/lapsed/QueueCounts" "claimed" "J" (.long w2)) (P2 : Fld Z h0 ao "com/example/lapsed/lapsed/QueueCounts" "dead" "J" (.long w3)) (P3 : Fld Z h0 bo "com/example/lapsed/lapsed/QueueCounts" "pending" "J" (.long u1)) (P4 : Fld Z h0 bo "com/example/lapsed/lapsed/QueueCounts" "claimed" "J" (.long u2)) (P5 : Fld Z h0 bo "com/example/lapsed/lapsed/QueueCounts" "dead" "J" (.long u3)) :
    MetFree l (⟨"com/example/lapsed/lapsed/QueueCounts", "plus", "(Lcom/example/lapsed/lapsed/QueueCounts;)Lcom/example/lapsed/lapsed/QueueCounts;"⟩ : MethodName) (head1 (Jvm.Cond.code (⟨"com/example/lapsed/lapsed/QueueCounts", "plus", "(Lcom/example/lapsed/lapsed/QueueCounts;)Lcom/example/lapsed/lapsed/QueueCounts;"⟩ : MethodName) prog_6_method_3_code 2 (some (.object "com/example/lapsed/lapsed/QueueCounts")) :: ws) ({ frames := 2, cells := 1, slots := 3, locals := 31 } : Room)) (fun a U => a = #[(.ref ao), (.ref bo)] ∧ Z.Warmed39 U.vm ∧ U.heap = h0) (fun _ _ _ _ _ => True) (fun _ U o U' => ∃ v L, o = .returned v ∧ Q_plus Z ao bo w1 w2 w3 u1 u2 u3 h0 n0 v U'.heap L ∧ FrameEnd U o U' L ({ frames := 2, cells := 1, slots := 3, locals := 31 } : Room).cells ({ frames := 2, cells := 1, slots := 3, locals := 31 } : Room).slots) := by
  refine MetFree.of_bodySF (plainFor_of_name pn_0) hisR ?_
  intro p e s m args below meth c s₁ Bd hml0 hP hK
  obtain ⟨rfl, hZ, hh⟩ := hP
  have hx := Bd.exec
  have hby := Bd.bytes
  have hml : c.maxLocals = 2 := hml0
  have hown : s.vm.findClass "com/example/lapsed/lapsed/QueueCounts" = some m.cls := findClass_of_methodNamed Bd.named
  have hnm := (name_of_methodNamed Bd.named Bd.method).1
  have X0 : Stand p l e ({ frames := 2, cells := 1, slots := 3, locals := 31 } : Room) s m #[(.ref ao), (.ref bo)] below meth c s₁ [] 0 0 := Stand.of_body Bd
  have e0 : s₁.heap = h0 := by rw [← hh, Bd.state]; rfl
  have N0 := Fr.nil n0
  have K0 : Keep h0 h0 [] := Keep.refl h0 []
  show Go p.tables e below _ (s₁.setTop (entryFrame m #[(.ref ao), (.ref bo)] 2))
  refine Go.start ?_
  intro G hG
  refine Go.st (fun t k => castTop (ef_plus m ao bo) k) ?_
  show Go p.tables e below _ (s₁.setTop (mkF m 0 #[.val (.ref ao), .val (.ref bo)] []))
  obtain ⟨T1, h1, X1, e1, E1, A1, D1, -, st1⟩ := newO X0 hx hZ hown (hw _ (List.mem_of_getElem? (i := 20) rfl)) (hw _ (List.mem_of_getElem? (i := 1) rfl)) (hw _ (List.mem_of_getElem? (i := 2) rfl)) e0 (g := (mkF m 0 #[.val (.ref ao), .val (.ref bo)] [])) rfl (hb hby d_plus_0) (by decide) (by decide)
  obtain ⟨b1, g1⟩ : ∃ z, z = h0.size := ⟨_, rfl⟩
  rw [← g1] at A1 D1 st1
  refine Go.st st1 ?_
  have ne2 : ao ≠ b1 := Nat.ne_of_lt (Nat.lt_of_lt_of_le P0.lt (Nat.le_of_eq g1.symm))
  have ne3 : bo ≠ b1 := Nat.ne_of_lt (Nat.lt_of_lt_of_le P3.lt (Nat.le_of_eq g1.symm))
  have ge4 : n0 ≤ b1 := Nat.le_trans Z0 (Nat.le_of_eq g1.symm)
  have sz5 : h0.size ≤ b1 := Nat.le_trans K0.1 (Nat.le_of_eq g1.symm)
  have Z6 : n0 ≤ h1.size := Nat.le_trans Z0 E1.1
  have K7 : Keep h0 h1 [] := K0.ext E1
  have F8 : Fld Z h1 ao "com/example/lapsed/lapsed/QueueCounts" "pending" "J" (.long w1) := P0.ext E1
  have F9 : Fld Z h1 ao "com/example/lapsed/lapsed/QueueCounts" "claimed" "J" (.long w2) := P1.ext E1
  have F10 : Fld Z h1 ao "com/example/lapsed/lapsed/QueueCounts" "dead" "J" (.long w3) := P2.ext E1
  have F11 : Fld Z h1 bo "com/example/lapsed/lapsed/QueueCounts" "pending" "J" (.long u1) := P3.ext E1
  have F12 : Fld Z h1 bo "com/example/lapsed/lapsed/QueueCounts" "claimed" "J" (.long u2) := P4.ext E1
  have F13 : Fld Z h1 bo "com/example/lapsed/lapsed/QueueCounts" "dead" "J" (.long u3) := P5.ext E1
  have F14 : Fld Z h1 b1 "com/example/lapsed/lapsed/QueueCounts" "pending" "J" (.long (0 : Int64)) := D1 (Or.inr (hw _ (List.mem_of_getElem? (i := 10) rfl))) (ty := .long) (by decide)
  have F15 : Fld Z h1 b1 "com/example/lapsed/lapsed/QueueCounts" "claimed" "J" (.long (0 : Int64)) := D1 (Or.inr (hw _ (List.mem_of_getElem? (i := 12) rfl))) (ty := .long) (by decide)
  have F16 : Fld Z h1 b1 "com/example/lapsed/lapsed/QueueCounts" "dead" "J" (.long (0 : Int64)) := D1 (Or.inr (hw _ (List.mem_of_getElem? (i := 14) rfl))) (ty := .long) (by decide)
  show Go p.tables e below _ (T1.setTop (mkF m 3 #[.val (.ref ao), .val (.ref bo)] [(.ref b1)]))
  refine Go.st (fun _ k => XS.dup X1.here hx rfl (hb hby d_plus_3) rfl rfl k) ?_
  show Go p.tables e below _ (T1.setTop (mkF m 4 #[.val (.ref ao), .val (.ref bo)] [(.ref b1), (.ref b1)]))
  refine Go.st (fun _ k => XS.aloadN X1.here hx rfl (hb hby d_plus_4) rfl rfl k) ?_
  show Go p.tables e below _ (T1.setTop (mkF m 5 #[.val (.ref ao), .val (.ref bo)] [(.ref ao), (.ref b1), (.ref b1)]))
  obtain ⟨T17, X17, e17, st17⟩ := getF X1 hx hZ hown (host := "") (Or.inl (hw _ (List.mem_of_getElem? (i := 9) rfl))) Via.refl e1 F8 (g := (mkF m 5 #[.val (.ref ao), .val (.ref bo)] [(.ref ao), (.ref b1), (.ref b1)])) rfl rfl (hb hby d_plus_5)
  refine Go.st st17 ?_
  show Go p.tables e below _ (T17.setTop (mkF m 8 #[.val (.ref ao), .val (.ref bo)] [(.long w1), (.ref b1), (.ref b1)]))
  refine Go.st (fun _ k => XS.aloadN X17.here hx rfl (hb hby d_plus_8) rfl rfl k) ?_
  show Go p.tables e below _ (T17.setTop (mkF m 9 #[.val (.ref ao), .val (.ref bo)] [(.ref bo), (.long w1), (.ref b1), (.ref b1)]))
  obtain ⟨T18, X18, e18, st18⟩ := getF X17 hx hZ hown (host := "") (Or.inl (hw _ (List.mem_of_getElem? (i := 9) rfl))) Via.refl e17 F11 (g := (mkF m 9 #[.val (.ref ao), .val (.ref bo)] [(.ref bo), (.long w1), (.ref b1), (.ref b1)])) rfl rfl (hb hby d_plus_9)
  refine Go.st st18 ?_
  show Go p.tables e below _ (T18.setTop (mkF m 12 #[.val (.ref ao), .val (.ref bo)] [(.long u1), (.long w1), (.ref b1), (.ref b1)]))
  refine Go.st (fun _ k => XS.ladd X18.here hx rfl (hb hby d_plus_12) rfl k) ?_
  show Go p.tables e below _ (T18.setTop (mkF m 13 #[.val (.ref ao), .val (.ref bo)] [(.long (w1 + u1)), (.ref b1), (.ref b1)]))
  refine Go.st (fun _ k => XS.aloadN X18.here hx rfl (hb hby d_plus_13) rfl rfl k) ?_
  show Go p.tables e below _ (T18.setTop (mkF m 14 #[.val (.ref ao), .val (.ref bo)] [(.ref ao), (.long (w1 + u1)), (.ref b1), (.ref b1)]))
  obtain ⟨T19, X19, e19, st19⟩ := getF X18 hx hZ hown (host := "") (Or.inl (hw _ (List.mem_of_getElem? (i := 11) rfl))) Via.refl e18 F9 (g := (mkF m 14 #[.val (.ref ao), .val (.ref bo)] [(.ref ao), (.long (w1 + u1)), (.ref b1), (.ref b1)])) rfl rfl (hb hby d_plus_14)
  refine Go.st st19 ?_
  show Go p.tables e below _ (T19.setTop (mkF m 17 #[.val (.ref ao), .val (.ref bo)] [(.long w2), (.long (w1 + u1)), (.ref b1), (.ref b1)]))
  refine Go.st (fun _ k => XS.aloadN X19.here hx rfl (hb hby d_plus_17) rfl rfl k) ?_
  show Go p.tables e below _ (T19.setTop (mkF m 18 #[.val (.ref ao), .val (.ref bo)] [(.ref bo), (.long w2), (.long (w1 + u1)), (.ref b1), (.ref b1)]))
  obtain ⟨T20, X20, e20, st20⟩ := getF X19 hx hZ hown (host := "") (Or.inl (hw _ (List.mem_of_getElem? (i := 11) rfl))) Via.refl e19 F12 (g := (mkF m 18 #[.val (.ref ao), .val (.ref bo)] [(.ref bo), (.long w2), (.long (w1 + u1)), (.ref b1), (.ref b1)])) rfl rfl (hb hby d_plus_18)
  refine Go.st st20 ?_
  show Go p.tables e below _ (T20.setTop (mkF m 21 #[.val (.ref ao), .val (.ref bo)] [(.long u2), (.long w2), (.long (w1 + u1)), (.ref b1), (.ref b1)]))
  refine Go.st (fun _ k => XS.ladd X20.here hx rfl (hb hby d_plus_21) rfl k) ?_
  show Go p.tables e below _ (T20.setTop (mkF m 22 #[.val (.ref ao), .val (.ref bo)] [(.long (w2 + u2)), (.long (w1 + u1)), (.ref b1), (.ref b1)]))
  refine Go.st (fun _ k => XS.aloadN X20.here hx rfl (hb hby d_plus_22) rfl rfl k) ?_
  show Go p.tables e below _ (T20.setTop (mkF m 23 #[.val (.ref ao), .val (.ref bo)] [(.ref ao), (.long (w2 + u2)), (.long (w1 + u1)), (.ref b1), (.ref b1)]))
  obtain ⟨T21, X21, e21, st21⟩ := getF X20 hx hZ hown (host := "") (Or.inl (hw _ (List.mem_of_getElem? (i := 13) rfl))) Via.refl e20 F10 (g := (mkF m 23 #[.val (.ref ao), .val (.ref bo)] [(.ref ao), (.long (w2 + u2)), (.long (w1 + u1)), (.ref b1), (.ref b1)])) rfl rfl (hb hby d_plus_23)
  refine Go.st st21 ?_
  show Go p.tables e below _ (T21.setTop (mkF m 26 #[.val (.ref ao), .val (.ref bo)] [(.long w3), (.long (w2 + u2)), (.long (w1 + u1)), (.ref b1), (.ref b1)]))
  refine Go.st (fun _ k => XS.aloadN X21.here hx rfl (hb hby d_plus_26) rfl rfl k) ?_
  show Go p.tables e below _ (T21.setTop (mkF m 27 #[.val (.ref ao), .val (.ref bo)] [(.ref bo), (.long w3), (.long (w2 + u2)), (.long (w1 + u1)), (.ref b1), (.ref b1)]))
  obtain ⟨T22, X22, e22, st22⟩ := getF X21 hx hZ hown (host := "") (Or.inl (hw _ (List.mem_of_getElem? (i := 13) rfl))) Via.refl e21 F13 (g := (mkF m 27 #[.val (.ref ao), .val (.ref bo)] [(.ref bo), (.long w3), (.long (w2 + u2)), (.long (w1 + u1)), (.ref b1), (.ref b1)])) rfl rfl (hb hby d_plus_27)
  refine Go.st st22 ?_
  show Go p.tables e below _ (T22.setTop (mkF m 30 #[.val (.ref ao), .val (.ref bo)] [(.long u3), (.long w3), (.long (w2 + u2)), (.long (w1 + u1)), (.ref b1), (.ref b1)]))
  refine Go.st (fun _ k => XS.ladd X22.here hx rfl (hb hby d_plus_30) rfl k) ?_
  show Go p.tables e below _ (T22.setTop (mkF m 31 #[.val (.ref ao), .val (.ref bo)] [(.long (w3 + u3)), (.long (w2 + u2)), (.long (w1 + u1)), (.ref b1), (.ref b1)]))
  obtain ⟨_, _, ⟨T23, L23, k23, n23⟩, -, X23, ⟨Lc23, hQ23, l23, y23, z23⟩, st23⟩ := X22.specialBack hx (y := (⟨"com/example/lapsed/lapsed/QueueCounts", "<init>", "(JJJ)V"⟩ : MethodName)) rfl hown (mvT hZ (hw _ (List.mem_of_getElem? (i := 21) rfl))) (mvT hZ (hw _ (List.mem_of_getElem? (i := 4) rfl))) (mvT hZ (hw _ (List.mem_of_getElem? (i := 5) rfl))) (by decide) (backOf (W := 1) (rm_qinit l Z a0 hw [] b1 (w1 + u1) (w2 + u2) (w3 + u3) h1 n0 Z6 A1 F14 F15 F16 ge4) hZ (hw _ (List.mem_of_getElem? (i := 5) rfl)) (hw _ (List.mem_of_getElem? (i := 2) rfl)) (by decide) (by decide)) (g := (mkF m 31 #[.val (.ref ao), .val (.ref bo)] [(.long (w3 + u3)), (.long (w2 + u2)), (.long (w1 + u1)), (.ref b1), (.ref b1)])) rfl (by rw [hml]; rfl) (Steps.refl _) (a := b1) (argsL := [(.long (w1 + u1)), (.long (w2 + u2)), (.long (w3 + u3))]) (rest := [(.ref b1)]) (lenOf pd_0 rfl) rfl (by show 2 * 0 + _ ≤ _; exact Nat.le_of_eq rfl) (hb hby d_plus_31) (fun _ _ => ⟨rfl, e22, (by decide : 1 + 0 ≤ _), (by decide : 3 + 0 ≤ _)⟩)
  dsimp only [Pt.U, Pt.locs, Pt.cells, Pt.slots] at X23 l23 y23 z23 st23 hQ23
  subst l23 y23 z23
  obtain ⟨rfl, N23q, K23q, Fq23_0, Fq23_1, Fq23_2, Fq23_3⟩ := hQ23
  have N23 := Fr.app N0 N23q
  refine Go.st (fun _ k => st23.trans k) ?_
  have Z24 : n0 ≤ T23.heap.size := Nat.le_trans Z6 K23q.1
  have K25 : Keep h0 T23.heap [] := K7.trans K23q (fun z hz => (List.mem_cons.mp hz).elim (fun q => by rw [q]; exact Or.inr sz5) (fun hz => absurd hz List.not_mem_nil))
  have F26 : Fld Z T23.heap ao "com/example/lapsed/lapsed/QueueCounts" "pending" "J" (.long w1) := F8.keep K23q (fun z => (List.mem_cons.mp z).elim ne2 (fun z => absurd z List.not_mem_nil))
  have F27 : Fld Z T23.heap ao "com/example/lapsed/lapsed/QueueCounts" "claimed" "J" (.long w2) := F9.keep K23q (fun z => (List.mem_cons.mp z).elim ne2 (fun z => absurd z List.not_mem_nil))
  have F28 : Fld Z T23.heap ao "com/example/lapsed/lapsed/QueueCounts" "dead" "J" (.long w3) := F10.keep K23q (fun z => (List.mem_cons.mp z).elim ne2 (fun z => absurd z List.not_mem_nil))
  have F29 : Fld Z T23.heap bo "com/example/lapsed/lapsed/QueueCounts" "pending" "J" (.long u1) := F11.keep K23q (fun z => (List.mem_cons.mp z).elim ne3 (fun z => absurd z List.not_mem_nil))
  have F30 : Fld Z T23.heap bo "com/example/lapsed/lapsed/QueueCounts" "claimed" "J" (.long u2) := F12.keep K23q (fun z => (List.mem_cons.mp z).elim ne3 (fun z => absurd z List.not_mem_nil))
  have F31 : Fld Z T23.heap bo "com/example/lapsed/lapsed/QueueCounts" "dead" "J" (.long u3) := F13.keep K23q (fun z => (List.mem_cons.mp z).elim ne3 (fun z => absurd z List.not_mem_nil))
  have F32 : Exa Z T23.heap b1 "com/example/lapsed/lapsed/QueueCounts" := A1.keep K23q
  show Go p.tables e below _ (T23.setTop (mkF m 34 #[.val (.ref ao), .val (.ref bo)] [(.ref b1)]))
  subst hG
  obtain ⟨fs, hr, hrun, hended, hW, hsame⟩ := X23.leave (v := some (.ref b1)) (fun h => by rw [Bd.returns] at h; cases h)
  refine ⟨_, _, ?_, hrun, hended, _, _, rfl, ?_, ⟨_, rfl⟩, hW, hsame.mono (by decide) (by decide)⟩
  · exact retOut X23 hx Bd.returns rfl (Or.inr (Or.inr (Or.inr (Or.inr ⟨rfl, rfl, rfl⟩)))) (hb hby d_plus_34) hr
  · show Q_plus Z ao bo w1 w2 w3 u1 u2 u3 h0 n0 _ T23.heap _
    exact ⟨b1, rfl, N23, K25, ge4, sz5, Fq23_0, Fq23_1, Fq23_2, Fq23_3⟩
theorem d_pending_0 : decode prog_6_method_5_code 0 = .ok (.aload_n 0, 1) := by decide +kernel
theorem d_pending_1 : decode prog_6_method_5_code 1 = .ok (.getfield 7, 3) := by decide +kernel
theorem d_pending_4 : decode prog_6_method_5_code 4 = .ok (.lreturn, 1) := by decide +kernel
theorem ef_pending (m : MethodId) (ao : Addr) : entryFrame m #[(.ref ao)] 1 = mkF m 0 #[.val (.ref ao)] [] := by first | (simp [entryFrame, mkF, argsToLocals, Value.category]; done) | rfl
def Q_pending (Z : State) (ao : Addr) (w1 : Int64) (h0 : Heap) (n0 : Nat) (v : Option Value) (h : Heap) (L : List Loc) : Prop := v = some (.long w1) ∧ Fr n0 L ∧ h = h0
set_option maxRecDepth 65536 in
set_option maxHeartbeats 40000000 in
theorem rm_pending (l : Launch) (Z : State) (a0 : Array Value) (hw : ∀ d ∈ tables_1, d.before a0 Z = true) (ws : List Jvm.Cond) (ao : Addr) (w1 : Int64) (h0 : Heap) (n0 : Nat) (Z0 : n0 ≤ h0.size) (P0 : Fld Z h0 ao "com/example/lapsed/lapsed/QueueCounts" "pending" "J" (.long w1)) :
    MetFree l (⟨"com/example/lapsed/lapsed/QueueCounts", "pending", "()J"⟩ : MethodName) (head1 (Jvm.Cond.code (⟨"com/example/lapsed/lapsed/QueueCounts", "pending", "()J"⟩ : MethodName) prog_6_method_5_code 1 (some .long) :: ws) ({ frames := 0, cells := 0, slots := 0, locals := 0 } : Room)) (fun a U => a = #[(.ref ao)] ∧ Z.Warmed39 U.vm ∧ U.heap = h0) (fun _ _ _ _ _ => True) (fun _ U o U' => ∃ v L, o = .returned v ∧ Q_pending Z ao w1 h0 n0 v U'.heap L ∧ FrameEnd U o U' L ({ frames := 0, cells := 0, slots := 0, locals := 0 } : Room).cells ({ frames := 0, cells := 0, slots := 0, locals := 0 } : Room).slots) := by
  refine MetFree.of_bodySF (plainFor_of_name pn_0) hisR ?_
  intro p e s m args below meth c s₁ Bd hml0 hP hK
  obtain ⟨rfl, hZ, hh⟩ := hP
  have hx := Bd.exec
  have hby := Bd.bytes
  have hml : c.maxLocals = 1 := hml0
  have hown : s.vm.findClass "com/example/lapsed/lapsed/QueueCounts" = some m.cls := findClass_of_methodNamed Bd.named
  have hnm := (name_of_methodNamed Bd.named Bd.method).1
  have X0 : Stand p l e ({ frames := 0, cells := 0, slots := 0, locals := 0 } : Room) s m #[(.ref ao)] below meth c s₁ [] 0 0 := Stand.of_body Bd
  have e0 : s₁.heap = h0 := by rw [← hh, Bd.state]; rfl
  have N0 := Fr.nil n0
  have K0 : Keep h0 h0 [] := Keep.refl h0 []
  show Go p.tables e below _ (s₁.setTop (entryFrame m #[(.ref ao)] 1))
  refine Go.start ?_
  intro G hG
  refine Go.st (fun t k => castTop (ef_pending m ao) k) ?_
  show Go p.tables e below _ (s₁.setTop (mkF m 0 #[.val (.ref ao)] []))
  refine Go.st (fun _ k => XS.aloadN X0.here hx rfl (hb hby d_pending_0) rfl rfl k) ?_
  show Go p.tables e below _ (s₁.setTop (mkF m 1 #[.val (.ref ao)] [(.ref ao)]))
  obtain ⟨T1, X1, e1, st1⟩ := getF X0 hx hZ hown (host := "") (Or.inl (hw _ (List.mem_of_getElem? (i := 9) rfl))) Via.refl e0 P0 (g := (mkF m 1 #[.val (.ref ao)] [(.ref ao)])) rfl rfl (hb hby d_pending_1)
  refine Go.st st1 ?_
  show Go p.tables e below _ (T1.setTop (mkF m 4 #[.val (.ref ao)] [(.long w1)]))
  subst hG
  obtain ⟨fs, hr, hrun, hended, hW, hsame⟩ := X1.leave (v := some (.long w1)) (fun h => by rw [Bd.returns] at h; cases h)
  refine ⟨_, _, ?_, hrun, hended, _, _, rfl, ?_, ⟨_, rfl⟩, hW, hsame.mono (by decide) (by decide)⟩
  · exact retOut X1 hx Bd.returns rfl (Or.inr (Or.inl ⟨rfl, rfl, _, rfl⟩)) (hb hby d_pending_4) hr
  · show Q_pending Z ao w1 h0 n0 _ T1.heap _
    rw [e1]
    exact ⟨rfl, N0, rfl⟩
theorem d_claimed_0 : decode prog_6_method_6_code 0 = .ok (.aload_n 0, 1) := by decide +kernel
theorem d_claimed_1 : decode prog_6_method_6_code 1 = .ok (.getfield 13, 3) := by decide +kernel
theorem d_claimed_4 : decode prog_6_method_6_code 4 = .ok (.lreturn, 1) := by decide +kernel
theorem ef_claimed (m : MethodId) (ao : Addr) : entryFrame m #[(.ref ao)] 1 = mkF m 0 #[.val (.ref ao)] [] := by first | (simp [entryFrame, mkF, argsToLocals, Value.category]; done) | rfl
def Q_claimed (Z : State) (ao : Addr) (w1 : Int64) (h0 : Heap) (n0 : Nat) (v : Option Value) (h : Heap) (L : List Loc) : Prop := v = some (.long w1) ∧ Fr n0 L ∧ h = h0
set_option maxRecDepth 65536 in
set_option maxHeartbeats 40000000 in
theorem rm_claimed (l : Launch) (Z : State) (a0 : Array Value) (hw : ∀ d ∈ tables_1, d.before a0 Z = true) (ws : List Jvm.Cond) (ao : Addr) (w1 : Int64) (h0 : Heap) (n0 : Nat) (Z0 : n0 ≤ h0.size) (P0 : Fld Z h0 ao "com/example/lapsed/lapsed/QueueCounts" "claimed" "J" (.long w1)) :
    MetFree l (⟨"com/example/lapsed/lapsed/QueueCounts", "claimed", "()J"⟩ : MethodName) (head1 (Jvm.Cond.code (⟨"com/example/lapsed/lapsed/QueueCounts", "claimed", "()J"⟩ : MethodName) prog_6_method_6_code 1 (some .long) :: ws) ({ frames := 0, cells := 0, slots := 0, locals := 0 } : Room)) (fun a U => a = #[(.ref ao)] ∧ Z.Warmed39 U.vm ∧ U.heap = h0) (fun _ _ _ _ _ => True) (fun _ U o U' => ∃ v L, o = .returned v ∧ Q_claimed Z ao w1 h0 n0 v U'.heap L ∧ FrameEnd U o U' L ({ frames := 0, cells := 0, slots := 0, locals := 0 } : Room).cells ({ frames := 0, cells := 0, slots := 0, locals := 0 } : Room).slots) := by
  refine MetFree.of_bodySF (plainFor_of_name pn_0) hisR ?_
  intro p e s m args below meth c s₁ Bd hml0 hP hK
  obtain ⟨rfl, hZ, hh⟩ := hP
  have hx := Bd.exec
  have hby := Bd.bytes
  have hml : c.maxLocals = 1 := hml0
  have hown : s.vm.findClass "com/example/lapsed/lapsed/QueueCounts" = some m.cls := findClass_of_methodNamed Bd.named
  have hnm := (name_of_methodNamed Bd.named Bd.method).1
  have X0 : Stand p l e ({ frames := 0, cells := 0, slots := 0, locals := 0 } : Room) s m #[(.ref ao)] below meth c s₁ [] 0 0 := Stand.of_body Bd
  have e0 : s₁.heap = h0 := by rw [← hh, Bd.state]; rfl
  have N0 := Fr.nil n0
  have K0 : Keep h0 h0 [] := Keep.refl h0 []
  show Go p.tables e below _ (s₁.setTop (entryFrame m #[(.ref ao)] 1))
  refine Go.start ?_
  intro G hG
  refine Go.st (fun t k => castTop (ef_claimed m ao) k) ?_
  show Go p.tables e below _ (s₁.setTop (mkF m 0 #[.val (.ref ao)] []))
  refine Go.st (fun _ k => XS.aloadN X0.here hx rfl (hb hby d_claimed_0) rfl rfl k) ?_
  show Go p.tables e below _ (s₁.setTop (mkF m 1 #[.val (.ref ao)] [(.ref ao)]))
  obtain ⟨T1, X1, e1, st1⟩ := getF X0 hx hZ hown (host := "") (Or.inl (hw _ (List.mem_of_getElem? (i := 11) rfl))) Via.refl e0 P0 (g := (mkF m 1 #[.val (.ref ao)] [(.ref ao)])) rfl rfl (hb hby d_claimed_1)
  refine Go.st st1 ?_
  show Go p.tables e below _ (T1.setTop (mkF m 4 #[.val (.ref ao)] [(.long w1)]))
  subst hG
  obtain ⟨fs, hr, hrun, hended, hW, hsame⟩ := X1.leave (v := some (.long w1)) (fun h => by rw [Bd.returns] at h; cases h)
  refine ⟨_, _, ?_, hrun, hended, _, _, rfl, ?_, ⟨_, rfl⟩, hW, hsame.mono (by decide) (by decide)⟩
  · exact retOut X1 hx Bd.returns rfl (Or.inr (Or.inl ⟨rfl, rfl, _, rfl⟩)) (hb hby d_claimed_4) hr
  · show Q_claimed Z ao w1 h0 n0 _ T1.heap _
    rw [e1]
    exact ⟨rfl, N0, rfl⟩
theorem d_dead_0 : decode prog_6_method_7_code 0 = .ok (.aload_n 0, 1) := by decide +kernel
theorem d_dead_1 : decode prog_6_method_7_code 1 = .ok (.getfield 16, 3) := by decide +kernel
theorem d_dead_4 : decode prog_6_method_7_code 4 = .ok (.lreturn, 1) := by decide +kernel
theorem ef_dead (m : MethodId) (ao : Addr) : entryFrame m #[(.ref ao)] 1 = mkF m 0 #[.val (.ref ao)] [] := by first | (simp [entryFrame, mkF, argsToLocals, Value.category]; done) | rfl
def Q_dead (Z : State) (ao : Addr) (w1 : Int64) (h0 : Heap) (n0 : Nat) (v : Option Value) (h : Heap) (L : List Loc) : Prop := v = some (.long w1) ∧ Fr n0 L ∧ h = h0
set_option maxRecDepth 65536 in
set_option maxHeartbeats 40000000 in
theorem rm_dead (l : Launch) (Z : State) (a0 : Array Value) (hw : ∀ d ∈ tables_1, d.before a0 Z = true) (ws : List Jvm.Cond) (ao : Addr) (w1 : Int64) (h0 : Heap) (n0 : Nat) (Z0 : n0 ≤ h0.size) (P0 : Fld Z h0 ao "com/example/lapsed/lapsed/QueueCounts" "dead" "J" (.long w1)) :
    MetFree l (⟨"com/example/lapsed/lapsed/QueueCounts", "dead", "()J"⟩ : MethodName) (head1 (Jvm.Cond.code (⟨"com/example/lapsed/lapsed/QueueCounts", "dead", "()J"⟩ : MethodName) prog_6_method_7_code 1 (some .long) :: ws) ({ frames := 0, cells := 0, slots := 0, locals := 0 } : Room)) (fun a U => a = #[(.ref ao)] ∧ Z.Warmed39 U.vm ∧ U.heap = h0) (fun _ _ _ _ _ => True) (fun _ U o U' => ∃ v L, o = .returned v ∧ Q_dead Z ao w1 h0 n0 v U'.heap L ∧ FrameEnd U o U' L ({ frames := 0, cells := 0, slots := 0, locals := 0 } : Room).cells ({ frames := 0, cells := 0, slots := 0, locals := 0 } : Room).slots) := by
  refine MetFree.of_bodySF (plainFor_of_name pn_0) hisR ?_
  intro p e s m args below meth c s₁ Bd hml0 hP hK
  obtain ⟨rfl, hZ, hh⟩ := hP
  have hx := Bd.exec
  have hby := Bd.bytes
  have hml : c.maxLocals = 1 := hml0
  have hown : s.vm.findClass "com/example/lapsed/lapsed/QueueCounts" = some m.cls := findClass_of_methodNamed Bd.named
  have hnm := (name_of_methodNamed Bd.named Bd.method).1
  have X0 : Stand p l e ({ frames := 0, cells := 0, slots := 0, locals := 0 } : Room) s m #[(.ref ao)] below meth c s₁ [] 0 0 := Stand.of_body Bd
  have e0 : s₁.heap = h0 := by rw [← hh, Bd.state]; rfl
  have N0 := Fr.nil n0
  have K0 : Keep h0 h0 [] := Keep.refl h0 []
  show Go p.tables e below _ (s₁.setTop (entryFrame m #[(.ref ao)] 1))
  refine Go.start ?_
  intro G hG
  refine Go.st (fun t k => castTop (ef_dead m ao) k) ?_
  show Go p.tables e below _ (s₁.setTop (mkF m 0 #[.val (.ref ao)] []))
  refine Go.st (fun _ k => XS.aloadN X0.here hx rfl (hb hby d_dead_0) rfl rfl k) ?_
  show Go p.tables e below _ (s₁.setTop (mkF m 1 #[.val (.ref ao)] [(.ref ao)]))
  obtain ⟨T1, X1, e1, st1⟩ := getF X0 hx hZ hown (host := "") (Or.inl (hw _ (List.mem_of_getElem? (i := 13) rfl))) Via.refl e0 P0 (g := (mkF m 1 #[.val (.ref ao)] [(.ref ao)])) rfl rfl (hb hby d_dead_1)
  refine Go.st st1 ?_
  show Go p.tables e below _ (T1.setTop (mkF m 4 #[.val (.ref ao)] [(.long w1)]))
  subst hG
  obtain ⟨fs, hr, hrun, hended, hW, hsame⟩ := X1.leave (v := some (.long w1)) (fun h => by rw [Bd.returns] at h; cases h)
  refine ⟨_, _, ?_, hrun, hended, _, _, rfl, ?_, ⟨_, rfl⟩, hW, hsame.mono (by decide) (by decide)⟩
  · exact retOut X1 hx Bd.returns rfl (Or.inr (Or.inl ⟨rfl, rfl, _, rfl⟩)) (hb hby d_dead_4) hr
  · show Q_dead Z ao w1 h0 n0 _ T1.heap _
    rw [e1]
    exact ⟨rfl, N0, rfl⟩
theorem pd_1 : parseMethodDescriptor "(Lcom/example/lapsed/lapsed/QueueCounts;)Lcom/example/lapsed/lapsed/QueueCounts;" = some ⟨[(.object "com/example/lapsed/lapsed/QueueCounts")], some (.object "com/example/lapsed/lapsed/QueueCounts")⟩ := by decide +kernel
theorem pd_2 : parseMethodDescriptor "()J" = some ⟨[], some .long⟩ := by decide +kernel
theorem pn_1 : plainName "com/example/lapsed/lapsed/QueueCountsPlusPinLaw" = true := by first | (simp [plainName, overriddenIn]; done) | decide +kernel
theorem ef_law (m : MethodId) (p1 : Int64) (p2 : Int64) (p3 : Int64) (r1 : Int64) (r2 : Int64) (r3 : Int64) : entryFrame m #[(.long p1), (.long p2), (.long p3), (.long r1), (.long r2), (.long r3)] maxLocals = mkF m 0 #[.val (.long p1), .second, .val (.long p2), .second, .val (.long p3), .second, .val (.long r1), .second, .val (.long r2), .second, .val (.long r3), .second, .unset, .unset, .unset] [] := by first | (simp [entryFrame, mkF, argsToLocals, Value.category, maxLocals]; done) | rfl
def Q_law (Z : State) (p1 : Int64) (p2 : Int64) (p3 : Int64) (r1 : Int64) (r2 : Int64) (r3 : Int64) (h0 : Heap) (n0 : Nat) (v : Option Value) (h : Heap) (L : List Loc) : Prop := v = some (.int (1 : Int32)) ∧ Fr n0 L ∧ Keep h0 h []
set_option maxRecDepth 65536 in
set_option maxHeartbeats 40000000 in
theorem rm_law (l : Launch) (Z : State) (a0 : Array Value) (hw : ∀ d ∈ tables_1, d.before a0 Z = true) (ws : List Jvm.Cond) (p1 : Int64) (p2 : Int64) (p3 : Int64) (r1 : Int64) (r2 : Int64) (r3 : Int64) (h0 : Heap) (n0 : Nat) (Z0 : n0 ≤ h0.size)  :
    MetFree l x (head1 (Jvm.Cond.code x code maxLocals ret :: ws) room_1) (fun a U => a = #[(.long p1), (.long p2), (.long p3), (.long r1), (.long r2), (.long r3)] ∧ Z.Warmed39 U.vm ∧ U.heap = h0) (fun _ _ _ _ _ => True) (fun _ U o U' => ∃ v L, o = .returned v ∧ Q_law Z p1 p2 p3 r1 r2 r3 h0 n0 v U'.heap L ∧ FrameEnd U o U' L room_1.cells room_1.slots) := by
  refine MetFree.of_bodySF (plainFor_of_name pn_1) hisR ?_
  intro p e s m args below meth c s₁ Bd hml0 hP hK
  obtain ⟨rfl, hZ, hh⟩ := hP
  have hx := Bd.exec
  have hby := Bd.bytes
  have hml : c.maxLocals = 15 := hml0
  have hown : s.vm.findClass "com/example/lapsed/lapsed/QueueCountsPlusPinLaw" = some m.cls := findClass_of_methodNamed Bd.named
  have hnm := (name_of_methodNamed Bd.named Bd.method).1
  have X0 : Stand p l e room_1 s m #[(.long p1), (.long p2), (.long p3), (.long r1), (.long r2), (.long r3)] below meth c s₁ [] 0 0 := Stand.of_body Bd
  have e0 : s₁.heap = h0 := by rw [← hh, Bd.state]; rfl
  have N0 := Fr.nil n0
  have K0 : Keep h0 h0 [] := Keep.refl h0 []
  show Go p.tables e below _ (s₁.setTop (entryFrame m #[(.long p1), (.long p2), (.long p3), (.long r1), (.long r2), (.long r3)] maxLocals))
  refine Go.start ?_
  intro G hG
  refine Go.st (fun t k => castTop (ef_law m p1 p2 p3 r1 r2 r3) k) ?_
  show Go p.tables e below _ (s₁.setTop (mkF m 0 #[.val (.long p1), .second, .val (.long p2), .second, .val (.long p3), .second, .val (.long r1), .second, .val (.long r2), .second, .val (.long r3), .second, .unset, .unset, .unset] []))
  obtain ⟨T1, h1, X1, e1, E1, A1, D1, -, st1⟩ := newO X0 hx hZ hown (hw _ (List.mem_of_getElem? (i := 0) rfl)) (hw _ (List.mem_of_getElem? (i := 1) rfl)) (hw _ (List.mem_of_getElem? (i := 2) rfl)) e0 (g := (mkF m 0 #[.val (.long p1), .second, .val (.long p2), .second, .val (.long p3), .second, .val (.long r1), .second, .val (.long r2), .second, .val (.long r3), .second, .unset, .unset, .unset] [])) rfl (hb hby at_0) (by decide) (by decide)
  obtain ⟨b1, g1⟩ : ∃ z, z = h0.size := ⟨_, rfl⟩
  rw [← g1] at A1 D1 st1
  refine Go.st st1 ?_
  have ge2 : n0 ≤ b1 := Nat.le_trans Z0 (Nat.le_of_eq g1.symm)
  have sz3 : h0.size ≤ b1 := Nat.le_trans K0.1 (Nat.le_of_eq g1.symm)
  have Z4 : n0 ≤ h1.size := Nat.le_trans Z0 E1.1
  have K5 : Keep h0 h1 [] := K0.ext E1
  have F6 : Fld Z h1 b1 "com/example/lapsed/lapsed/QueueCounts" "pending" "J" (.long (0 : Int64)) := D1 (Or.inr (hw _ (List.mem_of_getElem? (i := 10) rfl))) (ty := .long) (by decide)
  have F7 : Fld Z h1 b1 "com/example/lapsed/lapsed/QueueCounts" "claimed" "J" (.long (0 : Int64)) := D1 (Or.inr (hw _ (List.mem_of_getElem? (i := 12) rfl))) (ty := .long) (by decide)
  have F8 : Fld Z h1 b1 "com/example/lapsed/lapsed/QueueCounts" "dead" "J" (.long (0 : Int64)) := D1 (Or.inr (hw _ (List.mem_of_getElem? (i := 14) rfl))) (ty := .long) (by decide)
  show Go p.tables e below _ (T1.setTop (mkF m 3 #[.val (.long p1), .second, .val (.long p2), .second, .val (.long p3), .second, .val (.long r1), .second, .val (.long r2), .second, .val (.long r3), .second, .unset, .unset, .unset] [(.ref b1)]))
  refine Go.st (fun _ k => XS.dup X1.here hx rfl (hb hby at_3) rfl rfl k) ?_
  show Go p.tables e below _ (T1.setTop (mkF m 4 #[.val (.long p1), .second, .val (.long p2), .second, .val (.long p3), .second, .val (.long r1), .second, .val (.long r2), .second, .val (.long r3), .second, .unset, .unset, .unset] [(.ref b1), (.ref b1)]))
  refine Go.st (fun _ k => XS.lloadN X1.here hx rfl (hb hby at_4) rfl k) ?_
  show Go p.tables e below _ (T1.setTop (mkF m 5 #[.val (.long p1), .second, .val (.long p2), .second, .val (.long p3), .second, .val (.long r1), .second, .val (.long r2), .second, .val (.long r3), .second, .unset, .unset, .unset] [(.long p1), (.ref b1), (.ref b1)]))
  refine Go.st (fun _ k => XS.lloadN X1.here hx rfl (hb hby at_5) rfl k) ?_
  show Go p.tables e below _ (T1.setTop (mkF m 6 #[.val (.long p1), .second, .val (.long p2), .second, .val (.long p3), .second, .val (.long r1), .second, .val (.long r2), .second, .val (.long r3), .second, .unset, .unset, .unset] [(.long p2), (.long p1), (.ref b1), (.ref b1)]))
  refine Go.st (fun _ k => XS.lload X1.here hx rfl (hb hby at_6) rfl k) ?_
  show Go p.tables e below _ (T1.setTop (mkF m 8 #[.val (.long p1), .second, .val (.long p2), .second, .val (.long p3), .second, .val (.long r1), .second, .val (.long r2), .second, .val (.long r3), .second, .unset, .unset, .unset] [(.long p3), (.long p2), (.long p1), (.ref b1), (.ref b1)]))
  obtain ⟨_, _, ⟨T9, L9, k9, n9⟩, -, X9, ⟨Lc9, hQ9, l9, y9, z9⟩, st9⟩ := X1.specialBack hx (y := (⟨"com/example/lapsed/lapsed/QueueCounts", "<init>", "(JJJ)V"⟩ : MethodName)) rfl hown (mvT hZ (hw _ (List.mem_of_getElem? (i := 3) rfl))) (mvT hZ (hw _ (List.mem_of_getElem? (i := 4) rfl))) (mvT hZ (hw _ (List.mem_of_getElem? (i := 5) rfl))) (by decide) (backOf (W := 1) (rm_qinit l Z a0 hw [] b1 p1 p2 p3 h1 n0 Z4 A1 F6 F7 F8 ge2) hZ (hw _ (List.mem_of_getElem? (i := 5) rfl)) (hw _ (List.mem_of_getElem? (i := 2) rfl)) (by decide) (by decide)) (g := (mkF m 8 #[.val (.long p1), .second, .val (.long p2), .second, .val (.long p3), .second, .val (.long r1), .second, .val (.long r2), .second, .val (.long r3), .second, .unset, .unset, .unset] [(.long p3), (.long p2), (.long p1), (.ref b1), (.ref b1)])) rfl (by rw [hml]; rfl) (Steps.refl _) (a := b1) (argsL := [(.long p1), (.long p2), (.long p3)]) (rest := [(.ref b1)]) (lenOf pd_0 rfl) rfl (by show 2 * 0 + _ ≤ _; exact Nat.le_of_eq rfl) (hb hby at_8) (fun _ _ => ⟨rfl, e1, (by decide : 1 + 0 ≤ _), (by decide : 3 + 0 ≤ _)⟩)
  dsimp only [Pt.U, Pt.locs, Pt.cells, Pt.slots] at X9 l9 y9 z9 st9 hQ9
  subst l9 y9 z9
  obtain ⟨rfl, N9q, K9q, Fq9_0, Fq9_1, Fq9_2, Fq9_3⟩ := hQ9
  have N9 := Fr.app N0 N9q
  refine Go.st (fun _ k => st9.trans k) ?_
  have Z10 : n0 ≤ T9.heap.size := Nat.le_trans Z4 K9q.1
  have K11 : Keep h0 T9.heap [] := K5.trans K9q (fun z hz => (List.mem_cons.mp hz).elim (fun q => by rw [q]; exact Or.inr sz3) (fun hz => absurd hz List.not_mem_nil))
  have F12 : Exa Z T9.heap b1 "com/example/lapsed/lapsed/QueueCounts" := A1.keep K9q
  show Go p.tables e below _ (T9.setTop (mkF m 11 #[.val (.long p1), .second, .val (.long p2), .second, .val (.long p3), .second, .val (.long r1), .second, .val (.long r2), .second, .val (.long r3), .second, .unset, .unset, .unset] [(.ref b1)]))
  refine Go.st (fun _ k => XS.astore X9.here hx rfl (hb hby at_11) rfl rfl (l' := #[.val (.long p1), .second, .val (.long p2), .second, .val (.long p3), .second, .val (.long r1), .second, .val (.long r2), .second, .val (.long r3), .second, .val (.ref b1), .unset, .unset]) rfl k) ?_
  show Go p.tables e below _ (T9.setTop (mkF m 13 #[.val (.long p1), .second, .val (.long p2), .second, .val (.long p3), .second, .val (.long r1), .second, .val (.long r2), .second, .val (.long r3), .second, .val (.ref b1), .unset, .unset] []))
  show Go p.tables e below _ (T9.setTop (mkF m 13 #[.val (.long p1), .second, .val (.long p2), .second, .val (.long p3), .second, .val (.long r1), .second, .val (.long r2), .second, .val (.long r3), .second, .val (.ref b1), .unset, .unset] []))
  obtain ⟨T13, h13, X13, e13, E13, A13, D13, -, st13⟩ := newO X9 hx hZ hown (hw _ (List.mem_of_getElem? (i := 0) rfl)) (hw _ (List.mem_of_getElem? (i := 1) rfl)) (hw _ (List.mem_of_getElem? (i := 2) rfl)) (rfl : T9.heap = T9.heap) (g := (mkF m 13 #[.val (.long p1), .second, .val (.long p2), .second, .val (.long p3), .second, .val (.long r1), .second, .val (.long r2), .second, .val (.long r3), .second, .val (.ref b1), .unset, .unset] [])) rfl (hb hby at_13) (by decide) (by decide)
  obtain ⟨b13, g13⟩ : ∃ z, z = T9.heap.size := ⟨_, rfl⟩
  rw [← g13] at A13 D13 st13
  refine Go.st st13 ?_
  have ne14 : b1 ≠ b13 := Nat.ne_of_lt (Nat.lt_of_lt_of_le Fq9_0.lt (Nat.le_of_eq g13.symm))
  have ge15 : n0 ≤ b13 := Nat.le_trans Z10 (Nat.le_of_eq g13.symm)
  have sz16 : h0.size ≤ b13 := Nat.le_trans K11.1 (Nat.le_of_eq g13.symm)
  have Z17 : n0 ≤ h13.size := Nat.le_trans Z10 E13.1
  have K18 : Keep h0 h13 [] := K11.ext E13
  have F19 : Exa Z h13 b1 "com/example/lapsed/lapsed/QueueCounts" := Fq9_0.ext E13
  have F20 : Fld Z h13 b1 "com/example/lapsed/lapsed/QueueCounts" "pending" "J" (.long p1) := Fq9_1.ext E13
  have F21 : Fld Z h13 b1 "com/example/lapsed/lapsed/QueueCounts" "claimed" "J" (.long p2) := Fq9_2.ext E13
  have F22 : Fld Z h13 b1 "com/example/lapsed/lapsed/QueueCounts" "dead" "J" (.long p3) := Fq9_3.ext E13
  have F23 : Fld Z h13 b13 "com/example/lapsed/lapsed/QueueCounts" "pending" "J" (.long (0 : Int64)) := D13 (Or.inr (hw _ (List.mem_of_getElem? (i := 10) rfl))) (ty := .long) (by decide)
  have F24 : Fld Z h13 b13 "com/example/lapsed/lapsed/QueueCounts" "claimed" "J" (.long (0 : Int64)) := D13 (Or.inr (hw _ (List.mem_of_getElem? (i := 12) rfl))) (ty := .long) (by decide)
  have F25 : Fld Z h13 b13 "com/example/lapsed/lapsed/QueueCounts" "dead" "J" (.long (0 : Int64)) := D13 (Or.inr (hw _ (List.mem_of_getElem? (i := 14) rfl))) (ty := .long) (by decide)
  show Go p.tables e below _ (T13.setTop (mkF m 16 #[.val (.long p1), .second, .val (.long p2), .second, .val (.long p3), .second, .val (.long r1), .second, .val (.long r2), .second, .val (.long r3), .second, .val (.ref b1), .unset, .unset] [(.ref b13)]))
  refine Go.st (fun _ k => XS.dup X13.here hx rfl (hb hby at_16) rfl rfl k) ?_
  show Go p.tables e below _ (T13.setTop (mkF m 17 #[.val (.long p1), .second, .val (.long p2), .second, .val (.long p3), .second, .val (.long r1), .second, .val (.long r2), .second, .val (.long r3), .second, .val (.ref b1), .unset, .unset] [(.ref b13), (.ref b13)]))
  refine Go.st (fun _ k => XS.lload X13.here hx rfl (hb hby at_17) rfl k) ?_
  show Go p.tables e below _ (T13.setTop (mkF m 19 #[.val (.long p1), .second, .val (.long p2), .second, .val (.long p3), .second, .val (.long r1), .second, .val (.long r2), .second, .val (.long r3), .second, .val (.ref b1), .unset, .unset] [(.long r1), (.ref b13), (.ref b13)]))
  refine Go.st (fun _ k => XS.lload X13.here hx rfl (hb hby at_19) rfl k) ?_
  show Go p.tables e below _ (T13.setTop (mkF m 21 #[.val (.long p1), .second, .val (.long p2), .second, .val (.long p3), .second, .val (.long r1), .second, .val (.long r2), .second, .val (.long r3), .second, .val (.ref b1), .unset, .unset] [(.long r2), (.long r1), (.ref b13), (.ref b13)]))
  refine Go.st (fun _ k => XS.lload X13.here hx rfl (hb hby at_21) rfl k) ?_
  show Go p.tables e below _ (T13.setTop (mkF m 23 #[.val (.long p1), .second, .val (.long p2), .second, .val (.long p3), .second, .val (.long r1), .second, .val (.long r2), .second, .val (.long r3), .second, .val (.ref b1), .unset, .unset] [(.long r3), (.long r2), (.long r1), (.ref b13), (.ref b13)]))
  obtain ⟨_, _, ⟨T26, L26, k26, n26⟩, -, X26, ⟨Lc26, hQ26, l26, y26, z26⟩, st26⟩ := X13.specialBack hx (y := (⟨"com/example/lapsed/lapsed/QueueCounts", "<init>", "(JJJ)V"⟩ : MethodName)) rfl hown (mvT hZ (hw _ (List.mem_of_getElem? (i := 3) rfl))) (mvT hZ (hw _ (List.mem_of_getElem? (i := 4) rfl))) (mvT hZ (hw _ (List.mem_of_getElem? (i := 5) rfl))) (by decide) (backOf (W := 1) (rm_qinit l Z a0 hw [] b13 r1 r2 r3 h13 n0 Z17 A13 F23 F24 F25 ge15) hZ (hw _ (List.mem_of_getElem? (i := 5) rfl)) (hw _ (List.mem_of_getElem? (i := 2) rfl)) (by decide) (by decide)) (g := (mkF m 23 #[.val (.long p1), .second, .val (.long p2), .second, .val (.long p3), .second, .val (.long r1), .second, .val (.long r2), .second, .val (.long r3), .second, .val (.ref b1), .unset, .unset] [(.long r3), (.long r2), (.long r1), (.ref b13), (.ref b13)])) rfl (by rw [hml]; rfl) (Steps.refl _) (a := b13) (argsL := [(.long r1), (.long r2), (.long r3)]) (rest := [(.ref b13)]) (lenOf pd_0 rfl) rfl (by show 2 * 0 + _ ≤ _; exact Nat.le_of_eq rfl) (hb hby at_23) (fun _ _ => ⟨rfl, e13, (by decide : 2 + 0 ≤ _), (by decide : 6 + 0 ≤ _)⟩)
  dsimp only [Pt.U, Pt.locs, Pt.cells, Pt.slots] at X26 l26 y26 z26 st26 hQ26
  subst l26 y26 z26
  obtain ⟨rfl, N26q, K26q, Fq26_0, Fq26_1, Fq26_2, Fq26_3⟩ := hQ26
  have N26 := Fr.app N9 N26q
  refine Go.st (fun _ k => st26.trans k) ?_
  have Z27 : n0 ≤ T26.heap.size := Nat.le_trans Z17 K26q.1
  have K28 : Keep h0 T26.heap [] := K18.trans K26q (fun z hz => (List.mem_cons.mp hz).elim (fun q => by rw [q]; exact Or.inr sz16) (fun hz => absurd hz List.not_mem_nil))
  have F29 : Exa Z T26.heap b1 "com/example/lapsed/lapsed/QueueCounts" := F19.keep K26q
  have F30 : Fld Z T26.heap b1 "com/example/lapsed/lapsed/QueueCounts" "pending" "J" (.long p1) := F20.keep K26q (fun z => (List.mem_cons.mp z).elim ne14 (fun z => absurd z List.not_mem_nil))
  have F31 : Fld Z T26.heap b1 "com/example/lapsed/lapsed/QueueCounts" "claimed" "J" (.long p2) := F21.keep K26q (fun z => (List.mem_cons.mp z).elim ne14 (fun z => absurd z List.not_mem_nil))
  have F32 : Fld Z T26.heap b1 "com/example/lapsed/lapsed/QueueCounts" "dead" "J" (.long p3) := F22.keep K26q (fun z => (List.mem_cons.mp z).elim ne14 (fun z => absurd z List.not_mem_nil))
  have F33 : Exa Z T26.heap b13 "com/example/lapsed/lapsed/QueueCounts" := A13.keep K26q
  show Go p.tables e below _ (T26.setTop (mkF m 26 #[.val (.long p1), .second, .val (.long p2), .second, .val (.long p3), .second, .val (.long r1), .second, .val (.long r2), .second, .val (.long r3), .second, .val (.ref b1), .unset, .unset] [(.ref b13)]))
  refine Go.st (fun _ k => XS.astore X26.here hx rfl (hb hby at_26) rfl rfl (l' := #[.val (.long p1), .second, .val (.long p2), .second, .val (.long p3), .second, .val (.long r1), .second, .val (.long r2), .second, .val (.long r3), .second, .val (.ref b1), .val (.ref b13), .unset]) rfl k) ?_
  show Go p.tables e below _ (T26.setTop (mkF m 28 #[.val (.long p1), .second, .val (.long p2), .second, .val (.long p3), .second, .val (.long r1), .second, .val (.long r2), .second, .val (.long r3), .second, .val (.ref b1), .val (.ref b13), .unset] []))
  show Go p.tables e below _ (T26.setTop (mkF m 28 #[.val (.long p1), .second, .val (.long p2), .second, .val (.long p3), .second, .val (.long r1), .second, .val (.long r2), .second, .val (.long r3), .second, .val (.ref b1), .val (.ref b13), .unset] []))
  refine Go.st (fun _ k => XS.aload X26.here hx rfl (hb hby at_28) rfl rfl k) ?_
  show Go p.tables e below _ (T26.setTop (mkF m 30 #[.val (.long p1), .second, .val (.long p2), .second, .val (.long p3), .second, .val (.long r1), .second, .val (.long r2), .second, .val (.long r3), .second, .val (.ref b1), .val (.ref b13), .unset] [(.ref b1)]))
  refine Go.st (fun _ k => XS.aload X26.here hx rfl (hb hby at_30) rfl rfl k) ?_
  show Go p.tables e below _ (T26.setTop (mkF m 32 #[.val (.long p1), .second, .val (.long p2), .second, .val (.long p3), .second, .val (.long r1), .second, .val (.long r2), .second, .val (.long r3), .second, .val (.ref b1), .val (.ref b13), .unset] [(.ref b13), (.ref b1)]))
  obtain ⟨cq34, kq34, q34a, q34b, q34c⟩ := isOf hZ (rfl : T26.heap = T26.heap) F29
  obtain ⟨_, _, ⟨T34, L34, k34, n34⟩, -, X34, ⟨Lc34, hQ34, l34, y34, z34⟩, st34⟩ := X26.virtualBack hx (y := (⟨"com/example/lapsed/lapsed/QueueCounts", "plus", "(Lcom/example/lapsed/lapsed/QueueCounts;)Lcom/example/lapsed/lapsed/QueueCounts;"⟩ : MethodName)) (z := (⟨"com/example/lapsed/lapsed/QueueCounts", "plus", "(Lcom/example/lapsed/lapsed/QueueCounts;)Lcom/example/lapsed/lapsed/QueueCounts;"⟩ : MethodName)) hown (mvT hZ (hw _ (List.mem_of_getElem? (i := 15) rfl))) (mvT hZ (hw _ (List.mem_of_getElem? (i := 16) rfl))) (notFace_of_selects (args := #[]) (mvT hZ (hw _ (List.mem_of_getElem? (i := 18) rfl)))) (mvT hZ (hw _ (List.mem_of_getElem? (i := 18) rfl))) (mvT hZ (hw _ (List.mem_of_getElem? (i := 17) rfl))) (by decide) (backOf (W := 0) (rm_plus l Z a0 hw [] b1 b13 p1 p2 p3 r1 r2 r3 T26.heap n0 Z27 F30 F31 F32 Fq26_1 Fq26_2 Fq26_3) hZ (hw _ (List.mem_of_getElem? (i := 19) rfl)) (hw _ (List.mem_of_getElem? (i := 2) rfl)) (by decide) (by decide)) q34a q34c (g := (mkF m 32 #[.val (.long p1), .second, .val (.long p2), .second, .val (.long p3), .second, .val (.long r1), .second, .val (.long r2), .second, .val (.long r3), .second, .val (.ref b1), .val (.ref b13), .unset] [(.ref b13), (.ref b1)])) rfl (by rw [hml]; rfl) (Steps.refl _) (argsL := [(.ref b13)]) (rest := []) (lenOf pd_1 rfl) rfl (by show 2 * 0 + _ ≤ _; exact Nat.le_of_eq rfl) (hb hby at_32) (fun _ _ => ⟨rfl, (rfl : T26.heap = T26.heap), (by decide : 2 + 1 ≤ _), (by decide : 6 + 3 ≤ _)⟩)
  dsimp only [Pt.U, Pt.locs, Pt.cells, Pt.slots] at X34 l34 y34 z34 st34 hQ34
  subst l34 y34 z34
  obtain ⟨b34_fr, rfl, N34q, K34q, g34_fr, s34_fr, Fq34_0, Fq34_1, Fq34_2, Fq34_3⟩ := hQ34
  have N34 := Fr.app N26 N34q
  refine Go.st (fun _ k => st34.trans k) ?_
  have ne35 : b1 ≠ b34_fr := Nat.ne_of_lt (Nat.lt_of_lt_of_le F29.lt s34_fr)
  have ne36 : b13 ≠ b34_fr := Nat.ne_of_lt (Nat.lt_of_lt_of_le Fq26_0.lt s34_fr)
  have sz37 : h0.size ≤ b34_fr := Nat.le_trans K28.1 s34_fr
  have Z38 : n0 ≤ T34.heap.size := Nat.le_trans Z27 K34q.1
  have K39 : Keep h0 T34.heap [] := K28.trans K34q (fun z hz => absurd hz List.not_mem_nil)
  have F40 : Exa Z T34.heap b1 "com/example/lapsed/lapsed/QueueCounts" := F29.keep K34q
  have F41 : Fld Z T34.heap b1 "com/example/lapsed/lapsed/QueueCounts" "pending" "J" (.long p1) := F30.keep K34q List.not_mem_nil
  have F42 : Fld Z T34.heap b1 "com/example/lapsed/lapsed/QueueCounts" "claimed" "J" (.long p2) := F31.keep K34q List.not_mem_nil
  have F43 : Fld Z T34.heap b1 "com/example/lapsed/lapsed/QueueCounts" "dead" "J" (.long p3) := F32.keep K34q List.not_mem_nil
  have F44 : Exa Z T34.heap b13 "com/example/lapsed/lapsed/QueueCounts" := Fq26_0.keep K34q
  have F45 : Fld Z T34.heap b13 "com/example/lapsed/lapsed/QueueCounts" "pending" "J" (.long r1) := Fq26_1.keep K34q List.not_mem_nil
  have F46 : Fld Z T34.heap b13 "com/example/lapsed/lapsed/QueueCounts" "claimed" "J" (.long r2) := Fq26_2.keep K34q List.not_mem_nil
  have F47 : Fld Z T34.heap b13 "com/example/lapsed/lapsed/QueueCounts" "dead" "J" (.long r3) := Fq26_3.keep K34q List.not_mem_nil
  show Go p.tables e below _ (T34.setTop (mkF m 35 #[.val (.long p1), .second, .val (.long p2), .second, .val (.long p3), .second, .val (.long r1), .second, .val (.long r2), .second, .val (.long r3), .second, .val (.ref b1), .val (.ref b13), .unset] [(.ref b34_fr)]))
  refine Go.st (fun _ k => XS.astore X34.here hx rfl (hb hby at_35) rfl rfl (l' := #[.val (.long p1), .second, .val (.long p2), .second, .val (.long p3), .second, .val (.long r1), .second, .val (.long r2), .second, .val (.long r3), .second, .val (.ref b1), .val (.ref b13), .val (.ref b34_fr)]) rfl k) ?_
  show Go p.tables e below _ (T34.setTop (mkF m 37 #[.val (.long p1), .second, .val (.long p2), .second, .val (.long p3), .second, .val (.long r1), .second, .val (.long r2), .second, .val (.long r3), .second, .val (.ref b1), .val (.ref b13), .val (.ref b34_fr)] []))
  show Go p.tables e below _ (T34.setTop (mkF m 37 #[.val (.long p1), .second, .val (.long p2), .second, .val (.long p3), .second, .val (.long r1), .second, .val (.long r2), .second, .val (.long r3), .second, .val (.ref b1), .val (.ref b13), .val (.ref b34_fr)] []))
  refine Go.st (fun _ k => XS.aload X34.here hx rfl (hb hby at_37) rfl rfl k) ?_
  show Go p.tables e below _ (T34.setTop (mkF m 39 #[.val (.long p1), .second, .val (.long p2), .second, .val (.long p3), .second, .val (.long r1), .second, .val (.long r2), .second, .val (.long r3), .second, .val (.ref b1), .val (.ref b13), .val (.ref b34_fr)] [(.ref b34_fr)]))
  obtain ⟨cq48, kq48, q48a, q48b, q48c⟩ := isOf hZ (rfl : T34.heap = T34.heap) Fq34_0
  obtain ⟨_, _, ⟨T48, L48, k48, n48⟩, -, X48, ⟨Lc48, hQ48, l48, y48, z48⟩, st48⟩ := X34.virtualBack hx (y := (⟨"com/example/lapsed/lapsed/QueueCounts", "pending", "()J"⟩ : MethodName)) (z := (⟨"com/example/lapsed/lapsed/QueueCounts", "pending", "()J"⟩ : MethodName)) hown (mvT hZ (hw _ (List.mem_of_getElem? (i := 22) rfl))) (mvT hZ (hw _ (List.mem_of_getElem? (i := 23) rfl))) (notFace_of_selects (args := #[]) (mvT hZ (hw _ (List.mem_of_getElem? (i := 25) rfl)))) (mvT hZ (hw _ (List.mem_of_getElem? (i := 25) rfl))) (mvT hZ (hw _ (List.mem_of_getElem? (i := 24) rfl))) (by decide) (backOf (W := 0) (rm_pending l Z a0 hw [] b34_fr (p1 + r1) T34.heap n0 Z38 Fq34_1) hZ (hw _ (List.mem_of_getElem? (i := 26) rfl)) (hw _ (List.mem_of_getElem? (i := 2) rfl)) (by decide) (by decide)) q48a q48c (g := (mkF m 39 #[.val (.long p1), .second, .val (.long p2), .second, .val (.long p3), .second, .val (.long r1), .second, .val (.long r2), .second, .val (.long r3), .second, .val (.ref b1), .val (.ref b13), .val (.ref b34_fr)] [(.ref b34_fr)])) rfl (by rw [hml]; rfl) (Steps.refl _) (argsL := []) (rest := []) (lenOf pd_2 rfl) rfl (by show 2 * 0 + _ ≤ _; exact Nat.le_of_eq rfl) (hb hby at_39) (fun _ _ => ⟨rfl, (rfl : T34.heap = T34.heap), (by decide : 3 + 0 ≤ _), (by decide : 9 + 0 ≤ _)⟩)
  dsimp only [Pt.U, Pt.locs, Pt.cells, Pt.slots] at X48 l48 y48 z48 st48 hQ48
  subst l48 y48 z48
  obtain ⟨rfl, N48q, e48⟩ := hQ48
  have N48 := Fr.app N34 N48q
  refine Go.st (fun _ k => st48.trans k) ?_
  show Go p.tables e below _ (T48.setTop (mkF m 42 #[.val (.long p1), .second, .val (.long p2), .second, .val (.long p3), .second, .val (.long r1), .second, .val (.long r2), .second, .val (.long r3), .second, .val (.ref b1), .val (.ref b13), .val (.ref b34_fr)] [(.long (p1 + r1))]))
  refine Go.st (fun _ k => XS.lloadN X48.here hx rfl (hb hby at_42) rfl k) ?_
  show Go p.tables e below _ (T48.setTop (mkF m 43 #[.val (.long p1), .second, .val (.long p2), .second, .val (.long p3), .second, .val (.long r1), .second, .val (.long r2), .second, .val (.long r3), .second, .val (.ref b1), .val (.ref b13), .val (.ref b34_fr)] [(.long p1), (.long (p1 + r1))]))
  refine Go.st (fun _ k => XS.lload X48.here hx rfl (hb hby at_43) rfl k) ?_
  show Go p.tables e below _ (T48.setTop (mkF m 45 #[.val (.long p1), .second, .val (.long p2), .second, .val (.long p3), .second, .val (.long r1), .second, .val (.long r2), .second, .val (.long r3), .second, .val (.ref b1), .val (.ref b13), .val (.ref b34_fr)] [(.long r1), (.long p1), (.long (p1 + r1))]))
  refine Go.st (fun _ k => XS.ladd X48.here hx rfl (hb hby at_45) rfl k) ?_
  show Go p.tables e below _ (T48.setTop (mkF m 46 #[.val (.long p1), .second, .val (.long p2), .second, .val (.long p3), .second, .val (.long r1), .second, .val (.long r2), .second, .val (.long r3), .second, .val (.ref b1), .val (.ref b13), .val (.ref b34_fr)] [(.long (p1 + r1)), (.long (p1 + r1))]))
  refine Go.st (fun _ k => Jvm.Free.XT.lcmp X48.here hx rfl (hb hby at_46) rfl k) ?_
  show Go p.tables e below _ (T48.setTop (mkF m 47 #[.val (.long p1), .second, .val (.long p2), .second, .val (.long p3), .second, .val (.long r1), .second, .val (.long r2), .second, .val (.long r3), .second, .val (.ref b1), .val (.ref b13), .val (.ref b34_fr)] [(.int (Jvm.Free.XT.cmpL (p1 + r1) (p1 + r1)))]))
  have hc47 : (p1 + r1) = (p1 + r1) := rfl
  refine Go.st (fun _ k => XS.ifNo X48.here hx rfl (hb hby at_47) rfl (Jvm.Free.XT.ll_ne_f hc47) k) ?_
  show Go p.tables e below _ (T48.setTop (mkF m 50 #[.val (.long p1), .second, .val (.long p2), .second, .val (.long p3), .second, .val (.long r1), .second, .val (.long r2), .second, .val (.long r3), .second, .val (.ref b1), .val (.ref b13), .val (.ref b34_fr)] []))
  refine Go.st (fun _ k => XS.aload X48.here hx rfl (hb hby at_50) rfl rfl k) ?_
  show Go p.tables e below _ (T48.setTop (mkF m 52 #[.val (.long p1), .second, .val (.long p2), .second, .val (.long p3), .second, .val (.long r1), .second, .val (.long r2), .second, .val (.long r3), .second, .val (.ref b1), .val (.ref b13), .val (.ref b34_fr)] [(.ref b34_fr)]))
  obtain ⟨cq49, kq49, q49a, q49b, q49c⟩ := isOf hZ e48 Fq34_0
  obtain ⟨_, _, ⟨T49, L49, k49, n49⟩, -, X49, ⟨Lc49, hQ49, l49, y49, z49⟩, st49⟩ := X48.virtualBack hx (y := (⟨"com/example/lapsed/lapsed/QueueCounts", "claimed", "()J"⟩ : MethodName)) (z := (⟨"com/example/lapsed/lapsed/QueueCounts", "claimed", "()J"⟩ : MethodName)) hown (mvT hZ (hw _ (List.mem_of_getElem? (i := 27) rfl))) (mvT hZ (hw _ (List.mem_of_getElem? (i := 28) rfl))) (notFace_of_selects (args := #[]) (mvT hZ (hw _ (List.mem_of_getElem? (i := 30) rfl)))) (mvT hZ (hw _ (List.mem_of_getElem? (i := 30) rfl))) (mvT hZ (hw _ (List.mem_of_getElem? (i := 29) rfl))) (by decide) (backOf (W := 0) (rm_claimed l Z a0 hw [] b34_fr (p2 + r2) T34.heap n0 Z38 Fq34_2) hZ (hw _ (List.mem_of_getElem? (i := 31) rfl)) (hw _ (List.mem_of_getElem? (i := 2) rfl)) (by decide) (by decide)) q49a q49c (g := (mkF m 52 #[.val (.long p1), .second, .val (.long p2), .second, .val (.long p3), .second, .val (.long r1), .second, .val (.long r2), .second, .val (.long r3), .second, .val (.ref b1), .val (.ref b13), .val (.ref b34_fr)] [(.ref b34_fr)])) rfl (by rw [hml]; rfl) (Steps.refl _) (argsL := []) (rest := []) (lenOf pd_2 rfl) rfl (by show 2 * 0 + _ ≤ _; exact Nat.le_of_eq rfl) (hb hby at_52) (fun _ _ => ⟨rfl, e48, (by decide : 3 + 0 ≤ _), (by decide : 9 + 0 ≤ _)⟩)
  dsimp only [Pt.U, Pt.locs, Pt.cells, Pt.slots] at X49 l49 y49 z49 st49 hQ49
  subst l49 y49 z49
  obtain ⟨rfl, N49q, e49⟩ := hQ49
  have N49 := Fr.app N48 N49q
  refine Go.st (fun _ k => st49.trans k) ?_
  show Go p.tables e below _ (T49.setTop (mkF m 55 #[.val (.long p1), .second, .val (.long p2), .second, .val (.long p3), .second, .val (.long r1), .second, .val (.long r2), .second, .val (.long r3), .second, .val (.ref b1), .val (.ref b13), .val (.ref b34_fr)] [(.long (p2 + r2))]))
  refine Go.st (fun _ k => XS.lloadN X49.here hx rfl (hb hby at_55) rfl k) ?_
  show Go p.tables e below _ (T49.setTop (mkF m 56 #[.val (.long p1), .second, .val (.long p2), .second, .val (.long p3), .second, .val (.long r1), .second, .val (.long r2), .second, .val (.long r3), .second, .val (.ref b1), .val (.ref b13), .val (.ref b34_fr)] [(.long p2), (.long (p2 + r2))]))
  refine Go.st (fun _ k => XS.lload X49.here hx rfl (hb hby at_56) rfl k) ?_
  show Go p.tables e below _ (T49.setTop (mkF m 58 #[.val (.long p1), .second, .val (.long p2), .second, .val (.long p3), .second, .val (.long r1), .second, .val (.long r2), .second, .val (.long r3), .second, .val (.ref b1), .val (.ref b13), .val (.ref b34_fr)] [(.long r2), (.long p2), (.long (p2 + r2))]))
  refine Go.st (fun _ k => XS.ladd X49.here hx rfl (hb hby at_58) rfl k) ?_
  show Go p.tables e below _ (T49.setTop (mkF m 59 #[.val (.long p1), .second, .val (.long p2), .second, .val (.long p3), .second, .val (.long r1), .second, .val (.long r2), .second, .val (.long r3), .second, .val (.ref b1), .val (.ref b13), .val (.ref b34_fr)] [(.long (p2 + r2)), (.long (p2 + r2))]))
  refine Go.st (fun _ k => Jvm.Free.XT.lcmp X49.here hx rfl (hb hby at_59) rfl k) ?_
  show Go p.tables e below _ (T49.setTop (mkF m 60 #[.val (.long p1), .second, .val (.long p2), .second, .val (.long p3), .second, .val (.long r1), .second, .val (.long r2), .second, .val (.long r3), .second, .val (.ref b1), .val (.ref b13), .val (.ref b34_fr)] [(.int (Jvm.Free.XT.cmpL (p2 + r2) (p2 + r2)))]))
  have hc60 : (p2 + r2) = (p2 + r2) := rfl
  refine Go.st (fun _ k => XS.ifNo X49.here hx rfl (hb hby at_60) rfl (Jvm.Free.XT.ll_ne_f hc60) k) ?_
  show Go p.tables e below _ (T49.setTop (mkF m 63 #[.val (.long p1), .second, .val (.long p2), .second, .val (.long p3), .second, .val (.long r1), .second, .val (.long r2), .second, .val (.long r3), .second, .val (.ref b1), .val (.ref b13), .val (.ref b34_fr)] []))
  refine Go.st (fun _ k => XS.aload X49.here hx rfl (hb hby at_63) rfl rfl k) ?_
  show Go p.tables e below _ (T49.setTop (mkF m 65 #[.val (.long p1), .second, .val (.long p2), .second, .val (.long p3), .second, .val (.long r1), .second, .val (.long r2), .second, .val (.long r3), .second, .val (.ref b1), .val (.ref b13), .val (.ref b34_fr)] [(.ref b34_fr)]))
  obtain ⟨cq50, kq50, q50a, q50b, q50c⟩ := isOf hZ e49 Fq34_0
  obtain ⟨_, _, ⟨T50, L50, k50, n50⟩, -, X50, ⟨Lc50, hQ50, l50, y50, z50⟩, st50⟩ := X49.virtualBack hx (y := (⟨"com/example/lapsed/lapsed/QueueCounts", "dead", "()J"⟩ : MethodName)) (z := (⟨"com/example/lapsed/lapsed/QueueCounts", "dead", "()J"⟩ : MethodName)) hown (mvT hZ (hw _ (List.mem_of_getElem? (i := 32) rfl))) (mvT hZ (hw _ (List.mem_of_getElem? (i := 33) rfl))) (notFace_of_selects (args := #[]) (mvT hZ (hw _ (List.mem_of_getElem? (i := 35) rfl)))) (mvT hZ (hw _ (List.mem_of_getElem? (i := 35) rfl))) (mvT hZ (hw _ (List.mem_of_getElem? (i := 34) rfl))) (by decide) (backOf (W := 0) (rm_dead l Z a0 hw [] b34_fr (p3 + r3) T34.heap n0 Z38 Fq34_3) hZ (hw _ (List.mem_of_getElem? (i := 36) rfl)) (hw _ (List.mem_of_getElem? (i := 2) rfl)) (by decide) (by decide)) q50a q50c (g := (mkF m 65 #[.val (.long p1), .second, .val (.long p2), .second, .val (.long p3), .second, .val (.long r1), .second, .val (.long r2), .second, .val (.long r3), .second, .val (.ref b1), .val (.ref b13), .val (.ref b34_fr)] [(.ref b34_fr)])) rfl (by rw [hml]; rfl) (Steps.refl _) (argsL := []) (rest := []) (lenOf pd_2 rfl) rfl (by show 2 * 0 + _ ≤ _; exact Nat.le_of_eq rfl) (hb hby at_65) (fun _ _ => ⟨rfl, e49, (by decide : 3 + 0 ≤ _), (by decide : 9 + 0 ≤ _)⟩)
  dsimp only [Pt.U, Pt.locs, Pt.cells, Pt.slots] at X50 l50 y50 z50 st50 hQ50
  subst l50 y50 z50
  obtain ⟨rfl, N50q, e50⟩ := hQ50
  have N50 := Fr.app N49 N50q
  refine Go.st (fun _ k => st50.trans k) ?_
  show Go p.tables e below _ (T50.setTop (mkF m 68 #[.val (.long p1), .second, .val (.long p2), .second, .val (.long p3), .second, .val (.long r1), .second, .val (.long r2), .second, .val (.long r3), .second, .val (.ref b1), .val (.ref b13), .val (.ref b34_fr)] [(.long (p3 + r3))]))
  refine Go.st (fun _ k => XS.lload X50.here hx rfl (hb hby at_68) rfl k) ?_
  show Go p.tables e below _ (T50.setTop (mkF m 70 #[.val (.long p1), .second, .val (.long p2), .second, .val (.long p3), .second, .val (.long r1), .second, .val (.long r2), .second, .val (.long r3), .second, .val (.ref b1), .val (.ref b13), .val (.ref b34_fr)] [(.long p3), (.long (p3 + r3))]))
  refine Go.st (fun _ k => XS.lload X50.here hx rfl (hb hby at_70) rfl k) ?_
  show Go p.tables e below _ (T50.setTop (mkF m 72 #[.val (.long p1), .second, .val (.long p2), .second, .val (.long p3), .second, .val (.long r1), .second, .val (.long r2), .second, .val (.long r3), .second, .val (.ref b1), .val (.ref b13), .val (.ref b34_fr)] [(.long r3), (.long p3), (.long (p3 + r3))]))
  refine Go.st (fun _ k => XS.ladd X50.here hx rfl (hb hby at_72) rfl k) ?_
  show Go p.tables e below _ (T50.setTop (mkF m 73 #[.val (.long p1), .second, .val (.long p2), .second, .val (.long p3), .second, .val (.long r1), .second, .val (.long r2), .second, .val (.long r3), .second, .val (.ref b1), .val (.ref b13), .val (.ref b34_fr)] [(.long (p3 + r3)), (.long (p3 + r3))]))
  refine Go.st (fun _ k => Jvm.Free.XT.lcmp X50.here hx rfl (hb hby at_73) rfl k) ?_
  show Go p.tables e below _ (T50.setTop (mkF m 74 #[.val (.long p1), .second, .val (.long p2), .second, .val (.long p3), .second, .val (.long r1), .second, .val (.long r2), .second, .val (.long r3), .second, .val (.ref b1), .val (.ref b13), .val (.ref b34_fr)] [(.int (Jvm.Free.XT.cmpL (p3 + r3) (p3 + r3)))]))
  have hc74 : (p3 + r3) = (p3 + r3) := rfl
  refine Go.st (fun _ k => XS.ifNo X50.here hx rfl (hb hby at_74) rfl (Jvm.Free.XT.ll_ne_f hc74) k) ?_
  show Go p.tables e below _ (T50.setTop (mkF m 77 #[.val (.long p1), .second, .val (.long p2), .second, .val (.long p3), .second, .val (.long r1), .second, .val (.long r2), .second, .val (.long r3), .second, .val (.ref b1), .val (.ref b13), .val (.ref b34_fr)] []))
  refine Go.st (fun _ k => XS.iconst X50.here hx rfl (hb hby at_77) k) ?_
  show Go p.tables e below _ (T50.setTop (mkF m 78 #[.val (.long p1), .second, .val (.long p2), .second, .val (.long p3), .second, .val (.long r1), .second, .val (.long r2), .second, .val (.long r3), .second, .val (.ref b1), .val (.ref b13), .val (.ref b34_fr)] [(.int (1 : Int32))]))
  refine Go.st (fun _ k => XS.goto X50.here hx rfl (pc0 := 78) (pc' := 82) rfl (hb hby at_78) (by decide) (by decide) k) ?_
  show Go p.tables e below _ (T50.setTop (mkF m 82 #[.val (.long p1), .second, .val (.long p2), .second, .val (.long p3), .second, .val (.long r1), .second, .val (.long r2), .second, .val (.long r3), .second, .val (.ref b1), .val (.ref b13), .val (.ref b34_fr)] [(.int (1 : Int32))]))
  subst hG
  obtain ⟨fs, hr, hrun, hended, hW, hsame⟩ := X50.leave (v := some (.int (nar .boolean (1 : Int32)))) (fun h => by rw [Bd.returns] at h; cases h)
  refine ⟨_, _, ?_, hrun, hended, _, _, rfl, ?_, ⟨_, rfl⟩, hW, hsame.mono (by decide) (by decide)⟩
  · exact retN X50 hx (t := .boolean) Bd.returns (by simp) (hb hby at_82) hr
  · show Q_law Z p1 p2 p3 r1 r2 r3 h0 n0 _ T50.heap _
    rw [e50]
    exact ⟨rfl, N50, K39⟩
set_option maxRecDepth 65536 in
set_option maxHeartbeats 40000000 in
theorem comes_1 {Post : Tables → Env → Array Value → State → Outcome → State → Prop} (hpost : ∀ tb e args s v u, (limb_1_1.after args s (.returned v) u = true ∧ limb_1_2.after args s (.returned v) u = true ∧ True) → FrameEnd s (.returned v) u (Jvm.fieldLocs frame_1_writes args s ++ Jvm.arrayLocs frame_1_arrays args s ++ Jvm.staticLocs frame_1_statics s) 16 128 → Post tb e args s (.returned v) u) :
    ArmFor flags0 classFile x code maxLocals ret World_1 tables_1 room_1 Calls_1 rest_1 Pre_1 Post := by
  intro l hfl _ _ p e ha hc hk s m args below hf hA hF happ hP
  obtain ⟨hcalls, hrest, hpre⟩ := hP
  obtain ⟨-, -, -, hnamed, -, -, -, hat⟩ := (Spec.applies_iff hf).mp happ
  obtain ⟨hg, hn⟩ := and_e (Cond.before_iff.mp (show (Jvm.Cond.and given_1 narrow_1).before args s = true from hpre))
  obtain ⟨hcount, hg0⟩ := and_e hg
  obtain ⟨hv0, hg1⟩ := and_e hg0
  obtain ⟨hv1, hg2⟩ := and_e hg1
  obtain ⟨hv2, hg3⟩ := and_e hg2
  obtain ⟨hv3, hg4⟩ := and_e hg3
  obtain ⟨hv4, hg5⟩ := and_e hg4
  obtain ⟨w0, w1, w2, w3, w4, w5, rfl⟩ : ∃ w0 w1 w2 w3 w4 w5 : Value, args = #[w0, w1, w2, w3, w4, w5] := by
    have hs : args.size = 6 := by simpa [Cond.value, given_1] using hcount
    obtain ⟨L⟩ := args
    match L, hs with
    | [w0, w1, w2, w3, w4, w5], _ => exact ⟨w0, w1, w2, w3, w4, w5, rfl⟩
  have hw := fun d (hd : d ∈ tables_1) => atoms_spec (ws := Jvm.Cond.code x code maxLocals ret :: tables_1) hat d (List.mem_cons_of_mem _ hd)
  have hfit : Fit s := fun {y c} hc i hi => by
    obtain ⟨ha, rfl⟩ := Array.getElem?_eq_some_iff.mp hc
    have q := List.all_eq_true.mp ((Array.all_eq_true_iff_forall_mem.mp hF) _ (Array.getElem_mem ha)) i (List.mem_range.mpr hi)
    simpa [Array.getElem?_eq_getElem hi] using q
  obtain ⟨i0, ei0⟩ := isL_v hv0
  obtain rfl : w0 = (.long i0) := Option.some.inj ei0
  obtain ⟨i1, ei1⟩ := isL_v hv1
  obtain rfl : w1 = (.long i1) := Option.some.inj ei1
  obtain ⟨i2, ei2⟩ := isL_v hv2
  obtain rfl : w2 = (.long i2) := Option.some.inj ei2
  obtain ⟨i3, ei3⟩ := isL_v hv3
  obtain rfl : w3 = (.long i3) := Option.some.inj ei3
  obtain ⟨i4, ei4⟩ := isL_v hv4
  obtain rfl : w4 = (.long i4) := Option.some.inj ei4
  obtain ⟨i5, ei5⟩ := isL_v hg5
  obtain rfl : w5 = (.long i5) := Option.some.inj ei5
  obtain ⟨n, o, h1, h2, h3, _, L, rfl, ⟨rfl, N, -⟩, hq⟩ := rm_law l s _ hw tables_1 i0 i1 i2 i3 i4 i5 s.heap s.heap.size (Nat.le_refl _)  p e ha hc hk s m _ below hf ((Spec.applies_iff_loose hf).mp happ).1 ⟨rfl, State.Warmed39.refl s, rfl⟩ trivial
  refine ⟨n, _, h1, h2, h3, hpost _ _ _ _ _ _ ⟨Cond.after_iff.mpr rfl, Cond.after_iff.mpr (eq_i res_at (Term.int_eval (1)) rfl), trivial⟩ ⟨hq.1, hq.2.1, (hq.2.2.sift fun y hy => Or.inr (N y hy)).mono (by decide) (by decide)⟩⟩
theorem main_1_1 : Claimed_1_1 := comes_1 fun _ _ _ _ _ _ h hF => ⟨h.1, hF⟩
theorem main_1_2 : Claimed_1_2 := comes_1 fun _ _ _ _ _ _ h hF => ⟨h.2.1, hF⟩
end Jvm.Pilot.@@N@@
namespace Jvm.Pilot.@@N@@
open Jvm Jvm.ClassFile Sem Op Lib Jvm.Free Jvm.Stand Jvm.Pilot.@@N@@.Jvm.D
/-! MADE BY PROGRAM (witnessworld.py) out of the Statement's table words and the real class files: 7 classes; the members and pool entries that the words name. The judged class is class 1, her method 1. -/
namespace start1
open Jvm.ClassFile
def u (s : String) : CpInfo := .utf8 (stringToUtf16 s)
/-- a pool by its gaps: so many unusable entries, then the entry; so many at the end -/
def gap : Nat → List CpInfo → List CpInfo
  | 0, r => r
  | n + 1, r => .unusable :: gap n r
def poolList (es : List (Nat × CpInfo)) (last : Nat) : List CpInfo := es.foldr (fun e r => gap e.1 (e.2 :: r)) (gap last [])
def pool (es : List (Nat × CpInfo)) (last : Nat) : Array CpInfo := ⟨poolList es last⟩
def fileOf (pool : Array CpInfo) (this : Nat) (attrs : Array Attribute := #[]) (ms : Array MethodInfo := #[]) (fl : Nat := 33) (sup : Nat := 0) (ifs : Array Nat := #[]) (fds : Array FieldInfo := #[]) : ClassFile where
  minorVersion := 0
  majorVersion := 65
  constantPool := pool
  accessFlags := fl
  thisClass := this
  superClass := sup
  interfaces := ifs
  fields := fds
  methods := ms
  attributes := attrs
def plain (name : String) (sup : Option ClassId) : Class where
  name := name
  kind := .ordinary
  loader := none
  accessFlags := 33
  super := sup
  interfaces := #[]
  cf := none
  fields := #[]
  methods := #[]
  instanceTypes := #[]
  staticTypes := #[]
  resolved := #[]
  callSites := []
  init := .initialized
  statics := none
  mirror := none

def pool0 : Array CpInfo := pool [(5, u "<init>"), (0, u "()V"), (1, .class_ 10), (1, u "java/lang/Object")] 113

def k0c0 : Code := { maxStack := 0, maxLocals := 1, code := object_method_1_code, exceptionTable := #[], attributes := #[] }
def k0m0 : Method := { name := "<init>", desc := "()V", sig := { parameters := [], returnType := none }, accessFlags := 1, code := some k0c0 }
/-- java/lang/Object -/
def k0 : Class := { plain "java/lang/Object" none with
  accessFlags := 33
  interfaces := #[]
  cf := some (fileOf pool0 8 #[] #[{ accessFlags := 1, nameIndex := 5, descriptorIndex := 6, attributes := #[] }] 33 0 #[] #[])
  fields := #[]
  methods := #[k0m0]
  instanceTypes := #[]
  staticTypes := #[]
  resolved := Array.replicate 124 none
  statics := none }

def pool1 : Array CpInfo := pool [(2, .class_ 4), (1, u "java/lang/Object"), (0, u "<init>"), (0, u "()V"), (0, .class_ 8), (0, u "com/example/lapsed/lapsed/QueueCounts"), (0, .methodref 7 10), (0, .nameAndType 5 11), (0, u "(JJJ)V"), (0, .methodref 7 13), (0, .nameAndType 14 15), (0, u "plus"), (0, u "(Lcom/example/lapsed/lapsed/QueueCounts;)Lcom/example/lapsed/lapsed/QueueCounts;"), (0, .methodref 7 17), (0, .nameAndType 18 19), (0, u "pending"), (0, u "()J"), (0, .methodref 7 21), (0, .nameAndType 22 19), (0, u "claimed"), (0, .methodref 7 24), (0, .nameAndType 25 19), (0, u "dead"), (0, .class_ 27), (0, u "com/example/lapsed/lapsed/QueueCountsPlusPinLaw"), (2, u "law"), (0, u "(JJJJJJ)Z")] 3

def k1m0 : Method := { name := "<init>", desc := "()V", sig := { parameters := [], returnType := none }, accessFlags := 1, code := none }
def k1c1 : Code := { maxStack := 8, maxLocals := 15, code := code, exceptionTable := #[], attributes := #[] }
def k1m1 : Method := { name := "law", desc := "(JJJJJJ)Z", sig := { parameters := [.long, .long, .long, .long, .long, .long], returnType := some .boolean }, accessFlags := 9, code := some k1c1 }
/-- com/example/lapsed/lapsed/QueueCountsPlusPinLaw -/
def k1 : Class := { plain "com/example/lapsed/lapsed/QueueCountsPlusPinLaw" (some 0) with
  accessFlags := 49
  interfaces := #[]
  cf := some (fileOf pool1 26 #[] #[{ accessFlags := 1, nameIndex := 5, descriptorIndex := 6, attributes := #[] }, { accessFlags := 9, nameIndex := 30, descriptorIndex := 31, attributes := #[] }] 49 2 #[] #[])
  fields := #[]
  methods := #[k1m0, k1m1]
  instanceTypes := #[]
  staticTypes := #[]
  resolved := Array.replicate 35 none
  statics := none }

def pool2 : Array CpInfo := pool [(1, .methodref 2 3), (0, .class_ 4), (0, .nameAndType 5 6), (0, u "java/lang/Object"), (0, u "<init>"), (0, u "()V"), (0, .fieldref 8 9), (0, .class_ 10), (0, .nameAndType 11 12), (0, u "com/example/lapsed/lapsed/QueueCounts"), (0, u "pending"), (0, u "J"), (0, .fieldref 8 14), (0, .nameAndType 15 12), (0, u "claimed"), (0, .fieldref 8 17), (0, .nameAndType 18 12), (0, u "dead"), (12, .methodref 8 32), (0, .nameAndType 5 33), (0, u "(JJJ)V"), (2, u "NONE"), (0, u "Lcom/example/lapsed/lapsed/QueueCounts;"), (5, u "plus"), (0, u "(Lcom/example/lapsed/lapsed/QueueCounts;)Lcom/example/lapsed/lapsed/QueueCounts;"), (2, u "()J")] 3

def k2c0 : Code := { maxStack := 3, maxLocals := 7, code := prog_6_method_1_code, exceptionTable := #[], attributes := #[] }
def k2m0 : Method := { name := "<init>", desc := "(JJJ)V", sig := { parameters := [.long, .long, .long], returnType := none }, accessFlags := 0, code := some k2c0 }
def k2c1 : Code := { maxStack := 10, maxLocals := 2, code := prog_6_method_3_code, exceptionTable := #[], attributes := #[] }
def k2m1 : Method := { name := "plus", desc := "(Lcom/example/lapsed/lapsed/QueueCounts;)Lcom/example/lapsed/lapsed/QueueCounts;", sig := { parameters := [(.object "com/example/lapsed/lapsed/QueueCounts")], returnType := some (.object "com/example/lapsed/lapsed/QueueCounts") }, accessFlags := 0, code := some k2c1 }
def k2c2 : Code := { maxStack := 2, maxLocals := 1, code := prog_6_method_5_code, exceptionTable := #[], attributes := #[] }
def k2m2 : Method := { name := "pending", desc := "()J", sig := { parameters := [], returnType := some .long }, accessFlags := 1, code := some k2c2 }
def k2c3 : Code := { maxStack := 2, maxLocals := 1, code := prog_6_method_6_code, exceptionTable := #[], attributes := #[] }
def k2m3 : Method := { name := "claimed", desc := "()J", sig := { parameters := [], returnType := some .long }, accessFlags := 1, code := some k2c3 }
def k2c4 : Code := { maxStack := 2, maxLocals := 1, code := prog_6_method_7_code, exceptionTable := #[], attributes := #[] }
def k2m4 : Method := { name := "dead", desc := "()J", sig := { parameters := [], returnType := some .long }, accessFlags := 1, code := some k2c4 }
/-- com/example/lapsed/lapsed/QueueCounts -/
def k2 : Class := { plain "com/example/lapsed/lapsed/QueueCounts" (some 0) with
  accessFlags := 33
  interfaces := #[]
  cf := some (fileOf pool2 8 #[] #[{ accessFlags := 0, nameIndex := 5, descriptorIndex := 33, attributes := #[] }, { accessFlags := 0, nameIndex := 43, descriptorIndex := 44, attributes := #[] }, { accessFlags := 1, nameIndex := 11, descriptorIndex := 47, attributes := #[] }, { accessFlags := 1, nameIndex := 15, descriptorIndex := 47, attributes := #[] }, { accessFlags := 1, nameIndex := 18, descriptorIndex := 47, attributes := #[] }] 33 2 #[] #[{ accessFlags := 24, nameIndex := 36, descriptorIndex := 37, attributes := #[] }, { accessFlags := 18, nameIndex := 11, descriptorIndex := 12, attributes := #[] }, { accessFlags := 18, nameIndex := 15, descriptorIndex := 12, attributes := #[] }, { accessFlags := 18, nameIndex := 18, descriptorIndex := 12, attributes := #[] }])
  fields := #[{ name := "NONE", type := (.object "com/example/lapsed/lapsed/QueueCounts"), accessFlags := 24, slot := 0, constantValue := 0 }, { name := "pending", type := .long, accessFlags := 18, slot := 0, constantValue := 0 }, { name := "claimed", type := .long, accessFlags := 18, slot := 1, constantValue := 0 }, { name := "dead", type := .long, accessFlags := 18, slot := 2, constantValue := 0 }]
  methods := #[k2m0, k2m1, k2m2, k2m3, k2m4]
  instanceTypes := #[.long, .long, .long]
  staticTypes := #[(.object "com/example/lapsed/lapsed/QueueCounts")]
  resolved := Array.replicate 51 none
  statics := none }

def pool3 : Array CpInfo := pool [(1, u "java/lang/Cloneable"), (0, .class_ 1), (0, u "java/lang/Object"), (0, .class_ 3)] 3

/-- java/lang/Cloneable -/
def k3 : Class := { plain "java/lang/Cloneable" (some 0) with
  accessFlags := 1537
  interfaces := #[]
  cf := some (fileOf pool3 2 #[] #[] 1537 4 #[] #[])
  fields := #[]
  methods := #[]
  instanceTypes := #[]
  staticTypes := #[]
  resolved := Array.replicate 8 none
  statics := none }

def pool4 : Array CpInfo := pool [(1, u "java/io/Serializable"), (0, .class_ 1), (0, u "java/lang/Object"), (0, .class_ 3)] 3

/-- java/io/Serializable -/
def k4 : Class := { plain "java/io/Serializable" (some 0) with
  accessFlags := 1537
  interfaces := #[]
  cf := some (fileOf pool4 2 #[] #[] 1537 4 #[] #[])
  fields := #[]
  methods := #[]
  instanceTypes := #[]
  staticTypes := #[]
  resolved := Array.replicate 8 none
  statics := none }

/-- the primitive byte -/
def k5 : Class := { plain "byte" none with kind := .primitive 'B', accessFlags := 0x411 }
/-- [B -/
def k6 : Class := { plain "[B" (some 0) with kind := .array 5 .byte, interfaces := #[3, 4], accessFlags := 1041 }

def heap : Heap := #[]
def classes : Array Class := #[k0, k1, k2, k3, k4, k5, k6]
def interned : List (Array UInt16 × Addr) := []
def slotsUsed : Nat := 0
def theMethod : MethodId := ⟨1, 1⟩
def args0 : Array Value := #[.long 5, .long 7, .long 0, .long 5, .long 7, .long 0]
def aboutOver (below : List Frame) : State where
  vm := { classes := classes, interned := interned.toArray }
  heap := heap
  slotsUsed := slotsUsed
  threads := #[{ frames := .invoking theMethod args0 :: below }]
def below0 : List Frame := [.native { method := ⟨0, 0⟩, args := #[] }]
def about1 : State := aboutOver below0
def p0 : Program := .bare "" "" ""
def e0 : Env := launch0.env 0 0 0
theorem w_frames : about1.frames = Frame.invoking theMethod args0 :: below0 := rfl
set_option maxRecDepth 65536 in
theorem w_args : argsFit about1.vm theMethod args0 = true := by decide +kernel
set_option maxRecDepth 65536 in
theorem w_heap : heapFits about1 = true := by decide +kernel
set_option maxRecDepth 65536 in
theorem w_runnable : about1.curStatus? = some .runnable := by decide +kernel
set_option maxRecDepth 65536 in
theorem w_alone : about1.alone = true := by decide +kernel
set_option maxRecDepth 65536 in
theorem w_named : about1.methodNamed? x = some theMethod := by decide +kernel
set_option maxRecDepth 65536 in
theorem w_hears : about1.hears theMethod below0 = true := by decide +kernel
set_option maxRecDepth 65536 in
theorem w_ripe : about1.ripe theMethod args0 below0 = true := by decide +kernel
theorem w_running : about1.status = .running := rfl
set_option maxRecDepth 65536 in
theorem w_room : about1.hasRoom e0.platform room_1 = true :=
  launch0.hasRoom_least _ room_1 (by decide +kernel) (by decide +kernel) (by decide +kernel) (by decide +kernel) (by decide +kernel) (by decide +kernel)
theorem allAtoms_all (ts : List Jvm.Cond) (a : Array Jvm.Value) (st : Jvm.State) : (allAtoms ts).before a st = ts.all (fun c => c.before a st) := by
  induction ts with
  | nil => rfl
  | cons c t ih =>
    show (Jvm.Cond.and c (allAtoms t)).before a st = _
    rw [Jvm.Cond.before_and, ih, List.all_cons]
def words1 : List Jvm.Cond := Jvm.Cond.code x code maxLocals ret :: tables_1
/-- a 'code' word, met by the world's own term for the bytes: nothing is compared byte by byte -/
theorem code_word {y : MethodName} {bytes : ByteArray} {mx : Nat} {rt : Option FieldType} {a : Array Value} {s : State} {m : MethodId} {meth : Method} {c : Code} (h1 : s.methodNamed? y = some m) (h2 : s.vm.method? m = some meth) (h3 : meth.code = some c) (h4 : c.code = bytes)
    (h5 : (c.maxLocals == mx && c.exceptionTable.isEmpty && decide (c.maxStack ≤ mostOperands) && decide (meth.sig.returnType = rt) && !meth.locks && decide (parseMethodDescriptor y.desc = some meth.sig)) = true) : (Jvm.Cond.code y bytes mx rt).before a s = true := by
  simp only [Bool.and_eq_true, beq_iff_eq, Bool.not_eq_true', decide_eq_true_eq] at h5
  obtain ⟨⟨⟨⟨⟨g1, g2⟩, g3⟩, g4⟩, g5⟩, g6⟩ := h5
  simp [Cond.before, Cond.holds, Cond.value, h1, h2, h3, h4, g1, g2, g3, g4, g5, g6]
def isCode : Jvm.Cond → Bool
  | .code _ _ _ _ => true
  | _ => false
theorem all_split {L : List Jvm.Cond} {P : Jvm.Cond → Bool} (h1 : L.all (fun c => isCode c || P c) = true) (h2 : ∀ c ∈ L.filter isCode, P c = true) : L.all P = true := by
  refine List.all_eq_true.mpr fun c hc => ?_
  have h := List.all_eq_true.mp h1 c hc
  rcases Bool.eq_false_or_eq_true (isCode c) with hi | hi
  · exact h2 c (List.mem_filter.mpr ⟨hc, hi⟩)
  · simpa [hi] using h
set_option maxRecDepth 65536 in
theorem w_c0 : (Jvm.Cond.code x code maxLocals ret).before args0 about1 = true := code_word (m := ⟨1, 1⟩) (meth := k1m1) (c := k1c1) (by decide +kernel) rfl rfl rfl (by decide +kernel)
set_option maxRecDepth 65536 in
theorem w_c1 : (Jvm.Cond.code ({ cls := "com/example/lapsed/lapsed/QueueCounts", name := "<init>", desc := "(JJJ)V" } : Jvm.MethodName) prog_6_method_1_code (7 : Nat) (Option.none : Option Jvm.ClassFile.FieldType)).before args0 about1 = true := code_word (m := ⟨2, 0⟩) (meth := k2m0) (c := k2c0) (by decide +kernel) rfl rfl rfl (by decide +kernel)
set_option maxRecDepth 65536 in
theorem w_c2 : (Jvm.Cond.code ({ cls := "java/lang/Object", name := "<init>", desc := "()V" } : Jvm.MethodName) object_method_1_code (1 : Nat) (Option.none : Option Jvm.ClassFile.FieldType)).before args0 about1 = true := code_word (m := ⟨0, 0⟩) (meth := k0m0) (c := k0c0) (by decide +kernel) rfl rfl rfl (by decide +kernel)
set_option maxRecDepth 65536 in
theorem w_c3 : (Jvm.Cond.code ({ cls := "com/example/lapsed/lapsed/QueueCounts", name := "plus", desc := "(Lcom/example/lapsed/lapsed/QueueCounts;)Lcom/example/lapsed/lapsed/QueueCounts;" } : Jvm.MethodName) prog_6_method_3_code (2 : Nat) (Option.some (Jvm.ClassFile.FieldType.object "com/example/lapsed/lapsed/QueueCounts"))).before args0 about1 = true := code_word (m := ⟨2, 1⟩) (meth := k2m1) (c := k2c1) (by decide +kernel) rfl rfl rfl (by decide +kernel)
set_option maxRecDepth 65536 in
theorem w_c4 : (Jvm.Cond.code ({ cls := "com/example/lapsed/lapsed/QueueCounts", name := "pending", desc := "()J" } : Jvm.MethodName) prog_6_method_5_code (1 : Nat) (Option.some Jvm.ClassFile.FieldType.long)).before args0 about1 = true := code_word (m := ⟨2, 2⟩) (meth := k2m2) (c := k2c2) (by decide +kernel) rfl rfl rfl (by decide +kernel)
set_option maxRecDepth 65536 in
theorem w_c5 : (Jvm.Cond.code ({ cls := "com/example/lapsed/lapsed/QueueCounts", name := "claimed", desc := "()J" } : Jvm.MethodName) prog_6_method_6_code (1 : Nat) (Option.some Jvm.ClassFile.FieldType.long)).before args0 about1 = true := code_word (m := ⟨2, 3⟩) (meth := k2m3) (c := k2c3) (by decide +kernel) rfl rfl rfl (by decide +kernel)
set_option maxRecDepth 65536 in
theorem w_c6 : (Jvm.Cond.code ({ cls := "com/example/lapsed/lapsed/QueueCounts", name := "dead", desc := "()J" } : Jvm.MethodName) prog_6_method_7_code (1 : Nat) (Option.some Jvm.ClassFile.FieldType.long)).before args0 about1 = true := code_word (m := ⟨2, 4⟩) (meth := k2m4) (c := k2c4) (by decide +kernel) rfl rfl rfl (by decide +kernel)
def codes1 : List Jvm.Cond := [Jvm.Cond.code x code maxLocals ret, Jvm.Cond.code ({ cls := "com/example/lapsed/lapsed/QueueCounts", name := "<init>", desc := "(JJJ)V" } : Jvm.MethodName) prog_6_method_1_code (7 : Nat) (Option.none : Option Jvm.ClassFile.FieldType), Jvm.Cond.code ({ cls := "java/lang/Object", name := "<init>", desc := "()V" } : Jvm.MethodName) object_method_1_code (1 : Nat) (Option.none : Option Jvm.ClassFile.FieldType), Jvm.Cond.code ({ cls := "com/example/lapsed/lapsed/QueueCounts", name := "plus", desc := "(Lcom/example/lapsed/lapsed/QueueCounts;)Lcom/example/lapsed/lapsed/QueueCounts;" } : Jvm.MethodName) prog_6_method_3_code (2 : Nat) (Option.some (Jvm.ClassFile.FieldType.object "com/example/lapsed/lapsed/QueueCounts")), Jvm.Cond.code ({ cls := "com/example/lapsed/lapsed/QueueCounts", name := "pending", desc := "()J" } : Jvm.MethodName) prog_6_method_5_code (1 : Nat) (Option.some Jvm.ClassFile.FieldType.long), Jvm.Cond.code ({ cls := "com/example/lapsed/lapsed/QueueCounts", name := "claimed", desc := "()J" } : Jvm.MethodName) prog_6_method_6_code (1 : Nat) (Option.some Jvm.ClassFile.FieldType.long), Jvm.Cond.code ({ cls := "com/example/lapsed/lapsed/QueueCounts", name := "dead", desc := "()J" } : Jvm.MethodName) prog_6_method_7_code (1 : Nat) (Option.some Jvm.ClassFile.FieldType.long)]
set_option maxRecDepth 65536 in
theorem codes_eq : words1.filter isCode = codes1 := rfl
theorem w_codes : ∀ c ∈ words1.filter isCode, c.before args0 about1 = true := by
  rw [codes_eq]
  intro c hc
  simp only [codes1, List.mem_cons, List.not_mem_nil, or_false] at hc
  rcases hc with rfl | rfl | rfl | rfl | rfl | rfl | rfl
  · exact w_c0
  · exact w_c1
  · exact w_c2
  · exact w_c3
  · exact w_c4
  · exact w_c5
  · exact w_c6
set_option maxRecDepth 65536 in
theorem w_t1 : (words1.take 24).all (fun c => isCode c || c.before args0 about1) = true := by decide +kernel
set_option maxRecDepth 65536 in
theorem w_t2 : (words1.drop 24).all (fun c => isCode c || c.before args0 about1) = true := by decide +kernel
theorem w_tables : (allAtoms (Jvm.Cond.code x code maxLocals ret :: tables_1)).before args0 about1 = true := by
  rw [allAtoms_all]
  show words1.all (fun c => c.before args0 about1) = true
  refine all_split ?_ w_codes
  rw [← List.take_append_drop 24 words1, List.all_append, w_t1, w_t2]
  rfl
set_option maxRecDepth 65536 in
theorem w_case : (Jvm.Cond.and given_1 narrow_1).before args0 about1 = true := by decide +kernel
theorem w_applies : (headSpec (Jvm.Cond.code x code maxLocals ret :: tables_1) room_1).applies x e0.platform about1 = true :=
  (Spec.applies_iff w_frames).mpr ⟨w_running, w_runnable, w_alone, w_named, w_hears, w_ripe, w_room, w_tables⟩
theorem atStart : AtStart classFile x code maxLocals ret World_1 tables_1 room_1 Calls_1 rest_1 Pre_1 launch0 p0 e0 about1 theMethod args0 below0 :=
  ⟨lists_1, trivial, launch0.admits_env _ _ _, launch0.least_env, fairChoices_fair.cas, fairChoices_fair.clock, w_frames, w_args, w_heap, w_applies, trivial, trivial, w_case⟩
end start1
theorem witness_1 : WitnessClaimed_1 := ⟨start1.p0, start1.e0, start1.about1, start1.theMethod, start1.args0, start1.below0, start1.atStart⟩
end Jvm.Pilot.@@N@@
