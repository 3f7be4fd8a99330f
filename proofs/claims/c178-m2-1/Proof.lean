import JvmDerived
import JvmDerived.Pilot.@@N@@Statement
import JvmDerived.Pilot.@@N@@Code
set_option linter.unusedVariables false
set_option linter.unusedSimpArgs false
@@BLOCK:NumsL.lean.txt@@
namespace Jvm.RoadKit
open Sem ClassFile Op Lib Jvm.Stand Jvm.Free Jvm.LawKit
section New
variable {p : Program} {l : Launch} {e : Env} {R : Room} {s : State} {m : MethodId} {args : Array Value} {below : List Frame} {meth : Method} {c : Code} {T : State} {locs : List Loc} {cells slots : Nat}
theorem retI (X : Stand p l e R s m args below meth c T locs cells slots) (hx : p.tables.exec = Jvm.exec) {pc : Nat} {Ls : Array Slot} {z : Int32} {rest : List Value} (hret : meth.sig.returnType = some .int) (hd : decode c.code pc = .ok (.ireturn, 1)) {fs : List Frame}
    (hl : ∀ (f : JFrame) (acts : List Action), f.method = m → f.locked = none → f.entered = [] → (doReturn e (T.setTop f) acts (some (.int z))).1 = T.setFrames fs) : Steps p.tables e below (T.setTop (mkF m pc Ls (.int z :: rest))) (T.setFrames fs) := by
  have hm' : T.vm.method? m = some meth := X.method'
  have hn : narrow .int (.int z) = .int z := rfl
  show Steps p.tables e below (T.setTop { method := m, pc := pc, locals := Ls, stack := _ :: rest, locked := none }) _
  jvm_step X.here [X.here.top, hx, hd, hm', hret, hn]
  first | (intro acts; rw [hl _ acts rfl rfl rfl]) | rw [hl _ _ rfl rfl rfl]
  exact Steps.refl _
end New
end Jvm.RoadKit
namespace Jvm.Pilot.@@N@@
open Jvm Jvm.ClassFile Sem Op Lib Jvm.Free Jvm.Stand Jvm.LawKit Jvm.RoadKit Bundle Jvm.Pilot.@@N@@.Jvm.D
/-- from here the run comes to an end of which G holds -/
def Go (tb : Tables) (e : Env) (below : List Frame) (G : State → Outcome → Prop) (U : State) : Prop := ∃ t o, Steps tb e below U t ∧ G t o
theorem Go.st {tb : Tables} {e : Env} {below : List Frame} {G : State → Outcome → Prop} {U U' : State} (h : ∀ t, Steps tb e below U' t → Steps tb e below U t) (k : Go tb e below G U') : Go tb e below G U :=
  let ⟨t, o, a, b⟩ := k
  ⟨t, o, h t a, b⟩
theorem Go.start {tb : Tables} {e : Env} {below : List Frame} {G0 : State → Outcome → Prop} {U : State} (h : ∀ G, G = G0 → Go tb e below G U) : Go tb e below G0 U := h _ rfl
theorem Go.join {tb : Tables} {e : Env} {below : List Frame} {G : State → Outcome → Prop} {U : State} {α : Type} {F : α → State} (k : ∀ z, Go tb e below G (F z)) (h : (∀ z, Go tb e below G (F z)) → Go tb e below G U) : Go tb e below G U := h k
theorem Go.joinR {tb : Tables} {e : Env} {below : List Frame} {G : State → Outcome → Prop} {U : State} {α : Type} {F : α → State} {R : α → Prop} (k : ∀ z, R z → Go tb e below G (F z)) (h : (∀ z, R z → Go tb e below G (F z)) → Go tb e below G U) : Go tb e below G U := h k
theorem own_lrem {tb : Tables} {e : Env} {below : List Frame} {T target : State} {g : JFrame} {n : Nat} {x y : Int64} {rest : List Value} (k : Steps tb e below (T.setTop { g with pc := n, stack := .long (x % y) :: rest }) target) :
    Steps tb e below (T.setTop { g with pc := n, stack := .long (x - (x / y) * y) :: rest }) target := by
  rw [lrem_mod]
  exact k
theorem i64_addc (x y : Int64) : (x + y).toInt = x.toInt + y.toInt ∧ -2 ^ 63 ≤ x.toInt + y.toInt ∧ x.toInt + y.toInt < 2 ^ 63 ∨ (x + y).toInt = x.toInt + y.toInt - 2 ^ 64 ∧ 2 ^ 63 ≤ x.toInt + y.toInt ∨ (x + y).toInt = x.toInt + y.toInt + 2 ^ 64 ∧ x.toInt + y.toInt < -2 ^ 63 := by
  have h := Int64.toInt_add x y
  have a1 := Int64.le_toInt x
  have a2 := Int64.toInt_lt x
  have b1 := Int64.le_toInt y
  have b2 := Int64.toInt_lt y
  rw [Int.bmod_def] at h
  split at h <;> omega
theorem i64_subc (x y : Int64) : (x - y).toInt = x.toInt - y.toInt ∧ -2 ^ 63 ≤ x.toInt - y.toInt ∧ x.toInt - y.toInt < 2 ^ 63 ∨ (x - y).toInt = x.toInt - y.toInt - 2 ^ 64 ∧ 2 ^ 63 ≤ x.toInt - y.toInt ∨ (x - y).toInt = x.toInt - y.toInt + 2 ^ 64 ∧ x.toInt - y.toInt < -2 ^ 63 := by
  have h := Int64.toInt_sub x y
  have a1 := Int64.le_toInt x
  have a2 := Int64.toInt_lt x
  have b1 := Int64.le_toInt y
  have b2 := Int64.toInt_lt y
  rw [Int.bmod_def] at h
  split at h <;> omega
theorem i32_i2c (x : Int32) : (x.toUInt32.toUInt16.toUInt32.toInt32).toInt = x.toInt % 65536 := by
  have h1 : (x.toUInt32.toUInt16.toUInt32.toInt32).toInt = ((x.toUInt32.toUInt16.toUInt32).toNat : Int).bmod (2 ^ 32) := by
    rw [← Int32.toInt_toBitVec, BitVec.toInt_eq_toNat_bmod]; rfl
  have h2 : (x.toUInt32.toUInt16.toUInt32).toNat = x.toBitVec.toNat % 65536 := by
    simp [UInt32.toNat_toUInt16, UInt16.toNat_toUInt32]; rfl
  have h3 : x.toInt = (x.toBitVec.toNat : Int).bmod (2 ^ 32) := by
    rw [← Int32.toInt_toBitVec, BitVec.toInt_eq_toNat_bmod]
  have h4 := x.toBitVec.isLt
  rw [h1, h2, h3, Int.bmod_def, Int.bmod_def]
  split <;> split <;> omega
theorem i32_addc (x y : Int32) : (x + y).toInt = x.toInt + y.toInt ∧ -2 ^ 31 ≤ x.toInt + y.toInt ∧ x.toInt + y.toInt < 2 ^ 31 ∨ (x + y).toInt = x.toInt + y.toInt - 2 ^ 32 ∧ 2 ^ 31 ≤ x.toInt + y.toInt ∨ (x + y).toInt = x.toInt + y.toInt + 2 ^ 32 ∧ x.toInt + y.toInt < -2 ^ 31 := by
  have h := Int32.toInt_add x y
  have a1 := Int32.le_toInt x
  have a2 := Int32.toInt_lt x
  have b1 := Int32.le_toInt y
  have b2 := Int32.toInt_lt y
  rw [Int.bmod_def] at h
  split at h <;> omega
theorem i32_subc (x y : Int32) : (x - y).toInt = x.toInt - y.toInt ∧ -2 ^ 31 ≤ x.toInt - y.toInt ∧ x.toInt - y.toInt < 2 ^ 31 ∨ (x - y).toInt = x.toInt - y.toInt - 2 ^ 32 ∧ 2 ^ 31 ≤ x.toInt - y.toInt ∨ (x - y).toInt = x.toInt - y.toInt + 2 ^ 32 ∧ x.toInt - y.toInt < -2 ^ 31 := by
  have h := Int32.toInt_sub x y
  have a1 := Int32.le_toInt x
  have a2 := Int32.toInt_lt x
  have b1 := Int32.le_toInt y
  have b2 := Int32.toInt_lt y
  rw [Int.bmod_def] at h
  split at h <;> omega
theorem own_eq32 {a b : Int32} (h : a.toInt = b.toInt) : a = b := Int32.toInt_inj.mp h
theorem own_eq64 {a b : Int64} (h : a.toInt = b.toInt) : a = b := Int64.toInt_inj.mp h
theorem own_lt64 {a b : Int64} (h : a.toInt < b.toInt) : a < b := Int64.lt_iff_toInt_lt.mpr h
theorem own_lt32 {a b : Int32} (h : a.toInt < b.toInt) : a < b := Int32.lt_iff_toInt_lt.mpr h
theorem own_nlt64 {a b : Int64} (h : b.toInt ≤ a.toInt) : ¬ a < b := fun z => by have := Int64.lt_iff_toInt_lt.mp z; omega
theorem own_nlt32 {a b : Int32} (h : b.toInt ≤ a.toInt) : ¬ a < b := fun z => by have := Int32.lt_iff_toInt_lt.mp z; omega
theorem own_ne32 {a b : Int32} (h : a.toInt ≠ b.toInt) : ¬ a = b := fun z => h (by rw [z])
theorem own_ne64 {a b : Int64} (h : a.toInt ≠ b.toInt) : ¬ a = b := fun z => h (by rw [z])
def ldF (ld : Int32) (lo co : Int64) : Int64 := if ld = 0 then co else lo
def prF (i : Int32) (s0 s1 s2 s3 : Int64) : Int64 := if i = 0 then s0 else if i = 1 then s1 else if i = 2 then s2 else s3
theorem own_k {m v : Int32} (h : (m &&& (2147483647 : Int32)) % (5 : Int32) = v) : 0 ≤ v.toInt ∧ v.toInt < 5 := by
  have h1 := Jvm.Kit.i32_mask m (2147483647 : Int32) (k := 31) (by decide) (by decide)
  have h5 : (5 : Int32).toInt = 5 := by decide
  rw [← h, Jvm.Kit.i32_rem_nonneg (by omega), h5]
  omega
def exF (st k : Int32) (s0 s1 s2 s3 : Int64) : Int64 := if k < st then prF k s0 s1 s2 s3 else prF st s0 s1 s2 s3
theorem pn_0 : plainName "com/example/rivulet/rivulet/Counter" = true := by first | (simp [plainName, overriddenIn]; done) | decide +kernel
theorem d_cinit2_0 : decode prog_25_method_2_code 0 = .ok (.aload_n 0, 1) := by decide +kernel
theorem d_cinit2_1 : decode prog_25_method_2_code 1 = .ok (.invokespecial 7, 3) := by decide +kernel
theorem d_cinit2_4 : decode prog_25_method_2_code 4 = .ok (.aload_n 0, 1) := by decide +kernel
theorem d_cinit2_5 : decode prog_25_method_2_code 5 = .ok (.aload_n 1, 1) := by decide +kernel
theorem d_cinit2_6 : decode prog_25_method_2_code 6 = .ok (.putfield 12, 3) := by decide +kernel
theorem d_cinit2_9 : decode prog_25_method_2_code 9 = .ok (.return_, 1) := by decide +kernel
theorem ef_cinit2 (m : MethodId) (ao : Addr) : entryFrame m #[(.ref ao), .null] 2 = mkF m 0 #[.val (.ref ao), .val .null] [] := by first | (simp [entryFrame, mkF, argsToLocals, Value.category]; done) | rfl
def Q_cinit2 (Z : State) (ao : Addr) (h0 : Heap) (n0 : Nat) (v : Option Value) (h : Heap) (L : List Loc) : Prop := v = none ∧ Fr n0 L ∧ Keep h0 h [ao] ∧ Exa Z h ao "com/example/rivulet/rivulet/Counter" ∧ Fld Z h ao "com/example/rivulet/rivulet/Counter" "count" "J" (.long (0 : Int64)) ∧ Fld Z h ao "com/example/rivulet/rivulet/Counter" "loaded" "Z" (.int (0 : Int32)) ∧ Fld Z h ao "com/example/rivulet/rivulet/Counter" "load" "J" (.long (0 : Int64)) ∧ Fld Z h ao "com/example/rivulet/rivulet/Counter" "work" "Lcom/example/rivulet/rivulet/WorkLimit;" .null
set_option maxRecDepth 65536 in
set_option maxHeartbeats 40000000 in
theorem rm_cinit2 (l : Launch) (Z : State) (a0 : Array Value) (hw : ∀ d ∈ tables_1, d.before a0 Z = true) (ws : List Jvm.Cond) (ao : Addr) (h0 : Heap) (n0 : Nat) (Z0 : n0 ≤ h0.size) (P0 : Exa Z h0 ao "com/example/rivulet/rivulet/Counter") (P1 : Fld Z h0 ao "com/example/rivulet/rivulet/Counter" "count" "J" (.long (0 : Int64))) (P2 : Fld Z h0 ao "com/example/rivulet/rivulet/Counter" "loaded" "Z" (.int (0 : Int32))) (P3 : Fld Z h0 ao "com/example/rivulet/rivulet/Counter" "load" "J" (.long (0 : Int64))) (P4 : Fld Z h0 ao "com/example/rivulet/rivulet/Counter" "work" "Lcom/example/rivulet/rivulet/WorkLimit;" .null) (P5 : n0 ≤ ao) :
    MetFree l (⟨"com/example/rivulet/rivulet/Counter", "<init>", "(Lcom/example/rivulet/rivulet/WorkLimit;)V"⟩ : MethodName) (head1 (Jvm.Cond.code (⟨"com/example/rivulet/rivulet/Counter", "<init>", "(Lcom/example/rivulet/rivulet/WorkLimit;)V"⟩ : MethodName) prog_25_method_2_code 2 none :: ws) ({ frames := 1, cells := 0, slots := 0, locals := 12 } : Room)) (fun a U => a = #[(.ref ao), .null] ∧ Z.Warmed39 U.vm ∧ U.heap = h0) (fun _ _ _ _ _ => True) (fun _ U o U' => ∃ v L, o = .returned v ∧ Q_cinit2 Z ao h0 n0 v U'.heap L ∧ FrameEnd U o U' L ({ frames := 1, cells := 0, slots := 0, locals := 12 } : Room).cells ({ frames := 1, cells := 0, slots := 0, locals := 12 } : Room).slots) := by
  refine MetFree.of_bodySF (plainFor_of_name pn_0) hisR ?_
  intro p e s m args below meth c s₁ Bd hml0 hP hK
  obtain ⟨rfl, hZ, hh⟩ := hP
  have hx := Bd.exec
  have hby := Bd.bytes
  have hml : c.maxLocals = 2 := hml0
  have hown : s.vm.findClass "com/example/rivulet/rivulet/Counter" = some m.cls := findClass_of_methodNamed Bd.named
  have hnm := (name_of_methodNamed Bd.named Bd.method).1
  have X0 : Stand p l e ({ frames := 1, cells := 0, slots := 0, locals := 12 } : Room) s m #[(.ref ao), .null] below meth c s₁ [] 0 0 := Stand.of_body Bd
  have e0 : s₁.heap = h0 := by rw [← hh, Bd.state]; rfl
  have N0 := Fr.nil n0
  have K0 : Keep h0 h0 [ao] := Keep.refl h0 [ao]
  show Go p.tables e below _ (s₁.setTop (entryFrame m #[(.ref ao), .null] 2))
  refine Go.start ?_
  intro G hG
  refine Go.st (fun t k => castTop (ef_cinit2 m ao) k) ?_
  show Go p.tables e below _ (s₁.setTop (mkF m 0 #[.val (.ref ao), .val .null] []))
  refine Go.st (fun _ k => XS.aloadN X0.here hx rfl (hb hby d_cinit2_0) rfl rfl k) ?_
  show Go p.tables e below _ (s₁.setTop (mkF m 1 #[.val (.ref ao), .val .null] [(.ref ao)]))
  obtain ⟨T1, X1, e1, st1⟩ := initO X0 hx hZ hown (hw _ (List.mem_of_getElem? (i := 10) rfl)) (hw _ (List.mem_of_getElem? (i := 11) rfl)) (hw _ (List.mem_of_getElem? (i := 12) rfl)) e0 (g := (mkF m 1 #[.val (.ref ao), .val .null] [(.ref ao)])) rfl (by rw [hml]; rfl) rfl (hb hby d_cinit2_1) (by decide) (W := 0) (by show 2 * 0 + _ ≤ _; exact Nat.le_of_eq rfl) (by decide)
  refine Go.st st1 ?_
  show Go p.tables e below _ (T1.setTop (mkF m 4 #[.val (.ref ao), .val .null] []))
  refine Go.st (fun _ k => XS.aloadN X1.here hx rfl (hb hby d_cinit2_4) rfl rfl k) ?_
  show Go p.tables e below _ (T1.setTop (mkF m 5 #[.val (.ref ao), .val .null] [(.ref ao)]))
  refine Go.st (fun _ k => XS.aloadN X1.here hx rfl (hb hby d_cinit2_5) rfl rfl k) ?_
  show Go p.tables e below _ (T1.setTop (mkF m 6 #[.val (.ref ao), .val .null] [.null, (.ref ao)]))
  obtain ⟨T2, h2, X2, e2, W2, st2⟩ := putF X1 hx hZ hown (host := "") (Or.inl (hw _ (List.mem_of_getElem? (i := 13) rfl))) Via.refl e1 P4 P0 (Or.inr ⟨(hw _ (List.mem_of_getElem? (i := 14) rfl)), rfl, hnm⟩) (hw _ (List.mem_of_getElem? (i := 2) rfl)) (ty := (.object "com/example/rivulet/rivulet/WorkLimit")) (by decide) rfl rfl (g := (mkF m 6 #[.val (.ref ao), .val .null] [.null, (.ref ao)])) rfl rfl (hb hby d_cinit2_6)
  refine Go.st st2 ?_
  have F3 : Exa Z h2 ao "com/example/rivulet/rivulet/Counter" := P0.wr W2
  have F4 : Fld Z h2 ao "com/example/rivulet/rivulet/Counter" "count" "J" (.long (0 : Int64)) := P1.other W2 (Or.inr (slot_ne (Or.inl (hw _ (List.mem_of_getElem? (i := 23) rfl))) (Or.inr (hw _ (List.mem_of_getElem? (i := 14) rfl))) (by decide) (t := .long) (t' := (.object "com/example/rivulet/rivulet/WorkLimit")) (by decide) (by decide)))
  have F5 : Fld Z h2 ao "com/example/rivulet/rivulet/Counter" "loaded" "Z" (.int (0 : Int32)) := P2.other W2 (Or.inr (slot_ne (Or.inl (hw _ (List.mem_of_getElem? (i := 21) rfl))) (Or.inr (hw _ (List.mem_of_getElem? (i := 14) rfl))) (by decide) (t := .boolean) (t' := (.object "com/example/rivulet/rivulet/WorkLimit")) (by decide) (by decide)))
  have F6 : Fld Z h2 ao "com/example/rivulet/rivulet/Counter" "load" "J" (.long (0 : Int64)) := P3.other W2 (Or.inr (slot_ne (Or.inl (hw _ (List.mem_of_getElem? (i := 42) rfl))) (Or.inr (hw _ (List.mem_of_getElem? (i := 14) rfl))) (by decide) (t := .long) (t' := (.object "com/example/rivulet/rivulet/WorkLimit")) (by decide) (by decide)))
  have F7 : Fld Z h2 ao "com/example/rivulet/rivulet/Counter" "work" "Lcom/example/rivulet/rivulet/WorkLimit;" .null := P4.same W2
  have K8 : Keep h0 h2 [ao] := K0.wr W2 (Or.inl (List.mem_of_getElem? (i := 0) rfl))
  have Z9 : n0 ≤ h2.size := Nat.le_trans Z0 (Nat.le_of_eq W2.size.symm)
  have N10 := Fr.snoc X2 N0 P5
  show Go p.tables e below _ (T2.setTop (mkF m 9 #[.val (.ref ao), .val .null] []))
  subst hG
  obtain ⟨fs, hr, hrun, hended, hW, hsame⟩ := X2.leave (v := none) (fun _ => rfl)
  refine ⟨_, _, ?_, hrun, hended, _, _, rfl, ?_, ⟨_, rfl⟩, hW, hsame.mono (by decide) (by decide)⟩
  · exact X2.returnOut hx Bd.returns (hb hby d_cinit2_9) hr
  · show Q_cinit2 Z ao h0 n0 _ T2.heap _
    rw [e2]
    exact ⟨rfl, N10, K8, F3, F4, F5, F6, F7⟩
theorem pd_0 : parseMethodDescriptor "(Lcom/example/rivulet/rivulet/WorkLimit;)V" = some ⟨[(.object "com/example/rivulet/rivulet/WorkLimit")], none⟩ := by decide +kernel
theorem d_cinit1_0 : decode prog_25_method_1_code 0 = .ok (.aload_n 0, 1) := by decide +kernel
theorem d_cinit1_1 : decode prog_25_method_1_code 1 = .ok (.aconst_null, 1) := by decide +kernel
theorem d_cinit1_2 : decode prog_25_method_1_code 2 = .ok (.invokespecial 1, 3) := by decide +kernel
theorem d_cinit1_5 : decode prog_25_method_1_code 5 = .ok (.return_, 1) := by decide +kernel
theorem ef_cinit1 (m : MethodId) (ao : Addr) : entryFrame m #[(.ref ao)] 1 = mkF m 0 #[.val (.ref ao)] [] := by first | (simp [entryFrame, mkF, argsToLocals, Value.category]; done) | rfl
def Q_cinit1 (Z : State) (ao : Addr) (h0 : Heap) (n0 : Nat) (v : Option Value) (h : Heap) (L : List Loc) : Prop := v = none ∧ Fr n0 L ∧ Keep h0 h [ao] ∧ Exa Z h ao "com/example/rivulet/rivulet/Counter" ∧ Fld Z h ao "com/example/rivulet/rivulet/Counter" "count" "J" (.long (0 : Int64)) ∧ Fld Z h ao "com/example/rivulet/rivulet/Counter" "loaded" "Z" (.int (0 : Int32)) ∧ Fld Z h ao "com/example/rivulet/rivulet/Counter" "load" "J" (.long (0 : Int64)) ∧ Fld Z h ao "com/example/rivulet/rivulet/Counter" "work" "Lcom/example/rivulet/rivulet/WorkLimit;" .null
set_option maxRecDepth 65536 in
set_option maxHeartbeats 40000000 in
theorem rm_cinit1 (l : Launch) (Z : State) (a0 : Array Value) (hw : ∀ d ∈ tables_1, d.before a0 Z = true) (ws : List Jvm.Cond) (ao : Addr) (h0 : Heap) (n0 : Nat) (Z0 : n0 ≤ h0.size) (P0 : Exa Z h0 ao "com/example/rivulet/rivulet/Counter") (P1 : Fld Z h0 ao "com/example/rivulet/rivulet/Counter" "count" "J" (.long (0 : Int64))) (P2 : Fld Z h0 ao "com/example/rivulet/rivulet/Counter" "loaded" "Z" (.int (0 : Int32))) (P3 : Fld Z h0 ao "com/example/rivulet/rivulet/Counter" "load" "J" (.long (0 : Int64))) (P4 : Fld Z h0 ao "com/example/rivulet/rivulet/Counter" "work" "Lcom/example/rivulet/rivulet/WorkLimit;" .null) (P5 : n0 ≤ ao) :
    MetFree l (⟨"com/example/rivulet/rivulet/Counter", "<init>", "()V"⟩ : MethodName) (head1 (Jvm.Cond.code (⟨"com/example/rivulet/rivulet/Counter", "<init>", "()V"⟩ : MethodName) prog_25_method_1_code 1 none :: ws) ({ frames := 2, cells := 0, slots := 0, locals := 25 } : Room)) (fun a U => a = #[(.ref ao)] ∧ Z.Warmed39 U.vm ∧ U.heap = h0) (fun _ _ _ _ _ => True) (fun _ U o U' => ∃ v L, o = .returned v ∧ Q_cinit1 Z ao h0 n0 v U'.heap L ∧ FrameEnd U o U' L ({ frames := 2, cells := 0, slots := 0, locals := 25 } : Room).cells ({ frames := 2, cells := 0, slots := 0, locals := 25 } : Room).slots) := by
  refine MetFree.of_bodySF (plainFor_of_name pn_0) hisR ?_
  intro p e s m args below meth c s₁ Bd hml0 hP hK
  obtain ⟨rfl, hZ, hh⟩ := hP
  have hx := Bd.exec
  have hby := Bd.bytes
  have hml : c.maxLocals = 1 := hml0
  have hown : s.vm.findClass "com/example/rivulet/rivulet/Counter" = some m.cls := findClass_of_methodNamed Bd.named
  have hnm := (name_of_methodNamed Bd.named Bd.method).1
  have X0 : Stand p l e ({ frames := 2, cells := 0, slots := 0, locals := 25 } : Room) s m #[(.ref ao)] below meth c s₁ [] 0 0 := Stand.of_body Bd
  have e0 : s₁.heap = h0 := by rw [← hh, Bd.state]; rfl
  have N0 := Fr.nil n0
  have K0 : Keep h0 h0 [ao] := Keep.refl h0 [ao]
  show Go p.tables e below _ (s₁.setTop (entryFrame m #[(.ref ao)] 1))
  refine Go.start ?_
  intro G hG
  refine Go.st (fun t k => castTop (ef_cinit1 m ao) k) ?_
  show Go p.tables e below _ (s₁.setTop (mkF m 0 #[.val (.ref ao)] []))
  refine Go.st (fun _ k => XS.aloadN X0.here hx rfl (hb hby d_cinit1_0) rfl rfl k) ?_
  show Go p.tables e below _ (s₁.setTop (mkF m 1 #[.val (.ref ao)] [(.ref ao)]))
  refine Go.st (fun _ k => XS.aconstNull X0.here hx rfl (hb hby d_cinit1_1) k) ?_
  show Go p.tables e below _ (s₁.setTop (mkF m 2 #[.val (.ref ao)] [.null, (.ref ao)]))
  obtain ⟨_, _, ⟨T1, L1, k1, n1⟩, -, X1, ⟨Lc1, hQ1, l1, y1, z1⟩, st1⟩ := X0.specialBack hx (y := (⟨"com/example/rivulet/rivulet/Counter", "<init>", "(Lcom/example/rivulet/rivulet/WorkLimit;)V"⟩ : MethodName)) rfl hown (mvT hZ (hw _ (List.mem_of_getElem? (i := 7) rfl))) (mvT hZ (hw _ (List.mem_of_getElem? (i := 8) rfl))) (mvT hZ (hw _ (List.mem_of_getElem? (i := 9) rfl))) (by decide) (backOf (W := 0) (rm_cinit2 l Z a0 hw [] ao h0 n0 Z0 P0 P1 P2 P3 P4 P5) hZ (hw _ (List.mem_of_getElem? (i := 9) rfl)) (hw _ (List.mem_of_getElem? (i := 3) rfl)) (by decide) (by decide)) (g := (mkF m 2 #[.val (.ref ao)] [.null, (.ref ao)])) rfl (by rw [hml]; rfl) (Steps.refl _) (a := ao) (argsL := [.null]) (rest := []) (lenOf pd_0 rfl) rfl (by show 2 * 0 + _ ≤ _; exact Nat.le_of_eq rfl) (hb hby d_cinit1_2) (fun _ _ => ⟨rfl, e0, (by decide : 0 + 0 ≤ _), (by decide : 0 + 0 ≤ _)⟩)
  dsimp only [Pt.U, Pt.locs, Pt.cells, Pt.slots] at X1 l1 y1 z1 st1 hQ1
  subst l1 y1 z1
  obtain ⟨rfl, N1q, K1q, Fq1_0, Fq1_1, Fq1_2, Fq1_3, Fq1_4⟩ := hQ1
  have N1 := Fr.app N0 N1q
  refine Go.st (fun _ k => st1.trans k) ?_
  have Z2 : n0 ≤ T1.heap.size := Nat.le_trans Z0 K1q.1
  have K3 : Keep h0 T1.heap [ao] := K0.trans K1q (fun z hz => (List.mem_cons.mp hz).elim (fun q => by rw [q]; exact Or.inl (List.mem_of_getElem? (i := 0) rfl)) (fun hz => absurd hz List.not_mem_nil))
  have F4 : Exa Z T1.heap ao "com/example/rivulet/rivulet/Counter" := P0.keep K1q
  show Go p.tables e below _ (T1.setTop (mkF m 5 #[.val (.ref ao)] []))
  subst hG
  obtain ⟨fs, hr, hrun, hended, hW, hsame⟩ := X1.leave (v := none) (fun _ => rfl)
  refine ⟨_, _, ?_, hrun, hended, _, _, rfl, ?_, ⟨_, rfl⟩, hW, hsame.mono (by decide) (by decide)⟩
  · exact X1.returnOut hx Bd.returns (hb hby d_cinit1_5) hr
  · show Q_cinit1 Z ao h0 n0 _ T1.heap _
    exact ⟨rfl, N1, K3, Fq1_0, Fq1_1, Fq1_2, Fq1_3, Fq1_4⟩
theorem d_load_0 : decode prog_25_method_5_code 0 = .ok (.aload_n 0, 1) := by decide +kernel
theorem d_load_1 : decode prog_25_method_5_code 1 = .ok (.getfield 26, 3) := by decide +kernel
theorem d_load_4 : decode prog_25_method_5_code 4 = .ok (.ifCond .eq 10, 3) := by decide +kernel
theorem d_load_7 : decode prog_25_method_5_code 7 = .ok (.aload_n 0, 1) := by decide +kernel
theorem d_load_8 : decode prog_25_method_5_code 8 = .ok (.getfield 30, 3) := by decide +kernel
theorem d_load_11 : decode prog_25_method_5_code 11 = .ok (.goto 7, 3) := by decide +kernel
theorem d_load_14 : decode prog_25_method_5_code 14 = .ok (.aload_n 0, 1) := by decide +kernel
theorem d_load_15 : decode prog_25_method_5_code 15 = .ok (.getfield 16, 3) := by decide +kernel
theorem d_load_18 : decode prog_25_method_5_code 18 = .ok (.lreturn, 1) := by decide +kernel
theorem ef_load (m : MethodId) (ao : Addr) : entryFrame m #[(.ref ao)] 1 = mkF m 0 #[.val (.ref ao)] [] := by first | (simp [entryFrame, mkF, argsToLocals, Value.category]; done) | rfl
def Q_load (Z : State) (ao : Addr) (co : Int64) (ld : Int32) (lo : Int64) (h0 : Heap) (n0 : Nat) (v : Option Value) (h : Heap) (L : List Loc) : Prop := v = some (.long (ldF ld lo co)) ∧ Fr n0 L ∧ h = h0
set_option maxRecDepth 65536 in
set_option maxHeartbeats 40000000 in
theorem rm_load (l : Launch) (Z : State) (a0 : Array Value) (hw : ∀ d ∈ tables_1, d.before a0 Z = true) (ws : List Jvm.Cond) (ao : Addr) (co : Int64) (ld : Int32) (lo : Int64) (h0 : Heap) (n0 : Nat) (Z0 : n0 ≤ h0.size) (P0 : Fld Z h0 ao "com/example/rivulet/rivulet/Counter" "count" "J" (.long co)) (P1 : Fld Z h0 ao "com/example/rivulet/rivulet/Counter" "loaded" "Z" (.int ld)) (P2 : Fld Z h0 ao "com/example/rivulet/rivulet/Counter" "load" "J" (.long lo)) :
    MetFree l (⟨"com/example/rivulet/rivulet/Counter", "load", "()J"⟩ : MethodName) (head1 (Jvm.Cond.code (⟨"com/example/rivulet/rivulet/Counter", "load", "()J"⟩ : MethodName) prog_25_method_5_code 1 (some .long) :: ws) ({ frames := 0, cells := 0, slots := 0, locals := 0 } : Room)) (fun a U => a = #[(.ref ao)] ∧ Z.Warmed39 U.vm ∧ U.heap = h0) (fun _ _ _ _ _ => True) (fun _ U o U' => ∃ v L, o = .returned v ∧ Q_load Z ao co ld lo h0 n0 v U'.heap L ∧ FrameEnd U o U' L ({ frames := 0, cells := 0, slots := 0, locals := 0 } : Room).cells ({ frames := 0, cells := 0, slots := 0, locals := 0 } : Room).slots) := by
  refine MetFree.of_bodySF (plainFor_of_name pn_0) hisR ?_
  intro p e s m args below meth c s₁ Bd hml0 hP hK
  obtain ⟨rfl, hZ, hh⟩ := hP
  have hx := Bd.exec
  have hby := Bd.bytes
  have hml : c.maxLocals = 1 := hml0
  have hown : s.vm.findClass "com/example/rivulet/rivulet/Counter" = some m.cls := findClass_of_methodNamed Bd.named
  have hnm := (name_of_methodNamed Bd.named Bd.method).1
  have X0 : Stand p l e ({ frames := 0, cells := 0, slots := 0, locals := 0 } : Room) s m #[(.ref ao)] below meth c s₁ [] 0 0 := Stand.of_body Bd
  have e0 : s₁.heap = h0 := by rw [← hh, Bd.state]; rfl
  have N0 := Fr.nil n0
  have K0 : Keep h0 h0 [] := Keep.refl h0 []
  show Go p.tables e below _ (s₁.setTop (entryFrame m #[(.ref ao)] 1))
  refine Go.start ?_
  intro G hG
  refine Go.st (fun t k => castTop (ef_load m ao) k) ?_
  show Go p.tables e below _ (s₁.setTop (mkF m 0 #[.val (.ref ao)] []))
  refine Go.st (fun _ k => XS.aloadN X0.here hx rfl (hb hby d_load_0) rfl rfl k) ?_
  show Go p.tables e below _ (s₁.setTop (mkF m 1 #[.val (.ref ao)] [(.ref ao)]))
  obtain ⟨T1, X1, e1, st1⟩ := getF X0 hx hZ hown (host := "") (Or.inl (hw _ (List.mem_of_getElem? (i := 20) rfl))) Via.refl e0 P1 (g := (mkF m 1 #[.val (.ref ao)] [(.ref ao)])) rfl rfl (hb hby d_load_1)
  refine Go.st st1 ?_
  show Go p.tables e below _ (T1.setTop (mkF m 4 #[.val (.ref ao)] [(.int ld)]))
  by_cases hc4 : ld = (0 : Int32)
  · skip
    refine Go.st (fun _ k => XS.ifYes X1.here hx rfl (pc0 := 4) (pc' := 14) rfl (hb hby d_load_4) rfl (Jvm.Free.XT.i0_eq_t hc4) (by decide) (by decide) k) ?_
    show Go p.tables e below _ (T1.setTop (mkF m 14 #[.val (.ref ao)] []))
    refine Go.st (fun _ k => XS.aloadN X1.here hx rfl (hb hby d_load_14) rfl rfl k) ?_
    show Go p.tables e below _ (T1.setTop (mkF m 15 #[.val (.ref ao)] [(.ref ao)]))
    obtain ⟨T2, X2, e2, st2⟩ := getF X1 hx hZ hown (host := "") (Or.inl (hw _ (List.mem_of_getElem? (i := 22) rfl))) Via.refl e1 P0 (g := (mkF m 15 #[.val (.ref ao)] [(.ref ao)])) rfl rfl (hb hby d_load_15)
    refine Go.st st2 ?_
    show Go p.tables e below _ (T2.setTop (mkF m 18 #[.val (.ref ao)] [(.long co)]))
    subst hG
    obtain ⟨fs, hr, hrun, hended, hW, hsame⟩ := X2.leave (v := some (.long co)) (fun h => by rw [Bd.returns] at h; cases h)
    refine ⟨_, _, ?_, hrun, hended, _, _, rfl, ?_, ⟨_, rfl⟩, hW, hsame.mono (by decide) (by decide)⟩
    · exact retOut X2 hx Bd.returns rfl (Or.inr (Or.inl ⟨rfl, rfl, _, rfl⟩)) (hb hby d_load_18) hr
    · show Q_load Z ao co ld lo h0 n0 _ T2.heap _
      rw [e2]
      exact ⟨(by simp [ldF, hc4]), N0, rfl⟩
  · skip
    refine Go.st (fun _ k => XS.ifNo X1.here hx rfl (hb hby d_load_4) rfl (Jvm.Free.XT.i0_eq_f hc4) k) ?_
    show Go p.tables e below _ (T1.setTop (mkF m 7 #[.val (.ref ao)] []))
    refine Go.st (fun _ k => XS.aloadN X1.here hx rfl (hb hby d_load_7) rfl rfl k) ?_
    show Go p.tables e below _ (T1.setTop (mkF m 8 #[.val (.ref ao)] [(.ref ao)]))
    obtain ⟨T3, X3, e3, st3⟩ := getF X1 hx hZ hown (host := "") (Or.inl (hw _ (List.mem_of_getElem? (i := 41) rfl))) Via.refl e1 P2 (g := (mkF m 8 #[.val (.ref ao)] [(.ref ao)])) rfl rfl (hb hby d_load_8)
    refine Go.st st3 ?_
    show Go p.tables e below _ (T3.setTop (mkF m 11 #[.val (.ref ao)] [(.long lo)]))
    refine Go.st (fun _ k => XS.goto X3.here hx rfl (pc0 := 11) (pc' := 18) rfl (hb hby d_load_11) (by decide) (by decide) k) ?_
    show Go p.tables e below _ (T3.setTop (mkF m 18 #[.val (.ref ao)] [(.long lo)]))
    subst hG
    obtain ⟨fs, hr, hrun, hended, hW, hsame⟩ := X3.leave (v := some (.long lo)) (fun h => by rw [Bd.returns] at h; cases h)
    refine ⟨_, _, ?_, hrun, hended, _, _, rfl, ?_, ⟨_, rfl⟩, hW, hsame.mono (by decide) (by decide)⟩
    · exact retOut X3 hx Bd.returns rfl (Or.inr (Or.inl ⟨rfl, rfl, _, rfl⟩)) (hb hby d_load_18) hr
    · show Q_load Z ao co ld lo h0 n0 _ T3.heap _
      rw [e3]
      exact ⟨(by simp [ldF, hc4]), N0, rfl⟩
theorem d_cadd_0 : decode prog_25_method_3_code 0 = .ok (.aload_n 0, 1) := by decide +kernel
theorem d_cadd_1 : decode prog_25_method_3_code 1 = .ok (.dup, 1) := by decide +kernel
theorem d_cadd_2 : decode prog_25_method_3_code 2 = .ok (.getfield 16, 3) := by decide +kernel
theorem d_cadd_5 : decode prog_25_method_3_code 5 = .ok (.lload_n 1, 1) := by decide +kernel
theorem d_cadd_6 : decode prog_25_method_3_code 6 = .ok (.ladd, 1) := by decide +kernel
theorem d_cadd_7 : decode prog_25_method_3_code 7 = .ok (.putfield 16, 3) := by decide +kernel
theorem d_cadd_10 : decode prog_25_method_3_code 10 = .ok (.aload_n 0, 1) := by decide +kernel
theorem d_cadd_11 : decode prog_25_method_3_code 11 = .ok (.getfield 12, 3) := by decide +kernel
theorem d_cadd_14 : decode prog_25_method_3_code 14 = .ok (.ifnull 11, 3) := by decide +kernel
theorem d_cadd_25 : decode prog_25_method_3_code 25 = .ok (.return_, 1) := by decide +kernel
theorem ef_cadd (m : MethodId) (ao : Addr) (qc : Int64) : entryFrame m #[(.ref ao), (.long qc)] 3 = mkF m 0 #[.val (.ref ao), .val (.long qc), .second] [] := by first | (simp [entryFrame, mkF, argsToLocals, Value.category]; done) | rfl
def Q_cadd (Z : State) (ao : Addr) (qc : Int64) (co : Int64) (ld : Int32) (lo : Int64) (h0 : Heap) (n0 : Nat) (v : Option Value) (h : Heap) (L : List Loc) : Prop := v = none ∧ Fr n0 L ∧ Keep h0 h [ao] ∧ Exa Z h ao "com/example/rivulet/rivulet/Counter" ∧ Fld Z h ao "com/example/rivulet/rivulet/Counter" "count" "J" (.long (co + qc)) ∧ Fld Z h ao "com/example/rivulet/rivulet/Counter" "loaded" "Z" (.int ld) ∧ Fld Z h ao "com/example/rivulet/rivulet/Counter" "load" "J" (.long lo) ∧ Fld Z h ao "com/example/rivulet/rivulet/Counter" "work" "Lcom/example/rivulet/rivulet/WorkLimit;" .null
set_option maxRecDepth 65536 in
set_option maxHeartbeats 40000000 in
theorem rm_cadd (l : Launch) (Z : State) (a0 : Array Value) (hw : ∀ d ∈ tables_1, d.before a0 Z = true) (ws : List Jvm.Cond) (ao : Addr) (qc : Int64) (co : Int64) (ld : Int32) (lo : Int64) (h0 : Heap) (n0 : Nat) (Z0 : n0 ≤ h0.size) (P0 : Exa Z h0 ao "com/example/rivulet/rivulet/Counter") (P1 : Fld Z h0 ao "com/example/rivulet/rivulet/Counter" "count" "J" (.long co)) (P2 : Fld Z h0 ao "com/example/rivulet/rivulet/Counter" "loaded" "Z" (.int ld)) (P3 : Fld Z h0 ao "com/example/rivulet/rivulet/Counter" "load" "J" (.long lo)) (P4 : Fld Z h0 ao "com/example/rivulet/rivulet/Counter" "work" "Lcom/example/rivulet/rivulet/WorkLimit;" .null) (P5 : n0 ≤ ao) :
    MetFree l (⟨"com/example/rivulet/rivulet/Counter", "add", "(J)V"⟩ : MethodName) (head1 (Jvm.Cond.code (⟨"com/example/rivulet/rivulet/Counter", "add", "(J)V"⟩ : MethodName) prog_25_method_3_code 3 none :: ws) ({ frames := 0, cells := 0, slots := 0, locals := 0 } : Room)) (fun a U => a = #[(.ref ao), (.long qc)] ∧ Z.Warmed39 U.vm ∧ U.heap = h0) (fun _ _ _ _ _ => True) (fun _ U o U' => ∃ v L, o = .returned v ∧ Q_cadd Z ao qc co ld lo h0 n0 v U'.heap L ∧ FrameEnd U o U' L ({ frames := 0, cells := 0, slots := 0, locals := 0 } : Room).cells ({ frames := 0, cells := 0, slots := 0, locals := 0 } : Room).slots) := by
  refine MetFree.of_bodySF (plainFor_of_name pn_0) hisR ?_
  intro p e s m args below meth c s₁ Bd hml0 hP hK
  obtain ⟨rfl, hZ, hh⟩ := hP
  have hx := Bd.exec
  have hby := Bd.bytes
  have hml : c.maxLocals = 3 := hml0
  have hown : s.vm.findClass "com/example/rivulet/rivulet/Counter" = some m.cls := findClass_of_methodNamed Bd.named
  have hnm := (name_of_methodNamed Bd.named Bd.method).1
  have X0 : Stand p l e ({ frames := 0, cells := 0, slots := 0, locals := 0 } : Room) s m #[(.ref ao), (.long qc)] below meth c s₁ [] 0 0 := Stand.of_body Bd
  have e0 : s₁.heap = h0 := by rw [← hh, Bd.state]; rfl
  have N0 := Fr.nil n0
  have K0 : Keep h0 h0 [ao] := Keep.refl h0 [ao]
  show Go p.tables e below _ (s₁.setTop (entryFrame m #[(.ref ao), (.long qc)] 3))
  refine Go.start ?_
  intro G hG
  refine Go.st (fun t k => castTop (ef_cadd m ao qc) k) ?_
  show Go p.tables e below _ (s₁.setTop (mkF m 0 #[.val (.ref ao), .val (.long qc), .second] []))
  refine Go.st (fun _ k => XS.aloadN X0.here hx rfl (hb hby d_cadd_0) rfl rfl k) ?_
  show Go p.tables e below _ (s₁.setTop (mkF m 1 #[.val (.ref ao), .val (.long qc), .second] [(.ref ao)]))
  refine Go.st (fun _ k => XS.dup X0.here hx rfl (hb hby d_cadd_1) rfl rfl k) ?_
  show Go p.tables e below _ (s₁.setTop (mkF m 2 #[.val (.ref ao), .val (.long qc), .second] [(.ref ao), (.ref ao)]))
  obtain ⟨T1, X1, e1, st1⟩ := getF X0 hx hZ hown (host := "") (Or.inl (hw _ (List.mem_of_getElem? (i := 22) rfl))) Via.refl e0 P1 (g := (mkF m 2 #[.val (.ref ao), .val (.long qc), .second] [(.ref ao), (.ref ao)])) rfl rfl (hb hby d_cadd_2)
  refine Go.st st1 ?_
  show Go p.tables e below _ (T1.setTop (mkF m 5 #[.val (.ref ao), .val (.long qc), .second] [(.long co), (.ref ao)]))
  refine Go.st (fun _ k => XS.lloadN X1.here hx rfl (hb hby d_cadd_5) rfl k) ?_
  show Go p.tables e below _ (T1.setTop (mkF m 6 #[.val (.ref ao), .val (.long qc), .second] [(.long qc), (.long co), (.ref ao)]))
  refine Go.st (fun _ k => XS.ladd X1.here hx rfl (hb hby d_cadd_6) rfl k) ?_
  show Go p.tables e below _ (T1.setTop (mkF m 7 #[.val (.ref ao), .val (.long qc), .second] [(.long (co + qc)), (.ref ao)]))
  obtain ⟨T2, h2, X2, e2, W2, st2⟩ := putF X1 hx hZ hown (host := "") (Or.inl (hw _ (List.mem_of_getElem? (i := 22) rfl))) Via.refl e1 P1 P0 (Or.inl (hw _ (List.mem_of_getElem? (i := 23) rfl))) (hw _ (List.mem_of_getElem? (i := 2) rfl)) (ty := .long) (by decide) rfl rfl (g := (mkF m 7 #[.val (.ref ao), .val (.long qc), .second] [(.long (co + qc)), (.ref ao)])) rfl rfl (hb hby d_cadd_7)
  refine Go.st st2 ?_
  have F3 : Exa Z h2 ao "com/example/rivulet/rivulet/Counter" := P0.wr W2
  have F4 : Fld Z h2 ao "com/example/rivulet/rivulet/Counter" "count" "J" (.long (co + qc)) := P1.same W2
  have F5 : Fld Z h2 ao "com/example/rivulet/rivulet/Counter" "loaded" "Z" (.int ld) := P2.other W2 (Or.inr (slot_ne (Or.inl (hw _ (List.mem_of_getElem? (i := 21) rfl))) (Or.inl (hw _ (List.mem_of_getElem? (i := 23) rfl))) (by decide) (t := .boolean) (t' := .long) (by decide) (by decide)))
  have F6 : Fld Z h2 ao "com/example/rivulet/rivulet/Counter" "load" "J" (.long lo) := P3.other W2 (Or.inr (slot_ne (Or.inl (hw _ (List.mem_of_getElem? (i := 42) rfl))) (Or.inl (hw _ (List.mem_of_getElem? (i := 23) rfl))) (by decide) (t := .long) (t' := .long) (by decide) (by decide)))
  have F7 : Fld Z h2 ao "com/example/rivulet/rivulet/Counter" "work" "Lcom/example/rivulet/rivulet/WorkLimit;" .null := P4.other W2 (Or.inr (slot_ne (Or.inr (hw _ (List.mem_of_getElem? (i := 14) rfl))) (Or.inl (hw _ (List.mem_of_getElem? (i := 23) rfl))) (by decide) (t := (.object "com/example/rivulet/rivulet/WorkLimit")) (t' := .long) (by decide) (by decide)))
  have K8 : Keep h0 h2 [ao] := K0.wr W2 (Or.inl (List.mem_of_getElem? (i := 0) rfl))
  have Z9 : n0 ≤ h2.size := Nat.le_trans Z0 (Nat.le_of_eq W2.size.symm)
  have N10 := Fr.snoc X2 N0 P5
  show Go p.tables e below _ (T2.setTop (mkF m 10 #[.val (.ref ao), .val (.long qc), .second] []))
  refine Go.st (fun _ k => XS.aloadN X2.here hx rfl (hb hby d_cadd_10) rfl rfl k) ?_
  show Go p.tables e below _ (T2.setTop (mkF m 11 #[.val (.ref ao), .val (.long qc), .second] [(.ref ao)]))
  obtain ⟨T11, X11, e11, st11⟩ := getF X2 hx hZ hown (host := "") (Or.inl (hw _ (List.mem_of_getElem? (i := 13) rfl))) Via.refl e2 F7 (g := (mkF m 11 #[.val (.ref ao), .val (.long qc), .second] [(.ref ao)])) rfl rfl (hb hby d_cadd_11)
  refine Go.st st11 ?_
  show Go p.tables e below _ (T11.setTop (mkF m 14 #[.val (.ref ao), .val (.long qc), .second] [.null]))
  refine Go.st (fun _ k => XS.ifnullYes X11.here hx rfl (pc0 := 14) (pc' := 25) rfl (hb hby d_cadd_14) rfl (by decide) (by decide) k) ?_
  show Go p.tables e below _ (T11.setTop (mkF m 25 #[.val (.ref ao), .val (.long qc), .second] []))
  subst hG
  obtain ⟨fs, hr, hrun, hended, hW, hsame⟩ := X11.leave (v := none) (fun _ => rfl)
  refine ⟨_, _, ?_, hrun, hended, _, _, rfl, ?_, ⟨_, rfl⟩, hW, hsame.mono (by decide) (by decide)⟩
  · exact X11.returnOut hx Bd.returns (hb hby d_cadd_25) hr
  · show Q_cadd Z ao qc co ld lo h0 n0 _ T11.heap _
    rw [e11]
    exact ⟨rfl, N10, K8, F3, F4, F5, F6, F7⟩
theorem d_loaded_0 : decode prog_25_method_4_code 0 = .ok (.aload_n 0, 1) := by decide +kernel
theorem d_loaded_1 : decode prog_25_method_4_code 1 = .ok (.iconst 1, 1) := by decide +kernel
theorem d_loaded_2 : decode prog_25_method_4_code 2 = .ok (.putfield 26, 3) := by decide +kernel
theorem d_loaded_5 : decode prog_25_method_4_code 5 = .ok (.aload_n 0, 1) := by decide +kernel
theorem d_loaded_6 : decode prog_25_method_4_code 6 = .ok (.aload_n 0, 1) := by decide +kernel
theorem d_loaded_7 : decode prog_25_method_4_code 7 = .ok (.getfield 16, 3) := by decide +kernel
theorem d_loaded_10 : decode prog_25_method_4_code 10 = .ok (.putfield 30, 3) := by decide +kernel
theorem d_loaded_13 : decode prog_25_method_4_code 13 = .ok (.return_, 1) := by decide +kernel
theorem ef_loaded (m : MethodId) (ao : Addr) : entryFrame m #[(.ref ao)] 1 = mkF m 0 #[.val (.ref ao)] [] := by first | (simp [entryFrame, mkF, argsToLocals, Value.category]; done) | rfl
def Q_loaded (Z : State) (ao : Addr) (co : Int64) (ld : Int32) (lo : Int64) (h0 : Heap) (n0 : Nat) (v : Option Value) (h : Heap) (L : List Loc) : Prop := v = none ∧ Fr n0 L ∧ Keep h0 h [ao] ∧ Exa Z h ao "com/example/rivulet/rivulet/Counter" ∧ Fld Z h ao "com/example/rivulet/rivulet/Counter" "count" "J" (.long co) ∧ Fld Z h ao "com/example/rivulet/rivulet/Counter" "loaded" "Z" (.int (1 : Int32)) ∧ Fld Z h ao "com/example/rivulet/rivulet/Counter" "load" "J" (.long co) ∧ Fld Z h ao "com/example/rivulet/rivulet/Counter" "work" "Lcom/example/rivulet/rivulet/WorkLimit;" .null
set_option maxRecDepth 65536 in
set_option maxHeartbeats 40000000 in
theorem rm_loaded (l : Launch) (Z : State) (a0 : Array Value) (hw : ∀ d ∈ tables_1, d.before a0 Z = true) (ws : List Jvm.Cond) (ao : Addr) (co : Int64) (ld : Int32) (lo : Int64) (h0 : Heap) (n0 : Nat) (Z0 : n0 ≤ h0.size) (P0 : Exa Z h0 ao "com/example/rivulet/rivulet/Counter") (P1 : Fld Z h0 ao "com/example/rivulet/rivulet/Counter" "count" "J" (.long co)) (P2 : Fld Z h0 ao "com/example/rivulet/rivulet/Counter" "loaded" "Z" (.int ld)) (P3 : Fld Z h0 ao "com/example/rivulet/rivulet/Counter" "load" "J" (.long lo)) (P4 : Fld Z h0 ao "com/example/rivulet/rivulet/Counter" "work" "Lcom/example/rivulet/rivulet/WorkLimit;" .null) (P5 : n0 ≤ ao) :
    MetFree l (⟨"com/example/rivulet/rivulet/Counter", "loaded", "()V"⟩ : MethodName) (head1 (Jvm.Cond.code (⟨"com/example/rivulet/rivulet/Counter", "loaded", "()V"⟩ : MethodName) prog_25_method_4_code 1 none :: ws) ({ frames := 0, cells := 0, slots := 0, locals := 0 } : Room)) (fun a U => a = #[(.ref ao)] ∧ Z.Warmed39 U.vm ∧ U.heap = h0) (fun _ _ _ _ _ => True) (fun _ U o U' => ∃ v L, o = .returned v ∧ Q_loaded Z ao co ld lo h0 n0 v U'.heap L ∧ FrameEnd U o U' L ({ frames := 0, cells := 0, slots := 0, locals := 0 } : Room).cells ({ frames := 0, cells := 0, slots := 0, locals := 0 } : Room).slots) := by
  refine MetFree.of_bodySF (plainFor_of_name pn_0) hisR ?_
  intro p e s m args below meth c s₁ Bd hml0 hP hK
  obtain ⟨rfl, hZ, hh⟩ := hP
  have hx := Bd.exec
  have hby := Bd.bytes
  have hml : c.maxLocals = 1 := hml0
  have hown : s.vm.findClass "com/example/rivulet/rivulet/Counter" = some m.cls := findClass_of_methodNamed Bd.named
  have hnm := (name_of_methodNamed Bd.named Bd.method).1
  have X0 : Stand p l e ({ frames := 0, cells := 0, slots := 0, locals := 0 } : Room) s m #[(.ref ao)] below meth c s₁ [] 0 0 := Stand.of_body Bd
  have e0 : s₁.heap = h0 := by rw [← hh, Bd.state]; rfl
  have N0 := Fr.nil n0
  have K0 : Keep h0 h0 [ao] := Keep.refl h0 [ao]
  show Go p.tables e below _ (s₁.setTop (entryFrame m #[(.ref ao)] 1))
  refine Go.start ?_
  intro G hG
  refine Go.st (fun t k => castTop (ef_loaded m ao) k) ?_
  show Go p.tables e below _ (s₁.setTop (mkF m 0 #[.val (.ref ao)] []))
  refine Go.st (fun _ k => XS.aloadN X0.here hx rfl (hb hby d_loaded_0) rfl rfl k) ?_
  show Go p.tables e below _ (s₁.setTop (mkF m 1 #[.val (.ref ao)] [(.ref ao)]))
  refine Go.st (fun _ k => XS.iconst X0.here hx rfl (hb hby d_loaded_1) k) ?_
  show Go p.tables e below _ (s₁.setTop (mkF m 2 #[.val (.ref ao)] [(.int (1 : Int32)), (.ref ao)]))
  obtain ⟨T1, h1, X1, e1, W1, st1⟩ := putFN X0 hx hZ hown (hw _ (List.mem_of_getElem? (i := 20) rfl)) Via.refl e0 P2 P0 (Or.inl (hw _ (List.mem_of_getElem? (i := 21) rfl))) (hw _ (List.mem_of_getElem? (i := 2) rfl)) (ty := .boolean) (v' := .int (1 : Int32)) (by decide) rfl (by decide) (g := (mkF m 2 #[.val (.ref ao)] [(.int (1 : Int32)), (.ref ao)])) rfl rfl (hb hby d_loaded_2)
  refine Go.st st1 ?_
  have F2 : Exa Z h1 ao "com/example/rivulet/rivulet/Counter" := P0.wr W1
  have F3 : Fld Z h1 ao "com/example/rivulet/rivulet/Counter" "count" "J" (.long co) := P1.other W1 (Or.inr (slot_ne (Or.inl (hw _ (List.mem_of_getElem? (i := 23) rfl))) (Or.inl (hw _ (List.mem_of_getElem? (i := 21) rfl))) (by decide) (t := .long) (t' := .boolean) (by decide) (by decide)))
  have F4 : Fld Z h1 ao "com/example/rivulet/rivulet/Counter" "loaded" "Z" (.int (1 : Int32)) := P2.same W1
  have F5 : Fld Z h1 ao "com/example/rivulet/rivulet/Counter" "load" "J" (.long lo) := P3.other W1 (Or.inr (slot_ne (Or.inl (hw _ (List.mem_of_getElem? (i := 42) rfl))) (Or.inl (hw _ (List.mem_of_getElem? (i := 21) rfl))) (by decide) (t := .long) (t' := .boolean) (by decide) (by decide)))
  have F6 : Fld Z h1 ao "com/example/rivulet/rivulet/Counter" "work" "Lcom/example/rivulet/rivulet/WorkLimit;" .null := P4.other W1 (Or.inr (slot_ne (Or.inr (hw _ (List.mem_of_getElem? (i := 14) rfl))) (Or.inl (hw _ (List.mem_of_getElem? (i := 21) rfl))) (by decide) (t := (.object "com/example/rivulet/rivulet/WorkLimit")) (t' := .boolean) (by decide) (by decide)))
  have K7 : Keep h0 h1 [ao] := K0.wr W1 (Or.inl (List.mem_of_getElem? (i := 0) rfl))
  have Z8 : n0 ≤ h1.size := Nat.le_trans Z0 (Nat.le_of_eq W1.size.symm)
  have N9 := Fr.snoc X1 N0 P5
  show Go p.tables e below _ (T1.setTop (mkF m 5 #[.val (.ref ao)] []))
  refine Go.st (fun _ k => XS.aloadN X1.here hx rfl (hb hby d_loaded_5) rfl rfl k) ?_
  show Go p.tables e below _ (T1.setTop (mkF m 6 #[.val (.ref ao)] [(.ref ao)]))
  refine Go.st (fun _ k => XS.aloadN X1.here hx rfl (hb hby d_loaded_6) rfl rfl k) ?_
  show Go p.tables e below _ (T1.setTop (mkF m 7 #[.val (.ref ao)] [(.ref ao), (.ref ao)]))
  obtain ⟨T10, X10, e10, st10⟩ := getF X1 hx hZ hown (host := "") (Or.inl (hw _ (List.mem_of_getElem? (i := 22) rfl))) Via.refl e1 F3 (g := (mkF m 7 #[.val (.ref ao)] [(.ref ao), (.ref ao)])) rfl rfl (hb hby d_loaded_7)
  refine Go.st st10 ?_
  show Go p.tables e below _ (T10.setTop (mkF m 10 #[.val (.ref ao)] [(.long co), (.ref ao)]))
  obtain ⟨T11, h11, X11, e11, W11, st11⟩ := putF X10 hx hZ hown (host := "") (Or.inl (hw _ (List.mem_of_getElem? (i := 41) rfl))) Via.refl e10 F5 F2 (Or.inl (hw _ (List.mem_of_getElem? (i := 42) rfl))) (hw _ (List.mem_of_getElem? (i := 2) rfl)) (ty := .long) (by decide) rfl rfl (g := (mkF m 10 #[.val (.ref ao)] [(.long co), (.ref ao)])) rfl rfl (hb hby d_loaded_10)
  refine Go.st st11 ?_
  have F12 : Exa Z h11 ao "com/example/rivulet/rivulet/Counter" := F2.wr W11
  have F13 : Fld Z h11 ao "com/example/rivulet/rivulet/Counter" "count" "J" (.long co) := F3.other W11 (Or.inr (slot_ne (Or.inl (hw _ (List.mem_of_getElem? (i := 23) rfl))) (Or.inl (hw _ (List.mem_of_getElem? (i := 42) rfl))) (by decide) (t := .long) (t' := .long) (by decide) (by decide)))
  have F14 : Fld Z h11 ao "com/example/rivulet/rivulet/Counter" "loaded" "Z" (.int (1 : Int32)) := F4.other W11 (Or.inr (slot_ne (Or.inl (hw _ (List.mem_of_getElem? (i := 21) rfl))) (Or.inl (hw _ (List.mem_of_getElem? (i := 42) rfl))) (by decide) (t := .boolean) (t' := .long) (by decide) (by decide)))
  have F15 : Fld Z h11 ao "com/example/rivulet/rivulet/Counter" "load" "J" (.long co) := F5.same W11
  have F16 : Fld Z h11 ao "com/example/rivulet/rivulet/Counter" "work" "Lcom/example/rivulet/rivulet/WorkLimit;" .null := F6.other W11 (Or.inr (slot_ne (Or.inr (hw _ (List.mem_of_getElem? (i := 14) rfl))) (Or.inl (hw _ (List.mem_of_getElem? (i := 42) rfl))) (by decide) (t := (.object "com/example/rivulet/rivulet/WorkLimit")) (t' := .long) (by decide) (by decide)))
  have K17 : Keep h0 h11 [ao] := K7.wr W11 (Or.inl (List.mem_of_getElem? (i := 0) rfl))
  have Z18 : n0 ≤ h11.size := Nat.le_trans Z8 (Nat.le_of_eq W11.size.symm)
  have N19 := Fr.snoc X11 N9 P5
  show Go p.tables e below _ (T11.setTop (mkF m 13 #[.val (.ref ao)] []))
  subst hG
  obtain ⟨fs, hr, hrun, hended, hW, hsame⟩ := X11.leave (v := none) (fun _ => rfl)
  refine ⟨_, _, ?_, hrun, hended, _, _, rfl, ?_, ⟨_, rfl⟩, hW, hsame.mono (by decide) (by decide)⟩
  · exact X11.returnOut hx Bd.returns (hb hby d_loaded_13) hr
  · show Q_loaded Z ao co ld lo h0 n0 _ T11.heap _
    rw [e11]
    exact ⟨rfl, N19, K17, F12, F13, F14, F15, F16⟩
theorem pn_1 : plainName "com/example/rivulet/rivulet/CounterLoadPinLaw" = true := by first | (simp [plainName, overriddenIn]; done) | decide +kernel
theorem d_pref_0 : decode method_2_code 0 = .ok (.iload_n 0, 1) := by decide +kernel
theorem d_pref_1 : decode method_2_code 1 = .ok (.ifCond .ne 5, 3) := by decide +kernel
theorem d_pref_4 : decode method_2_code 4 = .ok (.lload_n 1, 1) := by decide +kernel
theorem d_pref_5 : decode method_2_code 5 = .ok (.lreturn, 1) := by decide +kernel
theorem d_pref_6 : decode method_2_code 6 = .ok (.iload_n 0, 1) := by decide +kernel
theorem d_pref_7 : decode method_2_code 7 = .ok (.iconst 1, 1) := by decide +kernel
theorem d_pref_8 : decode method_2_code 8 = .ok (.if_icmp .ne 5, 3) := by decide +kernel
theorem d_pref_11 : decode method_2_code 11 = .ok (.lload_n 3, 1) := by decide +kernel
theorem d_pref_12 : decode method_2_code 12 = .ok (.lreturn, 1) := by decide +kernel
theorem d_pref_13 : decode method_2_code 13 = .ok (.iload_n 0, 1) := by decide +kernel
theorem d_pref_14 : decode method_2_code 14 = .ok (.iconst 2, 1) := by decide +kernel
theorem d_pref_15 : decode method_2_code 15 = .ok (.if_icmp .ne 6, 3) := by decide +kernel
theorem d_pref_18 : decode method_2_code 18 = .ok (.lload 5, 2) := by decide +kernel
theorem d_pref_20 : decode method_2_code 20 = .ok (.lreturn, 1) := by decide +kernel
theorem d_pref_21 : decode method_2_code 21 = .ok (.lload 7, 2) := by decide +kernel
theorem d_pref_23 : decode method_2_code 23 = .ok (.lreturn, 1) := by decide +kernel
theorem ef_pref (m : MethodId) (pi : Int32) (s0 : Int64) (s1 : Int64) (s2 : Int64) (s3 : Int64) : entryFrame m #[(.int pi), (.long s0), (.long s1), (.long s2), (.long s3)] 9 = mkF m 0 #[.val (.int pi), .val (.long s0), .second, .val (.long s1), .second, .val (.long s2), .second, .val (.long s3), .second] [] := by first | (simp [entryFrame, mkF, argsToLocals, Value.category]; done) | rfl
def Q_pref (Z : State) (pi : Int32) (s0 : Int64) (s1 : Int64) (s2 : Int64) (s3 : Int64) (h0 : Heap) (n0 : Nat) (v : Option Value) (h : Heap) (L : List Loc) : Prop := v = some (.long (prF pi s0 s1 s2 s3)) ∧ Fr n0 L ∧ h = h0
set_option maxRecDepth 65536 in
set_option maxHeartbeats 40000000 in
theorem rm_pref (l : Launch) (Z : State) (a0 : Array Value) (hw : ∀ d ∈ tables_1, d.before a0 Z = true) (ws : List Jvm.Cond) (pi : Int32) (s0 : Int64) (s1 : Int64) (s2 : Int64) (s3 : Int64) (h0 : Heap) (n0 : Nat) (Z0 : n0 ≤ h0.size)  :
    MetFree l (⟨"com/example/rivulet/rivulet/CounterLoadPinLaw", "prefix", "(IJJJJ)J"⟩ : MethodName) (head1 (Jvm.Cond.code (⟨"com/example/rivulet/rivulet/CounterLoadPinLaw", "prefix", "(IJJJJ)J"⟩ : MethodName) method_2_code 9 (some .long) :: ws) ({ frames := 0, cells := 0, slots := 0, locals := 0 } : Room)) (fun a U => a = #[(.int pi), (.long s0), (.long s1), (.long s2), (.long s3)] ∧ Z.Warmed39 U.vm ∧ U.heap = h0) (fun _ _ _ _ _ => True) (fun _ U o U' => ∃ v L, o = .returned v ∧ Q_pref Z pi s0 s1 s2 s3 h0 n0 v U'.heap L ∧ FrameEnd U o U' L ({ frames := 0, cells := 0, slots := 0, locals := 0 } : Room).cells ({ frames := 0, cells := 0, slots := 0, locals := 0 } : Room).slots) := by
  refine MetFree.of_bodySF (plainFor_of_name pn_1) hisR ?_
  intro p e s m args below meth c s₁ Bd hml0 hP hK
  obtain ⟨rfl, hZ, hh⟩ := hP
  have hx := Bd.exec
  have hby := Bd.bytes
  have hml : c.maxLocals = 9 := hml0
  have hown : s.vm.findClass "com/example/rivulet/rivulet/CounterLoadPinLaw" = some m.cls := findClass_of_methodNamed Bd.named
  have hnm := (name_of_methodNamed Bd.named Bd.method).1
  have X0 : Stand p l e ({ frames := 0, cells := 0, slots := 0, locals := 0 } : Room) s m #[(.int pi), (.long s0), (.long s1), (.long s2), (.long s3)] below meth c s₁ [] 0 0 := Stand.of_body Bd
  have e0 : s₁.heap = h0 := by rw [← hh, Bd.state]; rfl
  have N0 := Fr.nil n0
  have K0 : Keep h0 h0 [] := Keep.refl h0 []
  show Go p.tables e below _ (s₁.setTop (entryFrame m #[(.int pi), (.long s0), (.long s1), (.long s2), (.long s3)] 9))
  refine Go.start ?_
  intro G hG
  refine Go.st (fun t k => castTop (ef_pref m pi s0 s1 s2 s3) k) ?_
  show Go p.tables e below _ (s₁.setTop (mkF m 0 #[.val (.int pi), .val (.long s0), .second, .val (.long s1), .second, .val (.long s2), .second, .val (.long s3), .second] []))
  refine Go.st (fun _ k => XS.iloadN X0.here hx rfl (hb hby d_pref_0) rfl k) ?_
  show Go p.tables e below _ (s₁.setTop (mkF m 1 #[.val (.int pi), .val (.long s0), .second, .val (.long s1), .second, .val (.long s2), .second, .val (.long s3), .second] [(.int pi)]))
  by_cases hc1 : pi = (0 : Int32)
  · skip
    refine Go.st (fun _ k => XS.ifNo X0.here hx rfl (hb hby d_pref_1) rfl (Jvm.Free.XT.i0_ne_f hc1) k) ?_
    show Go p.tables e below _ (s₁.setTop (mkF m 4 #[.val (.int pi), .val (.long s0), .second, .val (.long s1), .second, .val (.long s2), .second, .val (.long s3), .second] []))
    refine Go.st (fun _ k => XS.lloadN X0.here hx rfl (hb hby d_pref_4) rfl k) ?_
    show Go p.tables e below _ (s₁.setTop (mkF m 5 #[.val (.int pi), .val (.long s0), .second, .val (.long s1), .second, .val (.long s2), .second, .val (.long s3), .second] [(.long s0)]))
    subst hG
    obtain ⟨fs, hr, hrun, hended, hW, hsame⟩ := X0.leave (v := some (.long s0)) (fun h => by rw [Bd.returns] at h; cases h)
    refine ⟨_, _, ?_, hrun, hended, _, _, rfl, ?_, ⟨_, rfl⟩, hW, hsame.mono (by decide) (by decide)⟩
    · exact retOut X0 hx Bd.returns rfl (Or.inr (Or.inl ⟨rfl, rfl, _, rfl⟩)) (hb hby d_pref_5) hr
    · show Q_pref Z pi s0 s1 s2 s3 h0 n0 _ s₁.heap _
      rw [e0]
      exact ⟨(by simp [prF, hc1]), N0, rfl⟩
  · skip
    refine Go.st (fun _ k => XS.ifYes X0.here hx rfl (pc0 := 1) (pc' := 6) rfl (hb hby d_pref_1) rfl (Jvm.Free.XT.i0_ne_t hc1) (by decide) (by decide) k) ?_
    show Go p.tables e below _ (s₁.setTop (mkF m 6 #[.val (.int pi), .val (.long s0), .second, .val (.long s1), .second, .val (.long s2), .second, .val (.long s3), .second] []))
    refine Go.st (fun _ k => XS.iloadN X0.here hx rfl (hb hby d_pref_6) rfl k) ?_
    show Go p.tables e below _ (s₁.setTop (mkF m 7 #[.val (.int pi), .val (.long s0), .second, .val (.long s1), .second, .val (.long s2), .second, .val (.long s3), .second] [(.int pi)]))
    refine Go.st (fun _ k => XS.iconst X0.here hx rfl (hb hby d_pref_7) k) ?_
    show Go p.tables e below _ (s₁.setTop (mkF m 8 #[.val (.int pi), .val (.long s0), .second, .val (.long s1), .second, .val (.long s2), .second, .val (.long s3), .second] [(.int (1 : Int32)), (.int pi)]))
    by_cases hc8 : pi = (1 : Int32)
    · skip
      refine Go.st (fun _ k => XS.icmpNo X0.here hx rfl (hb hby d_pref_8) rfl (Jvm.Free.XT.ii_ne_f hc8) k) ?_
      show Go p.tables e below _ (s₁.setTop (mkF m 11 #[.val (.int pi), .val (.long s0), .second, .val (.long s1), .second, .val (.long s2), .second, .val (.long s3), .second] []))
      refine Go.st (fun _ k => XS.lloadN X0.here hx rfl (hb hby d_pref_11) rfl k) ?_
      show Go p.tables e below _ (s₁.setTop (mkF m 12 #[.val (.int pi), .val (.long s0), .second, .val (.long s1), .second, .val (.long s2), .second, .val (.long s3), .second] [(.long s1)]))
      subst hG
      obtain ⟨fs, hr, hrun, hended, hW, hsame⟩ := X0.leave (v := some (.long s1)) (fun h => by rw [Bd.returns] at h; cases h)
      refine ⟨_, _, ?_, hrun, hended, _, _, rfl, ?_, ⟨_, rfl⟩, hW, hsame.mono (by decide) (by decide)⟩
      · exact retOut X0 hx Bd.returns rfl (Or.inr (Or.inl ⟨rfl, rfl, _, rfl⟩)) (hb hby d_pref_12) hr
      · show Q_pref Z pi s0 s1 s2 s3 h0 n0 _ s₁.heap _
        rw [e0]
        exact ⟨(by simp [prF, hc1, hc8]), N0, rfl⟩
    · skip
      refine Go.st (fun _ k => XS.icmpYes X0.here hx rfl (pc0 := 8) (pc' := 13) rfl (hb hby d_pref_8) rfl (Jvm.Free.XT.ii_ne_t hc8) (by decide) (by decide) k) ?_
      show Go p.tables e below _ (s₁.setTop (mkF m 13 #[.val (.int pi), .val (.long s0), .second, .val (.long s1), .second, .val (.long s2), .second, .val (.long s3), .second] []))
      refine Go.st (fun _ k => XS.iloadN X0.here hx rfl (hb hby d_pref_13) rfl k) ?_
      show Go p.tables e below _ (s₁.setTop (mkF m 14 #[.val (.int pi), .val (.long s0), .second, .val (.long s1), .second, .val (.long s2), .second, .val (.long s3), .second] [(.int pi)]))
      refine Go.st (fun _ k => XS.iconst X0.here hx rfl (hb hby d_pref_14) k) ?_
      show Go p.tables e below _ (s₁.setTop (mkF m 15 #[.val (.int pi), .val (.long s0), .second, .val (.long s1), .second, .val (.long s2), .second, .val (.long s3), .second] [(.int (2 : Int32)), (.int pi)]))
      by_cases hc15 : pi = (2 : Int32)
      · skip
        refine Go.st (fun _ k => XS.icmpNo X0.here hx rfl (hb hby d_pref_15) rfl (Jvm.Free.XT.ii_ne_f hc15) k) ?_
        show Go p.tables e below _ (s₁.setTop (mkF m 18 #[.val (.int pi), .val (.long s0), .second, .val (.long s1), .second, .val (.long s2), .second, .val (.long s3), .second] []))
        refine Go.st (fun _ k => XS.lload X0.here hx rfl (hb hby d_pref_18) rfl k) ?_
        show Go p.tables e below _ (s₁.setTop (mkF m 20 #[.val (.int pi), .val (.long s0), .second, .val (.long s1), .second, .val (.long s2), .second, .val (.long s3), .second] [(.long s2)]))
        subst hG
        obtain ⟨fs, hr, hrun, hended, hW, hsame⟩ := X0.leave (v := some (.long s2)) (fun h => by rw [Bd.returns] at h; cases h)
        refine ⟨_, _, ?_, hrun, hended, _, _, rfl, ?_, ⟨_, rfl⟩, hW, hsame.mono (by decide) (by decide)⟩
        · exact retOut X0 hx Bd.returns rfl (Or.inr (Or.inl ⟨rfl, rfl, _, rfl⟩)) (hb hby d_pref_20) hr
        · show Q_pref Z pi s0 s1 s2 s3 h0 n0 _ s₁.heap _
          rw [e0]
          exact ⟨(by simp [prF, hc1, hc8, hc15]), N0, rfl⟩
      · skip
        refine Go.st (fun _ k => XS.icmpYes X0.here hx rfl (pc0 := 15) (pc' := 21) rfl (hb hby d_pref_15) rfl (Jvm.Free.XT.ii_ne_t hc15) (by decide) (by decide) k) ?_
        show Go p.tables e below _ (s₁.setTop (mkF m 21 #[.val (.int pi), .val (.long s0), .second, .val (.long s1), .second, .val (.long s2), .second, .val (.long s3), .second] []))
        refine Go.st (fun _ k => XS.lload X0.here hx rfl (hb hby d_pref_21) rfl k) ?_
        show Go p.tables e below _ (s₁.setTop (mkF m 23 #[.val (.int pi), .val (.long s0), .second, .val (.long s1), .second, .val (.long s2), .second, .val (.long s3), .second] [(.long s3)]))
        subst hG
        obtain ⟨fs, hr, hrun, hended, hW, hsame⟩ := X0.leave (v := some (.long s3)) (fun h => by rw [Bd.returns] at h; cases h)
        refine ⟨_, _, ?_, hrun, hended, _, _, rfl, ?_, ⟨_, rfl⟩, hW, hsame.mono (by decide) (by decide)⟩
        · exact retOut X0 hx Bd.returns rfl (Or.inr (Or.inl ⟨rfl, rfl, _, rfl⟩)) (hb hby d_pref_23) hr
        · show Q_pref Z pi s0 s1 s2 s3 h0 n0 _ s₁.heap _
          rw [e0]
          exact ⟨(by simp [prF, hc1, hc8, hc15]), N0, rfl⟩
theorem pd_1 : parseMethodDescriptor "(IJJJJ)J" = some ⟨[.int, .long, .long, .long, .long], some .long⟩ := by decide +kernel
theorem d_expe_0 : decode method_3_code 0 = .ok (.iload_n 1, 1) := by decide +kernel
theorem d_expe_1 : decode method_3_code 1 = .ok (.iload_n 0, 1) := by decide +kernel
theorem d_expe_2 : decode method_3_code 2 = .ok (.if_icmp .ge 15, 3) := by decide +kernel
theorem d_expe_5 : decode method_3_code 5 = .ok (.iload_n 1, 1) := by decide +kernel
theorem d_expe_6 : decode method_3_code 6 = .ok (.lload_n 2, 1) := by decide +kernel
theorem d_expe_7 : decode method_3_code 7 = .ok (.lload 4, 2) := by decide +kernel
theorem d_expe_9 : decode method_3_code 9 = .ok (.lload 6, 2) := by decide +kernel
theorem d_expe_11 : decode method_3_code 11 = .ok (.lload 8, 2) := by decide +kernel
theorem d_expe_13 : decode method_3_code 13 = .ok (.invokestatic 7, 3) := by decide +kernel
theorem d_expe_16 : decode method_3_code 16 = .ok (.lreturn, 1) := by decide +kernel
theorem d_expe_17 : decode method_3_code 17 = .ok (.iload_n 0, 1) := by decide +kernel
theorem d_expe_18 : decode method_3_code 18 = .ok (.lload_n 2, 1) := by decide +kernel
theorem d_expe_19 : decode method_3_code 19 = .ok (.lload 4, 2) := by decide +kernel
theorem d_expe_21 : decode method_3_code 21 = .ok (.lload 6, 2) := by decide +kernel
theorem d_expe_23 : decode method_3_code 23 = .ok (.lload 8, 2) := by decide +kernel
theorem d_expe_25 : decode method_3_code 25 = .ok (.invokestatic 7, 3) := by decide +kernel
theorem d_expe_28 : decode method_3_code 28 = .ok (.lreturn, 1) := by decide +kernel
theorem ef_expe (m : MethodId) (ps : Int32) (pk : Int32) (s0 : Int64) (s1 : Int64) (s2 : Int64) (s3 : Int64) : entryFrame m #[(.int ps), (.int pk), (.long s0), (.long s1), (.long s2), (.long s3)] 10 = mkF m 0 #[.val (.int ps), .val (.int pk), .val (.long s0), .second, .val (.long s1), .second, .val (.long s2), .second, .val (.long s3), .second] [] := by first | (simp [entryFrame, mkF, argsToLocals, Value.category]; done) | rfl
def Q_expe (Z : State) (ps : Int32) (pk : Int32) (s0 : Int64) (s1 : Int64) (s2 : Int64) (s3 : Int64) (h0 : Heap) (n0 : Nat) (v : Option Value) (h : Heap) (L : List Loc) : Prop := v = some (.long (exF ps pk s0 s1 s2 s3)) ∧ Fr n0 L ∧ h = h0
set_option maxRecDepth 65536 in
set_option maxHeartbeats 40000000 in
theorem rm_expe (l : Launch) (Z : State) (a0 : Array Value) (hw : ∀ d ∈ tables_1, d.before a0 Z = true) (ws : List Jvm.Cond) (ps : Int32) (pk : Int32) (s0 : Int64) (s1 : Int64) (s2 : Int64) (s3 : Int64) (h0 : Heap) (n0 : Nat) (Z0 : n0 ≤ h0.size)  :
    MetFree l (⟨"com/example/rivulet/rivulet/CounterLoadPinLaw", "expected", "(IIJJJJ)J"⟩ : MethodName) (head1 (Jvm.Cond.code (⟨"com/example/rivulet/rivulet/CounterLoadPinLaw", "expected", "(IIJJJJ)J"⟩ : MethodName) method_3_code 10 (some .long) :: ws) ({ frames := 1, cells := 0, slots := 0, locals := 20 } : Room)) (fun a U => a = #[(.int ps), (.int pk), (.long s0), (.long s1), (.long s2), (.long s3)] ∧ Z.Warmed39 U.vm ∧ U.heap = h0) (fun _ _ _ _ _ => True) (fun _ U o U' => ∃ v L, o = .returned v ∧ Q_expe Z ps pk s0 s1 s2 s3 h0 n0 v U'.heap L ∧ FrameEnd U o U' L ({ frames := 1, cells := 0, slots := 0, locals := 20 } : Room).cells ({ frames := 1, cells := 0, slots := 0, locals := 20 } : Room).slots) := by
  refine MetFree.of_bodySF (plainFor_of_name pn_1) hisR ?_
  intro p e s m args below meth c s₁ Bd hml0 hP hK
  obtain ⟨rfl, hZ, hh⟩ := hP
  have hx := Bd.exec
  have hby := Bd.bytes
  have hml : c.maxLocals = 10 := hml0
  have hown : s.vm.findClass "com/example/rivulet/rivulet/CounterLoadPinLaw" = some m.cls := findClass_of_methodNamed Bd.named
  have hnm := (name_of_methodNamed Bd.named Bd.method).1
  have X0 : Stand p l e ({ frames := 1, cells := 0, slots := 0, locals := 20 } : Room) s m #[(.int ps), (.int pk), (.long s0), (.long s1), (.long s2), (.long s3)] below meth c s₁ [] 0 0 := Stand.of_body Bd
  have e0 : s₁.heap = h0 := by rw [← hh, Bd.state]; rfl
  have N0 := Fr.nil n0
  have K0 : Keep h0 h0 [] := Keep.refl h0 []
  show Go p.tables e below _ (s₁.setTop (entryFrame m #[(.int ps), (.int pk), (.long s0), (.long s1), (.long s2), (.long s3)] 10))
  refine Go.start ?_
  intro G hG
  refine Go.st (fun t k => castTop (ef_expe m ps pk s0 s1 s2 s3) k) ?_
  show Go p.tables e below _ (s₁.setTop (mkF m 0 #[.val (.int ps), .val (.int pk), .val (.long s0), .second, .val (.long s1), .second, .val (.long s2), .second, .val (.long s3), .second] []))
  refine Go.st (fun _ k => XS.iloadN X0.here hx rfl (hb hby d_expe_0) rfl k) ?_
  show Go p.tables e below _ (s₁.setTop (mkF m 1 #[.val (.int ps), .val (.int pk), .val (.long s0), .second, .val (.long s1), .second, .val (.long s2), .second, .val (.long s3), .second] [(.int pk)]))
  refine Go.st (fun _ k => XS.iloadN X0.here hx rfl (hb hby d_expe_1) rfl k) ?_
  show Go p.tables e below _ (s₁.setTop (mkF m 2 #[.val (.int ps), .val (.int pk), .val (.long s0), .second, .val (.long s1), .second, .val (.long s2), .second, .val (.long s3), .second] [(.int ps), (.int pk)]))
  by_cases hc2 : pk < ps
  · skip
    refine Go.st (fun _ k => XS.icmpNo X0.here hx rfl (hb hby d_expe_2) rfl (Jvm.Free.XT.ii_ge_f hc2) k) ?_
    show Go p.tables e below _ (s₁.setTop (mkF m 5 #[.val (.int ps), .val (.int pk), .val (.long s0), .second, .val (.long s1), .second, .val (.long s2), .second, .val (.long s3), .second] []))
    refine Go.st (fun _ k => XS.iloadN X0.here hx rfl (hb hby d_expe_5) rfl k) ?_
    show Go p.tables e below _ (s₁.setTop (mkF m 6 #[.val (.int ps), .val (.int pk), .val (.long s0), .second, .val (.long s1), .second, .val (.long s2), .second, .val (.long s3), .second] [(.int pk)]))
    refine Go.st (fun _ k => XS.lloadN X0.here hx rfl (hb hby d_expe_6) rfl k) ?_
    show Go p.tables e below _ (s₁.setTop (mkF m 7 #[.val (.int ps), .val (.int pk), .val (.long s0), .second, .val (.long s1), .second, .val (.long s2), .second, .val (.long s3), .second] [(.long s0), (.int pk)]))
    refine Go.st (fun _ k => XS.lload X0.here hx rfl (hb hby d_expe_7) rfl k) ?_
    show Go p.tables e below _ (s₁.setTop (mkF m 9 #[.val (.int ps), .val (.int pk), .val (.long s0), .second, .val (.long s1), .second, .val (.long s2), .second, .val (.long s3), .second] [(.long s1), (.long s0), (.int pk)]))
    refine Go.st (fun _ k => XS.lload X0.here hx rfl (hb hby d_expe_9) rfl k) ?_
    show Go p.tables e below _ (s₁.setTop (mkF m 11 #[.val (.int ps), .val (.int pk), .val (.long s0), .second, .val (.long s1), .second, .val (.long s2), .second, .val (.long s3), .second] [(.long s2), (.long s1), (.long s0), (.int pk)]))
    refine Go.st (fun _ k => XS.lload X0.here hx rfl (hb hby d_expe_11) rfl k) ?_
    show Go p.tables e below _ (s₁.setTop (mkF m 13 #[.val (.int ps), .val (.int pk), .val (.long s0), .second, .val (.long s1), .second, .val (.long s2), .second, .val (.long s3), .second] [(.long s3), (.long s2), (.long s1), (.long s0), (.int pk)]))
    obtain ⟨_, _, ⟨T1, L1, k1, n1⟩, -, X1, ⟨Lc1, hQ1, l1, y1, z1⟩, st1⟩ := Jvm.LawKit.callS X0 hx (y := (⟨"com/example/rivulet/rivulet/CounterLoadPinLaw", "prefix", "(IJJJJ)J"⟩ : MethodName)) hown (mvT hZ (hw _ (List.mem_of_getElem? (i := 28) rfl))) (mvT hZ (hw _ (List.mem_of_getElem? (i := 29) rfl))) (mvT hZ (hw _ (List.mem_of_getElem? (i := 26) rfl))) (mvT hZ (hw _ (List.mem_of_getElem? (i := 30) rfl))) (by decide) (backOf (W := 0) (rm_pref l Z a0 hw [] pk s0 s1 s2 s3 h0 n0 Z0 ) hZ (hw _ (List.mem_of_getElem? (i := 30) rfl)) (hw _ (List.mem_of_getElem? (i := 26) rfl)) (by decide) (by decide)) (g := (mkF m 13 #[.val (.int ps), .val (.int pk), .val (.long s0), .second, .val (.long s1), .second, .val (.long s2), .second, .val (.long s3), .second] [(.long s3), (.long s2), (.long s1), (.long s0), (.int pk)])) rfl (by rw [hml]; rfl) (argsL := [(.int pk), (.long s0), (.long s1), (.long s2), (.long s3)]) (rest := []) (lenOf pd_1 rfl) rfl (by show 2 * 0 + _ ≤ _; exact Nat.le_of_eq rfl) (hb hby d_expe_13) (fun _ _ => ⟨rfl, e0, (by decide : 0 + 0 ≤ _), (by decide : 0 + 0 ≤ _)⟩)
    dsimp only [Pt.U, Pt.locs, Pt.cells, Pt.slots] at X1 l1 y1 z1 st1 hQ1
    subst l1 y1 z1
    obtain ⟨rfl, N1q, e1⟩ := hQ1
    have N1 := Fr.app N0 N1q
    refine Go.st st1 ?_
    show Go p.tables e below _ (T1.setTop (mkF m 16 #[.val (.int ps), .val (.int pk), .val (.long s0), .second, .val (.long s1), .second, .val (.long s2), .second, .val (.long s3), .second] [(.long (prF pk s0 s1 s2 s3))]))
    subst hG
    obtain ⟨fs, hr, hrun, hended, hW, hsame⟩ := X1.leave (v := some (.long (prF pk s0 s1 s2 s3))) (fun h => by rw [Bd.returns] at h; cases h)
    refine ⟨_, _, ?_, hrun, hended, _, _, rfl, ?_, ⟨_, rfl⟩, hW, hsame.mono (by decide) (by decide)⟩
    · exact retOut X1 hx Bd.returns rfl (Or.inr (Or.inl ⟨rfl, rfl, _, rfl⟩)) (hb hby d_expe_16) hr
    · show Q_expe Z ps pk s0 s1 s2 s3 h0 n0 _ T1.heap _
      rw [e1]
      exact ⟨(by simp [exF, hc2]), N1, rfl⟩
  · skip
    refine Go.st (fun _ k => XS.icmpYes X0.here hx rfl (pc0 := 2) (pc' := 17) rfl (hb hby d_expe_2) rfl (Jvm.Free.XT.ii_ge_t hc2) (by decide) (by decide) k) ?_
    show Go p.tables e below _ (s₁.setTop (mkF m 17 #[.val (.int ps), .val (.int pk), .val (.long s0), .second, .val (.long s1), .second, .val (.long s2), .second, .val (.long s3), .second] []))
    refine Go.st (fun _ k => XS.iloadN X0.here hx rfl (hb hby d_expe_17) rfl k) ?_
    show Go p.tables e below _ (s₁.setTop (mkF m 18 #[.val (.int ps), .val (.int pk), .val (.long s0), .second, .val (.long s1), .second, .val (.long s2), .second, .val (.long s3), .second] [(.int ps)]))
    refine Go.st (fun _ k => XS.lloadN X0.here hx rfl (hb hby d_expe_18) rfl k) ?_
    show Go p.tables e below _ (s₁.setTop (mkF m 19 #[.val (.int ps), .val (.int pk), .val (.long s0), .second, .val (.long s1), .second, .val (.long s2), .second, .val (.long s3), .second] [(.long s0), (.int ps)]))
    refine Go.st (fun _ k => XS.lload X0.here hx rfl (hb hby d_expe_19) rfl k) ?_
    show Go p.tables e below _ (s₁.setTop (mkF m 21 #[.val (.int ps), .val (.int pk), .val (.long s0), .second, .val (.long s1), .second, .val (.long s2), .second, .val (.long s3), .second] [(.long s1), (.long s0), (.int ps)]))
    refine Go.st (fun _ k => XS.lload X0.here hx rfl (hb hby d_expe_21) rfl k) ?_
    show Go p.tables e below _ (s₁.setTop (mkF m 23 #[.val (.int ps), .val (.int pk), .val (.long s0), .second, .val (.long s1), .second, .val (.long s2), .second, .val (.long s3), .second] [(.long s2), (.long s1), (.long s0), (.int ps)]))
    refine Go.st (fun _ k => XS.lload X0.here hx rfl (hb hby d_expe_23) rfl k) ?_
    show Go p.tables e below _ (s₁.setTop (mkF m 25 #[.val (.int ps), .val (.int pk), .val (.long s0), .second, .val (.long s1), .second, .val (.long s2), .second, .val (.long s3), .second] [(.long s3), (.long s2), (.long s1), (.long s0), (.int ps)]))
    obtain ⟨_, _, ⟨T2, L2, k2, n2⟩, -, X2, ⟨Lc2, hQ2, l2, y2, z2⟩, st2⟩ := Jvm.LawKit.callS X0 hx (y := (⟨"com/example/rivulet/rivulet/CounterLoadPinLaw", "prefix", "(IJJJJ)J"⟩ : MethodName)) hown (mvT hZ (hw _ (List.mem_of_getElem? (i := 28) rfl))) (mvT hZ (hw _ (List.mem_of_getElem? (i := 29) rfl))) (mvT hZ (hw _ (List.mem_of_getElem? (i := 26) rfl))) (mvT hZ (hw _ (List.mem_of_getElem? (i := 30) rfl))) (by decide) (backOf (W := 0) (rm_pref l Z a0 hw [] ps s0 s1 s2 s3 h0 n0 Z0 ) hZ (hw _ (List.mem_of_getElem? (i := 30) rfl)) (hw _ (List.mem_of_getElem? (i := 26) rfl)) (by decide) (by decide)) (g := (mkF m 25 #[.val (.int ps), .val (.int pk), .val (.long s0), .second, .val (.long s1), .second, .val (.long s2), .second, .val (.long s3), .second] [(.long s3), (.long s2), (.long s1), (.long s0), (.int ps)])) rfl (by rw [hml]; rfl) (argsL := [(.int ps), (.long s0), (.long s1), (.long s2), (.long s3)]) (rest := []) (lenOf pd_1 rfl) rfl (by show 2 * 0 + _ ≤ _; exact Nat.le_of_eq rfl) (hb hby d_expe_25) (fun _ _ => ⟨rfl, e0, (by decide : 0 + 0 ≤ _), (by decide : 0 + 0 ≤ _)⟩)
    dsimp only [Pt.U, Pt.locs, Pt.cells, Pt.slots] at X2 l2 y2 z2 st2 hQ2
    subst l2 y2 z2
    obtain ⟨rfl, N2q, e2⟩ := hQ2
    have N2 := Fr.app N0 N2q
    refine Go.st st2 ?_
    show Go p.tables e below _ (T2.setTop (mkF m 28 #[.val (.int ps), .val (.int pk), .val (.long s0), .second, .val (.long s1), .second, .val (.long s2), .second, .val (.long s3), .second] [(.long (prF ps s0 s1 s2 s3))]))
    subst hG
    obtain ⟨fs, hr, hrun, hended, hW, hsame⟩ := X2.leave (v := some (.long (prF ps s0 s1 s2 s3))) (fun h => by rw [Bd.returns] at h; cases h)
    refine ⟨_, _, ?_, hrun, hended, _, _, rfl, ?_, ⟨_, rfl⟩, hW, hsame.mono (by decide) (by decide)⟩
    · exact retOut X2 hx Bd.returns rfl (Or.inr (Or.inl ⟨rfl, rfl, _, rfl⟩)) (hb hby d_expe_28) hr
    · show Q_expe Z ps pk s0 s1 s2 s3 h0 n0 _ T2.heap _
      rw [e2]
      exact ⟨(by simp [exF, hc2]), N2, rfl⟩
theorem pd_2 : parseMethodDescriptor "()V" = some ⟨[], none⟩ := by decide +kernel
theorem pd_3 : parseMethodDescriptor "()J" = some ⟨[], some .long⟩ := by decide +kernel
theorem pd_4 : parseMethodDescriptor "(IIJJJJ)J" = some ⟨[.int, .int, .long, .long, .long, .long], some .long⟩ := by decide +kernel
theorem pd_5 : parseMethodDescriptor "(J)V" = some ⟨[.long], none⟩ := by decide +kernel
theorem ef_law (m : MethodId) (qa : Int64) (qb : Int64) (qc : Int64) (pm : Int32) : entryFrame m #[(.long qa), (.long qb), (.long qc), (.int pm)] maxLocals = mkF m 0 #[.val (.long qa), .second, .val (.long qb), .second, .val (.long qc), .second, .val (.int pm), .unset, .unset, .unset, .unset, .unset, .unset, .unset, .unset, .unset, .unset, .unset] [] := by first | (simp [entryFrame, mkF, argsToLocals, Value.category, maxLocals]; done) | rfl
def Q_law (Z : State) (qa : Int64) (qb : Int64) (qc : Int64) (pm : Int32) (h0 : Heap) (n0 : Nat) (v : Option Value) (h : Heap) (L : List Loc) : Prop := v = some (.int (1 : Int32)) ∧ Fr n0 L ∧ Keep h0 h []
set_option maxRecDepth 65536 in
set_option maxHeartbeats 40000000 in
theorem rm_law (l : Launch) (Z : State) (a0 : Array Value) (hw : ∀ d ∈ tables_1, d.before a0 Z = true) (ws : List Jvm.Cond) (qa : Int64) (qb : Int64) (qc : Int64) (pm : Int32) (h0 : Heap) (n0 : Nat) (Z0 : n0 ≤ h0.size)  :
    MetFree l x (head1 (Jvm.Cond.code x code maxLocals ret :: ws) room_1) (fun a U => a = #[(.long qa), (.long qb), (.long qc), (.int pm)] ∧ Z.Warmed39 U.vm ∧ U.heap = h0) (fun _ _ _ _ _ => True) (fun _ U o U' => ∃ v L, o = .returned v ∧ Q_law Z qa qb qc pm h0 n0 v U'.heap L ∧ FrameEnd U o U' L room_1.cells room_1.slots) := by
  refine MetFree.of_bodySF (plainFor_of_name pn_1) hisR ?_
  intro p e s m args below meth c s₁ Bd hml0 hP hK
  obtain ⟨rfl, hZ, hh⟩ := hP
  have hx := Bd.exec
  have hby := Bd.bytes
  have hml : c.maxLocals = 18 := hml0
  have hown : s.vm.findClass "com/example/rivulet/rivulet/CounterLoadPinLaw" = some m.cls := findClass_of_methodNamed Bd.named
  have hnm := (name_of_methodNamed Bd.named Bd.method).1
  have X0 : Stand p l e room_1 s m #[(.long qa), (.long qb), (.long qc), (.int pm)] below meth c s₁ [] 0 0 := Stand.of_body Bd
  have e0 : s₁.heap = h0 := by rw [← hh, Bd.state]; rfl
  have N0 := Fr.nil n0
  have K0 : Keep h0 h0 [] := Keep.refl h0 []
  show Go p.tables e below _ (s₁.setTop (entryFrame m #[(.long qa), (.long qb), (.long qc), (.int pm)] maxLocals))
  refine Go.start ?_
  intro G hG
  refine Go.st (fun t k => castTop (ef_law m qa qb qc pm) k) ?_
  show Go p.tables e below _ (s₁.setTop (mkF m 0 #[.val (.long qa), .second, .val (.long qb), .second, .val (.long qc), .second, .val (.int pm), .unset, .unset, .unset, .unset, .unset, .unset, .unset, .unset, .unset, .unset, .unset] []))
  refine Go.st (fun _ k => XS.iload X0.here hx rfl (hb hby at_0) rfl k) ?_
  show Go p.tables e below _ (s₁.setTop (mkF m 2 #[.val (.long qa), .second, .val (.long qb), .second, .val (.long qc), .second, .val (.int pm), .unset, .unset, .unset, .unset, .unset, .unset, .unset, .unset, .unset, .unset, .unset] [(.int pm)]))
  refine Go.st (fun _ k => X0.ldcInt hx hown (mvT hZ (hw _ (List.mem_of_getElem? (i := 0) rfl))) (g := (mkF m 2 #[.val (.long qa), .second, .val (.long qb), .second, .val (.long qc), .second, .val (.int pm), .unset, .unset, .unset, .unset, .unset, .unset, .unset, .unset, .unset, .unset, .unset] [(.int pm)])) rfl (hb hby at_2) _ k) ?_
  show Go p.tables e below _ (s₁.setTop (mkF m 4 #[.val (.long qa), .second, .val (.long qb), .second, .val (.long qc), .second, .val (.int pm), .unset, .unset, .unset, .unset, .unset, .unset, .unset, .unset, .unset, .unset, .unset] [(.int (2147483647 : Int32)), (.int pm)]))
  refine Go.st (fun _ k => XS.iand X0.here hx rfl (hb hby at_4) rfl k) ?_
  show Go p.tables e below _ (s₁.setTop (mkF m 5 #[.val (.long qa), .second, .val (.long qb), .second, .val (.long qc), .second, .val (.int pm), .unset, .unset, .unset, .unset, .unset, .unset, .unset, .unset, .unset, .unset, .unset] [(.int (pm &&& (2147483647 : Int32)))]))
  refine Go.st (fun _ k => XS.iconst X0.here hx rfl (hb hby at_5) k) ?_
  show Go p.tables e below _ (s₁.setTop (mkF m 6 #[.val (.long qa), .second, .val (.long qb), .second, .val (.long qc), .second, .val (.int pm), .unset, .unset, .unset, .unset, .unset, .unset, .unset, .unset, .unset, .unset, .unset] [(.int (5 : Int32)), (.int (pm &&& (2147483647 : Int32)))]))
  refine Go.st (fun _ k => iremM X0 hx rfl (hb hby at_6) rfl (by decide) k) ?_
  show Go p.tables e below _ (s₁.setTop (mkF m 7 #[.val (.long qa), .second, .val (.long qb), .second, .val (.long qc), .second, .val (.int pm), .unset, .unset, .unset, .unset, .unset, .unset, .unset, .unset, .unset, .unset, .unset] [(.int ((pm &&& (2147483647 : Int32)) % (5 : Int32)))]))
  refine Go.st (fun _ k => XS.istore X0.here hx rfl (hb hby at_7) rfl (l' := #[.val (.long qa), .second, .val (.long qb), .second, .val (.long qc), .second, .val (.int pm), .val (.int ((pm &&& (2147483647 : Int32)) % (5 : Int32))), .unset, .unset, .unset, .unset, .unset, .unset, .unset, .unset, .unset, .unset]) rfl k) ?_
  show Go p.tables e below _ (s₁.setTop (mkF m 9 #[.val (.long qa), .second, .val (.long qb), .second, .val (.long qc), .second, .val (.int pm), .val (.int ((pm &&& (2147483647 : Int32)) % (5 : Int32))), .unset, .unset, .unset, .unset, .unset, .unset, .unset, .unset, .unset, .unset] []))
  generalize hqv7 : ((pm &&& (2147483647 : Int32)) % (5 : Int32)) = v7
  show Go p.tables e below _ (s₁.setTop (mkF m 9 #[.val (.long qa), .second, .val (.long qb), .second, .val (.long qc), .second, .val (.int pm), .val (.int v7), .unset, .unset, .unset, .unset, .unset, .unset, .unset, .unset, .unset, .unset] []))
  refine Go.st (fun _ k => XS.lconst X0.here hx rfl (hb hby at_9) k) ?_
  show Go p.tables e below _ (s₁.setTop (mkF m 10 #[.val (.long qa), .second, .val (.long qb), .second, .val (.long qc), .second, .val (.int pm), .val (.int v7), .unset, .unset, .unset, .unset, .unset, .unset, .unset, .unset, .unset, .unset] [(.long (0 : Int64))]))
  refine Go.st (fun _ k => XS.lstore X0.here hx rfl (hb hby at_10) rfl (l' := #[.val (.long qa), .second, .val (.long qb), .second, .val (.long qc), .second, .val (.int pm), .val (.int v7), .val (.long (0 : Int64)), .second, .unset, .unset, .unset, .unset, .unset, .unset, .unset, .unset]) rfl k) ?_
  show Go p.tables e below _ (s₁.setTop (mkF m 12 #[.val (.long qa), .second, .val (.long qb), .second, .val (.long qc), .second, .val (.int pm), .val (.int v7), .val (.long (0 : Int64)), .second, .unset, .unset, .unset, .unset, .unset, .unset, .unset, .unset] []))
  show Go p.tables e below _ (s₁.setTop (mkF m 12 #[.val (.long qa), .second, .val (.long qb), .second, .val (.long qc), .second, .val (.int pm), .val (.int v7), .val (.long (0 : Int64)), .second, .unset, .unset, .unset, .unset, .unset, .unset, .unset, .unset] []))
  refine Go.st (fun _ k => XS.lloadN X0.here hx rfl (hb hby at_12) rfl k) ?_
  show Go p.tables e below _ (s₁.setTop (mkF m 13 #[.val (.long qa), .second, .val (.long qb), .second, .val (.long qc), .second, .val (.int pm), .val (.int v7), .val (.long (0 : Int64)), .second, .unset, .unset, .unset, .unset, .unset, .unset, .unset, .unset] [(.long qa)]))
  refine Go.st (fun _ k => XS.lstore X0.here hx rfl (hb hby at_13) rfl (l' := #[.val (.long qa), .second, .val (.long qb), .second, .val (.long qc), .second, .val (.int pm), .val (.int v7), .val (.long (0 : Int64)), .second, .val (.long qa), .second, .unset, .unset, .unset, .unset, .unset, .unset]) rfl k) ?_
  show Go p.tables e below _ (s₁.setTop (mkF m 15 #[.val (.long qa), .second, .val (.long qb), .second, .val (.long qc), .second, .val (.int pm), .val (.int v7), .val (.long (0 : Int64)), .second, .val (.long qa), .second, .unset, .unset, .unset, .unset, .unset, .unset] []))
  show Go p.tables e below _ (s₁.setTop (mkF m 15 #[.val (.long qa), .second, .val (.long qb), .second, .val (.long qc), .second, .val (.int pm), .val (.int v7), .val (.long (0 : Int64)), .second, .val (.long qa), .second, .unset, .unset, .unset, .unset, .unset, .unset] []))
  refine Go.st (fun _ k => XS.lloadN X0.here hx rfl (hb hby at_15) rfl k) ?_
  show Go p.tables e below _ (s₁.setTop (mkF m 16 #[.val (.long qa), .second, .val (.long qb), .second, .val (.long qc), .second, .val (.int pm), .val (.int v7), .val (.long (0 : Int64)), .second, .val (.long qa), .second, .unset, .unset, .unset, .unset, .unset, .unset] [(.long qa)]))
  refine Go.st (fun _ k => XS.lloadN X0.here hx rfl (hb hby at_16) rfl k) ?_
  show Go p.tables e below _ (s₁.setTop (mkF m 17 #[.val (.long qa), .second, .val (.long qb), .second, .val (.long qc), .second, .val (.int pm), .val (.int v7), .val (.long (0 : Int64)), .second, .val (.long qa), .second, .unset, .unset, .unset, .unset, .unset, .unset] [(.long qb), (.long qa)]))
  refine Go.st (fun _ k => XS.ladd X0.here hx rfl (hb hby at_17) rfl k) ?_
  show Go p.tables e below _ (s₁.setTop (mkF m 18 #[.val (.long qa), .second, .val (.long qb), .second, .val (.long qc), .second, .val (.int pm), .val (.int v7), .val (.long (0 : Int64)), .second, .val (.long qa), .second, .unset, .unset, .unset, .unset, .unset, .unset] [(.long (qa + qb))]))
  refine Go.st (fun _ k => XS.lstore X0.here hx rfl (hb hby at_18) rfl (l' := #[.val (.long qa), .second, .val (.long qb), .second, .val (.long qc), .second, .val (.int pm), .val (.int v7), .val (.long (0 : Int64)), .second, .val (.long qa), .second, .val (.long (qa + qb)), .second, .unset, .unset, .unset, .unset]) rfl k) ?_
  show Go p.tables e below _ (s₁.setTop (mkF m 20 #[.val (.long qa), .second, .val (.long qb), .second, .val (.long qc), .second, .val (.int pm), .val (.int v7), .val (.long (0 : Int64)), .second, .val (.long qa), .second, .val (.long (qa + qb)), .second, .unset, .unset, .unset, .unset] []))
  generalize hqv18 : (qa + qb) = v18
  show Go p.tables e below _ (s₁.setTop (mkF m 20 #[.val (.long qa), .second, .val (.long qb), .second, .val (.long qc), .second, .val (.int pm), .val (.int v7), .val (.long (0 : Int64)), .second, .val (.long qa), .second, .val (.long v18), .second, .unset, .unset, .unset, .unset] []))
  refine Go.st (fun _ k => XS.lloadN X0.here hx rfl (hb hby at_20) rfl k) ?_
  show Go p.tables e below _ (s₁.setTop (mkF m 21 #[.val (.long qa), .second, .val (.long qb), .second, .val (.long qc), .second, .val (.int pm), .val (.int v7), .val (.long (0 : Int64)), .second, .val (.long qa), .second, .val (.long v18), .second, .unset, .unset, .unset, .unset] [(.long qa)]))
  refine Go.st (fun _ k => XS.lloadN X0.here hx rfl (hb hby at_21) rfl k) ?_
  show Go p.tables e below _ (s₁.setTop (mkF m 22 #[.val (.long qa), .second, .val (.long qb), .second, .val (.long qc), .second, .val (.int pm), .val (.int v7), .val (.long (0 : Int64)), .second, .val (.long qa), .second, .val (.long v18), .second, .unset, .unset, .unset, .unset] [(.long qb), (.long qa)]))
  refine Go.st (fun _ k => XS.ladd X0.here hx rfl (hb hby at_22) rfl k) ?_
  show Go p.tables e below _ (s₁.setTop (mkF m 23 #[.val (.long qa), .second, .val (.long qb), .second, .val (.long qc), .second, .val (.int pm), .val (.int v7), .val (.long (0 : Int64)), .second, .val (.long qa), .second, .val (.long v18), .second, .unset, .unset, .unset, .unset] [(.long (qa + qb))]))
  refine Go.st (fun _ k => XS.lload X0.here hx rfl (hb hby at_23) rfl k) ?_
  show Go p.tables e below _ (s₁.setTop (mkF m 25 #[.val (.long qa), .second, .val (.long qb), .second, .val (.long qc), .second, .val (.int pm), .val (.int v7), .val (.long (0 : Int64)), .second, .val (.long qa), .second, .val (.long v18), .second, .unset, .unset, .unset, .unset] [(.long qc), (.long (qa + qb))]))
  refine Go.st (fun _ k => XS.ladd X0.here hx rfl (hb hby at_25) rfl k) ?_
  show Go p.tables e below _ (s₁.setTop (mkF m 26 #[.val (.long qa), .second, .val (.long qb), .second, .val (.long qc), .second, .val (.int pm), .val (.int v7), .val (.long (0 : Int64)), .second, .val (.long qa), .second, .val (.long v18), .second, .unset, .unset, .unset, .unset] [(.long ((qa + qb) + qc))]))
  refine Go.st (fun _ k => XS.lstore X0.here hx rfl (hb hby at_26) rfl (l' := #[.val (.long qa), .second, .val (.long qb), .second, .val (.long qc), .second, .val (.int pm), .val (.int v7), .val (.long (0 : Int64)), .second, .val (.long qa), .second, .val (.long v18), .second, .val (.long ((qa + qb) + qc)), .second, .unset, .unset]) rfl k) ?_
  show Go p.tables e below _ (s₁.setTop (mkF m 28 #[.val (.long qa), .second, .val (.long qb), .second, .val (.long qc), .second, .val (.int pm), .val (.int v7), .val (.long (0 : Int64)), .second, .val (.long qa), .second, .val (.long v18), .second, .val (.long ((qa + qb) + qc)), .second, .unset, .unset] []))
  generalize hqv26 : ((qa + qb) + qc) = v26
  show Go p.tables e below _ (s₁.setTop (mkF m 28 #[.val (.long qa), .second, .val (.long qb), .second, .val (.long qc), .second, .val (.int pm), .val (.int v7), .val (.long (0 : Int64)), .second, .val (.long qa), .second, .val (.long v18), .second, .val (.long v26), .second, .unset, .unset] []))
  obtain ⟨T1, h1, X1, e1, E1, A1, D1, -, st1⟩ := newO X0 hx hZ hown (hw _ (List.mem_of_getElem? (i := 1) rfl)) (hw _ (List.mem_of_getElem? (i := 2) rfl)) (hw _ (List.mem_of_getElem? (i := 3) rfl)) e0 (g := (mkF m 28 #[.val (.long qa), .second, .val (.long qb), .second, .val (.long qc), .second, .val (.int pm), .val (.int v7), .val (.long (0 : Int64)), .second, .val (.long qa), .second, .val (.long v18), .second, .val (.long v26), .second, .unset, .unset] [])) rfl (hb hby at_28) (by decide) (by decide)
  obtain ⟨b1, g1⟩ : ∃ z, z = h0.size := ⟨_, rfl⟩
  rw [← g1] at A1 D1 st1
  refine Go.st st1 ?_
  have ge2 : n0 ≤ b1 := Nat.le_trans Z0 (Nat.le_of_eq g1.symm)
  have sz3 : h0.size ≤ b1 := Nat.le_trans K0.1 (Nat.le_of_eq g1.symm)
  have Z4 : n0 ≤ h1.size := Nat.le_trans Z0 E1.1
  have K5 : Keep h0 h1 [] := K0.ext E1
  have F6 : Fld Z h1 b1 "com/example/rivulet/rivulet/Counter" "work" "Lcom/example/rivulet/rivulet/WorkLimit;" .null := D1 (Or.inr (hw _ (List.mem_of_getElem? (i := 14) rfl))) (ty := (.object "com/example/rivulet/rivulet/WorkLimit")) (by decide)
  have F7 : Fld Z h1 b1 "com/example/rivulet/rivulet/Counter" "loaded" "Z" (.int (0 : Int32)) := D1 (Or.inl (hw _ (List.mem_of_getElem? (i := 21) rfl))) (ty := .boolean) (by decide)
  have F8 : Fld Z h1 b1 "com/example/rivulet/rivulet/Counter" "count" "J" (.long (0 : Int64)) := D1 (Or.inl (hw _ (List.mem_of_getElem? (i := 23) rfl))) (ty := .long) (by decide)
  have F9 : Fld Z h1 b1 "com/example/rivulet/rivulet/Counter" "load" "J" (.long (0 : Int64)) := D1 (Or.inl (hw _ (List.mem_of_getElem? (i := 42) rfl))) (ty := .long) (by decide)
  show Go p.tables e below _ (T1.setTop (mkF m 31 #[.val (.long qa), .second, .val (.long qb), .second, .val (.long qc), .second, .val (.int pm), .val (.int v7), .val (.long (0 : Int64)), .second, .val (.long qa), .second, .val (.long v18), .second, .val (.long v26), .second, .unset, .unset] [(.ref b1)]))
  refine Go.st (fun _ k => XS.dup X1.here hx rfl (hb hby at_31) rfl rfl k) ?_
  show Go p.tables e below _ (T1.setTop (mkF m 32 #[.val (.long qa), .second, .val (.long qb), .second, .val (.long qc), .second, .val (.int pm), .val (.int v7), .val (.long (0 : Int64)), .second, .val (.long qa), .second, .val (.long v18), .second, .val (.long v26), .second, .unset, .unset] [(.ref b1), (.ref b1)]))
  obtain ⟨_, _, ⟨T10, L10, k10, n10⟩, -, X10, ⟨Lc10, hQ10, l10, y10, z10⟩, st10⟩ := X1.specialBack hx (y := (⟨"com/example/rivulet/rivulet/Counter", "<init>", "()V"⟩ : MethodName)) rfl hown (mvT hZ (hw _ (List.mem_of_getElem? (i := 4) rfl))) (mvT hZ (hw _ (List.mem_of_getElem? (i := 5) rfl))) (mvT hZ (hw _ (List.mem_of_getElem? (i := 6) rfl))) (by decide) (backOf (W := 1) (rm_cinit1 l Z a0 hw [] b1 h1 n0 Z4 A1 F8 F7 F9 F6 ge2) hZ (hw _ (List.mem_of_getElem? (i := 6) rfl)) (hw _ (List.mem_of_getElem? (i := 3) rfl)) (by decide) (by decide)) (g := (mkF m 32 #[.val (.long qa), .second, .val (.long qb), .second, .val (.long qc), .second, .val (.int pm), .val (.int v7), .val (.long (0 : Int64)), .second, .val (.long qa), .second, .val (.long v18), .second, .val (.long v26), .second, .unset, .unset] [(.ref b1), (.ref b1)])) rfl (by rw [hml]; rfl) (Steps.refl _) (a := b1) (argsL := []) (rest := [(.ref b1)]) (lenOf pd_2 rfl) rfl (by show 2 * 0 + _ ≤ _; exact Nat.le_of_eq rfl) (hb hby at_32) (fun _ _ => ⟨rfl, e1, (by decide : 1 + 0 ≤ _), (by decide : 4 + 0 ≤ _)⟩)
  dsimp only [Pt.U, Pt.locs, Pt.cells, Pt.slots] at X10 l10 y10 z10 st10 hQ10
  subst l10 y10 z10
  obtain ⟨rfl, N10q, K10q, Fq10_0, Fq10_1, Fq10_2, Fq10_3, Fq10_4⟩ := hQ10
  have N10 := Fr.app N0 N10q
  refine Go.st (fun _ k => st10.trans k) ?_
  have Z11 : n0 ≤ T10.heap.size := Nat.le_trans Z4 K10q.1
  have K12 : Keep h0 T10.heap [] := K5.trans K10q (fun z hz => (List.mem_cons.mp hz).elim (fun q => by rw [q]; exact Or.inr sz3) (fun hz => absurd hz List.not_mem_nil))
  have F13 : Exa Z T10.heap b1 "com/example/rivulet/rivulet/Counter" := A1.keep K10q
  show Go p.tables e below _ (T10.setTop (mkF m 35 #[.val (.long qa), .second, .val (.long qb), .second, .val (.long qc), .second, .val (.int pm), .val (.int v7), .val (.long (0 : Int64)), .second, .val (.long qa), .second, .val (.long v18), .second, .val (.long v26), .second, .unset, .unset] [(.ref b1)]))
  refine Go.st (fun _ k => XS.astore X10.here hx rfl (hb hby at_35) rfl rfl (l' := #[.val (.long qa), .second, .val (.long qb), .second, .val (.long qc), .second, .val (.int pm), .val (.int v7), .val (.long (0 : Int64)), .second, .val (.long qa), .second, .val (.long v18), .second, .val (.long v26), .second, .val (.ref b1), .unset]) rfl k) ?_
  show Go p.tables e below _ (T10.setTop (mkF m 37 #[.val (.long qa), .second, .val (.long qb), .second, .val (.long qc), .second, .val (.int pm), .val (.int v7), .val (.long (0 : Int64)), .second, .val (.long qa), .second, .val (.long v18), .second, .val (.long v26), .second, .val (.ref b1), .unset] []))
  show Go p.tables e below _ (T10.setTop (mkF m 37 #[.val (.long qa), .second, .val (.long qb), .second, .val (.long qc), .second, .val (.int pm), .val (.int v7), .val (.long (0 : Int64)), .second, .val (.long qa), .second, .val (.long v18), .second, .val (.long v26), .second, .val (.ref b1), .unset] []))
  refine Go.st (fun _ k => XS.iload X10.here hx rfl (hb hby at_37) rfl k) ?_
  show Go p.tables e below _ (T10.setTop (mkF m 39 #[.val (.long qa), .second, .val (.long qb), .second, .val (.long qc), .second, .val (.int pm), .val (.int v7), .val (.long (0 : Int64)), .second, .val (.long qa), .second, .val (.long v18), .second, .val (.long v26), .second, .val (.ref b1), .unset] [(.int v7)]))
  by_cases hc39 : v7 = (0 : Int32)
  · skip
    have lt_032 : (0 : Int32).toInt = 0 := by decide
    have hi39 : (v7).toInt = ((0 : Int32)).toInt := Int32.toInt_inj.symm.mp hc39
    refine Go.st (fun _ k => XS.ifNo X10.here hx rfl (hb hby at_39) rfl (Jvm.Free.XT.i0_ne_f hc39) k) ?_
    show Go p.tables e below _ (T10.setTop (mkF m 42 #[.val (.long qa), .second, .val (.long qb), .second, .val (.long qc), .second, .val (.int pm), .val (.int v7), .val (.long (0 : Int64)), .second, .val (.long qa), .second, .val (.long v18), .second, .val (.long v26), .second, .val (.ref b1), .unset] []))
    refine Go.st (fun _ k => XS.aload X10.here hx rfl (hb hby at_42) rfl rfl k) ?_
    show Go p.tables e below _ (T10.setTop (mkF m 44 #[.val (.long qa), .second, .val (.long qb), .second, .val (.long qc), .second, .val (.int pm), .val (.int v7), .val (.long (0 : Int64)), .second, .val (.long qa), .second, .val (.long v18), .second, .val (.long v26), .second, .val (.ref b1), .unset] [(.ref b1)]))
    obtain ⟨cq14, kq14, q14a, q14b, q14c⟩ := isOf hZ (rfl : T10.heap = T10.heap) Fq10_0
    obtain ⟨_, _, ⟨T14, L14, k14, n14⟩, -, X14, ⟨Lc14, hQ14, l14, y14, z14⟩, st14⟩ := X10.virtualBack hx (y := (⟨"com/example/rivulet/rivulet/Counter", "loaded", "()V"⟩ : MethodName)) (z := (⟨"com/example/rivulet/rivulet/Counter", "loaded", "()V"⟩ : MethodName)) hown (mvT hZ (hw _ (List.mem_of_getElem? (i := 36) rfl))) (mvT hZ (hw _ (List.mem_of_getElem? (i := 37) rfl))) (notFace_of_selects (args := #[]) (mvT hZ (hw _ (List.mem_of_getElem? (i := 39) rfl)))) (mvT hZ (hw _ (List.mem_of_getElem? (i := 39) rfl))) (mvT hZ (hw _ (List.mem_of_getElem? (i := 38) rfl))) (by decide) (backOf (W := 0) (rm_loaded l Z a0 hw [] b1 (0 : Int64) (0 : Int32) (0 : Int64) T10.heap n0 Z11 Fq10_0 Fq10_1 Fq10_2 Fq10_3 Fq10_4 ge2) hZ (hw _ (List.mem_of_getElem? (i := 40) rfl)) (hw _ (List.mem_of_getElem? (i := 3) rfl)) (by decide) (by decide)) q14a q14c (g := (mkF m 44 #[.val (.long qa), .second, .val (.long qb), .second, .val (.long qc), .second, .val (.int pm), .val (.int v7), .val (.long (0 : Int64)), .second, .val (.long qa), .second, .val (.long v18), .second, .val (.long v26), .second, .val (.ref b1), .unset] [(.ref b1)])) rfl (by rw [hml]; rfl) (Steps.refl _) (argsL := []) (rest := []) (lenOf pd_2 rfl) rfl (by show 2 * 0 + _ ≤ _; exact Nat.le_of_eq rfl) (hb hby at_44) (fun _ _ => ⟨rfl, (rfl : T10.heap = T10.heap), (by decide : 1 + 0 ≤ _), (by decide : 4 + 0 ≤ _)⟩)
    dsimp only [Pt.U, Pt.locs, Pt.cells, Pt.slots] at X14 l14 y14 z14 st14 hQ14
    subst l14 y14 z14
    obtain ⟨rfl, N14q, K14q, Fq14_0, Fq14_1, Fq14_2, Fq14_3, Fq14_4⟩ := hQ14
    have N14 := Fr.app N10 N14q
    refine Go.st (fun _ k => st14.trans k) ?_
    have Z15 : n0 ≤ T14.heap.size := Nat.le_trans Z11 K14q.1
    have K16 : Keep h0 T14.heap [] := K12.trans K14q (fun z hz => (List.mem_cons.mp hz).elim (fun q => by rw [q]; exact Or.inr sz3) (fun hz => absurd hz List.not_mem_nil))
    have F17 : Exa Z T14.heap b1 "com/example/rivulet/rivulet/Counter" := Fq10_0.keep K14q
    show Go p.tables e below _ (T14.setTop (mkF m 47 #[.val (.long qa), .second, .val (.long qb), .second, .val (.long qc), .second, .val (.int pm), .val (.int v7), .val (.long (0 : Int64)), .second, .val (.long qa), .second, .val (.long v18), .second, .val (.long v26), .second, .val (.ref b1), .unset] []))
    refine Go.st (fun _ k => XS.aload X14.here hx rfl (hb hby at_47) rfl rfl k) ?_
    show Go p.tables e below _ (T14.setTop (mkF m 49 #[.val (.long qa), .second, .val (.long qb), .second, .val (.long qc), .second, .val (.int pm), .val (.int v7), .val (.long (0 : Int64)), .second, .val (.long qa), .second, .val (.long v18), .second, .val (.long v26), .second, .val (.ref b1), .unset] [(.ref b1)]))
    obtain ⟨cq18, kq18, q18a, q18b, q18c⟩ := isOf hZ (rfl : T14.heap = T14.heap) Fq14_0
    obtain ⟨_, _, ⟨T18, L18, k18, n18⟩, -, X18, ⟨Lc18, hQ18, l18, y18, z18⟩, st18⟩ := X14.virtualBack hx (y := (⟨"com/example/rivulet/rivulet/Counter", "load", "()J"⟩ : MethodName)) (z := (⟨"com/example/rivulet/rivulet/Counter", "load", "()J"⟩ : MethodName)) hown (mvT hZ (hw _ (List.mem_of_getElem? (i := 15) rfl))) (mvT hZ (hw _ (List.mem_of_getElem? (i := 16) rfl))) (notFace_of_selects (args := #[]) (mvT hZ (hw _ (List.mem_of_getElem? (i := 18) rfl)))) (mvT hZ (hw _ (List.mem_of_getElem? (i := 18) rfl))) (mvT hZ (hw _ (List.mem_of_getElem? (i := 17) rfl))) (by decide) (backOf (W := 0) (rm_load l Z a0 hw [] b1 (0 : Int64) (1 : Int32) (0 : Int64) T14.heap n0 Z15 Fq14_1 Fq14_2 Fq14_3) hZ (hw _ (List.mem_of_getElem? (i := 19) rfl)) (hw _ (List.mem_of_getElem? (i := 3) rfl)) (by decide) (by decide)) q18a q18c (g := (mkF m 49 #[.val (.long qa), .second, .val (.long qb), .second, .val (.long qc), .second, .val (.int pm), .val (.int v7), .val (.long (0 : Int64)), .second, .val (.long qa), .second, .val (.long v18), .second, .val (.long v26), .second, .val (.ref b1), .unset] [(.ref b1)])) rfl (by rw [hml]; rfl) (Steps.refl _) (argsL := []) (rest := []) (lenOf pd_3 rfl) rfl (by show 2 * 0 + _ ≤ _; exact Nat.le_of_eq rfl) (hb hby at_49) (fun _ _ => ⟨rfl, (rfl : T14.heap = T14.heap), (by decide : 1 + 0 ≤ _), (by decide : 4 + 0 ≤ _)⟩)
    dsimp only [Pt.U, Pt.locs, Pt.cells, Pt.slots] at X18 l18 y18 z18 st18 hQ18
    subst l18 y18 z18
    obtain ⟨rfl, N18q, e18⟩ := hQ18
    have N18 := Fr.app N14 N18q
    refine Go.st (fun _ k => st18.trans k) ?_
    show Go p.tables e below _ (T18.setTop (mkF m 52 #[.val (.long qa), .second, .val (.long qb), .second, .val (.long qc), .second, .val (.int pm), .val (.int v7), .val (.long (0 : Int64)), .second, .val (.long qa), .second, .val (.long v18), .second, .val (.long v26), .second, .val (.ref b1), .unset] [(.long (ldF (1 : Int32) (0 : Int64) (0 : Int64)))]))
    refine Go.st (fun _ k => XS.iconst X18.here hx rfl (hb hby at_52) k) ?_
    show Go p.tables e below _ (T18.setTop (mkF m 53 #[.val (.long qa), .second, .val (.long qb), .second, .val (.long qc), .second, .val (.int pm), .val (.int v7), .val (.long (0 : Int64)), .second, .val (.long qa), .second, .val (.long v18), .second, .val (.long v26), .second, .val (.ref b1), .unset] [(.int (0 : Int32)), (.long (ldF (1 : Int32) (0 : Int64) (0 : Int64)))]))
    refine Go.st (fun _ k => XS.iload X18.here hx rfl (hb hby at_53) rfl k) ?_
    show Go p.tables e below _ (T18.setTop (mkF m 55 #[.val (.long qa), .second, .val (.long qb), .second, .val (.long qc), .second, .val (.int pm), .val (.int v7), .val (.long (0 : Int64)), .second, .val (.long qa), .second, .val (.long v18), .second, .val (.long v26), .second, .val (.ref b1), .unset] [(.int v7), (.int (0 : Int32)), (.long (ldF (1 : Int32) (0 : Int64) (0 : Int64)))]))
    refine Go.st (fun _ k => XS.lload X18.here hx rfl (hb hby at_55) rfl k) ?_
    show Go p.tables e below _ (T18.setTop (mkF m 57 #[.val (.long qa), .second, .val (.long qb), .second, .val (.long qc), .second, .val (.int pm), .val (.int v7), .val (.long (0 : Int64)), .second, .val (.long qa), .second, .val (.long v18), .second, .val (.long v26), .second, .val (.ref b1), .unset] [(.long (0 : Int64)), (.int v7), (.int (0 : Int32)), (.long (ldF (1 : Int32) (0 : Int64) (0 : Int64)))]))
    refine Go.st (fun _ k => XS.lload X18.here hx rfl (hb hby at_57) rfl k) ?_
    show Go p.tables e below _ (T18.setTop (mkF m 59 #[.val (.long qa), .second, .val (.long qb), .second, .val (.long qc), .second, .val (.int pm), .val (.int v7), .val (.long (0 : Int64)), .second, .val (.long qa), .second, .val (.long v18), .second, .val (.long v26), .second, .val (.ref b1), .unset] [(.long qa), (.long (0 : Int64)), (.int v7), (.int (0 : Int32)), (.long (ldF (1 : Int32) (0 : Int64) (0 : Int64)))]))
    refine Go.st (fun _ k => XS.lload X18.here hx rfl (hb hby at_59) rfl k) ?_
    show Go p.tables e below _ (T18.setTop (mkF m 61 #[.val (.long qa), .second, .val (.long qb), .second, .val (.long qc), .second, .val (.int pm), .val (.int v7), .val (.long (0 : Int64)), .second, .val (.long qa), .second, .val (.long v18), .second, .val (.long v26), .second, .val (.ref b1), .unset] [(.long v18), (.long qa), (.long (0 : Int64)), (.int v7), (.int (0 : Int32)), (.long (ldF (1 : Int32) (0 : Int64) (0 : Int64)))]))
    refine Go.st (fun _ k => XS.lload X18.here hx rfl (hb hby at_61) rfl k) ?_
    show Go p.tables e below _ (T18.setTop (mkF m 63 #[.val (.long qa), .second, .val (.long qb), .second, .val (.long qc), .second, .val (.int pm), .val (.int v7), .val (.long (0 : Int64)), .second, .val (.long qa), .second, .val (.long v18), .second, .val (.long v26), .second, .val (.ref b1), .unset] [(.long v26), (.long v18), (.long qa), (.long (0 : Int64)), (.int v7), (.int (0 : Int32)), (.long (ldF (1 : Int32) (0 : Int64) (0 : Int64)))]))
    obtain ⟨_, _, ⟨T19, L19, k19, n19⟩, -, X19, ⟨Lc19, hQ19, l19, y19, z19⟩, st19⟩ := Jvm.LawKit.callS X18 hx (y := (⟨"com/example/rivulet/rivulet/CounterLoadPinLaw", "expected", "(IIJJJJ)J"⟩ : MethodName)) hown (mvT hZ (hw _ (List.mem_of_getElem? (i := 24) rfl))) (mvT hZ (hw _ (List.mem_of_getElem? (i := 25) rfl))) (mvT hZ (hw _ (List.mem_of_getElem? (i := 26) rfl))) (mvT hZ (hw _ (List.mem_of_getElem? (i := 27) rfl))) (by decide) (backOf (W := 2) (rm_expe l Z a0 hw [] (0 : Int32) v7 (0 : Int64) qa v18 v26 T14.heap n0 Z15 ) hZ (hw _ (List.mem_of_getElem? (i := 27) rfl)) (hw _ (List.mem_of_getElem? (i := 26) rfl)) (by decide) (by decide)) (g := (mkF m 63 #[.val (.long qa), .second, .val (.long qb), .second, .val (.long qc), .second, .val (.int pm), .val (.int v7), .val (.long (0 : Int64)), .second, .val (.long qa), .second, .val (.long v18), .second, .val (.long v26), .second, .val (.ref b1), .unset] [(.long v26), (.long v18), (.long qa), (.long (0 : Int64)), (.int v7), (.int (0 : Int32)), (.long (ldF (1 : Int32) (0 : Int64) (0 : Int64)))])) rfl (by rw [hml]; rfl) (argsL := [(.int (0 : Int32)), (.int v7), (.long (0 : Int64)), (.long qa), (.long v18), (.long v26)]) (rest := [(.long (ldF (1 : Int32) (0 : Int64) (0 : Int64)))]) (lenOf pd_4 rfl) rfl (by show 2 * 0 + _ ≤ _; exact Nat.le_of_eq rfl) (hb hby at_63) (fun _ _ => ⟨rfl, e18, (by decide : 1 + 0 ≤ _), (by decide : 4 + 0 ≤ _)⟩)
    dsimp only [Pt.U, Pt.locs, Pt.cells, Pt.slots] at X19 l19 y19 z19 st19 hQ19
    subst l19 y19 z19
    obtain ⟨rfl, N19q, e19⟩ := hQ19
    have N19 := Fr.app N18 N19q
    refine Go.st st19 ?_
    show Go p.tables e below _ (T19.setTop (mkF m 66 #[.val (.long qa), .second, .val (.long qb), .second, .val (.long qc), .second, .val (.int pm), .val (.int v7), .val (.long (0 : Int64)), .second, .val (.long qa), .second, .val (.long v18), .second, .val (.long v26), .second, .val (.ref b1), .unset] [(.long (exF (0 : Int32) v7 (0 : Int64) qa v18 v26)), (.long (ldF (1 : Int32) (0 : Int64) (0 : Int64)))]))
    refine Go.st (fun _ k => Jvm.Free.XT.lcmp X19.here hx rfl (hb hby at_66) rfl k) ?_
    show Go p.tables e below _ (T19.setTop (mkF m 67 #[.val (.long qa), .second, .val (.long qb), .second, .val (.long qc), .second, .val (.int pm), .val (.int v7), .val (.long (0 : Int64)), .second, .val (.long qa), .second, .val (.long v18), .second, .val (.long v26), .second, .val (.ref b1), .unset] [(.int (Jvm.Free.XT.cmpL (ldF (1 : Int32) (0 : Int64) (0 : Int64)) (exF (0 : Int32) v7 (0 : Int64) qa v18 v26)))]))
    have hc67 : (ldF (1 : Int32) (0 : Int64) (0 : Int64)) = (exF (0 : Int32) v7 (0 : Int64) qa v18 v26) := (by simp [ldF, exF, prF, hc39, ← hqv18, ← hqv26])
    have lt_132 : (1 : Int32).toInt = 1 := by decide
    have lt_064 : (0 : Int64).toInt = 0 := by decide
    have hi67 : ((ldF (1 : Int32) (0 : Int64) (0 : Int64))).toInt = ((exF (0 : Int32) v7 (0 : Int64) qa v18 v26)).toInt := Int64.toInt_inj.symm.mp hc67
    refine Go.st (fun _ k => XS.ifNo X19.here hx rfl (hb hby at_67) rfl (Jvm.Free.XT.ll_ne_f hc67) k) ?_
    show Go p.tables e below _ (T19.setTop (mkF m 70 #[.val (.long qa), .second, .val (.long qb), .second, .val (.long qc), .second, .val (.int pm), .val (.int v7), .val (.long (0 : Int64)), .second, .val (.long qa), .second, .val (.long v18), .second, .val (.long v26), .second, .val (.ref b1), .unset] []))
    refine Go.st (fun _ k => XS.iconst X19.here hx rfl (hb hby at_70) k) ?_
    show Go p.tables e below _ (T19.setTop (mkF m 71 #[.val (.long qa), .second, .val (.long qb), .second, .val (.long qc), .second, .val (.int pm), .val (.int v7), .val (.long (0 : Int64)), .second, .val (.long qa), .second, .val (.long v18), .second, .val (.long v26), .second, .val (.ref b1), .unset] [(.int (1 : Int32))]))
    refine Go.st (fun _ k => XS.goto X19.here hx rfl (pc0 := 71) (pc' := 75) rfl (hb hby at_71) (by decide) (by decide) k) ?_
    show Go p.tables e below _ (T19.setTop (mkF m 75 #[.val (.long qa), .second, .val (.long qb), .second, .val (.long qc), .second, .val (.int pm), .val (.int v7), .val (.long (0 : Int64)), .second, .val (.long qa), .second, .val (.long v18), .second, .val (.long v26), .second, .val (.ref b1), .unset] [(.int (1 : Int32))]))
    refine Go.st (fun _ k => XS.istore X19.here hx rfl (hb hby at_75) rfl (l' := #[.val (.long qa), .second, .val (.long qb), .second, .val (.long qc), .second, .val (.int pm), .val (.int v7), .val (.long (0 : Int64)), .second, .val (.long qa), .second, .val (.long v18), .second, .val (.long v26), .second, .val (.ref b1), .val (.int (1 : Int32))]) rfl k) ?_
    show Go p.tables e below _ (T19.setTop (mkF m 77 #[.val (.long qa), .second, .val (.long qb), .second, .val (.long qc), .second, .val (.int pm), .val (.int v7), .val (.long (0 : Int64)), .second, .val (.long qa), .second, .val (.long v18), .second, .val (.long v26), .second, .val (.ref b1), .val (.int (1 : Int32))] []))
    show Go p.tables e below _ (T19.setTop (mkF m 77 #[.val (.long qa), .second, .val (.long qb), .second, .val (.long qc), .second, .val (.int pm), .val (.int v7), .val (.long (0 : Int64)), .second, .val (.long qa), .second, .val (.long v18), .second, .val (.long v26), .second, .val (.ref b1), .val (.int (1 : Int32))] []))
    refine Go.st (fun _ k => XS.aload X19.here hx rfl (hb hby at_77) rfl rfl k) ?_
    show Go p.tables e below _ (T19.setTop (mkF m 79 #[.val (.long qa), .second, .val (.long qb), .second, .val (.long qc), .second, .val (.int pm), .val (.int v7), .val (.long (0 : Int64)), .second, .val (.long qa), .second, .val (.long v18), .second, .val (.long v26), .second, .val (.ref b1), .val (.int (1 : Int32))] [(.ref b1)]))
    refine Go.st (fun _ k => XS.lloadN X19.here hx rfl (hb hby at_79) rfl k) ?_
    show Go p.tables e below _ (T19.setTop (mkF m 80 #[.val (.long qa), .second, .val (.long qb), .second, .val (.long qc), .second, .val (.int pm), .val (.int v7), .val (.long (0 : Int64)), .second, .val (.long qa), .second, .val (.long v18), .second, .val (.long v26), .second, .val (.ref b1), .val (.int (1 : Int32))] [(.long qa), (.ref b1)]))
    obtain ⟨cq20, kq20, q20a, q20b, q20c⟩ := isOf hZ e19 Fq14_0
    obtain ⟨_, _, ⟨T20, L20, k20, n20⟩, -, X20, ⟨Lc20, hQ20, l20, y20, z20⟩, st20⟩ := X19.virtualBack hx (y := (⟨"com/example/rivulet/rivulet/Counter", "add", "(J)V"⟩ : MethodName)) (z := (⟨"com/example/rivulet/rivulet/Counter", "add", "(J)V"⟩ : MethodName)) hown (mvT hZ (hw _ (List.mem_of_getElem? (i := 31) rfl))) (mvT hZ (hw _ (List.mem_of_getElem? (i := 32) rfl))) (notFace_of_selects (args := #[]) (mvT hZ (hw _ (List.mem_of_getElem? (i := 34) rfl)))) (mvT hZ (hw _ (List.mem_of_getElem? (i := 34) rfl))) (mvT hZ (hw _ (List.mem_of_getElem? (i := 33) rfl))) (by decide) (backOf (W := 0) (rm_cadd l Z a0 hw [] b1 qa (0 : Int64) (1 : Int32) (0 : Int64) T14.heap n0 Z15 Fq14_0 Fq14_1 Fq14_2 Fq14_3 Fq14_4 ge2) hZ (hw _ (List.mem_of_getElem? (i := 35) rfl)) (hw _ (List.mem_of_getElem? (i := 3) rfl)) (by decide) (by decide)) q20a q20c (g := (mkF m 80 #[.val (.long qa), .second, .val (.long qb), .second, .val (.long qc), .second, .val (.int pm), .val (.int v7), .val (.long (0 : Int64)), .second, .val (.long qa), .second, .val (.long v18), .second, .val (.long v26), .second, .val (.ref b1), .val (.int (1 : Int32))] [(.long qa), (.ref b1)])) rfl (by rw [hml]; rfl) (Steps.refl _) (argsL := [(.long qa)]) (rest := []) (lenOf pd_5 rfl) rfl (by show 2 * 0 + _ ≤ _; exact Nat.le_of_eq rfl) (hb hby at_80) (fun _ _ => ⟨rfl, e19, (by decide : 1 + 0 ≤ _), (by decide : 4 + 0 ≤ _)⟩)
    dsimp only [Pt.U, Pt.locs, Pt.cells, Pt.slots] at X20 l20 y20 z20 st20 hQ20
    subst l20 y20 z20
    obtain ⟨rfl, N20q, K20q, Fq20_0, Fq20_1, Fq20_2, Fq20_3, Fq20_4⟩ := hQ20
    have N20 := Fr.app N19 N20q
    refine Go.st (fun _ k => st20.trans k) ?_
    have Z21 : n0 ≤ T20.heap.size := Nat.le_trans Z15 K20q.1
    have K22 : Keep h0 T20.heap [] := K16.trans K20q (fun z hz => (List.mem_cons.mp hz).elim (fun q => by rw [q]; exact Or.inr sz3) (fun hz => absurd hz List.not_mem_nil))
    have F23 : Exa Z T20.heap b1 "com/example/rivulet/rivulet/Counter" := Fq14_0.keep K20q
    show Go p.tables e below _ (T20.setTop (mkF m 83 #[.val (.long qa), .second, .val (.long qb), .second, .val (.long qc), .second, .val (.int pm), .val (.int v7), .val (.long (0 : Int64)), .second, .val (.long qa), .second, .val (.long v18), .second, .val (.long v26), .second, .val (.ref b1), .val (.int (1 : Int32))] []))
    refine Go.st (fun _ k => XS.iload X20.here hx rfl (hb hby at_83) rfl k) ?_
    show Go p.tables e below _ (T20.setTop (mkF m 85 #[.val (.long qa), .second, .val (.long qb), .second, .val (.long qc), .second, .val (.int pm), .val (.int v7), .val (.long (0 : Int64)), .second, .val (.long qa), .second, .val (.long v18), .second, .val (.long v26), .second, .val (.ref b1), .val (.int (1 : Int32))] [(.int v7)]))
    refine Go.st (fun _ k => XS.iconst X20.here hx rfl (hb hby at_85) k) ?_
    show Go p.tables e below _ (T20.setTop (mkF m 86 #[.val (.long qa), .second, .val (.long qb), .second, .val (.long qc), .second, .val (.int pm), .val (.int v7), .val (.long (0 : Int64)), .second, .val (.long qa), .second, .val (.long v18), .second, .val (.long v26), .second, .val (.ref b1), .val (.int (1 : Int32))] [(.int (1 : Int32)), (.int v7)]))
    have hc86 : ¬ (v7 = (1 : Int32)) := (by rw [hc39]; decide)
    have hi86 : ¬ ((v7).toInt = ((1 : Int32)).toInt) := fun z => hc86 (Int32.toInt_inj.symm.mpr z)
    refine Go.st (fun _ k => XS.icmpYes X20.here hx rfl (pc0 := 86) (pc' := 94) rfl (hb hby at_86) rfl (Jvm.Free.XT.ii_ne_t hc86) (by decide) (by decide) k) ?_
    show Go p.tables e below _ (T20.setTop (mkF m 94 #[.val (.long qa), .second, .val (.long qb), .second, .val (.long qc), .second, .val (.int pm), .val (.int v7), .val (.long (0 : Int64)), .second, .val (.long qa), .second, .val (.long v18), .second, .val (.long v26), .second, .val (.ref b1), .val (.int (1 : Int32))] []))
    refine Go.st (fun _ k => XS.iload X20.here hx rfl (hb hby at_94) rfl k) ?_
    show Go p.tables e below _ (T20.setTop (mkF m 96 #[.val (.long qa), .second, .val (.long qb), .second, .val (.long qc), .second, .val (.int pm), .val (.int v7), .val (.long (0 : Int64)), .second, .val (.long qa), .second, .val (.long v18), .second, .val (.long v26), .second, .val (.ref b1), .val (.int (1 : Int32))] [(.int (1 : Int32))]))
    have hl24 : ¬ ((1 : Int32) = (0 : Int32)) := by decide
    refine Go.st (fun _ k => XS.ifNo X20.here hx rfl (hb hby at_96) rfl (Jvm.Free.XT.i0_eq_f hl24) k) ?_
    show Go p.tables e below _ (T20.setTop (mkF m 99 #[.val (.long qa), .second, .val (.long qb), .second, .val (.long qc), .second, .val (.int pm), .val (.int v7), .val (.long (0 : Int64)), .second, .val (.long qa), .second, .val (.long v18), .second, .val (.long v26), .second, .val (.ref b1), .val (.int (1 : Int32))] []))
    refine Go.st (fun _ k => XS.aload X20.here hx rfl (hb hby at_99) rfl rfl k) ?_
    show Go p.tables e below _ (T20.setTop (mkF m 101 #[.val (.long qa), .second, .val (.long qb), .second, .val (.long qc), .second, .val (.int pm), .val (.int v7), .val (.long (0 : Int64)), .second, .val (.long qa), .second, .val (.long v18), .second, .val (.long v26), .second, .val (.ref b1), .val (.int (1 : Int32))] [(.ref b1)]))
    obtain ⟨cq25, kq25, q25a, q25b, q25c⟩ := isOf hZ (rfl : T20.heap = T20.heap) Fq20_0
    obtain ⟨_, _, ⟨T25, L25, k25, n25⟩, -, X25, ⟨Lc25, hQ25, l25, y25, z25⟩, st25⟩ := X20.virtualBack hx (y := (⟨"com/example/rivulet/rivulet/Counter", "load", "()J"⟩ : MethodName)) (z := (⟨"com/example/rivulet/rivulet/Counter", "load", "()J"⟩ : MethodName)) hown (mvT hZ (hw _ (List.mem_of_getElem? (i := 15) rfl))) (mvT hZ (hw _ (List.mem_of_getElem? (i := 16) rfl))) (notFace_of_selects (args := #[]) (mvT hZ (hw _ (List.mem_of_getElem? (i := 18) rfl)))) (mvT hZ (hw _ (List.mem_of_getElem? (i := 18) rfl))) (mvT hZ (hw _ (List.mem_of_getElem? (i := 17) rfl))) (by decide) (backOf (W := 0) (rm_load l Z a0 hw [] b1 ((0 : Int64) + qa) (1 : Int32) (0 : Int64) T20.heap n0 Z21 Fq20_1 Fq20_2 Fq20_3) hZ (hw _ (List.mem_of_getElem? (i := 19) rfl)) (hw _ (List.mem_of_getElem? (i := 3) rfl)) (by decide) (by decide)) q25a q25c (g := (mkF m 101 #[.val (.long qa), .second, .val (.long qb), .second, .val (.long qc), .second, .val (.int pm), .val (.int v7), .val (.long (0 : Int64)), .second, .val (.long qa), .second, .val (.long v18), .second, .val (.long v26), .second, .val (.ref b1), .val (.int (1 : Int32))] [(.ref b1)])) rfl (by rw [hml]; rfl) (Steps.refl _) (argsL := []) (rest := []) (lenOf pd_3 rfl) rfl (by show 2 * 0 + _ ≤ _; exact Nat.le_of_eq rfl) (hb hby at_101) (fun _ _ => ⟨rfl, (rfl : T20.heap = T20.heap), (by decide : 1 + 0 ≤ _), (by decide : 4 + 0 ≤ _)⟩)
    dsimp only [Pt.U, Pt.locs, Pt.cells, Pt.slots] at X25 l25 y25 z25 st25 hQ25
    subst l25 y25 z25
    obtain ⟨rfl, N25q, e25⟩ := hQ25
    have N25 := Fr.app N20 N25q
    refine Go.st (fun _ k => st25.trans k) ?_
    show Go p.tables e below _ (T25.setTop (mkF m 104 #[.val (.long qa), .second, .val (.long qb), .second, .val (.long qc), .second, .val (.int pm), .val (.int v7), .val (.long (0 : Int64)), .second, .val (.long qa), .second, .val (.long v18), .second, .val (.long v26), .second, .val (.ref b1), .val (.int (1 : Int32))] [(.long (ldF (1 : Int32) (0 : Int64) ((0 : Int64) + qa)))]))
    refine Go.st (fun _ k => XS.iconst X25.here hx rfl (hb hby at_104) k) ?_
    show Go p.tables e below _ (T25.setTop (mkF m 105 #[.val (.long qa), .second, .val (.long qb), .second, .val (.long qc), .second, .val (.int pm), .val (.int v7), .val (.long (0 : Int64)), .second, .val (.long qa), .second, .val (.long v18), .second, .val (.long v26), .second, .val (.ref b1), .val (.int (1 : Int32))] [(.int (1 : Int32)), (.long (ldF (1 : Int32) (0 : Int64) ((0 : Int64) + qa)))]))
    refine Go.st (fun _ k => XS.iload X25.here hx rfl (hb hby at_105) rfl k) ?_
    show Go p.tables e below _ (T25.setTop (mkF m 107 #[.val (.long qa), .second, .val (.long qb), .second, .val (.long qc), .second, .val (.int pm), .val (.int v7), .val (.long (0 : Int64)), .second, .val (.long qa), .second, .val (.long v18), .second, .val (.long v26), .second, .val (.ref b1), .val (.int (1 : Int32))] [(.int v7), (.int (1 : Int32)), (.long (ldF (1 : Int32) (0 : Int64) ((0 : Int64) + qa)))]))
    refine Go.st (fun _ k => XS.lload X25.here hx rfl (hb hby at_107) rfl k) ?_
    show Go p.tables e below _ (T25.setTop (mkF m 109 #[.val (.long qa), .second, .val (.long qb), .second, .val (.long qc), .second, .val (.int pm), .val (.int v7), .val (.long (0 : Int64)), .second, .val (.long qa), .second, .val (.long v18), .second, .val (.long v26), .second, .val (.ref b1), .val (.int (1 : Int32))] [(.long (0 : Int64)), (.int v7), (.int (1 : Int32)), (.long (ldF (1 : Int32) (0 : Int64) ((0 : Int64) + qa)))]))
    refine Go.st (fun _ k => XS.lload X25.here hx rfl (hb hby at_109) rfl k) ?_
    show Go p.tables e below _ (T25.setTop (mkF m 111 #[.val (.long qa), .second, .val (.long qb), .second, .val (.long qc), .second, .val (.int pm), .val (.int v7), .val (.long (0 : Int64)), .second, .val (.long qa), .second, .val (.long v18), .second, .val (.long v26), .second, .val (.ref b1), .val (.int (1 : Int32))] [(.long qa), (.long (0 : Int64)), (.int v7), (.int (1 : Int32)), (.long (ldF (1 : Int32) (0 : Int64) ((0 : Int64) + qa)))]))
    refine Go.st (fun _ k => XS.lload X25.here hx rfl (hb hby at_111) rfl k) ?_
    show Go p.tables e below _ (T25.setTop (mkF m 113 #[.val (.long qa), .second, .val (.long qb), .second, .val (.long qc), .second, .val (.int pm), .val (.int v7), .val (.long (0 : Int64)), .second, .val (.long qa), .second, .val (.long v18), .second, .val (.long v26), .second, .val (.ref b1), .val (.int (1 : Int32))] [(.long v18), (.long qa), (.long (0 : Int64)), (.int v7), (.int (1 : Int32)), (.long (ldF (1 : Int32) (0 : Int64) ((0 : Int64) + qa)))]))
    refine Go.st (fun _ k => XS.lload X25.here hx rfl (hb hby at_113) rfl k) ?_
    show Go p.tables e below _ (T25.setTop (mkF m 115 #[.val (.long qa), .second, .val (.long qb), .second, .val (.long qc), .second, .val (.int pm), .val (.int v7), .val (.long (0 : Int64)), .second, .val (.long qa), .second, .val (.long v18), .second, .val (.long v26), .second, .val (.ref b1), .val (.int (1 : Int32))] [(.long v26), (.long v18), (.long qa), (.long (0 : Int64)), (.int v7), (.int (1 : Int32)), (.long (ldF (1 : Int32) (0 : Int64) ((0 : Int64) + qa)))]))
    obtain ⟨_, _, ⟨T26, L26, k26, n26⟩, -, X26, ⟨Lc26, hQ26, l26, y26, z26⟩, st26⟩ := Jvm.LawKit.callS X25 hx (y := (⟨"com/example/rivulet/rivulet/CounterLoadPinLaw", "expected", "(IIJJJJ)J"⟩ : MethodName)) hown (mvT hZ (hw _ (List.mem_of_getElem? (i := 24) rfl))) (mvT hZ (hw _ (List.mem_of_getElem? (i := 25) rfl))) (mvT hZ (hw _ (List.mem_of_getElem? (i := 26) rfl))) (mvT hZ (hw _ (List.mem_of_getElem? (i := 27) rfl))) (by decide) (backOf (W := 2) (rm_expe l Z a0 hw [] (1 : Int32) v7 (0 : Int64) qa v18 v26 T20.heap n0 Z21 ) hZ (hw _ (List.mem_of_getElem? (i := 27) rfl)) (hw _ (List.mem_of_getElem? (i := 26) rfl)) (by decide) (by decide)) (g := (mkF m 115 #[.val (.long qa), .second, .val (.long qb), .second, .val (.long qc), .second, .val (.int pm), .val (.int v7), .val (.long (0 : Int64)), .second, .val (.long qa), .second, .val (.long v18), .second, .val (.long v26), .second, .val (.ref b1), .val (.int (1 : Int32))] [(.long v26), (.long v18), (.long qa), (.long (0 : Int64)), (.int v7), (.int (1 : Int32)), (.long (ldF (1 : Int32) (0 : Int64) ((0 : Int64) + qa)))])) rfl (by rw [hml]; rfl) (argsL := [(.int (1 : Int32)), (.int v7), (.long (0 : Int64)), (.long qa), (.long v18), (.long v26)]) (rest := [(.long (ldF (1 : Int32) (0 : Int64) ((0 : Int64) + qa)))]) (lenOf pd_4 rfl) rfl (by show 2 * 0 + _ ≤ _; exact Nat.le_of_eq rfl) (hb hby at_115) (fun _ _ => ⟨rfl, e25, (by decide : 1 + 0 ≤ _), (by decide : 4 + 0 ≤ _)⟩)
    dsimp only [Pt.U, Pt.locs, Pt.cells, Pt.slots] at X26 l26 y26 z26 st26 hQ26
    subst l26 y26 z26
    obtain ⟨rfl, N26q, e26⟩ := hQ26
    have N26 := Fr.app N25 N26q
    refine Go.st st26 ?_
    show Go p.tables e below _ (T26.setTop (mkF m 118 #[.val (.long qa), .second, .val (.long qb), .second, .val (.long qc), .second, .val (.int pm), .val (.int v7), .val (.long (0 : Int64)), .second, .val (.long qa), .second, .val (.long v18), .second, .val (.long v26), .second, .val (.ref b1), .val (.int (1 : Int32))] [(.long (exF (1 : Int32) v7 (0 : Int64) qa v18 v26)), (.long (ldF (1 : Int32) (0 : Int64) ((0 : Int64) + qa)))]))
    refine Go.st (fun _ k => Jvm.Free.XT.lcmp X26.here hx rfl (hb hby at_118) rfl k) ?_
    show Go p.tables e below _ (T26.setTop (mkF m 119 #[.val (.long qa), .second, .val (.long qb), .second, .val (.long qc), .second, .val (.int pm), .val (.int v7), .val (.long (0 : Int64)), .second, .val (.long qa), .second, .val (.long v18), .second, .val (.long v26), .second, .val (.ref b1), .val (.int (1 : Int32))] [(.int (Jvm.Free.XT.cmpL (ldF (1 : Int32) (0 : Int64) ((0 : Int64) + qa)) (exF (1 : Int32) v7 (0 : Int64) qa v18 v26)))]))
    have hc119 : (ldF (1 : Int32) (0 : Int64) ((0 : Int64) + qa)) = (exF (1 : Int32) v7 (0 : Int64) qa v18 v26) := (by simp [ldF, exF, prF, hc39, ← hqv18, ← hqv26])
    have hi119 : ((ldF (1 : Int32) (0 : Int64) ((0 : Int64) + qa))).toInt = ((exF (1 : Int32) v7 (0 : Int64) qa v18 v26)).toInt := Int64.toInt_inj.symm.mp hc119
    refine Go.st (fun _ k => XS.ifNo X26.here hx rfl (hb hby at_119) rfl (Jvm.Free.XT.ll_ne_f hc119) k) ?_
    show Go p.tables e below _ (T26.setTop (mkF m 122 #[.val (.long qa), .second, .val (.long qb), .second, .val (.long qc), .second, .val (.int pm), .val (.int v7), .val (.long (0 : Int64)), .second, .val (.long qa), .second, .val (.long v18), .second, .val (.long v26), .second, .val (.ref b1), .val (.int (1 : Int32))] []))
    refine Go.st (fun _ k => XS.iconst X26.here hx rfl (hb hby at_122) k) ?_
    show Go p.tables e below _ (T26.setTop (mkF m 123 #[.val (.long qa), .second, .val (.long qb), .second, .val (.long qc), .second, .val (.int pm), .val (.int v7), .val (.long (0 : Int64)), .second, .val (.long qa), .second, .val (.long v18), .second, .val (.long v26), .second, .val (.ref b1), .val (.int (1 : Int32))] [(.int (1 : Int32))]))
    refine Go.st (fun _ k => XS.goto X26.here hx rfl (pc0 := 123) (pc' := 127) rfl (hb hby at_123) (by decide) (by decide) k) ?_
    show Go p.tables e below _ (T26.setTop (mkF m 127 #[.val (.long qa), .second, .val (.long qb), .second, .val (.long qc), .second, .val (.int pm), .val (.int v7), .val (.long (0 : Int64)), .second, .val (.long qa), .second, .val (.long v18), .second, .val (.long v26), .second, .val (.ref b1), .val (.int (1 : Int32))] [(.int (1 : Int32))]))
    refine Go.st (fun _ k => XS.istore X26.here hx rfl (hb hby at_127) rfl (l' := #[.val (.long qa), .second, .val (.long qb), .second, .val (.long qc), .second, .val (.int pm), .val (.int v7), .val (.long (0 : Int64)), .second, .val (.long qa), .second, .val (.long v18), .second, .val (.long v26), .second, .val (.ref b1), .val (.int (1 : Int32))]) rfl k) ?_
    show Go p.tables e below _ (T26.setTop (mkF m 129 #[.val (.long qa), .second, .val (.long qb), .second, .val (.long qc), .second, .val (.int pm), .val (.int v7), .val (.long (0 : Int64)), .second, .val (.long qa), .second, .val (.long v18), .second, .val (.long v26), .second, .val (.ref b1), .val (.int (1 : Int32))] []))
    show Go p.tables e below _ (T26.setTop (mkF m 129 #[.val (.long qa), .second, .val (.long qb), .second, .val (.long qc), .second, .val (.int pm), .val (.int v7), .val (.long (0 : Int64)), .second, .val (.long qa), .second, .val (.long v18), .second, .val (.long v26), .second, .val (.ref b1), .val (.int (1 : Int32))] []))
    refine Go.st (fun _ k => XS.aload X26.here hx rfl (hb hby at_129) rfl rfl k) ?_
    show Go p.tables e below _ (T26.setTop (mkF m 131 #[.val (.long qa), .second, .val (.long qb), .second, .val (.long qc), .second, .val (.int pm), .val (.int v7), .val (.long (0 : Int64)), .second, .val (.long qa), .second, .val (.long v18), .second, .val (.long v26), .second, .val (.ref b1), .val (.int (1 : Int32))] [(.ref b1)]))
    refine Go.st (fun _ k => XS.lloadN X26.here hx rfl (hb hby at_131) rfl k) ?_
    show Go p.tables e below _ (T26.setTop (mkF m 132 #[.val (.long qa), .second, .val (.long qb), .second, .val (.long qc), .second, .val (.int pm), .val (.int v7), .val (.long (0 : Int64)), .second, .val (.long qa), .second, .val (.long v18), .second, .val (.long v26), .second, .val (.ref b1), .val (.int (1 : Int32))] [(.long qb), (.ref b1)]))
    obtain ⟨cq27, kq27, q27a, q27b, q27c⟩ := isOf hZ e26 Fq20_0
    obtain ⟨_, _, ⟨T27, L27, k27, n27⟩, -, X27, ⟨Lc27, hQ27, l27, y27, z27⟩, st27⟩ := X26.virtualBack hx (y := (⟨"com/example/rivulet/rivulet/Counter", "add", "(J)V"⟩ : MethodName)) (z := (⟨"com/example/rivulet/rivulet/Counter", "add", "(J)V"⟩ : MethodName)) hown (mvT hZ (hw _ (List.mem_of_getElem? (i := 31) rfl))) (mvT hZ (hw _ (List.mem_of_getElem? (i := 32) rfl))) (notFace_of_selects (args := #[]) (mvT hZ (hw _ (List.mem_of_getElem? (i := 34) rfl)))) (mvT hZ (hw _ (List.mem_of_getElem? (i := 34) rfl))) (mvT hZ (hw _ (List.mem_of_getElem? (i := 33) rfl))) (by decide) (backOf (W := 0) (rm_cadd l Z a0 hw [] b1 qb ((0 : Int64) + qa) (1 : Int32) (0 : Int64) T20.heap n0 Z21 Fq20_0 Fq20_1 Fq20_2 Fq20_3 Fq20_4 ge2) hZ (hw _ (List.mem_of_getElem? (i := 35) rfl)) (hw _ (List.mem_of_getElem? (i := 3) rfl)) (by decide) (by decide)) q27a q27c (g := (mkF m 132 #[.val (.long qa), .second, .val (.long qb), .second, .val (.long qc), .second, .val (.int pm), .val (.int v7), .val (.long (0 : Int64)), .second, .val (.long qa), .second, .val (.long v18), .second, .val (.long v26), .second, .val (.ref b1), .val (.int (1 : Int32))] [(.long qb), (.ref b1)])) rfl (by rw [hml]; rfl) (Steps.refl _) (argsL := [(.long qb)]) (rest := []) (lenOf pd_5 rfl) rfl (by show 2 * 0 + _ ≤ _; exact Nat.le_of_eq rfl) (hb hby at_132) (fun _ _ => ⟨rfl, e26, (by decide : 1 + 0 ≤ _), (by decide : 4 + 0 ≤ _)⟩)
    dsimp only [Pt.U, Pt.locs, Pt.cells, Pt.slots] at X27 l27 y27 z27 st27 hQ27
    subst l27 y27 z27
    obtain ⟨rfl, N27q, K27q, Fq27_0, Fq27_1, Fq27_2, Fq27_3, Fq27_4⟩ := hQ27
    have N27 := Fr.app N26 N27q
    refine Go.st (fun _ k => st27.trans k) ?_
    have Z28 : n0 ≤ T27.heap.size := Nat.le_trans Z21 K27q.1
    have K29 : Keep h0 T27.heap [] := K22.trans K27q (fun z hz => (List.mem_cons.mp hz).elim (fun q => by rw [q]; exact Or.inr sz3) (fun hz => absurd hz List.not_mem_nil))
    have F30 : Exa Z T27.heap b1 "com/example/rivulet/rivulet/Counter" := Fq20_0.keep K27q
    show Go p.tables e below _ (T27.setTop (mkF m 135 #[.val (.long qa), .second, .val (.long qb), .second, .val (.long qc), .second, .val (.int pm), .val (.int v7), .val (.long (0 : Int64)), .second, .val (.long qa), .second, .val (.long v18), .second, .val (.long v26), .second, .val (.ref b1), .val (.int (1 : Int32))] []))
    refine Go.st (fun _ k => XS.iload X27.here hx rfl (hb hby at_135) rfl k) ?_
    show Go p.tables e below _ (T27.setTop (mkF m 137 #[.val (.long qa), .second, .val (.long qb), .second, .val (.long qc), .second, .val (.int pm), .val (.int v7), .val (.long (0 : Int64)), .second, .val (.long qa), .second, .val (.long v18), .second, .val (.long v26), .second, .val (.ref b1), .val (.int (1 : Int32))] [(.int v7)]))
    refine Go.st (fun _ k => XS.iconst X27.here hx rfl (hb hby at_137) k) ?_
    show Go p.tables e below _ (T27.setTop (mkF m 138 #[.val (.long qa), .second, .val (.long qb), .second, .val (.long qc), .second, .val (.int pm), .val (.int v7), .val (.long (0 : Int64)), .second, .val (.long qa), .second, .val (.long v18), .second, .val (.long v26), .second, .val (.ref b1), .val (.int (1 : Int32))] [(.int (2 : Int32)), (.int v7)]))
    have hc138 : ¬ (v7 = (2 : Int32)) := (by rw [hc39]; decide)
    have lt_232 : (2 : Int32).toInt = 2 := by decide
    have hi138 : ¬ ((v7).toInt = ((2 : Int32)).toInt) := fun z => hc138 (Int32.toInt_inj.symm.mpr z)
    refine Go.st (fun _ k => XS.icmpYes X27.here hx rfl (pc0 := 138) (pc' := 146) rfl (hb hby at_138) rfl (Jvm.Free.XT.ii_ne_t hc138) (by decide) (by decide) k) ?_
    show Go p.tables e below _ (T27.setTop (mkF m 146 #[.val (.long qa), .second, .val (.long qb), .second, .val (.long qc), .second, .val (.int pm), .val (.int v7), .val (.long (0 : Int64)), .second, .val (.long qa), .second, .val (.long v18), .second, .val (.long v26), .second, .val (.ref b1), .val (.int (1 : Int32))] []))
    refine Go.st (fun _ k => XS.iload X27.here hx rfl (hb hby at_146) rfl k) ?_
    show Go p.tables e below _ (T27.setTop (mkF m 148 #[.val (.long qa), .second, .val (.long qb), .second, .val (.long qc), .second, .val (.int pm), .val (.int v7), .val (.long (0 : Int64)), .second, .val (.long qa), .second, .val (.long v18), .second, .val (.long v26), .second, .val (.ref b1), .val (.int (1 : Int32))] [(.int (1 : Int32))]))
    have hl31 : ¬ ((1 : Int32) = (0 : Int32)) := by decide
    refine Go.st (fun _ k => XS.ifNo X27.here hx rfl (hb hby at_148) rfl (Jvm.Free.XT.i0_eq_f hl31) k) ?_
    show Go p.tables e below _ (T27.setTop (mkF m 151 #[.val (.long qa), .second, .val (.long qb), .second, .val (.long qc), .second, .val (.int pm), .val (.int v7), .val (.long (0 : Int64)), .second, .val (.long qa), .second, .val (.long v18), .second, .val (.long v26), .second, .val (.ref b1), .val (.int (1 : Int32))] []))
    refine Go.st (fun _ k => XS.aload X27.here hx rfl (hb hby at_151) rfl rfl k) ?_
    show Go p.tables e below _ (T27.setTop (mkF m 153 #[.val (.long qa), .second, .val (.long qb), .second, .val (.long qc), .second, .val (.int pm), .val (.int v7), .val (.long (0 : Int64)), .second, .val (.long qa), .second, .val (.long v18), .second, .val (.long v26), .second, .val (.ref b1), .val (.int (1 : Int32))] [(.ref b1)]))
    obtain ⟨cq32, kq32, q32a, q32b, q32c⟩ := isOf hZ (rfl : T27.heap = T27.heap) Fq27_0
    obtain ⟨_, _, ⟨T32, L32, k32, n32⟩, -, X32, ⟨Lc32, hQ32, l32, y32, z32⟩, st32⟩ := X27.virtualBack hx (y := (⟨"com/example/rivulet/rivulet/Counter", "load", "()J"⟩ : MethodName)) (z := (⟨"com/example/rivulet/rivulet/Counter", "load", "()J"⟩ : MethodName)) hown (mvT hZ (hw _ (List.mem_of_getElem? (i := 15) rfl))) (mvT hZ (hw _ (List.mem_of_getElem? (i := 16) rfl))) (notFace_of_selects (args := #[]) (mvT hZ (hw _ (List.mem_of_getElem? (i := 18) rfl)))) (mvT hZ (hw _ (List.mem_of_getElem? (i := 18) rfl))) (mvT hZ (hw _ (List.mem_of_getElem? (i := 17) rfl))) (by decide) (backOf (W := 0) (rm_load l Z a0 hw [] b1 (((0 : Int64) + qa) + qb) (1 : Int32) (0 : Int64) T27.heap n0 Z28 Fq27_1 Fq27_2 Fq27_3) hZ (hw _ (List.mem_of_getElem? (i := 19) rfl)) (hw _ (List.mem_of_getElem? (i := 3) rfl)) (by decide) (by decide)) q32a q32c (g := (mkF m 153 #[.val (.long qa), .second, .val (.long qb), .second, .val (.long qc), .second, .val (.int pm), .val (.int v7), .val (.long (0 : Int64)), .second, .val (.long qa), .second, .val (.long v18), .second, .val (.long v26), .second, .val (.ref b1), .val (.int (1 : Int32))] [(.ref b1)])) rfl (by rw [hml]; rfl) (Steps.refl _) (argsL := []) (rest := []) (lenOf pd_3 rfl) rfl (by show 2 * 0 + _ ≤ _; exact Nat.le_of_eq rfl) (hb hby at_153) (fun _ _ => ⟨rfl, (rfl : T27.heap = T27.heap), (by decide : 1 + 0 ≤ _), (by decide : 4 + 0 ≤ _)⟩)
    dsimp only [Pt.U, Pt.locs, Pt.cells, Pt.slots] at X32 l32 y32 z32 st32 hQ32
    subst l32 y32 z32
    obtain ⟨rfl, N32q, e32⟩ := hQ32
    have N32 := Fr.app N27 N32q
    refine Go.st (fun _ k => st32.trans k) ?_
    show Go p.tables e below _ (T32.setTop (mkF m 156 #[.val (.long qa), .second, .val (.long qb), .second, .val (.long qc), .second, .val (.int pm), .val (.int v7), .val (.long (0 : Int64)), .second, .val (.long qa), .second, .val (.long v18), .second, .val (.long v26), .second, .val (.ref b1), .val (.int (1 : Int32))] [(.long (ldF (1 : Int32) (0 : Int64) (((0 : Int64) + qa) + qb)))]))
    refine Go.st (fun _ k => XS.iconst X32.here hx rfl (hb hby at_156) k) ?_
    show Go p.tables e below _ (T32.setTop (mkF m 157 #[.val (.long qa), .second, .val (.long qb), .second, .val (.long qc), .second, .val (.int pm), .val (.int v7), .val (.long (0 : Int64)), .second, .val (.long qa), .second, .val (.long v18), .second, .val (.long v26), .second, .val (.ref b1), .val (.int (1 : Int32))] [(.int (2 : Int32)), (.long (ldF (1 : Int32) (0 : Int64) (((0 : Int64) + qa) + qb)))]))
    refine Go.st (fun _ k => XS.iload X32.here hx rfl (hb hby at_157) rfl k) ?_
    show Go p.tables e below _ (T32.setTop (mkF m 159 #[.val (.long qa), .second, .val (.long qb), .second, .val (.long qc), .second, .val (.int pm), .val (.int v7), .val (.long (0 : Int64)), .second, .val (.long qa), .second, .val (.long v18), .second, .val (.long v26), .second, .val (.ref b1), .val (.int (1 : Int32))] [(.int v7), (.int (2 : Int32)), (.long (ldF (1 : Int32) (0 : Int64) (((0 : Int64) + qa) + qb)))]))
    refine Go.st (fun _ k => XS.lload X32.here hx rfl (hb hby at_159) rfl k) ?_
    show Go p.tables e below _ (T32.setTop (mkF m 161 #[.val (.long qa), .second, .val (.long qb), .second, .val (.long qc), .second, .val (.int pm), .val (.int v7), .val (.long (0 : Int64)), .second, .val (.long qa), .second, .val (.long v18), .second, .val (.long v26), .second, .val (.ref b1), .val (.int (1 : Int32))] [(.long (0 : Int64)), (.int v7), (.int (2 : Int32)), (.long (ldF (1 : Int32) (0 : Int64) (((0 : Int64) + qa) + qb)))]))
    refine Go.st (fun _ k => XS.lload X32.here hx rfl (hb hby at_161) rfl k) ?_
    show Go p.tables e below _ (T32.setTop (mkF m 163 #[.val (.long qa), .second, .val (.long qb), .second, .val (.long qc), .second, .val (.int pm), .val (.int v7), .val (.long (0 : Int64)), .second, .val (.long qa), .second, .val (.long v18), .second, .val (.long v26), .second, .val (.ref b1), .val (.int (1 : Int32))] [(.long qa), (.long (0 : Int64)), (.int v7), (.int (2 : Int32)), (.long (ldF (1 : Int32) (0 : Int64) (((0 : Int64) + qa) + qb)))]))
    refine Go.st (fun _ k => XS.lload X32.here hx rfl (hb hby at_163) rfl k) ?_
    show Go p.tables e below _ (T32.setTop (mkF m 165 #[.val (.long qa), .second, .val (.long qb), .second, .val (.long qc), .second, .val (.int pm), .val (.int v7), .val (.long (0 : Int64)), .second, .val (.long qa), .second, .val (.long v18), .second, .val (.long v26), .second, .val (.ref b1), .val (.int (1 : Int32))] [(.long v18), (.long qa), (.long (0 : Int64)), (.int v7), (.int (2 : Int32)), (.long (ldF (1 : Int32) (0 : Int64) (((0 : Int64) + qa) + qb)))]))
    refine Go.st (fun _ k => XS.lload X32.here hx rfl (hb hby at_165) rfl k) ?_
    show Go p.tables e below _ (T32.setTop (mkF m 167 #[.val (.long qa), .second, .val (.long qb), .second, .val (.long qc), .second, .val (.int pm), .val (.int v7), .val (.long (0 : Int64)), .second, .val (.long qa), .second, .val (.long v18), .second, .val (.long v26), .second, .val (.ref b1), .val (.int (1 : Int32))] [(.long v26), (.long v18), (.long qa), (.long (0 : Int64)), (.int v7), (.int (2 : Int32)), (.long (ldF (1 : Int32) (0 : Int64) (((0 : Int64) + qa) + qb)))]))
    obtain ⟨_, _, ⟨T33, L33, k33, n33⟩, -, X33, ⟨Lc33, hQ33, l33, y33, z33⟩, st33⟩ := Jvm.LawKit.callS X32 hx (y := (⟨"com/example/rivulet/rivulet/CounterLoadPinLaw", "expected", "(IIJJJJ)J"⟩ : MethodName)) hown (mvT hZ (hw _ (List.mem_of_getElem? (i := 24) rfl))) (mvT hZ (hw _ (List.mem_of_getElem? (i := 25) rfl))) (mvT hZ (hw _ (List.mem_of_getElem? (i := 26) rfl))) (mvT hZ (hw _ (List.mem_of_getElem? (i := 27) rfl))) (by decide) (backOf (W := 2) (rm_expe l Z a0 hw [] (2 : Int32) v7 (0 : Int64) qa v18 v26 T27.heap n0 Z28 ) hZ (hw _ (List.mem_of_getElem? (i := 27) rfl)) (hw _ (List.mem_of_getElem? (i := 26) rfl)) (by decide) (by decide)) (g := (mkF m 167 #[.val (.long qa), .second, .val (.long qb), .second, .val (.long qc), .second, .val (.int pm), .val (.int v7), .val (.long (0 : Int64)), .second, .val (.long qa), .second, .val (.long v18), .second, .val (.long v26), .second, .val (.ref b1), .val (.int (1 : Int32))] [(.long v26), (.long v18), (.long qa), (.long (0 : Int64)), (.int v7), (.int (2 : Int32)), (.long (ldF (1 : Int32) (0 : Int64) (((0 : Int64) + qa) + qb)))])) rfl (by rw [hml]; rfl) (argsL := [(.int (2 : Int32)), (.int v7), (.long (0 : Int64)), (.long qa), (.long v18), (.long v26)]) (rest := [(.long (ldF (1 : Int32) (0 : Int64) (((0 : Int64) + qa) + qb)))]) (lenOf pd_4 rfl) rfl (by show 2 * 0 + _ ≤ _; exact Nat.le_of_eq rfl) (hb hby at_167) (fun _ _ => ⟨rfl, e32, (by decide : 1 + 0 ≤ _), (by decide : 4 + 0 ≤ _)⟩)
    dsimp only [Pt.U, Pt.locs, Pt.cells, Pt.slots] at X33 l33 y33 z33 st33 hQ33
    subst l33 y33 z33
    obtain ⟨rfl, N33q, e33⟩ := hQ33
    have N33 := Fr.app N32 N33q
    refine Go.st st33 ?_
    show Go p.tables e below _ (T33.setTop (mkF m 170 #[.val (.long qa), .second, .val (.long qb), .second, .val (.long qc), .second, .val (.int pm), .val (.int v7), .val (.long (0 : Int64)), .second, .val (.long qa), .second, .val (.long v18), .second, .val (.long v26), .second, .val (.ref b1), .val (.int (1 : Int32))] [(.long (exF (2 : Int32) v7 (0 : Int64) qa v18 v26)), (.long (ldF (1 : Int32) (0 : Int64) (((0 : Int64) + qa) + qb)))]))
    refine Go.st (fun _ k => Jvm.Free.XT.lcmp X33.here hx rfl (hb hby at_170) rfl k) ?_
    show Go p.tables e below _ (T33.setTop (mkF m 171 #[.val (.long qa), .second, .val (.long qb), .second, .val (.long qc), .second, .val (.int pm), .val (.int v7), .val (.long (0 : Int64)), .second, .val (.long qa), .second, .val (.long v18), .second, .val (.long v26), .second, .val (.ref b1), .val (.int (1 : Int32))] [(.int (Jvm.Free.XT.cmpL (ldF (1 : Int32) (0 : Int64) (((0 : Int64) + qa) + qb)) (exF (2 : Int32) v7 (0 : Int64) qa v18 v26)))]))
    have hc171 : (ldF (1 : Int32) (0 : Int64) (((0 : Int64) + qa) + qb)) = (exF (2 : Int32) v7 (0 : Int64) qa v18 v26) := (by simp [ldF, exF, prF, hc39, ← hqv18, ← hqv26])
    have hi171 : ((ldF (1 : Int32) (0 : Int64) (((0 : Int64) + qa) + qb))).toInt = ((exF (2 : Int32) v7 (0 : Int64) qa v18 v26)).toInt := Int64.toInt_inj.symm.mp hc171
    refine Go.st (fun _ k => XS.ifNo X33.here hx rfl (hb hby at_171) rfl (Jvm.Free.XT.ll_ne_f hc171) k) ?_
    show Go p.tables e below _ (T33.setTop (mkF m 174 #[.val (.long qa), .second, .val (.long qb), .second, .val (.long qc), .second, .val (.int pm), .val (.int v7), .val (.long (0 : Int64)), .second, .val (.long qa), .second, .val (.long v18), .second, .val (.long v26), .second, .val (.ref b1), .val (.int (1 : Int32))] []))
    refine Go.st (fun _ k => XS.iconst X33.here hx rfl (hb hby at_174) k) ?_
    show Go p.tables e below _ (T33.setTop (mkF m 175 #[.val (.long qa), .second, .val (.long qb), .second, .val (.long qc), .second, .val (.int pm), .val (.int v7), .val (.long (0 : Int64)), .second, .val (.long qa), .second, .val (.long v18), .second, .val (.long v26), .second, .val (.ref b1), .val (.int (1 : Int32))] [(.int (1 : Int32))]))
    refine Go.st (fun _ k => XS.goto X33.here hx rfl (pc0 := 175) (pc' := 179) rfl (hb hby at_175) (by decide) (by decide) k) ?_
    show Go p.tables e below _ (T33.setTop (mkF m 179 #[.val (.long qa), .second, .val (.long qb), .second, .val (.long qc), .second, .val (.int pm), .val (.int v7), .val (.long (0 : Int64)), .second, .val (.long qa), .second, .val (.long v18), .second, .val (.long v26), .second, .val (.ref b1), .val (.int (1 : Int32))] [(.int (1 : Int32))]))
    refine Go.st (fun _ k => XS.istore X33.here hx rfl (hb hby at_179) rfl (l' := #[.val (.long qa), .second, .val (.long qb), .second, .val (.long qc), .second, .val (.int pm), .val (.int v7), .val (.long (0 : Int64)), .second, .val (.long qa), .second, .val (.long v18), .second, .val (.long v26), .second, .val (.ref b1), .val (.int (1 : Int32))]) rfl k) ?_
    show Go p.tables e below _ (T33.setTop (mkF m 181 #[.val (.long qa), .second, .val (.long qb), .second, .val (.long qc), .second, .val (.int pm), .val (.int v7), .val (.long (0 : Int64)), .second, .val (.long qa), .second, .val (.long v18), .second, .val (.long v26), .second, .val (.ref b1), .val (.int (1 : Int32))] []))
    show Go p.tables e below _ (T33.setTop (mkF m 181 #[.val (.long qa), .second, .val (.long qb), .second, .val (.long qc), .second, .val (.int pm), .val (.int v7), .val (.long (0 : Int64)), .second, .val (.long qa), .second, .val (.long v18), .second, .val (.long v26), .second, .val (.ref b1), .val (.int (1 : Int32))] []))
    refine Go.st (fun _ k => XS.aload X33.here hx rfl (hb hby at_181) rfl rfl k) ?_
    show Go p.tables e below _ (T33.setTop (mkF m 183 #[.val (.long qa), .second, .val (.long qb), .second, .val (.long qc), .second, .val (.int pm), .val (.int v7), .val (.long (0 : Int64)), .second, .val (.long qa), .second, .val (.long v18), .second, .val (.long v26), .second, .val (.ref b1), .val (.int (1 : Int32))] [(.ref b1)]))
    refine Go.st (fun _ k => XS.lload X33.here hx rfl (hb hby at_183) rfl k) ?_
    show Go p.tables e below _ (T33.setTop (mkF m 185 #[.val (.long qa), .second, .val (.long qb), .second, .val (.long qc), .second, .val (.int pm), .val (.int v7), .val (.long (0 : Int64)), .second, .val (.long qa), .second, .val (.long v18), .second, .val (.long v26), .second, .val (.ref b1), .val (.int (1 : Int32))] [(.long qc), (.ref b1)]))
    obtain ⟨cq34, kq34, q34a, q34b, q34c⟩ := isOf hZ e33 Fq27_0
    obtain ⟨_, _, ⟨T34, L34, k34, n34⟩, -, X34, ⟨Lc34, hQ34, l34, y34, z34⟩, st34⟩ := X33.virtualBack hx (y := (⟨"com/example/rivulet/rivulet/Counter", "add", "(J)V"⟩ : MethodName)) (z := (⟨"com/example/rivulet/rivulet/Counter", "add", "(J)V"⟩ : MethodName)) hown (mvT hZ (hw _ (List.mem_of_getElem? (i := 31) rfl))) (mvT hZ (hw _ (List.mem_of_getElem? (i := 32) rfl))) (notFace_of_selects (args := #[]) (mvT hZ (hw _ (List.mem_of_getElem? (i := 34) rfl)))) (mvT hZ (hw _ (List.mem_of_getElem? (i := 34) rfl))) (mvT hZ (hw _ (List.mem_of_getElem? (i := 33) rfl))) (by decide) (backOf (W := 0) (rm_cadd l Z a0 hw [] b1 qc (((0 : Int64) + qa) + qb) (1 : Int32) (0 : Int64) T27.heap n0 Z28 Fq27_0 Fq27_1 Fq27_2 Fq27_3 Fq27_4 ge2) hZ (hw _ (List.mem_of_getElem? (i := 35) rfl)) (hw _ (List.mem_of_getElem? (i := 3) rfl)) (by decide) (by decide)) q34a q34c (g := (mkF m 185 #[.val (.long qa), .second, .val (.long qb), .second, .val (.long qc), .second, .val (.int pm), .val (.int v7), .val (.long (0 : Int64)), .second, .val (.long qa), .second, .val (.long v18), .second, .val (.long v26), .second, .val (.ref b1), .val (.int (1 : Int32))] [(.long qc), (.ref b1)])) rfl (by rw [hml]; rfl) (Steps.refl _) (argsL := [(.long qc)]) (rest := []) (lenOf pd_5 rfl) rfl (by show 2 * 0 + _ ≤ _; exact Nat.le_of_eq rfl) (hb hby at_185) (fun _ _ => ⟨rfl, e33, (by decide : 1 + 0 ≤ _), (by decide : 4 + 0 ≤ _)⟩)
    dsimp only [Pt.U, Pt.locs, Pt.cells, Pt.slots] at X34 l34 y34 z34 st34 hQ34
    subst l34 y34 z34
    obtain ⟨rfl, N34q, K34q, Fq34_0, Fq34_1, Fq34_2, Fq34_3, Fq34_4⟩ := hQ34
    have N34 := Fr.app N33 N34q
    refine Go.st (fun _ k => st34.trans k) ?_
    have Z35 : n0 ≤ T34.heap.size := Nat.le_trans Z28 K34q.1
    have K36 : Keep h0 T34.heap [] := K29.trans K34q (fun z hz => (List.mem_cons.mp hz).elim (fun q => by rw [q]; exact Or.inr sz3) (fun hz => absurd hz List.not_mem_nil))
    have F37 : Exa Z T34.heap b1 "com/example/rivulet/rivulet/Counter" := Fq27_0.keep K34q
    show Go p.tables e below _ (T34.setTop (mkF m 188 #[.val (.long qa), .second, .val (.long qb), .second, .val (.long qc), .second, .val (.int pm), .val (.int v7), .val (.long (0 : Int64)), .second, .val (.long qa), .second, .val (.long v18), .second, .val (.long v26), .second, .val (.ref b1), .val (.int (1 : Int32))] []))
    refine Go.st (fun _ k => XS.iload X34.here hx rfl (hb hby at_188) rfl k) ?_
    show Go p.tables e below _ (T34.setTop (mkF m 190 #[.val (.long qa), .second, .val (.long qb), .second, .val (.long qc), .second, .val (.int pm), .val (.int v7), .val (.long (0 : Int64)), .second, .val (.long qa), .second, .val (.long v18), .second, .val (.long v26), .second, .val (.ref b1), .val (.int (1 : Int32))] [(.int v7)]))
    refine Go.st (fun _ k => XS.iconst X34.here hx rfl (hb hby at_190) k) ?_
    show Go p.tables e below _ (T34.setTop (mkF m 191 #[.val (.long qa), .second, .val (.long qb), .second, .val (.long qc), .second, .val (.int pm), .val (.int v7), .val (.long (0 : Int64)), .second, .val (.long qa), .second, .val (.long v18), .second, .val (.long v26), .second, .val (.ref b1), .val (.int (1 : Int32))] [(.int (3 : Int32)), (.int v7)]))
    have hc191 : ¬ (v7 = (3 : Int32)) := (by rw [hc39]; decide)
    have lt_332 : (3 : Int32).toInt = 3 := by decide
    have hi191 : ¬ ((v7).toInt = ((3 : Int32)).toInt) := fun z => hc191 (Int32.toInt_inj.symm.mpr z)
    refine Go.st (fun _ k => XS.icmpYes X34.here hx rfl (pc0 := 191) (pc' := 199) rfl (hb hby at_191) rfl (Jvm.Free.XT.ii_ne_t hc191) (by decide) (by decide) k) ?_
    show Go p.tables e below _ (T34.setTop (mkF m 199 #[.val (.long qa), .second, .val (.long qb), .second, .val (.long qc), .second, .val (.int pm), .val (.int v7), .val (.long (0 : Int64)), .second, .val (.long qa), .second, .val (.long v18), .second, .val (.long v26), .second, .val (.ref b1), .val (.int (1 : Int32))] []))
    refine Go.st (fun _ k => XS.iload X34.here hx rfl (hb hby at_199) rfl k) ?_
    show Go p.tables e below _ (T34.setTop (mkF m 201 #[.val (.long qa), .second, .val (.long qb), .second, .val (.long qc), .second, .val (.int pm), .val (.int v7), .val (.long (0 : Int64)), .second, .val (.long qa), .second, .val (.long v18), .second, .val (.long v26), .second, .val (.ref b1), .val (.int (1 : Int32))] [(.int (1 : Int32))]))
    have hl38 : ¬ ((1 : Int32) = (0 : Int32)) := by decide
    refine Go.st (fun _ k => XS.ifNo X34.here hx rfl (hb hby at_201) rfl (Jvm.Free.XT.i0_eq_f hl38) k) ?_
    show Go p.tables e below _ (T34.setTop (mkF m 204 #[.val (.long qa), .second, .val (.long qb), .second, .val (.long qc), .second, .val (.int pm), .val (.int v7), .val (.long (0 : Int64)), .second, .val (.long qa), .second, .val (.long v18), .second, .val (.long v26), .second, .val (.ref b1), .val (.int (1 : Int32))] []))
    refine Go.st (fun _ k => XS.aload X34.here hx rfl (hb hby at_204) rfl rfl k) ?_
    show Go p.tables e below _ (T34.setTop (mkF m 206 #[.val (.long qa), .second, .val (.long qb), .second, .val (.long qc), .second, .val (.int pm), .val (.int v7), .val (.long (0 : Int64)), .second, .val (.long qa), .second, .val (.long v18), .second, .val (.long v26), .second, .val (.ref b1), .val (.int (1 : Int32))] [(.ref b1)]))
    obtain ⟨cq39, kq39, q39a, q39b, q39c⟩ := isOf hZ (rfl : T34.heap = T34.heap) Fq34_0
    obtain ⟨_, _, ⟨T39, L39, k39, n39⟩, -, X39, ⟨Lc39, hQ39, l39, y39, z39⟩, st39⟩ := X34.virtualBack hx (y := (⟨"com/example/rivulet/rivulet/Counter", "load", "()J"⟩ : MethodName)) (z := (⟨"com/example/rivulet/rivulet/Counter", "load", "()J"⟩ : MethodName)) hown (mvT hZ (hw _ (List.mem_of_getElem? (i := 15) rfl))) (mvT hZ (hw _ (List.mem_of_getElem? (i := 16) rfl))) (notFace_of_selects (args := #[]) (mvT hZ (hw _ (List.mem_of_getElem? (i := 18) rfl)))) (mvT hZ (hw _ (List.mem_of_getElem? (i := 18) rfl))) (mvT hZ (hw _ (List.mem_of_getElem? (i := 17) rfl))) (by decide) (backOf (W := 0) (rm_load l Z a0 hw [] b1 ((((0 : Int64) + qa) + qb) + qc) (1 : Int32) (0 : Int64) T34.heap n0 Z35 Fq34_1 Fq34_2 Fq34_3) hZ (hw _ (List.mem_of_getElem? (i := 19) rfl)) (hw _ (List.mem_of_getElem? (i := 3) rfl)) (by decide) (by decide)) q39a q39c (g := (mkF m 206 #[.val (.long qa), .second, .val (.long qb), .second, .val (.long qc), .second, .val (.int pm), .val (.int v7), .val (.long (0 : Int64)), .second, .val (.long qa), .second, .val (.long v18), .second, .val (.long v26), .second, .val (.ref b1), .val (.int (1 : Int32))] [(.ref b1)])) rfl (by rw [hml]; rfl) (Steps.refl _) (argsL := []) (rest := []) (lenOf pd_3 rfl) rfl (by show 2 * 0 + _ ≤ _; exact Nat.le_of_eq rfl) (hb hby at_206) (fun _ _ => ⟨rfl, (rfl : T34.heap = T34.heap), (by decide : 1 + 0 ≤ _), (by decide : 4 + 0 ≤ _)⟩)
    dsimp only [Pt.U, Pt.locs, Pt.cells, Pt.slots] at X39 l39 y39 z39 st39 hQ39
    subst l39 y39 z39
    obtain ⟨rfl, N39q, e39⟩ := hQ39
    have N39 := Fr.app N34 N39q
    refine Go.st (fun _ k => st39.trans k) ?_
    show Go p.tables e below _ (T39.setTop (mkF m 209 #[.val (.long qa), .second, .val (.long qb), .second, .val (.long qc), .second, .val (.int pm), .val (.int v7), .val (.long (0 : Int64)), .second, .val (.long qa), .second, .val (.long v18), .second, .val (.long v26), .second, .val (.ref b1), .val (.int (1 : Int32))] [(.long (ldF (1 : Int32) (0 : Int64) ((((0 : Int64) + qa) + qb) + qc)))]))
    refine Go.st (fun _ k => XS.iconst X39.here hx rfl (hb hby at_209) k) ?_
    show Go p.tables e below _ (T39.setTop (mkF m 210 #[.val (.long qa), .second, .val (.long qb), .second, .val (.long qc), .second, .val (.int pm), .val (.int v7), .val (.long (0 : Int64)), .second, .val (.long qa), .second, .val (.long v18), .second, .val (.long v26), .second, .val (.ref b1), .val (.int (1 : Int32))] [(.int (3 : Int32)), (.long (ldF (1 : Int32) (0 : Int64) ((((0 : Int64) + qa) + qb) + qc)))]))
    refine Go.st (fun _ k => XS.iload X39.here hx rfl (hb hby at_210) rfl k) ?_
    show Go p.tables e below _ (T39.setTop (mkF m 212 #[.val (.long qa), .second, .val (.long qb), .second, .val (.long qc), .second, .val (.int pm), .val (.int v7), .val (.long (0 : Int64)), .second, .val (.long qa), .second, .val (.long v18), .second, .val (.long v26), .second, .val (.ref b1), .val (.int (1 : Int32))] [(.int v7), (.int (3 : Int32)), (.long (ldF (1 : Int32) (0 : Int64) ((((0 : Int64) + qa) + qb) + qc)))]))
    refine Go.st (fun _ k => XS.lload X39.here hx rfl (hb hby at_212) rfl k) ?_
    show Go p.tables e below _ (T39.setTop (mkF m 214 #[.val (.long qa), .second, .val (.long qb), .second, .val (.long qc), .second, .val (.int pm), .val (.int v7), .val (.long (0 : Int64)), .second, .val (.long qa), .second, .val (.long v18), .second, .val (.long v26), .second, .val (.ref b1), .val (.int (1 : Int32))] [(.long (0 : Int64)), (.int v7), (.int (3 : Int32)), (.long (ldF (1 : Int32) (0 : Int64) ((((0 : Int64) + qa) + qb) + qc)))]))
    refine Go.st (fun _ k => XS.lload X39.here hx rfl (hb hby at_214) rfl k) ?_
    show Go p.tables e below _ (T39.setTop (mkF m 216 #[.val (.long qa), .second, .val (.long qb), .second, .val (.long qc), .second, .val (.int pm), .val (.int v7), .val (.long (0 : Int64)), .second, .val (.long qa), .second, .val (.long v18), .second, .val (.long v26), .second, .val (.ref b1), .val (.int (1 : Int32))] [(.long qa), (.long (0 : Int64)), (.int v7), (.int (3 : Int32)), (.long (ldF (1 : Int32) (0 : Int64) ((((0 : Int64) + qa) + qb) + qc)))]))
    refine Go.st (fun _ k => XS.lload X39.here hx rfl (hb hby at_216) rfl k) ?_
    show Go p.tables e below _ (T39.setTop (mkF m 218 #[.val (.long qa), .second, .val (.long qb), .second, .val (.long qc), .second, .val (.int pm), .val (.int v7), .val (.long (0 : Int64)), .second, .val (.long qa), .second, .val (.long v18), .second, .val (.long v26), .second, .val (.ref b1), .val (.int (1 : Int32))] [(.long v18), (.long qa), (.long (0 : Int64)), (.int v7), (.int (3 : Int32)), (.long (ldF (1 : Int32) (0 : Int64) ((((0 : Int64) + qa) + qb) + qc)))]))
    refine Go.st (fun _ k => XS.lload X39.here hx rfl (hb hby at_218) rfl k) ?_
    show Go p.tables e below _ (T39.setTop (mkF m 220 #[.val (.long qa), .second, .val (.long qb), .second, .val (.long qc), .second, .val (.int pm), .val (.int v7), .val (.long (0 : Int64)), .second, .val (.long qa), .second, .val (.long v18), .second, .val (.long v26), .second, .val (.ref b1), .val (.int (1 : Int32))] [(.long v26), (.long v18), (.long qa), (.long (0 : Int64)), (.int v7), (.int (3 : Int32)), (.long (ldF (1 : Int32) (0 : Int64) ((((0 : Int64) + qa) + qb) + qc)))]))
    obtain ⟨_, _, ⟨T40, L40, k40, n40⟩, -, X40, ⟨Lc40, hQ40, l40, y40, z40⟩, st40⟩ := Jvm.LawKit.callS X39 hx (y := (⟨"com/example/rivulet/rivulet/CounterLoadPinLaw", "expected", "(IIJJJJ)J"⟩ : MethodName)) hown (mvT hZ (hw _ (List.mem_of_getElem? (i := 24) rfl))) (mvT hZ (hw _ (List.mem_of_getElem? (i := 25) rfl))) (mvT hZ (hw _ (List.mem_of_getElem? (i := 26) rfl))) (mvT hZ (hw _ (List.mem_of_getElem? (i := 27) rfl))) (by decide) (backOf (W := 2) (rm_expe l Z a0 hw [] (3 : Int32) v7 (0 : Int64) qa v18 v26 T34.heap n0 Z35 ) hZ (hw _ (List.mem_of_getElem? (i := 27) rfl)) (hw _ (List.mem_of_getElem? (i := 26) rfl)) (by decide) (by decide)) (g := (mkF m 220 #[.val (.long qa), .second, .val (.long qb), .second, .val (.long qc), .second, .val (.int pm), .val (.int v7), .val (.long (0 : Int64)), .second, .val (.long qa), .second, .val (.long v18), .second, .val (.long v26), .second, .val (.ref b1), .val (.int (1 : Int32))] [(.long v26), (.long v18), (.long qa), (.long (0 : Int64)), (.int v7), (.int (3 : Int32)), (.long (ldF (1 : Int32) (0 : Int64) ((((0 : Int64) + qa) + qb) + qc)))])) rfl (by rw [hml]; rfl) (argsL := [(.int (3 : Int32)), (.int v7), (.long (0 : Int64)), (.long qa), (.long v18), (.long v26)]) (rest := [(.long (ldF (1 : Int32) (0 : Int64) ((((0 : Int64) + qa) + qb) + qc)))]) (lenOf pd_4 rfl) rfl (by show 2 * 0 + _ ≤ _; exact Nat.le_of_eq rfl) (hb hby at_220) (fun _ _ => ⟨rfl, e39, (by decide : 1 + 0 ≤ _), (by decide : 4 + 0 ≤ _)⟩)
    dsimp only [Pt.U, Pt.locs, Pt.cells, Pt.slots] at X40 l40 y40 z40 st40 hQ40
    subst l40 y40 z40
    obtain ⟨rfl, N40q, e40⟩ := hQ40
    have N40 := Fr.app N39 N40q
    refine Go.st st40 ?_
    show Go p.tables e below _ (T40.setTop (mkF m 223 #[.val (.long qa), .second, .val (.long qb), .second, .val (.long qc), .second, .val (.int pm), .val (.int v7), .val (.long (0 : Int64)), .second, .val (.long qa), .second, .val (.long v18), .second, .val (.long v26), .second, .val (.ref b1), .val (.int (1 : Int32))] [(.long (exF (3 : Int32) v7 (0 : Int64) qa v18 v26)), (.long (ldF (1 : Int32) (0 : Int64) ((((0 : Int64) + qa) + qb) + qc)))]))
    refine Go.st (fun _ k => Jvm.Free.XT.lcmp X40.here hx rfl (hb hby at_223) rfl k) ?_
    show Go p.tables e below _ (T40.setTop (mkF m 224 #[.val (.long qa), .second, .val (.long qb), .second, .val (.long qc), .second, .val (.int pm), .val (.int v7), .val (.long (0 : Int64)), .second, .val (.long qa), .second, .val (.long v18), .second, .val (.long v26), .second, .val (.ref b1), .val (.int (1 : Int32))] [(.int (Jvm.Free.XT.cmpL (ldF (1 : Int32) (0 : Int64) ((((0 : Int64) + qa) + qb) + qc)) (exF (3 : Int32) v7 (0 : Int64) qa v18 v26)))]))
    have hc224 : (ldF (1 : Int32) (0 : Int64) ((((0 : Int64) + qa) + qb) + qc)) = (exF (3 : Int32) v7 (0 : Int64) qa v18 v26) := (by simp [ldF, exF, prF, hc39, ← hqv18, ← hqv26])
    have hi224 : ((ldF (1 : Int32) (0 : Int64) ((((0 : Int64) + qa) + qb) + qc))).toInt = ((exF (3 : Int32) v7 (0 : Int64) qa v18 v26)).toInt := Int64.toInt_inj.symm.mp hc224
    refine Go.st (fun _ k => XS.ifNo X40.here hx rfl (hb hby at_224) rfl (Jvm.Free.XT.ll_ne_f hc224) k) ?_
    show Go p.tables e below _ (T40.setTop (mkF m 227 #[.val (.long qa), .second, .val (.long qb), .second, .val (.long qc), .second, .val (.int pm), .val (.int v7), .val (.long (0 : Int64)), .second, .val (.long qa), .second, .val (.long v18), .second, .val (.long v26), .second, .val (.ref b1), .val (.int (1 : Int32))] []))
    refine Go.st (fun _ k => XS.iconst X40.here hx rfl (hb hby at_227) k) ?_
    show Go p.tables e below _ (T40.setTop (mkF m 228 #[.val (.long qa), .second, .val (.long qb), .second, .val (.long qc), .second, .val (.int pm), .val (.int v7), .val (.long (0 : Int64)), .second, .val (.long qa), .second, .val (.long v18), .second, .val (.long v26), .second, .val (.ref b1), .val (.int (1 : Int32))] [(.int (1 : Int32))]))
    refine Go.st (fun _ k => XS.goto X40.here hx rfl (pc0 := 228) (pc' := 232) rfl (hb hby at_228) (by decide) (by decide) k) ?_
    show Go p.tables e below _ (T40.setTop (mkF m 232 #[.val (.long qa), .second, .val (.long qb), .second, .val (.long qc), .second, .val (.int pm), .val (.int v7), .val (.long (0 : Int64)), .second, .val (.long qa), .second, .val (.long v18), .second, .val (.long v26), .second, .val (.ref b1), .val (.int (1 : Int32))] [(.int (1 : Int32))]))
    refine Go.st (fun _ k => XS.istore X40.here hx rfl (hb hby at_232) rfl (l' := #[.val (.long qa), .second, .val (.long qb), .second, .val (.long qc), .second, .val (.int pm), .val (.int v7), .val (.long (0 : Int64)), .second, .val (.long qa), .second, .val (.long v18), .second, .val (.long v26), .second, .val (.ref b1), .val (.int (1 : Int32))]) rfl k) ?_
    show Go p.tables e below _ (T40.setTop (mkF m 234 #[.val (.long qa), .second, .val (.long qb), .second, .val (.long qc), .second, .val (.int pm), .val (.int v7), .val (.long (0 : Int64)), .second, .val (.long qa), .second, .val (.long v18), .second, .val (.long v26), .second, .val (.ref b1), .val (.int (1 : Int32))] []))
    show Go p.tables e below _ (T40.setTop (mkF m 234 #[.val (.long qa), .second, .val (.long qb), .second, .val (.long qc), .second, .val (.int pm), .val (.int v7), .val (.long (0 : Int64)), .second, .val (.long qa), .second, .val (.long v18), .second, .val (.long v26), .second, .val (.ref b1), .val (.int (1 : Int32))] []))
    refine Go.st (fun _ k => XS.iload X40.here hx rfl (hb hby at_234) rfl k) ?_
    show Go p.tables e below _ (T40.setTop (mkF m 236 #[.val (.long qa), .second, .val (.long qb), .second, .val (.long qc), .second, .val (.int pm), .val (.int v7), .val (.long (0 : Int64)), .second, .val (.long qa), .second, .val (.long v18), .second, .val (.long v26), .second, .val (.ref b1), .val (.int (1 : Int32))] [(.int (1 : Int32))]))
    subst hG
    obtain ⟨fs, hr, hrun, hended, hW, hsame⟩ := X40.leave (v := some (.int (nar .boolean (1 : Int32)))) (fun h => by rw [Bd.returns] at h; cases h)
    refine ⟨_, _, ?_, hrun, hended, _, _, rfl, ?_, ⟨_, rfl⟩, hW, hsame.mono (by decide) (by decide)⟩
    · exact retN X40 hx (t := .boolean) Bd.returns (by simp) (hb hby at_236) hr
    · show Q_law Z qa qb qc pm h0 n0 _ T40.heap _
      rw [e40]
      exact ⟨rfl, N40, K36⟩
  · skip
    have lt_032 : (0 : Int32).toInt = 0 := by decide
    have hi39 : ¬ ((v7).toInt = ((0 : Int32)).toInt) := fun z => hc39 (Int32.toInt_inj.symm.mpr z)
    refine Go.st (fun _ k => XS.ifYes X10.here hx rfl (pc0 := 39) (pc' := 47) rfl (hb hby at_39) rfl (Jvm.Free.XT.i0_ne_t hc39) (by decide) (by decide) k) ?_
    show Go p.tables e below _ (T10.setTop (mkF m 47 #[.val (.long qa), .second, .val (.long qb), .second, .val (.long qc), .second, .val (.int pm), .val (.int v7), .val (.long (0 : Int64)), .second, .val (.long qa), .second, .val (.long v18), .second, .val (.long v26), .second, .val (.ref b1), .unset] []))
    refine Go.st (fun _ k => XS.aload X10.here hx rfl (hb hby at_47) rfl rfl k) ?_
    show Go p.tables e below _ (T10.setTop (mkF m 49 #[.val (.long qa), .second, .val (.long qb), .second, .val (.long qc), .second, .val (.int pm), .val (.int v7), .val (.long (0 : Int64)), .second, .val (.long qa), .second, .val (.long v18), .second, .val (.long v26), .second, .val (.ref b1), .unset] [(.ref b1)]))
    obtain ⟨cq41, kq41, q41a, q41b, q41c⟩ := isOf hZ (rfl : T10.heap = T10.heap) Fq10_0
    obtain ⟨_, _, ⟨T41, L41, k41, n41⟩, -, X41, ⟨Lc41, hQ41, l41, y41, z41⟩, st41⟩ := X10.virtualBack hx (y := (⟨"com/example/rivulet/rivulet/Counter", "load", "()J"⟩ : MethodName)) (z := (⟨"com/example/rivulet/rivulet/Counter", "load", "()J"⟩ : MethodName)) hown (mvT hZ (hw _ (List.mem_of_getElem? (i := 15) rfl))) (mvT hZ (hw _ (List.mem_of_getElem? (i := 16) rfl))) (notFace_of_selects (args := #[]) (mvT hZ (hw _ (List.mem_of_getElem? (i := 18) rfl)))) (mvT hZ (hw _ (List.mem_of_getElem? (i := 18) rfl))) (mvT hZ (hw _ (List.mem_of_getElem? (i := 17) rfl))) (by decide) (backOf (W := 0) (rm_load l Z a0 hw [] b1 (0 : Int64) (0 : Int32) (0 : Int64) T10.heap n0 Z11 Fq10_1 Fq10_2 Fq10_3) hZ (hw _ (List.mem_of_getElem? (i := 19) rfl)) (hw _ (List.mem_of_getElem? (i := 3) rfl)) (by decide) (by decide)) q41a q41c (g := (mkF m 49 #[.val (.long qa), .second, .val (.long qb), .second, .val (.long qc), .second, .val (.int pm), .val (.int v7), .val (.long (0 : Int64)), .second, .val (.long qa), .second, .val (.long v18), .second, .val (.long v26), .second, .val (.ref b1), .unset] [(.ref b1)])) rfl (by rw [hml]; rfl) (Steps.refl _) (argsL := []) (rest := []) (lenOf pd_3 rfl) rfl (by show 2 * 0 + _ ≤ _; exact Nat.le_of_eq rfl) (hb hby at_49) (fun _ _ => ⟨rfl, (rfl : T10.heap = T10.heap), (by decide : 1 + 0 ≤ _), (by decide : 4 + 0 ≤ _)⟩)
    dsimp only [Pt.U, Pt.locs, Pt.cells, Pt.slots] at X41 l41 y41 z41 st41 hQ41
    subst l41 y41 z41
    obtain ⟨rfl, N41q, e41⟩ := hQ41
    have N41 := Fr.app N10 N41q
    refine Go.st (fun _ k => st41.trans k) ?_
    show Go p.tables e below _ (T41.setTop (mkF m 52 #[.val (.long qa), .second, .val (.long qb), .second, .val (.long qc), .second, .val (.int pm), .val (.int v7), .val (.long (0 : Int64)), .second, .val (.long qa), .second, .val (.long v18), .second, .val (.long v26), .second, .val (.ref b1), .unset] [(.long (ldF (0 : Int32) (0 : Int64) (0 : Int64)))]))
    refine Go.st (fun _ k => XS.iconst X41.here hx rfl (hb hby at_52) k) ?_
    show Go p.tables e below _ (T41.setTop (mkF m 53 #[.val (.long qa), .second, .val (.long qb), .second, .val (.long qc), .second, .val (.int pm), .val (.int v7), .val (.long (0 : Int64)), .second, .val (.long qa), .second, .val (.long v18), .second, .val (.long v26), .second, .val (.ref b1), .unset] [(.int (0 : Int32)), (.long (ldF (0 : Int32) (0 : Int64) (0 : Int64)))]))
    refine Go.st (fun _ k => XS.iload X41.here hx rfl (hb hby at_53) rfl k) ?_
    show Go p.tables e below _ (T41.setTop (mkF m 55 #[.val (.long qa), .second, .val (.long qb), .second, .val (.long qc), .second, .val (.int pm), .val (.int v7), .val (.long (0 : Int64)), .second, .val (.long qa), .second, .val (.long v18), .second, .val (.long v26), .second, .val (.ref b1), .unset] [(.int v7), (.int (0 : Int32)), (.long (ldF (0 : Int32) (0 : Int64) (0 : Int64)))]))
    refine Go.st (fun _ k => XS.lload X41.here hx rfl (hb hby at_55) rfl k) ?_
    show Go p.tables e below _ (T41.setTop (mkF m 57 #[.val (.long qa), .second, .val (.long qb), .second, .val (.long qc), .second, .val (.int pm), .val (.int v7), .val (.long (0 : Int64)), .second, .val (.long qa), .second, .val (.long v18), .second, .val (.long v26), .second, .val (.ref b1), .unset] [(.long (0 : Int64)), (.int v7), (.int (0 : Int32)), (.long (ldF (0 : Int32) (0 : Int64) (0 : Int64)))]))
    refine Go.st (fun _ k => XS.lload X41.here hx rfl (hb hby at_57) rfl k) ?_
    show Go p.tables e below _ (T41.setTop (mkF m 59 #[.val (.long qa), .second, .val (.long qb), .second, .val (.long qc), .second, .val (.int pm), .val (.int v7), .val (.long (0 : Int64)), .second, .val (.long qa), .second, .val (.long v18), .second, .val (.long v26), .second, .val (.ref b1), .unset] [(.long qa), (.long (0 : Int64)), (.int v7), (.int (0 : Int32)), (.long (ldF (0 : Int32) (0 : Int64) (0 : Int64)))]))
    refine Go.st (fun _ k => XS.lload X41.here hx rfl (hb hby at_59) rfl k) ?_
    show Go p.tables e below _ (T41.setTop (mkF m 61 #[.val (.long qa), .second, .val (.long qb), .second, .val (.long qc), .second, .val (.int pm), .val (.int v7), .val (.long (0 : Int64)), .second, .val (.long qa), .second, .val (.long v18), .second, .val (.long v26), .second, .val (.ref b1), .unset] [(.long v18), (.long qa), (.long (0 : Int64)), (.int v7), (.int (0 : Int32)), (.long (ldF (0 : Int32) (0 : Int64) (0 : Int64)))]))
    refine Go.st (fun _ k => XS.lload X41.here hx rfl (hb hby at_61) rfl k) ?_
    show Go p.tables e below _ (T41.setTop (mkF m 63 #[.val (.long qa), .second, .val (.long qb), .second, .val (.long qc), .second, .val (.int pm), .val (.int v7), .val (.long (0 : Int64)), .second, .val (.long qa), .second, .val (.long v18), .second, .val (.long v26), .second, .val (.ref b1), .unset] [(.long v26), (.long v18), (.long qa), (.long (0 : Int64)), (.int v7), (.int (0 : Int32)), (.long (ldF (0 : Int32) (0 : Int64) (0 : Int64)))]))
    obtain ⟨_, _, ⟨T42, L42, k42, n42⟩, -, X42, ⟨Lc42, hQ42, l42, y42, z42⟩, st42⟩ := Jvm.LawKit.callS X41 hx (y := (⟨"com/example/rivulet/rivulet/CounterLoadPinLaw", "expected", "(IIJJJJ)J"⟩ : MethodName)) hown (mvT hZ (hw _ (List.mem_of_getElem? (i := 24) rfl))) (mvT hZ (hw _ (List.mem_of_getElem? (i := 25) rfl))) (mvT hZ (hw _ (List.mem_of_getElem? (i := 26) rfl))) (mvT hZ (hw _ (List.mem_of_getElem? (i := 27) rfl))) (by decide) (backOf (W := 2) (rm_expe l Z a0 hw [] (0 : Int32) v7 (0 : Int64) qa v18 v26 T10.heap n0 Z11 ) hZ (hw _ (List.mem_of_getElem? (i := 27) rfl)) (hw _ (List.mem_of_getElem? (i := 26) rfl)) (by decide) (by decide)) (g := (mkF m 63 #[.val (.long qa), .second, .val (.long qb), .second, .val (.long qc), .second, .val (.int pm), .val (.int v7), .val (.long (0 : Int64)), .second, .val (.long qa), .second, .val (.long v18), .second, .val (.long v26), .second, .val (.ref b1), .unset] [(.long v26), (.long v18), (.long qa), (.long (0 : Int64)), (.int v7), (.int (0 : Int32)), (.long (ldF (0 : Int32) (0 : Int64) (0 : Int64)))])) rfl (by rw [hml]; rfl) (argsL := [(.int (0 : Int32)), (.int v7), (.long (0 : Int64)), (.long qa), (.long v18), (.long v26)]) (rest := [(.long (ldF (0 : Int32) (0 : Int64) (0 : Int64)))]) (lenOf pd_4 rfl) rfl (by show 2 * 0 + _ ≤ _; exact Nat.le_of_eq rfl) (hb hby at_63) (fun _ _ => ⟨rfl, e41, (by decide : 1 + 0 ≤ _), (by decide : 4 + 0 ≤ _)⟩)
    dsimp only [Pt.U, Pt.locs, Pt.cells, Pt.slots] at X42 l42 y42 z42 st42 hQ42
    subst l42 y42 z42
    obtain ⟨rfl, N42q, e42⟩ := hQ42
    have N42 := Fr.app N41 N42q
    refine Go.st st42 ?_
    show Go p.tables e below _ (T42.setTop (mkF m 66 #[.val (.long qa), .second, .val (.long qb), .second, .val (.long qc), .second, .val (.int pm), .val (.int v7), .val (.long (0 : Int64)), .second, .val (.long qa), .second, .val (.long v18), .second, .val (.long v26), .second, .val (.ref b1), .unset] [(.long (exF (0 : Int32) v7 (0 : Int64) qa v18 v26)), (.long (ldF (0 : Int32) (0 : Int64) (0 : Int64)))]))
    refine Go.st (fun _ k => Jvm.Free.XT.lcmp X42.here hx rfl (hb hby at_66) rfl k) ?_
    show Go p.tables e below _ (T42.setTop (mkF m 67 #[.val (.long qa), .second, .val (.long qb), .second, .val (.long qc), .second, .val (.int pm), .val (.int v7), .val (.long (0 : Int64)), .second, .val (.long qa), .second, .val (.long v18), .second, .val (.long v26), .second, .val (.ref b1), .unset] [(.int (Jvm.Free.XT.cmpL (ldF (0 : Int32) (0 : Int64) (0 : Int64)) (exF (0 : Int32) v7 (0 : Int64) qa v18 v26)))]))
    have hc67 : (ldF (0 : Int32) (0 : Int64) (0 : Int64)) = (exF (0 : Int32) v7 (0 : Int64) qa v18 v26) := (by have hk := own_k hqv7; have hl : ¬ v7 < (0 : Int32) := own_nlt32 (by omega); simp [ldF, exF, prF, hl, ← hqv18, ← hqv26])
    have lt_064 : (0 : Int64).toInt = 0 := by decide
    have hi67 : ((ldF (0 : Int32) (0 : Int64) (0 : Int64))).toInt = ((exF (0 : Int32) v7 (0 : Int64) qa v18 v26)).toInt := Int64.toInt_inj.symm.mp hc67
    refine Go.st (fun _ k => XS.ifNo X42.here hx rfl (hb hby at_67) rfl (Jvm.Free.XT.ll_ne_f hc67) k) ?_
    show Go p.tables e below _ (T42.setTop (mkF m 70 #[.val (.long qa), .second, .val (.long qb), .second, .val (.long qc), .second, .val (.int pm), .val (.int v7), .val (.long (0 : Int64)), .second, .val (.long qa), .second, .val (.long v18), .second, .val (.long v26), .second, .val (.ref b1), .unset] []))
    refine Go.st (fun _ k => XS.iconst X42.here hx rfl (hb hby at_70) k) ?_
    show Go p.tables e below _ (T42.setTop (mkF m 71 #[.val (.long qa), .second, .val (.long qb), .second, .val (.long qc), .second, .val (.int pm), .val (.int v7), .val (.long (0 : Int64)), .second, .val (.long qa), .second, .val (.long v18), .second, .val (.long v26), .second, .val (.ref b1), .unset] [(.int (1 : Int32))]))
    refine Go.st (fun _ k => XS.goto X42.here hx rfl (pc0 := 71) (pc' := 75) rfl (hb hby at_71) (by decide) (by decide) k) ?_
    show Go p.tables e below _ (T42.setTop (mkF m 75 #[.val (.long qa), .second, .val (.long qb), .second, .val (.long qc), .second, .val (.int pm), .val (.int v7), .val (.long (0 : Int64)), .second, .val (.long qa), .second, .val (.long v18), .second, .val (.long v26), .second, .val (.ref b1), .unset] [(.int (1 : Int32))]))
    refine Go.st (fun _ k => XS.istore X42.here hx rfl (hb hby at_75) rfl (l' := #[.val (.long qa), .second, .val (.long qb), .second, .val (.long qc), .second, .val (.int pm), .val (.int v7), .val (.long (0 : Int64)), .second, .val (.long qa), .second, .val (.long v18), .second, .val (.long v26), .second, .val (.ref b1), .val (.int (1 : Int32))]) rfl k) ?_
    show Go p.tables e below _ (T42.setTop (mkF m 77 #[.val (.long qa), .second, .val (.long qb), .second, .val (.long qc), .second, .val (.int pm), .val (.int v7), .val (.long (0 : Int64)), .second, .val (.long qa), .second, .val (.long v18), .second, .val (.long v26), .second, .val (.ref b1), .val (.int (1 : Int32))] []))
    show Go p.tables e below _ (T42.setTop (mkF m 77 #[.val (.long qa), .second, .val (.long qb), .second, .val (.long qc), .second, .val (.int pm), .val (.int v7), .val (.long (0 : Int64)), .second, .val (.long qa), .second, .val (.long v18), .second, .val (.long v26), .second, .val (.ref b1), .val (.int (1 : Int32))] []))
    refine Go.st (fun _ k => XS.aload X42.here hx rfl (hb hby at_77) rfl rfl k) ?_
    show Go p.tables e below _ (T42.setTop (mkF m 79 #[.val (.long qa), .second, .val (.long qb), .second, .val (.long qc), .second, .val (.int pm), .val (.int v7), .val (.long (0 : Int64)), .second, .val (.long qa), .second, .val (.long v18), .second, .val (.long v26), .second, .val (.ref b1), .val (.int (1 : Int32))] [(.ref b1)]))
    refine Go.st (fun _ k => XS.lloadN X42.here hx rfl (hb hby at_79) rfl k) ?_
    show Go p.tables e below _ (T42.setTop (mkF m 80 #[.val (.long qa), .second, .val (.long qb), .second, .val (.long qc), .second, .val (.int pm), .val (.int v7), .val (.long (0 : Int64)), .second, .val (.long qa), .second, .val (.long v18), .second, .val (.long v26), .second, .val (.ref b1), .val (.int (1 : Int32))] [(.long qa), (.ref b1)]))
    obtain ⟨cq43, kq43, q43a, q43b, q43c⟩ := isOf hZ e42 Fq10_0
    obtain ⟨_, _, ⟨T43, L43, k43, n43⟩, -, X43, ⟨Lc43, hQ43, l43, y43, z43⟩, st43⟩ := X42.virtualBack hx (y := (⟨"com/example/rivulet/rivulet/Counter", "add", "(J)V"⟩ : MethodName)) (z := (⟨"com/example/rivulet/rivulet/Counter", "add", "(J)V"⟩ : MethodName)) hown (mvT hZ (hw _ (List.mem_of_getElem? (i := 31) rfl))) (mvT hZ (hw _ (List.mem_of_getElem? (i := 32) rfl))) (notFace_of_selects (args := #[]) (mvT hZ (hw _ (List.mem_of_getElem? (i := 34) rfl)))) (mvT hZ (hw _ (List.mem_of_getElem? (i := 34) rfl))) (mvT hZ (hw _ (List.mem_of_getElem? (i := 33) rfl))) (by decide) (backOf (W := 0) (rm_cadd l Z a0 hw [] b1 qa (0 : Int64) (0 : Int32) (0 : Int64) T10.heap n0 Z11 Fq10_0 Fq10_1 Fq10_2 Fq10_3 Fq10_4 ge2) hZ (hw _ (List.mem_of_getElem? (i := 35) rfl)) (hw _ (List.mem_of_getElem? (i := 3) rfl)) (by decide) (by decide)) q43a q43c (g := (mkF m 80 #[.val (.long qa), .second, .val (.long qb), .second, .val (.long qc), .second, .val (.int pm), .val (.int v7), .val (.long (0 : Int64)), .second, .val (.long qa), .second, .val (.long v18), .second, .val (.long v26), .second, .val (.ref b1), .val (.int (1 : Int32))] [(.long qa), (.ref b1)])) rfl (by rw [hml]; rfl) (Steps.refl _) (argsL := [(.long qa)]) (rest := []) (lenOf pd_5 rfl) rfl (by show 2 * 0 + _ ≤ _; exact Nat.le_of_eq rfl) (hb hby at_80) (fun _ _ => ⟨rfl, e42, (by decide : 1 + 0 ≤ _), (by decide : 4 + 0 ≤ _)⟩)
    dsimp only [Pt.U, Pt.locs, Pt.cells, Pt.slots] at X43 l43 y43 z43 st43 hQ43
    subst l43 y43 z43
    obtain ⟨rfl, N43q, K43q, Fq43_0, Fq43_1, Fq43_2, Fq43_3, Fq43_4⟩ := hQ43
    have N43 := Fr.app N42 N43q
    refine Go.st (fun _ k => st43.trans k) ?_
    have Z44 : n0 ≤ T43.heap.size := Nat.le_trans Z11 K43q.1
    have K45 : Keep h0 T43.heap [] := K12.trans K43q (fun z hz => (List.mem_cons.mp hz).elim (fun q => by rw [q]; exact Or.inr sz3) (fun hz => absurd hz List.not_mem_nil))
    have F46 : Exa Z T43.heap b1 "com/example/rivulet/rivulet/Counter" := Fq10_0.keep K43q
    show Go p.tables e below _ (T43.setTop (mkF m 83 #[.val (.long qa), .second, .val (.long qb), .second, .val (.long qc), .second, .val (.int pm), .val (.int v7), .val (.long (0 : Int64)), .second, .val (.long qa), .second, .val (.long v18), .second, .val (.long v26), .second, .val (.ref b1), .val (.int (1 : Int32))] []))
    refine Go.st (fun _ k => XS.iload X43.here hx rfl (hb hby at_83) rfl k) ?_
    show Go p.tables e below _ (T43.setTop (mkF m 85 #[.val (.long qa), .second, .val (.long qb), .second, .val (.long qc), .second, .val (.int pm), .val (.int v7), .val (.long (0 : Int64)), .second, .val (.long qa), .second, .val (.long v18), .second, .val (.long v26), .second, .val (.ref b1), .val (.int (1 : Int32))] [(.int v7)]))
    refine Go.st (fun _ k => XS.iconst X43.here hx rfl (hb hby at_85) k) ?_
    show Go p.tables e below _ (T43.setTop (mkF m 86 #[.val (.long qa), .second, .val (.long qb), .second, .val (.long qc), .second, .val (.int pm), .val (.int v7), .val (.long (0 : Int64)), .second, .val (.long qa), .second, .val (.long v18), .second, .val (.long v26), .second, .val (.ref b1), .val (.int (1 : Int32))] [(.int (1 : Int32)), (.int v7)]))
    by_cases hc86 : v7 = (1 : Int32)
    · skip
      have lt_132 : (1 : Int32).toInt = 1 := by decide
      have hi86 : (v7).toInt = ((1 : Int32)).toInt := Int32.toInt_inj.symm.mp hc86
      refine Go.st (fun _ k => XS.icmpNo X43.here hx rfl (hb hby at_86) rfl (Jvm.Free.XT.ii_ne_f hc86) k) ?_
      show Go p.tables e below _ (T43.setTop (mkF m 89 #[.val (.long qa), .second, .val (.long qb), .second, .val (.long qc), .second, .val (.int pm), .val (.int v7), .val (.long (0 : Int64)), .second, .val (.long qa), .second, .val (.long v18), .second, .val (.long v26), .second, .val (.ref b1), .val (.int (1 : Int32))] []))
      refine Go.st (fun _ k => XS.aload X43.here hx rfl (hb hby at_89) rfl rfl k) ?_
      show Go p.tables e below _ (T43.setTop (mkF m 91 #[.val (.long qa), .second, .val (.long qb), .second, .val (.long qc), .second, .val (.int pm), .val (.int v7), .val (.long (0 : Int64)), .second, .val (.long qa), .second, .val (.long v18), .second, .val (.long v26), .second, .val (.ref b1), .val (.int (1 : Int32))] [(.ref b1)]))
      obtain ⟨cq47, kq47, q47a, q47b, q47c⟩ := isOf hZ (rfl : T43.heap = T43.heap) Fq43_0
      obtain ⟨_, _, ⟨T47, L47, k47, n47⟩, -, X47, ⟨Lc47, hQ47, l47, y47, z47⟩, st47⟩ := X43.virtualBack hx (y := (⟨"com/example/rivulet/rivulet/Counter", "loaded", "()V"⟩ : MethodName)) (z := (⟨"com/example/rivulet/rivulet/Counter", "loaded", "()V"⟩ : MethodName)) hown (mvT hZ (hw _ (List.mem_of_getElem? (i := 36) rfl))) (mvT hZ (hw _ (List.mem_of_getElem? (i := 37) rfl))) (notFace_of_selects (args := #[]) (mvT hZ (hw _ (List.mem_of_getElem? (i := 39) rfl)))) (mvT hZ (hw _ (List.mem_of_getElem? (i := 39) rfl))) (mvT hZ (hw _ (List.mem_of_getElem? (i := 38) rfl))) (by decide) (backOf (W := 0) (rm_loaded l Z a0 hw [] b1 ((0 : Int64) + qa) (0 : Int32) (0 : Int64) T43.heap n0 Z44 Fq43_0 Fq43_1 Fq43_2 Fq43_3 Fq43_4 ge2) hZ (hw _ (List.mem_of_getElem? (i := 40) rfl)) (hw _ (List.mem_of_getElem? (i := 3) rfl)) (by decide) (by decide)) q47a q47c (g := (mkF m 91 #[.val (.long qa), .second, .val (.long qb), .second, .val (.long qc), .second, .val (.int pm), .val (.int v7), .val (.long (0 : Int64)), .second, .val (.long qa), .second, .val (.long v18), .second, .val (.long v26), .second, .val (.ref b1), .val (.int (1 : Int32))] [(.ref b1)])) rfl (by rw [hml]; rfl) (Steps.refl _) (argsL := []) (rest := []) (lenOf pd_2 rfl) rfl (by show 2 * 0 + _ ≤ _; exact Nat.le_of_eq rfl) (hb hby at_91) (fun _ _ => ⟨rfl, (rfl : T43.heap = T43.heap), (by decide : 1 + 0 ≤ _), (by decide : 4 + 0 ≤ _)⟩)
      dsimp only [Pt.U, Pt.locs, Pt.cells, Pt.slots] at X47 l47 y47 z47 st47 hQ47
      subst l47 y47 z47
      obtain ⟨rfl, N47q, K47q, Fq47_0, Fq47_1, Fq47_2, Fq47_3, Fq47_4⟩ := hQ47
      have N47 := Fr.app N43 N47q
      refine Go.st (fun _ k => st47.trans k) ?_
      have Z48 : n0 ≤ T47.heap.size := Nat.le_trans Z44 K47q.1
      have K49 : Keep h0 T47.heap [] := K45.trans K47q (fun z hz => (List.mem_cons.mp hz).elim (fun q => by rw [q]; exact Or.inr sz3) (fun hz => absurd hz List.not_mem_nil))
      have F50 : Exa Z T47.heap b1 "com/example/rivulet/rivulet/Counter" := Fq43_0.keep K47q
      show Go p.tables e below _ (T47.setTop (mkF m 94 #[.val (.long qa), .second, .val (.long qb), .second, .val (.long qc), .second, .val (.int pm), .val (.int v7), .val (.long (0 : Int64)), .second, .val (.long qa), .second, .val (.long v18), .second, .val (.long v26), .second, .val (.ref b1), .val (.int (1 : Int32))] []))
      refine Go.st (fun _ k => XS.iload X47.here hx rfl (hb hby at_94) rfl k) ?_
      show Go p.tables e below _ (T47.setTop (mkF m 96 #[.val (.long qa), .second, .val (.long qb), .second, .val (.long qc), .second, .val (.int pm), .val (.int v7), .val (.long (0 : Int64)), .second, .val (.long qa), .second, .val (.long v18), .second, .val (.long v26), .second, .val (.ref b1), .val (.int (1 : Int32))] [(.int (1 : Int32))]))
      have hl51 : ¬ ((1 : Int32) = (0 : Int32)) := by decide
      refine Go.st (fun _ k => XS.ifNo X47.here hx rfl (hb hby at_96) rfl (Jvm.Free.XT.i0_eq_f hl51) k) ?_
      show Go p.tables e below _ (T47.setTop (mkF m 99 #[.val (.long qa), .second, .val (.long qb), .second, .val (.long qc), .second, .val (.int pm), .val (.int v7), .val (.long (0 : Int64)), .second, .val (.long qa), .second, .val (.long v18), .second, .val (.long v26), .second, .val (.ref b1), .val (.int (1 : Int32))] []))
      refine Go.st (fun _ k => XS.aload X47.here hx rfl (hb hby at_99) rfl rfl k) ?_
      show Go p.tables e below _ (T47.setTop (mkF m 101 #[.val (.long qa), .second, .val (.long qb), .second, .val (.long qc), .second, .val (.int pm), .val (.int v7), .val (.long (0 : Int64)), .second, .val (.long qa), .second, .val (.long v18), .second, .val (.long v26), .second, .val (.ref b1), .val (.int (1 : Int32))] [(.ref b1)]))
      obtain ⟨cq52, kq52, q52a, q52b, q52c⟩ := isOf hZ (rfl : T47.heap = T47.heap) Fq47_0
      obtain ⟨_, _, ⟨T52, L52, k52, n52⟩, -, X52, ⟨Lc52, hQ52, l52, y52, z52⟩, st52⟩ := X47.virtualBack hx (y := (⟨"com/example/rivulet/rivulet/Counter", "load", "()J"⟩ : MethodName)) (z := (⟨"com/example/rivulet/rivulet/Counter", "load", "()J"⟩ : MethodName)) hown (mvT hZ (hw _ (List.mem_of_getElem? (i := 15) rfl))) (mvT hZ (hw _ (List.mem_of_getElem? (i := 16) rfl))) (notFace_of_selects (args := #[]) (mvT hZ (hw _ (List.mem_of_getElem? (i := 18) rfl)))) (mvT hZ (hw _ (List.mem_of_getElem? (i := 18) rfl))) (mvT hZ (hw _ (List.mem_of_getElem? (i := 17) rfl))) (by decide) (backOf (W := 0) (rm_load l Z a0 hw [] b1 ((0 : Int64) + qa) (1 : Int32) ((0 : Int64) + qa) T47.heap n0 Z48 Fq47_1 Fq47_2 Fq47_3) hZ (hw _ (List.mem_of_getElem? (i := 19) rfl)) (hw _ (List.mem_of_getElem? (i := 3) rfl)) (by decide) (by decide)) q52a q52c (g := (mkF m 101 #[.val (.long qa), .second, .val (.long qb), .second, .val (.long qc), .second, .val (.int pm), .val (.int v7), .val (.long (0 : Int64)), .second, .val (.long qa), .second, .val (.long v18), .second, .val (.long v26), .second, .val (.ref b1), .val (.int (1 : Int32))] [(.ref b1)])) rfl (by rw [hml]; rfl) (Steps.refl _) (argsL := []) (rest := []) (lenOf pd_3 rfl) rfl (by show 2 * 0 + _ ≤ _; exact Nat.le_of_eq rfl) (hb hby at_101) (fun _ _ => ⟨rfl, (rfl : T47.heap = T47.heap), (by decide : 1 + 0 ≤ _), (by decide : 4 + 0 ≤ _)⟩)
      dsimp only [Pt.U, Pt.locs, Pt.cells, Pt.slots] at X52 l52 y52 z52 st52 hQ52
      subst l52 y52 z52
      obtain ⟨rfl, N52q, e52⟩ := hQ52
      have N52 := Fr.app N47 N52q
      refine Go.st (fun _ k => st52.trans k) ?_
      show Go p.tables e below _ (T52.setTop (mkF m 104 #[.val (.long qa), .second, .val (.long qb), .second, .val (.long qc), .second, .val (.int pm), .val (.int v7), .val (.long (0 : Int64)), .second, .val (.long qa), .second, .val (.long v18), .second, .val (.long v26), .second, .val (.ref b1), .val (.int (1 : Int32))] [(.long (ldF (1 : Int32) ((0 : Int64) + qa) ((0 : Int64) + qa)))]))
      refine Go.st (fun _ k => XS.iconst X52.here hx rfl (hb hby at_104) k) ?_
      show Go p.tables e below _ (T52.setTop (mkF m 105 #[.val (.long qa), .second, .val (.long qb), .second, .val (.long qc), .second, .val (.int pm), .val (.int v7), .val (.long (0 : Int64)), .second, .val (.long qa), .second, .val (.long v18), .second, .val (.long v26), .second, .val (.ref b1), .val (.int (1 : Int32))] [(.int (1 : Int32)), (.long (ldF (1 : Int32) ((0 : Int64) + qa) ((0 : Int64) + qa)))]))
      refine Go.st (fun _ k => XS.iload X52.here hx rfl (hb hby at_105) rfl k) ?_
      show Go p.tables e below _ (T52.setTop (mkF m 107 #[.val (.long qa), .second, .val (.long qb), .second, .val (.long qc), .second, .val (.int pm), .val (.int v7), .val (.long (0 : Int64)), .second, .val (.long qa), .second, .val (.long v18), .second, .val (.long v26), .second, .val (.ref b1), .val (.int (1 : Int32))] [(.int v7), (.int (1 : Int32)), (.long (ldF (1 : Int32) ((0 : Int64) + qa) ((0 : Int64) + qa)))]))
      refine Go.st (fun _ k => XS.lload X52.here hx rfl (hb hby at_107) rfl k) ?_
      show Go p.tables e below _ (T52.setTop (mkF m 109 #[.val (.long qa), .second, .val (.long qb), .second, .val (.long qc), .second, .val (.int pm), .val (.int v7), .val (.long (0 : Int64)), .second, .val (.long qa), .second, .val (.long v18), .second, .val (.long v26), .second, .val (.ref b1), .val (.int (1 : Int32))] [(.long (0 : Int64)), (.int v7), (.int (1 : Int32)), (.long (ldF (1 : Int32) ((0 : Int64) + qa) ((0 : Int64) + qa)))]))
      refine Go.st (fun _ k => XS.lload X52.here hx rfl (hb hby at_109) rfl k) ?_
      show Go p.tables e below _ (T52.setTop (mkF m 111 #[.val (.long qa), .second, .val (.long qb), .second, .val (.long qc), .second, .val (.int pm), .val (.int v7), .val (.long (0 : Int64)), .second, .val (.long qa), .second, .val (.long v18), .second, .val (.long v26), .second, .val (.ref b1), .val (.int (1 : Int32))] [(.long qa), (.long (0 : Int64)), (.int v7), (.int (1 : Int32)), (.long (ldF (1 : Int32) ((0 : Int64) + qa) ((0 : Int64) + qa)))]))
      refine Go.st (fun _ k => XS.lload X52.here hx rfl (hb hby at_111) rfl k) ?_
      show Go p.tables e below _ (T52.setTop (mkF m 113 #[.val (.long qa), .second, .val (.long qb), .second, .val (.long qc), .second, .val (.int pm), .val (.int v7), .val (.long (0 : Int64)), .second, .val (.long qa), .second, .val (.long v18), .second, .val (.long v26), .second, .val (.ref b1), .val (.int (1 : Int32))] [(.long v18), (.long qa), (.long (0 : Int64)), (.int v7), (.int (1 : Int32)), (.long (ldF (1 : Int32) ((0 : Int64) + qa) ((0 : Int64) + qa)))]))
      refine Go.st (fun _ k => XS.lload X52.here hx rfl (hb hby at_113) rfl k) ?_
      show Go p.tables e below _ (T52.setTop (mkF m 115 #[.val (.long qa), .second, .val (.long qb), .second, .val (.long qc), .second, .val (.int pm), .val (.int v7), .val (.long (0 : Int64)), .second, .val (.long qa), .second, .val (.long v18), .second, .val (.long v26), .second, .val (.ref b1), .val (.int (1 : Int32))] [(.long v26), (.long v18), (.long qa), (.long (0 : Int64)), (.int v7), (.int (1 : Int32)), (.long (ldF (1 : Int32) ((0 : Int64) + qa) ((0 : Int64) + qa)))]))
      obtain ⟨_, _, ⟨T53, L53, k53, n53⟩, -, X53, ⟨Lc53, hQ53, l53, y53, z53⟩, st53⟩ := Jvm.LawKit.callS X52 hx (y := (⟨"com/example/rivulet/rivulet/CounterLoadPinLaw", "expected", "(IIJJJJ)J"⟩ : MethodName)) hown (mvT hZ (hw _ (List.mem_of_getElem? (i := 24) rfl))) (mvT hZ (hw _ (List.mem_of_getElem? (i := 25) rfl))) (mvT hZ (hw _ (List.mem_of_getElem? (i := 26) rfl))) (mvT hZ (hw _ (List.mem_of_getElem? (i := 27) rfl))) (by decide) (backOf (W := 2) (rm_expe l Z a0 hw [] (1 : Int32) v7 (0 : Int64) qa v18 v26 T47.heap n0 Z48 ) hZ (hw _ (List.mem_of_getElem? (i := 27) rfl)) (hw _ (List.mem_of_getElem? (i := 26) rfl)) (by decide) (by decide)) (g := (mkF m 115 #[.val (.long qa), .second, .val (.long qb), .second, .val (.long qc), .second, .val (.int pm), .val (.int v7), .val (.long (0 : Int64)), .second, .val (.long qa), .second, .val (.long v18), .second, .val (.long v26), .second, .val (.ref b1), .val (.int (1 : Int32))] [(.long v26), (.long v18), (.long qa), (.long (0 : Int64)), (.int v7), (.int (1 : Int32)), (.long (ldF (1 : Int32) ((0 : Int64) + qa) ((0 : Int64) + qa)))])) rfl (by rw [hml]; rfl) (argsL := [(.int (1 : Int32)), (.int v7), (.long (0 : Int64)), (.long qa), (.long v18), (.long v26)]) (rest := [(.long (ldF (1 : Int32) ((0 : Int64) + qa) ((0 : Int64) + qa)))]) (lenOf pd_4 rfl) rfl (by show 2 * 0 + _ ≤ _; exact Nat.le_of_eq rfl) (hb hby at_115) (fun _ _ => ⟨rfl, e52, (by decide : 1 + 0 ≤ _), (by decide : 4 + 0 ≤ _)⟩)
      dsimp only [Pt.U, Pt.locs, Pt.cells, Pt.slots] at X53 l53 y53 z53 st53 hQ53
      subst l53 y53 z53
      obtain ⟨rfl, N53q, e53⟩ := hQ53
      have N53 := Fr.app N52 N53q
      refine Go.st st53 ?_
      show Go p.tables e below _ (T53.setTop (mkF m 118 #[.val (.long qa), .second, .val (.long qb), .second, .val (.long qc), .second, .val (.int pm), .val (.int v7), .val (.long (0 : Int64)), .second, .val (.long qa), .second, .val (.long v18), .second, .val (.long v26), .second, .val (.ref b1), .val (.int (1 : Int32))] [(.long (exF (1 : Int32) v7 (0 : Int64) qa v18 v26)), (.long (ldF (1 : Int32) ((0 : Int64) + qa) ((0 : Int64) + qa)))]))
      refine Go.st (fun _ k => Jvm.Free.XT.lcmp X53.here hx rfl (hb hby at_118) rfl k) ?_
      show Go p.tables e below _ (T53.setTop (mkF m 119 #[.val (.long qa), .second, .val (.long qb), .second, .val (.long qc), .second, .val (.int pm), .val (.int v7), .val (.long (0 : Int64)), .second, .val (.long qa), .second, .val (.long v18), .second, .val (.long v26), .second, .val (.ref b1), .val (.int (1 : Int32))] [(.int (Jvm.Free.XT.cmpL (ldF (1 : Int32) ((0 : Int64) + qa) ((0 : Int64) + qa)) (exF (1 : Int32) v7 (0 : Int64) qa v18 v26)))]))
      have hc119 : (ldF (1 : Int32) ((0 : Int64) + qa) ((0 : Int64) + qa)) = (exF (1 : Int32) v7 (0 : Int64) qa v18 v26) := (by simp [ldF, exF, prF, hc86, ← hqv18, ← hqv26])
      have hi119 : ((ldF (1 : Int32) ((0 : Int64) + qa) ((0 : Int64) + qa))).toInt = ((exF (1 : Int32) v7 (0 : Int64) qa v18 v26)).toInt := Int64.toInt_inj.symm.mp hc119
      refine Go.st (fun _ k => XS.ifNo X53.here hx rfl (hb hby at_119) rfl (Jvm.Free.XT.ll_ne_f hc119) k) ?_
      show Go p.tables e below _ (T53.setTop (mkF m 122 #[.val (.long qa), .second, .val (.long qb), .second, .val (.long qc), .second, .val (.int pm), .val (.int v7), .val (.long (0 : Int64)), .second, .val (.long qa), .second, .val (.long v18), .second, .val (.long v26), .second, .val (.ref b1), .val (.int (1 : Int32))] []))
      refine Go.st (fun _ k => XS.iconst X53.here hx rfl (hb hby at_122) k) ?_
      show Go p.tables e below _ (T53.setTop (mkF m 123 #[.val (.long qa), .second, .val (.long qb), .second, .val (.long qc), .second, .val (.int pm), .val (.int v7), .val (.long (0 : Int64)), .second, .val (.long qa), .second, .val (.long v18), .second, .val (.long v26), .second, .val (.ref b1), .val (.int (1 : Int32))] [(.int (1 : Int32))]))
      refine Go.st (fun _ k => XS.goto X53.here hx rfl (pc0 := 123) (pc' := 127) rfl (hb hby at_123) (by decide) (by decide) k) ?_
      show Go p.tables e below _ (T53.setTop (mkF m 127 #[.val (.long qa), .second, .val (.long qb), .second, .val (.long qc), .second, .val (.int pm), .val (.int v7), .val (.long (0 : Int64)), .second, .val (.long qa), .second, .val (.long v18), .second, .val (.long v26), .second, .val (.ref b1), .val (.int (1 : Int32))] [(.int (1 : Int32))]))
      refine Go.st (fun _ k => XS.istore X53.here hx rfl (hb hby at_127) rfl (l' := #[.val (.long qa), .second, .val (.long qb), .second, .val (.long qc), .second, .val (.int pm), .val (.int v7), .val (.long (0 : Int64)), .second, .val (.long qa), .second, .val (.long v18), .second, .val (.long v26), .second, .val (.ref b1), .val (.int (1 : Int32))]) rfl k) ?_
      show Go p.tables e below _ (T53.setTop (mkF m 129 #[.val (.long qa), .second, .val (.long qb), .second, .val (.long qc), .second, .val (.int pm), .val (.int v7), .val (.long (0 : Int64)), .second, .val (.long qa), .second, .val (.long v18), .second, .val (.long v26), .second, .val (.ref b1), .val (.int (1 : Int32))] []))
      show Go p.tables e below _ (T53.setTop (mkF m 129 #[.val (.long qa), .second, .val (.long qb), .second, .val (.long qc), .second, .val (.int pm), .val (.int v7), .val (.long (0 : Int64)), .second, .val (.long qa), .second, .val (.long v18), .second, .val (.long v26), .second, .val (.ref b1), .val (.int (1 : Int32))] []))
      refine Go.st (fun _ k => XS.aload X53.here hx rfl (hb hby at_129) rfl rfl k) ?_
      show Go p.tables e below _ (T53.setTop (mkF m 131 #[.val (.long qa), .second, .val (.long qb), .second, .val (.long qc), .second, .val (.int pm), .val (.int v7), .val (.long (0 : Int64)), .second, .val (.long qa), .second, .val (.long v18), .second, .val (.long v26), .second, .val (.ref b1), .val (.int (1 : Int32))] [(.ref b1)]))
      refine Go.st (fun _ k => XS.lloadN X53.here hx rfl (hb hby at_131) rfl k) ?_
      show Go p.tables e below _ (T53.setTop (mkF m 132 #[.val (.long qa), .second, .val (.long qb), .second, .val (.long qc), .second, .val (.int pm), .val (.int v7), .val (.long (0 : Int64)), .second, .val (.long qa), .second, .val (.long v18), .second, .val (.long v26), .second, .val (.ref b1), .val (.int (1 : Int32))] [(.long qb), (.ref b1)]))
      obtain ⟨cq54, kq54, q54a, q54b, q54c⟩ := isOf hZ e53 Fq47_0
      obtain ⟨_, _, ⟨T54, L54, k54, n54⟩, -, X54, ⟨Lc54, hQ54, l54, y54, z54⟩, st54⟩ := X53.virtualBack hx (y := (⟨"com/example/rivulet/rivulet/Counter", "add", "(J)V"⟩ : MethodName)) (z := (⟨"com/example/rivulet/rivulet/Counter", "add", "(J)V"⟩ : MethodName)) hown (mvT hZ (hw _ (List.mem_of_getElem? (i := 31) rfl))) (mvT hZ (hw _ (List.mem_of_getElem? (i := 32) rfl))) (notFace_of_selects (args := #[]) (mvT hZ (hw _ (List.mem_of_getElem? (i := 34) rfl)))) (mvT hZ (hw _ (List.mem_of_getElem? (i := 34) rfl))) (mvT hZ (hw _ (List.mem_of_getElem? (i := 33) rfl))) (by decide) (backOf (W := 0) (rm_cadd l Z a0 hw [] b1 qb ((0 : Int64) + qa) (1 : Int32) ((0 : Int64) + qa) T47.heap n0 Z48 Fq47_0 Fq47_1 Fq47_2 Fq47_3 Fq47_4 ge2) hZ (hw _ (List.mem_of_getElem? (i := 35) rfl)) (hw _ (List.mem_of_getElem? (i := 3) rfl)) (by decide) (by decide)) q54a q54c (g := (mkF m 132 #[.val (.long qa), .second, .val (.long qb), .second, .val (.long qc), .second, .val (.int pm), .val (.int v7), .val (.long (0 : Int64)), .second, .val (.long qa), .second, .val (.long v18), .second, .val (.long v26), .second, .val (.ref b1), .val (.int (1 : Int32))] [(.long qb), (.ref b1)])) rfl (by rw [hml]; rfl) (Steps.refl _) (argsL := [(.long qb)]) (rest := []) (lenOf pd_5 rfl) rfl (by show 2 * 0 + _ ≤ _; exact Nat.le_of_eq rfl) (hb hby at_132) (fun _ _ => ⟨rfl, e53, (by decide : 1 + 0 ≤ _), (by decide : 4 + 0 ≤ _)⟩)
      dsimp only [Pt.U, Pt.locs, Pt.cells, Pt.slots] at X54 l54 y54 z54 st54 hQ54
      subst l54 y54 z54
      obtain ⟨rfl, N54q, K54q, Fq54_0, Fq54_1, Fq54_2, Fq54_3, Fq54_4⟩ := hQ54
      have N54 := Fr.app N53 N54q
      refine Go.st (fun _ k => st54.trans k) ?_
      have Z55 : n0 ≤ T54.heap.size := Nat.le_trans Z48 K54q.1
      have K56 : Keep h0 T54.heap [] := K49.trans K54q (fun z hz => (List.mem_cons.mp hz).elim (fun q => by rw [q]; exact Or.inr sz3) (fun hz => absurd hz List.not_mem_nil))
      have F57 : Exa Z T54.heap b1 "com/example/rivulet/rivulet/Counter" := Fq47_0.keep K54q
      show Go p.tables e below _ (T54.setTop (mkF m 135 #[.val (.long qa), .second, .val (.long qb), .second, .val (.long qc), .second, .val (.int pm), .val (.int v7), .val (.long (0 : Int64)), .second, .val (.long qa), .second, .val (.long v18), .second, .val (.long v26), .second, .val (.ref b1), .val (.int (1 : Int32))] []))
      refine Go.st (fun _ k => XS.iload X54.here hx rfl (hb hby at_135) rfl k) ?_
      show Go p.tables e below _ (T54.setTop (mkF m 137 #[.val (.long qa), .second, .val (.long qb), .second, .val (.long qc), .second, .val (.int pm), .val (.int v7), .val (.long (0 : Int64)), .second, .val (.long qa), .second, .val (.long v18), .second, .val (.long v26), .second, .val (.ref b1), .val (.int (1 : Int32))] [(.int v7)]))
      refine Go.st (fun _ k => XS.iconst X54.here hx rfl (hb hby at_137) k) ?_
      show Go p.tables e below _ (T54.setTop (mkF m 138 #[.val (.long qa), .second, .val (.long qb), .second, .val (.long qc), .second, .val (.int pm), .val (.int v7), .val (.long (0 : Int64)), .second, .val (.long qa), .second, .val (.long v18), .second, .val (.long v26), .second, .val (.ref b1), .val (.int (1 : Int32))] [(.int (2 : Int32)), (.int v7)]))
      have hc138 : ¬ (v7 = (2 : Int32)) := (by rw [hc86]; decide)
      have lt_232 : (2 : Int32).toInt = 2 := by decide
      have hi138 : ¬ ((v7).toInt = ((2 : Int32)).toInt) := fun z => hc138 (Int32.toInt_inj.symm.mpr z)
      refine Go.st (fun _ k => XS.icmpYes X54.here hx rfl (pc0 := 138) (pc' := 146) rfl (hb hby at_138) rfl (Jvm.Free.XT.ii_ne_t hc138) (by decide) (by decide) k) ?_
      show Go p.tables e below _ (T54.setTop (mkF m 146 #[.val (.long qa), .second, .val (.long qb), .second, .val (.long qc), .second, .val (.int pm), .val (.int v7), .val (.long (0 : Int64)), .second, .val (.long qa), .second, .val (.long v18), .second, .val (.long v26), .second, .val (.ref b1), .val (.int (1 : Int32))] []))
      refine Go.st (fun _ k => XS.iload X54.here hx rfl (hb hby at_146) rfl k) ?_
      show Go p.tables e below _ (T54.setTop (mkF m 148 #[.val (.long qa), .second, .val (.long qb), .second, .val (.long qc), .second, .val (.int pm), .val (.int v7), .val (.long (0 : Int64)), .second, .val (.long qa), .second, .val (.long v18), .second, .val (.long v26), .second, .val (.ref b1), .val (.int (1 : Int32))] [(.int (1 : Int32))]))
      have hl58 : ¬ ((1 : Int32) = (0 : Int32)) := by decide
      refine Go.st (fun _ k => XS.ifNo X54.here hx rfl (hb hby at_148) rfl (Jvm.Free.XT.i0_eq_f hl58) k) ?_
      show Go p.tables e below _ (T54.setTop (mkF m 151 #[.val (.long qa), .second, .val (.long qb), .second, .val (.long qc), .second, .val (.int pm), .val (.int v7), .val (.long (0 : Int64)), .second, .val (.long qa), .second, .val (.long v18), .second, .val (.long v26), .second, .val (.ref b1), .val (.int (1 : Int32))] []))
      refine Go.st (fun _ k => XS.aload X54.here hx rfl (hb hby at_151) rfl rfl k) ?_
      show Go p.tables e below _ (T54.setTop (mkF m 153 #[.val (.long qa), .second, .val (.long qb), .second, .val (.long qc), .second, .val (.int pm), .val (.int v7), .val (.long (0 : Int64)), .second, .val (.long qa), .second, .val (.long v18), .second, .val (.long v26), .second, .val (.ref b1), .val (.int (1 : Int32))] [(.ref b1)]))
      obtain ⟨cq59, kq59, q59a, q59b, q59c⟩ := isOf hZ (rfl : T54.heap = T54.heap) Fq54_0
      obtain ⟨_, _, ⟨T59, L59, k59, n59⟩, -, X59, ⟨Lc59, hQ59, l59, y59, z59⟩, st59⟩ := X54.virtualBack hx (y := (⟨"com/example/rivulet/rivulet/Counter", "load", "()J"⟩ : MethodName)) (z := (⟨"com/example/rivulet/rivulet/Counter", "load", "()J"⟩ : MethodName)) hown (mvT hZ (hw _ (List.mem_of_getElem? (i := 15) rfl))) (mvT hZ (hw _ (List.mem_of_getElem? (i := 16) rfl))) (notFace_of_selects (args := #[]) (mvT hZ (hw _ (List.mem_of_getElem? (i := 18) rfl)))) (mvT hZ (hw _ (List.mem_of_getElem? (i := 18) rfl))) (mvT hZ (hw _ (List.mem_of_getElem? (i := 17) rfl))) (by decide) (backOf (W := 0) (rm_load l Z a0 hw [] b1 (((0 : Int64) + qa) + qb) (1 : Int32) ((0 : Int64) + qa) T54.heap n0 Z55 Fq54_1 Fq54_2 Fq54_3) hZ (hw _ (List.mem_of_getElem? (i := 19) rfl)) (hw _ (List.mem_of_getElem? (i := 3) rfl)) (by decide) (by decide)) q59a q59c (g := (mkF m 153 #[.val (.long qa), .second, .val (.long qb), .second, .val (.long qc), .second, .val (.int pm), .val (.int v7), .val (.long (0 : Int64)), .second, .val (.long qa), .second, .val (.long v18), .second, .val (.long v26), .second, .val (.ref b1), .val (.int (1 : Int32))] [(.ref b1)])) rfl (by rw [hml]; rfl) (Steps.refl _) (argsL := []) (rest := []) (lenOf pd_3 rfl) rfl (by show 2 * 0 + _ ≤ _; exact Nat.le_of_eq rfl) (hb hby at_153) (fun _ _ => ⟨rfl, (rfl : T54.heap = T54.heap), (by decide : 1 + 0 ≤ _), (by decide : 4 + 0 ≤ _)⟩)
      dsimp only [Pt.U, Pt.locs, Pt.cells, Pt.slots] at X59 l59 y59 z59 st59 hQ59
      subst l59 y59 z59
      obtain ⟨rfl, N59q, e59⟩ := hQ59
      have N59 := Fr.app N54 N59q
      refine Go.st (fun _ k => st59.trans k) ?_
      show Go p.tables e below _ (T59.setTop (mkF m 156 #[.val (.long qa), .second, .val (.long qb), .second, .val (.long qc), .second, .val (.int pm), .val (.int v7), .val (.long (0 : Int64)), .second, .val (.long qa), .second, .val (.long v18), .second, .val (.long v26), .second, .val (.ref b1), .val (.int (1 : Int32))] [(.long (ldF (1 : Int32) ((0 : Int64) + qa) (((0 : Int64) + qa) + qb)))]))
      refine Go.st (fun _ k => XS.iconst X59.here hx rfl (hb hby at_156) k) ?_
      show Go p.tables e below _ (T59.setTop (mkF m 157 #[.val (.long qa), .second, .val (.long qb), .second, .val (.long qc), .second, .val (.int pm), .val (.int v7), .val (.long (0 : Int64)), .second, .val (.long qa), .second, .val (.long v18), .second, .val (.long v26), .second, .val (.ref b1), .val (.int (1 : Int32))] [(.int (2 : Int32)), (.long (ldF (1 : Int32) ((0 : Int64) + qa) (((0 : Int64) + qa) + qb)))]))
      refine Go.st (fun _ k => XS.iload X59.here hx rfl (hb hby at_157) rfl k) ?_
      show Go p.tables e below _ (T59.setTop (mkF m 159 #[.val (.long qa), .second, .val (.long qb), .second, .val (.long qc), .second, .val (.int pm), .val (.int v7), .val (.long (0 : Int64)), .second, .val (.long qa), .second, .val (.long v18), .second, .val (.long v26), .second, .val (.ref b1), .val (.int (1 : Int32))] [(.int v7), (.int (2 : Int32)), (.long (ldF (1 : Int32) ((0 : Int64) + qa) (((0 : Int64) + qa) + qb)))]))
      refine Go.st (fun _ k => XS.lload X59.here hx rfl (hb hby at_159) rfl k) ?_
      show Go p.tables e below _ (T59.setTop (mkF m 161 #[.val (.long qa), .second, .val (.long qb), .second, .val (.long qc), .second, .val (.int pm), .val (.int v7), .val (.long (0 : Int64)), .second, .val (.long qa), .second, .val (.long v18), .second, .val (.long v26), .second, .val (.ref b1), .val (.int (1 : Int32))] [(.long (0 : Int64)), (.int v7), (.int (2 : Int32)), (.long (ldF (1 : Int32) ((0 : Int64) + qa) (((0 : Int64) + qa) + qb)))]))
      refine Go.st (fun _ k => XS.lload X59.here hx rfl (hb hby at_161) rfl k) ?_
      show Go p.tables e below _ (T59.setTop (mkF m 163 #[.val (.long qa), .second, .val (.long qb), .second, .val (.long qc), .second, .val (.int pm), .val (.int v7), .val (.long (0 : Int64)), .second, .val (.long qa), .second, .val (.long v18), .second, .val (.long v26), .second, .val (.ref b1), .val (.int (1 : Int32))] [(.long qa), (.long (0 : Int64)), (.int v7), (.int (2 : Int32)), (.long (ldF (1 : Int32) ((0 : Int64) + qa) (((0 : Int64) + qa) + qb)))]))
      refine Go.st (fun _ k => XS.lload X59.here hx rfl (hb hby at_163) rfl k) ?_
      show Go p.tables e below _ (T59.setTop (mkF m 165 #[.val (.long qa), .second, .val (.long qb), .second, .val (.long qc), .second, .val (.int pm), .val (.int v7), .val (.long (0 : Int64)), .second, .val (.long qa), .second, .val (.long v18), .second, .val (.long v26), .second, .val (.ref b1), .val (.int (1 : Int32))] [(.long v18), (.long qa), (.long (0 : Int64)), (.int v7), (.int (2 : Int32)), (.long (ldF (1 : Int32) ((0 : Int64) + qa) (((0 : Int64) + qa) + qb)))]))
      refine Go.st (fun _ k => XS.lload X59.here hx rfl (hb hby at_165) rfl k) ?_
      show Go p.tables e below _ (T59.setTop (mkF m 167 #[.val (.long qa), .second, .val (.long qb), .second, .val (.long qc), .second, .val (.int pm), .val (.int v7), .val (.long (0 : Int64)), .second, .val (.long qa), .second, .val (.long v18), .second, .val (.long v26), .second, .val (.ref b1), .val (.int (1 : Int32))] [(.long v26), (.long v18), (.long qa), (.long (0 : Int64)), (.int v7), (.int (2 : Int32)), (.long (ldF (1 : Int32) ((0 : Int64) + qa) (((0 : Int64) + qa) + qb)))]))
      obtain ⟨_, _, ⟨T60, L60, k60, n60⟩, -, X60, ⟨Lc60, hQ60, l60, y60, z60⟩, st60⟩ := Jvm.LawKit.callS X59 hx (y := (⟨"com/example/rivulet/rivulet/CounterLoadPinLaw", "expected", "(IIJJJJ)J"⟩ : MethodName)) hown (mvT hZ (hw _ (List.mem_of_getElem? (i := 24) rfl))) (mvT hZ (hw _ (List.mem_of_getElem? (i := 25) rfl))) (mvT hZ (hw _ (List.mem_of_getElem? (i := 26) rfl))) (mvT hZ (hw _ (List.mem_of_getElem? (i := 27) rfl))) (by decide) (backOf (W := 2) (rm_expe l Z a0 hw [] (2 : Int32) v7 (0 : Int64) qa v18 v26 T54.heap n0 Z55 ) hZ (hw _ (List.mem_of_getElem? (i := 27) rfl)) (hw _ (List.mem_of_getElem? (i := 26) rfl)) (by decide) (by decide)) (g := (mkF m 167 #[.val (.long qa), .second, .val (.long qb), .second, .val (.long qc), .second, .val (.int pm), .val (.int v7), .val (.long (0 : Int64)), .second, .val (.long qa), .second, .val (.long v18), .second, .val (.long v26), .second, .val (.ref b1), .val (.int (1 : Int32))] [(.long v26), (.long v18), (.long qa), (.long (0 : Int64)), (.int v7), (.int (2 : Int32)), (.long (ldF (1 : Int32) ((0 : Int64) + qa) (((0 : Int64) + qa) + qb)))])) rfl (by rw [hml]; rfl) (argsL := [(.int (2 : Int32)), (.int v7), (.long (0 : Int64)), (.long qa), (.long v18), (.long v26)]) (rest := [(.long (ldF (1 : Int32) ((0 : Int64) + qa) (((0 : Int64) + qa) + qb)))]) (lenOf pd_4 rfl) rfl (by show 2 * 0 + _ ≤ _; exact Nat.le_of_eq rfl) (hb hby at_167) (fun _ _ => ⟨rfl, e59, (by decide : 1 + 0 ≤ _), (by decide : 4 + 0 ≤ _)⟩)
      dsimp only [Pt.U, Pt.locs, Pt.cells, Pt.slots] at X60 l60 y60 z60 st60 hQ60
      subst l60 y60 z60
      obtain ⟨rfl, N60q, e60⟩ := hQ60
      have N60 := Fr.app N59 N60q
      refine Go.st st60 ?_
      show Go p.tables e below _ (T60.setTop (mkF m 170 #[.val (.long qa), .second, .val (.long qb), .second, .val (.long qc), .second, .val (.int pm), .val (.int v7), .val (.long (0 : Int64)), .second, .val (.long qa), .second, .val (.long v18), .second, .val (.long v26), .second, .val (.ref b1), .val (.int (1 : Int32))] [(.long (exF (2 : Int32) v7 (0 : Int64) qa v18 v26)), (.long (ldF (1 : Int32) ((0 : Int64) + qa) (((0 : Int64) + qa) + qb)))]))
      refine Go.st (fun _ k => Jvm.Free.XT.lcmp X60.here hx rfl (hb hby at_170) rfl k) ?_
      show Go p.tables e below _ (T60.setTop (mkF m 171 #[.val (.long qa), .second, .val (.long qb), .second, .val (.long qc), .second, .val (.int pm), .val (.int v7), .val (.long (0 : Int64)), .second, .val (.long qa), .second, .val (.long v18), .second, .val (.long v26), .second, .val (.ref b1), .val (.int (1 : Int32))] [(.int (Jvm.Free.XT.cmpL (ldF (1 : Int32) ((0 : Int64) + qa) (((0 : Int64) + qa) + qb)) (exF (2 : Int32) v7 (0 : Int64) qa v18 v26)))]))
      have hc171 : (ldF (1 : Int32) ((0 : Int64) + qa) (((0 : Int64) + qa) + qb)) = (exF (2 : Int32) v7 (0 : Int64) qa v18 v26) := (by simp [ldF, exF, prF, hc86, ← hqv18, ← hqv26])
      have hi171 : ((ldF (1 : Int32) ((0 : Int64) + qa) (((0 : Int64) + qa) + qb))).toInt = ((exF (2 : Int32) v7 (0 : Int64) qa v18 v26)).toInt := Int64.toInt_inj.symm.mp hc171
      refine Go.st (fun _ k => XS.ifNo X60.here hx rfl (hb hby at_171) rfl (Jvm.Free.XT.ll_ne_f hc171) k) ?_
      show Go p.tables e below _ (T60.setTop (mkF m 174 #[.val (.long qa), .second, .val (.long qb), .second, .val (.long qc), .second, .val (.int pm), .val (.int v7), .val (.long (0 : Int64)), .second, .val (.long qa), .second, .val (.long v18), .second, .val (.long v26), .second, .val (.ref b1), .val (.int (1 : Int32))] []))
      refine Go.st (fun _ k => XS.iconst X60.here hx rfl (hb hby at_174) k) ?_
      show Go p.tables e below _ (T60.setTop (mkF m 175 #[.val (.long qa), .second, .val (.long qb), .second, .val (.long qc), .second, .val (.int pm), .val (.int v7), .val (.long (0 : Int64)), .second, .val (.long qa), .second, .val (.long v18), .second, .val (.long v26), .second, .val (.ref b1), .val (.int (1 : Int32))] [(.int (1 : Int32))]))
      refine Go.st (fun _ k => XS.goto X60.here hx rfl (pc0 := 175) (pc' := 179) rfl (hb hby at_175) (by decide) (by decide) k) ?_
      show Go p.tables e below _ (T60.setTop (mkF m 179 #[.val (.long qa), .second, .val (.long qb), .second, .val (.long qc), .second, .val (.int pm), .val (.int v7), .val (.long (0 : Int64)), .second, .val (.long qa), .second, .val (.long v18), .second, .val (.long v26), .second, .val (.ref b1), .val (.int (1 : Int32))] [(.int (1 : Int32))]))
      refine Go.st (fun _ k => XS.istore X60.here hx rfl (hb hby at_179) rfl (l' := #[.val (.long qa), .second, .val (.long qb), .second, .val (.long qc), .second, .val (.int pm), .val (.int v7), .val (.long (0 : Int64)), .second, .val (.long qa), .second, .val (.long v18), .second, .val (.long v26), .second, .val (.ref b1), .val (.int (1 : Int32))]) rfl k) ?_
      show Go p.tables e below _ (T60.setTop (mkF m 181 #[.val (.long qa), .second, .val (.long qb), .second, .val (.long qc), .second, .val (.int pm), .val (.int v7), .val (.long (0 : Int64)), .second, .val (.long qa), .second, .val (.long v18), .second, .val (.long v26), .second, .val (.ref b1), .val (.int (1 : Int32))] []))
      show Go p.tables e below _ (T60.setTop (mkF m 181 #[.val (.long qa), .second, .val (.long qb), .second, .val (.long qc), .second, .val (.int pm), .val (.int v7), .val (.long (0 : Int64)), .second, .val (.long qa), .second, .val (.long v18), .second, .val (.long v26), .second, .val (.ref b1), .val (.int (1 : Int32))] []))
      refine Go.st (fun _ k => XS.aload X60.here hx rfl (hb hby at_181) rfl rfl k) ?_
      show Go p.tables e below _ (T60.setTop (mkF m 183 #[.val (.long qa), .second, .val (.long qb), .second, .val (.long qc), .second, .val (.int pm), .val (.int v7), .val (.long (0 : Int64)), .second, .val (.long qa), .second, .val (.long v18), .second, .val (.long v26), .second, .val (.ref b1), .val (.int (1 : Int32))] [(.ref b1)]))
      refine Go.st (fun _ k => XS.lload X60.here hx rfl (hb hby at_183) rfl k) ?_
      show Go p.tables e below _ (T60.setTop (mkF m 185 #[.val (.long qa), .second, .val (.long qb), .second, .val (.long qc), .second, .val (.int pm), .val (.int v7), .val (.long (0 : Int64)), .second, .val (.long qa), .second, .val (.long v18), .second, .val (.long v26), .second, .val (.ref b1), .val (.int (1 : Int32))] [(.long qc), (.ref b1)]))
      obtain ⟨cq61, kq61, q61a, q61b, q61c⟩ := isOf hZ e60 Fq54_0
      obtain ⟨_, _, ⟨T61, L61, k61, n61⟩, -, X61, ⟨Lc61, hQ61, l61, y61, z61⟩, st61⟩ := X60.virtualBack hx (y := (⟨"com/example/rivulet/rivulet/Counter", "add", "(J)V"⟩ : MethodName)) (z := (⟨"com/example/rivulet/rivulet/Counter", "add", "(J)V"⟩ : MethodName)) hown (mvT hZ (hw _ (List.mem_of_getElem? (i := 31) rfl))) (mvT hZ (hw _ (List.mem_of_getElem? (i := 32) rfl))) (notFace_of_selects (args := #[]) (mvT hZ (hw _ (List.mem_of_getElem? (i := 34) rfl)))) (mvT hZ (hw _ (List.mem_of_getElem? (i := 34) rfl))) (mvT hZ (hw _ (List.mem_of_getElem? (i := 33) rfl))) (by decide) (backOf (W := 0) (rm_cadd l Z a0 hw [] b1 qc (((0 : Int64) + qa) + qb) (1 : Int32) ((0 : Int64) + qa) T54.heap n0 Z55 Fq54_0 Fq54_1 Fq54_2 Fq54_3 Fq54_4 ge2) hZ (hw _ (List.mem_of_getElem? (i := 35) rfl)) (hw _ (List.mem_of_getElem? (i := 3) rfl)) (by decide) (by decide)) q61a q61c (g := (mkF m 185 #[.val (.long qa), .second, .val (.long qb), .second, .val (.long qc), .second, .val (.int pm), .val (.int v7), .val (.long (0 : Int64)), .second, .val (.long qa), .second, .val (.long v18), .second, .val (.long v26), .second, .val (.ref b1), .val (.int (1 : Int32))] [(.long qc), (.ref b1)])) rfl (by rw [hml]; rfl) (Steps.refl _) (argsL := [(.long qc)]) (rest := []) (lenOf pd_5 rfl) rfl (by show 2 * 0 + _ ≤ _; exact Nat.le_of_eq rfl) (hb hby at_185) (fun _ _ => ⟨rfl, e60, (by decide : 1 + 0 ≤ _), (by decide : 4 + 0 ≤ _)⟩)
      dsimp only [Pt.U, Pt.locs, Pt.cells, Pt.slots] at X61 l61 y61 z61 st61 hQ61
      subst l61 y61 z61
      obtain ⟨rfl, N61q, K61q, Fq61_0, Fq61_1, Fq61_2, Fq61_3, Fq61_4⟩ := hQ61
      have N61 := Fr.app N60 N61q
      refine Go.st (fun _ k => st61.trans k) ?_
      have Z62 : n0 ≤ T61.heap.size := Nat.le_trans Z55 K61q.1
      have K63 : Keep h0 T61.heap [] := K56.trans K61q (fun z hz => (List.mem_cons.mp hz).elim (fun q => by rw [q]; exact Or.inr sz3) (fun hz => absurd hz List.not_mem_nil))
      have F64 : Exa Z T61.heap b1 "com/example/rivulet/rivulet/Counter" := Fq54_0.keep K61q
      show Go p.tables e below _ (T61.setTop (mkF m 188 #[.val (.long qa), .second, .val (.long qb), .second, .val (.long qc), .second, .val (.int pm), .val (.int v7), .val (.long (0 : Int64)), .second, .val (.long qa), .second, .val (.long v18), .second, .val (.long v26), .second, .val (.ref b1), .val (.int (1 : Int32))] []))
      refine Go.st (fun _ k => XS.iload X61.here hx rfl (hb hby at_188) rfl k) ?_
      show Go p.tables e below _ (T61.setTop (mkF m 190 #[.val (.long qa), .second, .val (.long qb), .second, .val (.long qc), .second, .val (.int pm), .val (.int v7), .val (.long (0 : Int64)), .second, .val (.long qa), .second, .val (.long v18), .second, .val (.long v26), .second, .val (.ref b1), .val (.int (1 : Int32))] [(.int v7)]))
      refine Go.st (fun _ k => XS.iconst X61.here hx rfl (hb hby at_190) k) ?_
      show Go p.tables e below _ (T61.setTop (mkF m 191 #[.val (.long qa), .second, .val (.long qb), .second, .val (.long qc), .second, .val (.int pm), .val (.int v7), .val (.long (0 : Int64)), .second, .val (.long qa), .second, .val (.long v18), .second, .val (.long v26), .second, .val (.ref b1), .val (.int (1 : Int32))] [(.int (3 : Int32)), (.int v7)]))
      have hc191 : ¬ (v7 = (3 : Int32)) := (by rw [hc86]; decide)
      have lt_332 : (3 : Int32).toInt = 3 := by decide
      have hi191 : ¬ ((v7).toInt = ((3 : Int32)).toInt) := fun z => hc191 (Int32.toInt_inj.symm.mpr z)
      refine Go.st (fun _ k => XS.icmpYes X61.here hx rfl (pc0 := 191) (pc' := 199) rfl (hb hby at_191) rfl (Jvm.Free.XT.ii_ne_t hc191) (by decide) (by decide) k) ?_
      show Go p.tables e below _ (T61.setTop (mkF m 199 #[.val (.long qa), .second, .val (.long qb), .second, .val (.long qc), .second, .val (.int pm), .val (.int v7), .val (.long (0 : Int64)), .second, .val (.long qa), .second, .val (.long v18), .second, .val (.long v26), .second, .val (.ref b1), .val (.int (1 : Int32))] []))
      refine Go.st (fun _ k => XS.iload X61.here hx rfl (hb hby at_199) rfl k) ?_
      show Go p.tables e below _ (T61.setTop (mkF m 201 #[.val (.long qa), .second, .val (.long qb), .second, .val (.long qc), .second, .val (.int pm), .val (.int v7), .val (.long (0 : Int64)), .second, .val (.long qa), .second, .val (.long v18), .second, .val (.long v26), .second, .val (.ref b1), .val (.int (1 : Int32))] [(.int (1 : Int32))]))
      have hl65 : ¬ ((1 : Int32) = (0 : Int32)) := by decide
      refine Go.st (fun _ k => XS.ifNo X61.here hx rfl (hb hby at_201) rfl (Jvm.Free.XT.i0_eq_f hl65) k) ?_
      show Go p.tables e below _ (T61.setTop (mkF m 204 #[.val (.long qa), .second, .val (.long qb), .second, .val (.long qc), .second, .val (.int pm), .val (.int v7), .val (.long (0 : Int64)), .second, .val (.long qa), .second, .val (.long v18), .second, .val (.long v26), .second, .val (.ref b1), .val (.int (1 : Int32))] []))
      refine Go.st (fun _ k => XS.aload X61.here hx rfl (hb hby at_204) rfl rfl k) ?_
      show Go p.tables e below _ (T61.setTop (mkF m 206 #[.val (.long qa), .second, .val (.long qb), .second, .val (.long qc), .second, .val (.int pm), .val (.int v7), .val (.long (0 : Int64)), .second, .val (.long qa), .second, .val (.long v18), .second, .val (.long v26), .second, .val (.ref b1), .val (.int (1 : Int32))] [(.ref b1)]))
      obtain ⟨cq66, kq66, q66a, q66b, q66c⟩ := isOf hZ (rfl : T61.heap = T61.heap) Fq61_0
      obtain ⟨_, _, ⟨T66, L66, k66, n66⟩, -, X66, ⟨Lc66, hQ66, l66, y66, z66⟩, st66⟩ := X61.virtualBack hx (y := (⟨"com/example/rivulet/rivulet/Counter", "load", "()J"⟩ : MethodName)) (z := (⟨"com/example/rivulet/rivulet/Counter", "load", "()J"⟩ : MethodName)) hown (mvT hZ (hw _ (List.mem_of_getElem? (i := 15) rfl))) (mvT hZ (hw _ (List.mem_of_getElem? (i := 16) rfl))) (notFace_of_selects (args := #[]) (mvT hZ (hw _ (List.mem_of_getElem? (i := 18) rfl)))) (mvT hZ (hw _ (List.mem_of_getElem? (i := 18) rfl))) (mvT hZ (hw _ (List.mem_of_getElem? (i := 17) rfl))) (by decide) (backOf (W := 0) (rm_load l Z a0 hw [] b1 ((((0 : Int64) + qa) + qb) + qc) (1 : Int32) ((0 : Int64) + qa) T61.heap n0 Z62 Fq61_1 Fq61_2 Fq61_3) hZ (hw _ (List.mem_of_getElem? (i := 19) rfl)) (hw _ (List.mem_of_getElem? (i := 3) rfl)) (by decide) (by decide)) q66a q66c (g := (mkF m 206 #[.val (.long qa), .second, .val (.long qb), .second, .val (.long qc), .second, .val (.int pm), .val (.int v7), .val (.long (0 : Int64)), .second, .val (.long qa), .second, .val (.long v18), .second, .val (.long v26), .second, .val (.ref b1), .val (.int (1 : Int32))] [(.ref b1)])) rfl (by rw [hml]; rfl) (Steps.refl _) (argsL := []) (rest := []) (lenOf pd_3 rfl) rfl (by show 2 * 0 + _ ≤ _; exact Nat.le_of_eq rfl) (hb hby at_206) (fun _ _ => ⟨rfl, (rfl : T61.heap = T61.heap), (by decide : 1 + 0 ≤ _), (by decide : 4 + 0 ≤ _)⟩)
      dsimp only [Pt.U, Pt.locs, Pt.cells, Pt.slots] at X66 l66 y66 z66 st66 hQ66
      subst l66 y66 z66
      obtain ⟨rfl, N66q, e66⟩ := hQ66
      have N66 := Fr.app N61 N66q
      refine Go.st (fun _ k => st66.trans k) ?_
      show Go p.tables e below _ (T66.setTop (mkF m 209 #[.val (.long qa), .second, .val (.long qb), .second, .val (.long qc), .second, .val (.int pm), .val (.int v7), .val (.long (0 : Int64)), .second, .val (.long qa), .second, .val (.long v18), .second, .val (.long v26), .second, .val (.ref b1), .val (.int (1 : Int32))] [(.long (ldF (1 : Int32) ((0 : Int64) + qa) ((((0 : Int64) + qa) + qb) + qc)))]))
      refine Go.st (fun _ k => XS.iconst X66.here hx rfl (hb hby at_209) k) ?_
      show Go p.tables e below _ (T66.setTop (mkF m 210 #[.val (.long qa), .second, .val (.long qb), .second, .val (.long qc), .second, .val (.int pm), .val (.int v7), .val (.long (0 : Int64)), .second, .val (.long qa), .second, .val (.long v18), .second, .val (.long v26), .second, .val (.ref b1), .val (.int (1 : Int32))] [(.int (3 : Int32)), (.long (ldF (1 : Int32) ((0 : Int64) + qa) ((((0 : Int64) + qa) + qb) + qc)))]))
      refine Go.st (fun _ k => XS.iload X66.here hx rfl (hb hby at_210) rfl k) ?_
      show Go p.tables e below _ (T66.setTop (mkF m 212 #[.val (.long qa), .second, .val (.long qb), .second, .val (.long qc), .second, .val (.int pm), .val (.int v7), .val (.long (0 : Int64)), .second, .val (.long qa), .second, .val (.long v18), .second, .val (.long v26), .second, .val (.ref b1), .val (.int (1 : Int32))] [(.int v7), (.int (3 : Int32)), (.long (ldF (1 : Int32) ((0 : Int64) + qa) ((((0 : Int64) + qa) + qb) + qc)))]))
      refine Go.st (fun _ k => XS.lload X66.here hx rfl (hb hby at_212) rfl k) ?_
      show Go p.tables e below _ (T66.setTop (mkF m 214 #[.val (.long qa), .second, .val (.long qb), .second, .val (.long qc), .second, .val (.int pm), .val (.int v7), .val (.long (0 : Int64)), .second, .val (.long qa), .second, .val (.long v18), .second, .val (.long v26), .second, .val (.ref b1), .val (.int (1 : Int32))] [(.long (0 : Int64)), (.int v7), (.int (3 : Int32)), (.long (ldF (1 : Int32) ((0 : Int64) + qa) ((((0 : Int64) + qa) + qb) + qc)))]))
      refine Go.st (fun _ k => XS.lload X66.here hx rfl (hb hby at_214) rfl k) ?_
      show Go p.tables e below _ (T66.setTop (mkF m 216 #[.val (.long qa), .second, .val (.long qb), .second, .val (.long qc), .second, .val (.int pm), .val (.int v7), .val (.long (0 : Int64)), .second, .val (.long qa), .second, .val (.long v18), .second, .val (.long v26), .second, .val (.ref b1), .val (.int (1 : Int32))] [(.long qa), (.long (0 : Int64)), (.int v7), (.int (3 : Int32)), (.long (ldF (1 : Int32) ((0 : Int64) + qa) ((((0 : Int64) + qa) + qb) + qc)))]))
      refine Go.st (fun _ k => XS.lload X66.here hx rfl (hb hby at_216) rfl k) ?_
      show Go p.tables e below _ (T66.setTop (mkF m 218 #[.val (.long qa), .second, .val (.long qb), .second, .val (.long qc), .second, .val (.int pm), .val (.int v7), .val (.long (0 : Int64)), .second, .val (.long qa), .second, .val (.long v18), .second, .val (.long v26), .second, .val (.ref b1), .val (.int (1 : Int32))] [(.long v18), (.long qa), (.long (0 : Int64)), (.int v7), (.int (3 : Int32)), (.long (ldF (1 : Int32) ((0 : Int64) + qa) ((((0 : Int64) + qa) + qb) + qc)))]))
      refine Go.st (fun _ k => XS.lload X66.here hx rfl (hb hby at_218) rfl k) ?_
      show Go p.tables e below _ (T66.setTop (mkF m 220 #[.val (.long qa), .second, .val (.long qb), .second, .val (.long qc), .second, .val (.int pm), .val (.int v7), .val (.long (0 : Int64)), .second, .val (.long qa), .second, .val (.long v18), .second, .val (.long v26), .second, .val (.ref b1), .val (.int (1 : Int32))] [(.long v26), (.long v18), (.long qa), (.long (0 : Int64)), (.int v7), (.int (3 : Int32)), (.long (ldF (1 : Int32) ((0 : Int64) + qa) ((((0 : Int64) + qa) + qb) + qc)))]))
      obtain ⟨_, _, ⟨T67, L67, k67, n67⟩, -, X67, ⟨Lc67, hQ67, l67, y67, z67⟩, st67⟩ := Jvm.LawKit.callS X66 hx (y := (⟨"com/example/rivulet/rivulet/CounterLoadPinLaw", "expected", "(IIJJJJ)J"⟩ : MethodName)) hown (mvT hZ (hw _ (List.mem_of_getElem? (i := 24) rfl))) (mvT hZ (hw _ (List.mem_of_getElem? (i := 25) rfl))) (mvT hZ (hw _ (List.mem_of_getElem? (i := 26) rfl))) (mvT hZ (hw _ (List.mem_of_getElem? (i := 27) rfl))) (by decide) (backOf (W := 2) (rm_expe l Z a0 hw [] (3 : Int32) v7 (0 : Int64) qa v18 v26 T61.heap n0 Z62 ) hZ (hw _ (List.mem_of_getElem? (i := 27) rfl)) (hw _ (List.mem_of_getElem? (i := 26) rfl)) (by decide) (by decide)) (g := (mkF m 220 #[.val (.long qa), .second, .val (.long qb), .second, .val (.long qc), .second, .val (.int pm), .val (.int v7), .val (.long (0 : Int64)), .second, .val (.long qa), .second, .val (.long v18), .second, .val (.long v26), .second, .val (.ref b1), .val (.int (1 : Int32))] [(.long v26), (.long v18), (.long qa), (.long (0 : Int64)), (.int v7), (.int (3 : Int32)), (.long (ldF (1 : Int32) ((0 : Int64) + qa) ((((0 : Int64) + qa) + qb) + qc)))])) rfl (by rw [hml]; rfl) (argsL := [(.int (3 : Int32)), (.int v7), (.long (0 : Int64)), (.long qa), (.long v18), (.long v26)]) (rest := [(.long (ldF (1 : Int32) ((0 : Int64) + qa) ((((0 : Int64) + qa) + qb) + qc)))]) (lenOf pd_4 rfl) rfl (by show 2 * 0 + _ ≤ _; exact Nat.le_of_eq rfl) (hb hby at_220) (fun _ _ => ⟨rfl, e66, (by decide : 1 + 0 ≤ _), (by decide : 4 + 0 ≤ _)⟩)
      dsimp only [Pt.U, Pt.locs, Pt.cells, Pt.slots] at X67 l67 y67 z67 st67 hQ67
      subst l67 y67 z67
      obtain ⟨rfl, N67q, e67⟩ := hQ67
      have N67 := Fr.app N66 N67q
      refine Go.st st67 ?_
      show Go p.tables e below _ (T67.setTop (mkF m 223 #[.val (.long qa), .second, .val (.long qb), .second, .val (.long qc), .second, .val (.int pm), .val (.int v7), .val (.long (0 : Int64)), .second, .val (.long qa), .second, .val (.long v18), .second, .val (.long v26), .second, .val (.ref b1), .val (.int (1 : Int32))] [(.long (exF (3 : Int32) v7 (0 : Int64) qa v18 v26)), (.long (ldF (1 : Int32) ((0 : Int64) + qa) ((((0 : Int64) + qa) + qb) + qc)))]))
      refine Go.st (fun _ k => Jvm.Free.XT.lcmp X67.here hx rfl (hb hby at_223) rfl k) ?_
      show Go p.tables e below _ (T67.setTop (mkF m 224 #[.val (.long qa), .second, .val (.long qb), .second, .val (.long qc), .second, .val (.int pm), .val (.int v7), .val (.long (0 : Int64)), .second, .val (.long qa), .second, .val (.long v18), .second, .val (.long v26), .second, .val (.ref b1), .val (.int (1 : Int32))] [(.int (Jvm.Free.XT.cmpL (ldF (1 : Int32) ((0 : Int64) + qa) ((((0 : Int64) + qa) + qb) + qc)) (exF (3 : Int32) v7 (0 : Int64) qa v18 v26)))]))
      have hc224 : (ldF (1 : Int32) ((0 : Int64) + qa) ((((0 : Int64) + qa) + qb) + qc)) = (exF (3 : Int32) v7 (0 : Int64) qa v18 v26) := (by simp [ldF, exF, prF, hc86, ← hqv18, ← hqv26])
      have hi224 : ((ldF (1 : Int32) ((0 : Int64) + qa) ((((0 : Int64) + qa) + qb) + qc))).toInt = ((exF (3 : Int32) v7 (0 : Int64) qa v18 v26)).toInt := Int64.toInt_inj.symm.mp hc224
      refine Go.st (fun _ k => XS.ifNo X67.here hx rfl (hb hby at_224) rfl (Jvm.Free.XT.ll_ne_f hc224) k) ?_
      show Go p.tables e below _ (T67.setTop (mkF m 227 #[.val (.long qa), .second, .val (.long qb), .second, .val (.long qc), .second, .val (.int pm), .val (.int v7), .val (.long (0 : Int64)), .second, .val (.long qa), .second, .val (.long v18), .second, .val (.long v26), .second, .val (.ref b1), .val (.int (1 : Int32))] []))
      refine Go.st (fun _ k => XS.iconst X67.here hx rfl (hb hby at_227) k) ?_
      show Go p.tables e below _ (T67.setTop (mkF m 228 #[.val (.long qa), .second, .val (.long qb), .second, .val (.long qc), .second, .val (.int pm), .val (.int v7), .val (.long (0 : Int64)), .second, .val (.long qa), .second, .val (.long v18), .second, .val (.long v26), .second, .val (.ref b1), .val (.int (1 : Int32))] [(.int (1 : Int32))]))
      refine Go.st (fun _ k => XS.goto X67.here hx rfl (pc0 := 228) (pc' := 232) rfl (hb hby at_228) (by decide) (by decide) k) ?_
      show Go p.tables e below _ (T67.setTop (mkF m 232 #[.val (.long qa), .second, .val (.long qb), .second, .val (.long qc), .second, .val (.int pm), .val (.int v7), .val (.long (0 : Int64)), .second, .val (.long qa), .second, .val (.long v18), .second, .val (.long v26), .second, .val (.ref b1), .val (.int (1 : Int32))] [(.int (1 : Int32))]))
      refine Go.st (fun _ k => XS.istore X67.here hx rfl (hb hby at_232) rfl (l' := #[.val (.long qa), .second, .val (.long qb), .second, .val (.long qc), .second, .val (.int pm), .val (.int v7), .val (.long (0 : Int64)), .second, .val (.long qa), .second, .val (.long v18), .second, .val (.long v26), .second, .val (.ref b1), .val (.int (1 : Int32))]) rfl k) ?_
      show Go p.tables e below _ (T67.setTop (mkF m 234 #[.val (.long qa), .second, .val (.long qb), .second, .val (.long qc), .second, .val (.int pm), .val (.int v7), .val (.long (0 : Int64)), .second, .val (.long qa), .second, .val (.long v18), .second, .val (.long v26), .second, .val (.ref b1), .val (.int (1 : Int32))] []))
      show Go p.tables e below _ (T67.setTop (mkF m 234 #[.val (.long qa), .second, .val (.long qb), .second, .val (.long qc), .second, .val (.int pm), .val (.int v7), .val (.long (0 : Int64)), .second, .val (.long qa), .second, .val (.long v18), .second, .val (.long v26), .second, .val (.ref b1), .val (.int (1 : Int32))] []))
      refine Go.st (fun _ k => XS.iload X67.here hx rfl (hb hby at_234) rfl k) ?_
      show Go p.tables e below _ (T67.setTop (mkF m 236 #[.val (.long qa), .second, .val (.long qb), .second, .val (.long qc), .second, .val (.int pm), .val (.int v7), .val (.long (0 : Int64)), .second, .val (.long qa), .second, .val (.long v18), .second, .val (.long v26), .second, .val (.ref b1), .val (.int (1 : Int32))] [(.int (1 : Int32))]))
      subst hG
      obtain ⟨fs, hr, hrun, hended, hW, hsame⟩ := X67.leave (v := some (.int (nar .boolean (1 : Int32)))) (fun h => by rw [Bd.returns] at h; cases h)
      refine ⟨_, _, ?_, hrun, hended, _, _, rfl, ?_, ⟨_, rfl⟩, hW, hsame.mono (by decide) (by decide)⟩
      · exact retN X67 hx (t := .boolean) Bd.returns (by simp) (hb hby at_236) hr
      · show Q_law Z qa qb qc pm h0 n0 _ T67.heap _
        rw [e67]
        exact ⟨rfl, N67, K63⟩
    · skip
      have lt_132 : (1 : Int32).toInt = 1 := by decide
      have hi86 : ¬ ((v7).toInt = ((1 : Int32)).toInt) := fun z => hc86 (Int32.toInt_inj.symm.mpr z)
      refine Go.st (fun _ k => XS.icmpYes X43.here hx rfl (pc0 := 86) (pc' := 94) rfl (hb hby at_86) rfl (Jvm.Free.XT.ii_ne_t hc86) (by decide) (by decide) k) ?_
      show Go p.tables e below _ (T43.setTop (mkF m 94 #[.val (.long qa), .second, .val (.long qb), .second, .val (.long qc), .second, .val (.int pm), .val (.int v7), .val (.long (0 : Int64)), .second, .val (.long qa), .second, .val (.long v18), .second, .val (.long v26), .second, .val (.ref b1), .val (.int (1 : Int32))] []))
      refine Go.st (fun _ k => XS.iload X43.here hx rfl (hb hby at_94) rfl k) ?_
      show Go p.tables e below _ (T43.setTop (mkF m 96 #[.val (.long qa), .second, .val (.long qb), .second, .val (.long qc), .second, .val (.int pm), .val (.int v7), .val (.long (0 : Int64)), .second, .val (.long qa), .second, .val (.long v18), .second, .val (.long v26), .second, .val (.ref b1), .val (.int (1 : Int32))] [(.int (1 : Int32))]))
      have hl68 : ¬ ((1 : Int32) = (0 : Int32)) := by decide
      refine Go.st (fun _ k => XS.ifNo X43.here hx rfl (hb hby at_96) rfl (Jvm.Free.XT.i0_eq_f hl68) k) ?_
      show Go p.tables e below _ (T43.setTop (mkF m 99 #[.val (.long qa), .second, .val (.long qb), .second, .val (.long qc), .second, .val (.int pm), .val (.int v7), .val (.long (0 : Int64)), .second, .val (.long qa), .second, .val (.long v18), .second, .val (.long v26), .second, .val (.ref b1), .val (.int (1 : Int32))] []))
      refine Go.st (fun _ k => XS.aload X43.here hx rfl (hb hby at_99) rfl rfl k) ?_
      show Go p.tables e below _ (T43.setTop (mkF m 101 #[.val (.long qa), .second, .val (.long qb), .second, .val (.long qc), .second, .val (.int pm), .val (.int v7), .val (.long (0 : Int64)), .second, .val (.long qa), .second, .val (.long v18), .second, .val (.long v26), .second, .val (.ref b1), .val (.int (1 : Int32))] [(.ref b1)]))
      obtain ⟨cq69, kq69, q69a, q69b, q69c⟩ := isOf hZ (rfl : T43.heap = T43.heap) Fq43_0
      obtain ⟨_, _, ⟨T69, L69, k69, n69⟩, -, X69, ⟨Lc69, hQ69, l69, y69, z69⟩, st69⟩ := X43.virtualBack hx (y := (⟨"com/example/rivulet/rivulet/Counter", "load", "()J"⟩ : MethodName)) (z := (⟨"com/example/rivulet/rivulet/Counter", "load", "()J"⟩ : MethodName)) hown (mvT hZ (hw _ (List.mem_of_getElem? (i := 15) rfl))) (mvT hZ (hw _ (List.mem_of_getElem? (i := 16) rfl))) (notFace_of_selects (args := #[]) (mvT hZ (hw _ (List.mem_of_getElem? (i := 18) rfl)))) (mvT hZ (hw _ (List.mem_of_getElem? (i := 18) rfl))) (mvT hZ (hw _ (List.mem_of_getElem? (i := 17) rfl))) (by decide) (backOf (W := 0) (rm_load l Z a0 hw [] b1 ((0 : Int64) + qa) (0 : Int32) (0 : Int64) T43.heap n0 Z44 Fq43_1 Fq43_2 Fq43_3) hZ (hw _ (List.mem_of_getElem? (i := 19) rfl)) (hw _ (List.mem_of_getElem? (i := 3) rfl)) (by decide) (by decide)) q69a q69c (g := (mkF m 101 #[.val (.long qa), .second, .val (.long qb), .second, .val (.long qc), .second, .val (.int pm), .val (.int v7), .val (.long (0 : Int64)), .second, .val (.long qa), .second, .val (.long v18), .second, .val (.long v26), .second, .val (.ref b1), .val (.int (1 : Int32))] [(.ref b1)])) rfl (by rw [hml]; rfl) (Steps.refl _) (argsL := []) (rest := []) (lenOf pd_3 rfl) rfl (by show 2 * 0 + _ ≤ _; exact Nat.le_of_eq rfl) (hb hby at_101) (fun _ _ => ⟨rfl, (rfl : T43.heap = T43.heap), (by decide : 1 + 0 ≤ _), (by decide : 4 + 0 ≤ _)⟩)
      dsimp only [Pt.U, Pt.locs, Pt.cells, Pt.slots] at X69 l69 y69 z69 st69 hQ69
      subst l69 y69 z69
      obtain ⟨rfl, N69q, e69⟩ := hQ69
      have N69 := Fr.app N43 N69q
      refine Go.st (fun _ k => st69.trans k) ?_
      show Go p.tables e below _ (T69.setTop (mkF m 104 #[.val (.long qa), .second, .val (.long qb), .second, .val (.long qc), .second, .val (.int pm), .val (.int v7), .val (.long (0 : Int64)), .second, .val (.long qa), .second, .val (.long v18), .second, .val (.long v26), .second, .val (.ref b1), .val (.int (1 : Int32))] [(.long (ldF (0 : Int32) (0 : Int64) ((0 : Int64) + qa)))]))
      refine Go.st (fun _ k => XS.iconst X69.here hx rfl (hb hby at_104) k) ?_
      show Go p.tables e below _ (T69.setTop (mkF m 105 #[.val (.long qa), .second, .val (.long qb), .second, .val (.long qc), .second, .val (.int pm), .val (.int v7), .val (.long (0 : Int64)), .second, .val (.long qa), .second, .val (.long v18), .second, .val (.long v26), .second, .val (.ref b1), .val (.int (1 : Int32))] [(.int (1 : Int32)), (.long (ldF (0 : Int32) (0 : Int64) ((0 : Int64) + qa)))]))
      refine Go.st (fun _ k => XS.iload X69.here hx rfl (hb hby at_105) rfl k) ?_
      show Go p.tables e below _ (T69.setTop (mkF m 107 #[.val (.long qa), .second, .val (.long qb), .second, .val (.long qc), .second, .val (.int pm), .val (.int v7), .val (.long (0 : Int64)), .second, .val (.long qa), .second, .val (.long v18), .second, .val (.long v26), .second, .val (.ref b1), .val (.int (1 : Int32))] [(.int v7), (.int (1 : Int32)), (.long (ldF (0 : Int32) (0 : Int64) ((0 : Int64) + qa)))]))
      refine Go.st (fun _ k => XS.lload X69.here hx rfl (hb hby at_107) rfl k) ?_
      show Go p.tables e below _ (T69.setTop (mkF m 109 #[.val (.long qa), .second, .val (.long qb), .second, .val (.long qc), .second, .val (.int pm), .val (.int v7), .val (.long (0 : Int64)), .second, .val (.long qa), .second, .val (.long v18), .second, .val (.long v26), .second, .val (.ref b1), .val (.int (1 : Int32))] [(.long (0 : Int64)), (.int v7), (.int (1 : Int32)), (.long (ldF (0 : Int32) (0 : Int64) ((0 : Int64) + qa)))]))
      refine Go.st (fun _ k => XS.lload X69.here hx rfl (hb hby at_109) rfl k) ?_
      show Go p.tables e below _ (T69.setTop (mkF m 111 #[.val (.long qa), .second, .val (.long qb), .second, .val (.long qc), .second, .val (.int pm), .val (.int v7), .val (.long (0 : Int64)), .second, .val (.long qa), .second, .val (.long v18), .second, .val (.long v26), .second, .val (.ref b1), .val (.int (1 : Int32))] [(.long qa), (.long (0 : Int64)), (.int v7), (.int (1 : Int32)), (.long (ldF (0 : Int32) (0 : Int64) ((0 : Int64) + qa)))]))
      refine Go.st (fun _ k => XS.lload X69.here hx rfl (hb hby at_111) rfl k) ?_
      show Go p.tables e below _ (T69.setTop (mkF m 113 #[.val (.long qa), .second, .val (.long qb), .second, .val (.long qc), .second, .val (.int pm), .val (.int v7), .val (.long (0 : Int64)), .second, .val (.long qa), .second, .val (.long v18), .second, .val (.long v26), .second, .val (.ref b1), .val (.int (1 : Int32))] [(.long v18), (.long qa), (.long (0 : Int64)), (.int v7), (.int (1 : Int32)), (.long (ldF (0 : Int32) (0 : Int64) ((0 : Int64) + qa)))]))
      refine Go.st (fun _ k => XS.lload X69.here hx rfl (hb hby at_113) rfl k) ?_
      show Go p.tables e below _ (T69.setTop (mkF m 115 #[.val (.long qa), .second, .val (.long qb), .second, .val (.long qc), .second, .val (.int pm), .val (.int v7), .val (.long (0 : Int64)), .second, .val (.long qa), .second, .val (.long v18), .second, .val (.long v26), .second, .val (.ref b1), .val (.int (1 : Int32))] [(.long v26), (.long v18), (.long qa), (.long (0 : Int64)), (.int v7), (.int (1 : Int32)), (.long (ldF (0 : Int32) (0 : Int64) ((0 : Int64) + qa)))]))
      obtain ⟨_, _, ⟨T70, L70, k70, n70⟩, -, X70, ⟨Lc70, hQ70, l70, y70, z70⟩, st70⟩ := Jvm.LawKit.callS X69 hx (y := (⟨"com/example/rivulet/rivulet/CounterLoadPinLaw", "expected", "(IIJJJJ)J"⟩ : MethodName)) hown (mvT hZ (hw _ (List.mem_of_getElem? (i := 24) rfl))) (mvT hZ (hw _ (List.mem_of_getElem? (i := 25) rfl))) (mvT hZ (hw _ (List.mem_of_getElem? (i := 26) rfl))) (mvT hZ (hw _ (List.mem_of_getElem? (i := 27) rfl))) (by decide) (backOf (W := 2) (rm_expe l Z a0 hw [] (1 : Int32) v7 (0 : Int64) qa v18 v26 T43.heap n0 Z44 ) hZ (hw _ (List.mem_of_getElem? (i := 27) rfl)) (hw _ (List.mem_of_getElem? (i := 26) rfl)) (by decide) (by decide)) (g := (mkF m 115 #[.val (.long qa), .second, .val (.long qb), .second, .val (.long qc), .second, .val (.int pm), .val (.int v7), .val (.long (0 : Int64)), .second, .val (.long qa), .second, .val (.long v18), .second, .val (.long v26), .second, .val (.ref b1), .val (.int (1 : Int32))] [(.long v26), (.long v18), (.long qa), (.long (0 : Int64)), (.int v7), (.int (1 : Int32)), (.long (ldF (0 : Int32) (0 : Int64) ((0 : Int64) + qa)))])) rfl (by rw [hml]; rfl) (argsL := [(.int (1 : Int32)), (.int v7), (.long (0 : Int64)), (.long qa), (.long v18), (.long v26)]) (rest := [(.long (ldF (0 : Int32) (0 : Int64) ((0 : Int64) + qa)))]) (lenOf pd_4 rfl) rfl (by show 2 * 0 + _ ≤ _; exact Nat.le_of_eq rfl) (hb hby at_115) (fun _ _ => ⟨rfl, e69, (by decide : 1 + 0 ≤ _), (by decide : 4 + 0 ≤ _)⟩)
      dsimp only [Pt.U, Pt.locs, Pt.cells, Pt.slots] at X70 l70 y70 z70 st70 hQ70
      subst l70 y70 z70
      obtain ⟨rfl, N70q, e70⟩ := hQ70
      have N70 := Fr.app N69 N70q
      refine Go.st st70 ?_
      show Go p.tables e below _ (T70.setTop (mkF m 118 #[.val (.long qa), .second, .val (.long qb), .second, .val (.long qc), .second, .val (.int pm), .val (.int v7), .val (.long (0 : Int64)), .second, .val (.long qa), .second, .val (.long v18), .second, .val (.long v26), .second, .val (.ref b1), .val (.int (1 : Int32))] [(.long (exF (1 : Int32) v7 (0 : Int64) qa v18 v26)), (.long (ldF (0 : Int32) (0 : Int64) ((0 : Int64) + qa)))]))
      refine Go.st (fun _ k => Jvm.Free.XT.lcmp X70.here hx rfl (hb hby at_118) rfl k) ?_
      show Go p.tables e below _ (T70.setTop (mkF m 119 #[.val (.long qa), .second, .val (.long qb), .second, .val (.long qc), .second, .val (.int pm), .val (.int v7), .val (.long (0 : Int64)), .second, .val (.long qa), .second, .val (.long v18), .second, .val (.long v26), .second, .val (.ref b1), .val (.int (1 : Int32))] [(.int (Jvm.Free.XT.cmpL (ldF (0 : Int32) (0 : Int64) ((0 : Int64) + qa)) (exF (1 : Int32) v7 (0 : Int64) qa v18 v26)))]))
      have hc119 : (ldF (0 : Int32) (0 : Int64) ((0 : Int64) + qa)) = (exF (1 : Int32) v7 (0 : Int64) qa v18 v26) := (by have hk := own_k hqv7; have hl : ¬ v7 < (1 : Int32) := own_nlt32 (by omega); simp [ldF, exF, prF, hl, ← hqv18, ← hqv26])
      have hi119 : ((ldF (0 : Int32) (0 : Int64) ((0 : Int64) + qa))).toInt = ((exF (1 : Int32) v7 (0 : Int64) qa v18 v26)).toInt := Int64.toInt_inj.symm.mp hc119
      refine Go.st (fun _ k => XS.ifNo X70.here hx rfl (hb hby at_119) rfl (Jvm.Free.XT.ll_ne_f hc119) k) ?_
      show Go p.tables e below _ (T70.setTop (mkF m 122 #[.val (.long qa), .second, .val (.long qb), .second, .val (.long qc), .second, .val (.int pm), .val (.int v7), .val (.long (0 : Int64)), .second, .val (.long qa), .second, .val (.long v18), .second, .val (.long v26), .second, .val (.ref b1), .val (.int (1 : Int32))] []))
      refine Go.st (fun _ k => XS.iconst X70.here hx rfl (hb hby at_122) k) ?_
      show Go p.tables e below _ (T70.setTop (mkF m 123 #[.val (.long qa), .second, .val (.long qb), .second, .val (.long qc), .second, .val (.int pm), .val (.int v7), .val (.long (0 : Int64)), .second, .val (.long qa), .second, .val (.long v18), .second, .val (.long v26), .second, .val (.ref b1), .val (.int (1 : Int32))] [(.int (1 : Int32))]))
      refine Go.st (fun _ k => XS.goto X70.here hx rfl (pc0 := 123) (pc' := 127) rfl (hb hby at_123) (by decide) (by decide) k) ?_
      show Go p.tables e below _ (T70.setTop (mkF m 127 #[.val (.long qa), .second, .val (.long qb), .second, .val (.long qc), .second, .val (.int pm), .val (.int v7), .val (.long (0 : Int64)), .second, .val (.long qa), .second, .val (.long v18), .second, .val (.long v26), .second, .val (.ref b1), .val (.int (1 : Int32))] [(.int (1 : Int32))]))
      refine Go.st (fun _ k => XS.istore X70.here hx rfl (hb hby at_127) rfl (l' := #[.val (.long qa), .second, .val (.long qb), .second, .val (.long qc), .second, .val (.int pm), .val (.int v7), .val (.long (0 : Int64)), .second, .val (.long qa), .second, .val (.long v18), .second, .val (.long v26), .second, .val (.ref b1), .val (.int (1 : Int32))]) rfl k) ?_
      show Go p.tables e below _ (T70.setTop (mkF m 129 #[.val (.long qa), .second, .val (.long qb), .second, .val (.long qc), .second, .val (.int pm), .val (.int v7), .val (.long (0 : Int64)), .second, .val (.long qa), .second, .val (.long v18), .second, .val (.long v26), .second, .val (.ref b1), .val (.int (1 : Int32))] []))
      show Go p.tables e below _ (T70.setTop (mkF m 129 #[.val (.long qa), .second, .val (.long qb), .second, .val (.long qc), .second, .val (.int pm), .val (.int v7), .val (.long (0 : Int64)), .second, .val (.long qa), .second, .val (.long v18), .second, .val (.long v26), .second, .val (.ref b1), .val (.int (1 : Int32))] []))
      refine Go.st (fun _ k => XS.aload X70.here hx rfl (hb hby at_129) rfl rfl k) ?_
      show Go p.tables e below _ (T70.setTop (mkF m 131 #[.val (.long qa), .second, .val (.long qb), .second, .val (.long qc), .second, .val (.int pm), .val (.int v7), .val (.long (0 : Int64)), .second, .val (.long qa), .second, .val (.long v18), .second, .val (.long v26), .second, .val (.ref b1), .val (.int (1 : Int32))] [(.ref b1)]))
      refine Go.st (fun _ k => XS.lloadN X70.here hx rfl (hb hby at_131) rfl k) ?_
      show Go p.tables e below _ (T70.setTop (mkF m 132 #[.val (.long qa), .second, .val (.long qb), .second, .val (.long qc), .second, .val (.int pm), .val (.int v7), .val (.long (0 : Int64)), .second, .val (.long qa), .second, .val (.long v18), .second, .val (.long v26), .second, .val (.ref b1), .val (.int (1 : Int32))] [(.long qb), (.ref b1)]))
      obtain ⟨cq71, kq71, q71a, q71b, q71c⟩ := isOf hZ e70 Fq43_0
      obtain ⟨_, _, ⟨T71, L71, k71, n71⟩, -, X71, ⟨Lc71, hQ71, l71, y71, z71⟩, st71⟩ := X70.virtualBack hx (y := (⟨"com/example/rivulet/rivulet/Counter", "add", "(J)V"⟩ : MethodName)) (z := (⟨"com/example/rivulet/rivulet/Counter", "add", "(J)V"⟩ : MethodName)) hown (mvT hZ (hw _ (List.mem_of_getElem? (i := 31) rfl))) (mvT hZ (hw _ (List.mem_of_getElem? (i := 32) rfl))) (notFace_of_selects (args := #[]) (mvT hZ (hw _ (List.mem_of_getElem? (i := 34) rfl)))) (mvT hZ (hw _ (List.mem_of_getElem? (i := 34) rfl))) (mvT hZ (hw _ (List.mem_of_getElem? (i := 33) rfl))) (by decide) (backOf (W := 0) (rm_cadd l Z a0 hw [] b1 qb ((0 : Int64) + qa) (0 : Int32) (0 : Int64) T43.heap n0 Z44 Fq43_0 Fq43_1 Fq43_2 Fq43_3 Fq43_4 ge2) hZ (hw _ (List.mem_of_getElem? (i := 35) rfl)) (hw _ (List.mem_of_getElem? (i := 3) rfl)) (by decide) (by decide)) q71a q71c (g := (mkF m 132 #[.val (.long qa), .second, .val (.long qb), .second, .val (.long qc), .second, .val (.int pm), .val (.int v7), .val (.long (0 : Int64)), .second, .val (.long qa), .second, .val (.long v18), .second, .val (.long v26), .second, .val (.ref b1), .val (.int (1 : Int32))] [(.long qb), (.ref b1)])) rfl (by rw [hml]; rfl) (Steps.refl _) (argsL := [(.long qb)]) (rest := []) (lenOf pd_5 rfl) rfl (by show 2 * 0 + _ ≤ _; exact Nat.le_of_eq rfl) (hb hby at_132) (fun _ _ => ⟨rfl, e70, (by decide : 1 + 0 ≤ _), (by decide : 4 + 0 ≤ _)⟩)
      dsimp only [Pt.U, Pt.locs, Pt.cells, Pt.slots] at X71 l71 y71 z71 st71 hQ71
      subst l71 y71 z71
      obtain ⟨rfl, N71q, K71q, Fq71_0, Fq71_1, Fq71_2, Fq71_3, Fq71_4⟩ := hQ71
      have N71 := Fr.app N70 N71q
      refine Go.st (fun _ k => st71.trans k) ?_
      have Z72 : n0 ≤ T71.heap.size := Nat.le_trans Z44 K71q.1
      have K73 : Keep h0 T71.heap [] := K45.trans K71q (fun z hz => (List.mem_cons.mp hz).elim (fun q => by rw [q]; exact Or.inr sz3) (fun hz => absurd hz List.not_mem_nil))
      have F74 : Exa Z T71.heap b1 "com/example/rivulet/rivulet/Counter" := Fq43_0.keep K71q
      show Go p.tables e below _ (T71.setTop (mkF m 135 #[.val (.long qa), .second, .val (.long qb), .second, .val (.long qc), .second, .val (.int pm), .val (.int v7), .val (.long (0 : Int64)), .second, .val (.long qa), .second, .val (.long v18), .second, .val (.long v26), .second, .val (.ref b1), .val (.int (1 : Int32))] []))
      refine Go.st (fun _ k => XS.iload X71.here hx rfl (hb hby at_135) rfl k) ?_
      show Go p.tables e below _ (T71.setTop (mkF m 137 #[.val (.long qa), .second, .val (.long qb), .second, .val (.long qc), .second, .val (.int pm), .val (.int v7), .val (.long (0 : Int64)), .second, .val (.long qa), .second, .val (.long v18), .second, .val (.long v26), .second, .val (.ref b1), .val (.int (1 : Int32))] [(.int v7)]))
      refine Go.st (fun _ k => XS.iconst X71.here hx rfl (hb hby at_137) k) ?_
      show Go p.tables e below _ (T71.setTop (mkF m 138 #[.val (.long qa), .second, .val (.long qb), .second, .val (.long qc), .second, .val (.int pm), .val (.int v7), .val (.long (0 : Int64)), .second, .val (.long qa), .second, .val (.long v18), .second, .val (.long v26), .second, .val (.ref b1), .val (.int (1 : Int32))] [(.int (2 : Int32)), (.int v7)]))
      by_cases hc138 : v7 = (2 : Int32)
      · skip
        have lt_232 : (2 : Int32).toInt = 2 := by decide
        have hi138 : (v7).toInt = ((2 : Int32)).toInt := Int32.toInt_inj.symm.mp hc138
        refine Go.st (fun _ k => XS.icmpNo X71.here hx rfl (hb hby at_138) rfl (Jvm.Free.XT.ii_ne_f hc138) k) ?_
        show Go p.tables e below _ (T71.setTop (mkF m 141 #[.val (.long qa), .second, .val (.long qb), .second, .val (.long qc), .second, .val (.int pm), .val (.int v7), .val (.long (0 : Int64)), .second, .val (.long qa), .second, .val (.long v18), .second, .val (.long v26), .second, .val (.ref b1), .val (.int (1 : Int32))] []))
        refine Go.st (fun _ k => XS.aload X71.here hx rfl (hb hby at_141) rfl rfl k) ?_
        show Go p.tables e below _ (T71.setTop (mkF m 143 #[.val (.long qa), .second, .val (.long qb), .second, .val (.long qc), .second, .val (.int pm), .val (.int v7), .val (.long (0 : Int64)), .second, .val (.long qa), .second, .val (.long v18), .second, .val (.long v26), .second, .val (.ref b1), .val (.int (1 : Int32))] [(.ref b1)]))
        obtain ⟨cq75, kq75, q75a, q75b, q75c⟩ := isOf hZ (rfl : T71.heap = T71.heap) Fq71_0
        obtain ⟨_, _, ⟨T75, L75, k75, n75⟩, -, X75, ⟨Lc75, hQ75, l75, y75, z75⟩, st75⟩ := X71.virtualBack hx (y := (⟨"com/example/rivulet/rivulet/Counter", "loaded", "()V"⟩ : MethodName)) (z := (⟨"com/example/rivulet/rivulet/Counter", "loaded", "()V"⟩ : MethodName)) hown (mvT hZ (hw _ (List.mem_of_getElem? (i := 36) rfl))) (mvT hZ (hw _ (List.mem_of_getElem? (i := 37) rfl))) (notFace_of_selects (args := #[]) (mvT hZ (hw _ (List.mem_of_getElem? (i := 39) rfl)))) (mvT hZ (hw _ (List.mem_of_getElem? (i := 39) rfl))) (mvT hZ (hw _ (List.mem_of_getElem? (i := 38) rfl))) (by decide) (backOf (W := 0) (rm_loaded l Z a0 hw [] b1 (((0 : Int64) + qa) + qb) (0 : Int32) (0 : Int64) T71.heap n0 Z72 Fq71_0 Fq71_1 Fq71_2 Fq71_3 Fq71_4 ge2) hZ (hw _ (List.mem_of_getElem? (i := 40) rfl)) (hw _ (List.mem_of_getElem? (i := 3) rfl)) (by decide) (by decide)) q75a q75c (g := (mkF m 143 #[.val (.long qa), .second, .val (.long qb), .second, .val (.long qc), .second, .val (.int pm), .val (.int v7), .val (.long (0 : Int64)), .second, .val (.long qa), .second, .val (.long v18), .second, .val (.long v26), .second, .val (.ref b1), .val (.int (1 : Int32))] [(.ref b1)])) rfl (by rw [hml]; rfl) (Steps.refl _) (argsL := []) (rest := []) (lenOf pd_2 rfl) rfl (by show 2 * 0 + _ ≤ _; exact Nat.le_of_eq rfl) (hb hby at_143) (fun _ _ => ⟨rfl, (rfl : T71.heap = T71.heap), (by decide : 1 + 0 ≤ _), (by decide : 4 + 0 ≤ _)⟩)
        dsimp only [Pt.U, Pt.locs, Pt.cells, Pt.slots] at X75 l75 y75 z75 st75 hQ75
        subst l75 y75 z75
        obtain ⟨rfl, N75q, K75q, Fq75_0, Fq75_1, Fq75_2, Fq75_3, Fq75_4⟩ := hQ75
        have N75 := Fr.app N71 N75q
        refine Go.st (fun _ k => st75.trans k) ?_
        have Z76 : n0 ≤ T75.heap.size := Nat.le_trans Z72 K75q.1
        have K77 : Keep h0 T75.heap [] := K73.trans K75q (fun z hz => (List.mem_cons.mp hz).elim (fun q => by rw [q]; exact Or.inr sz3) (fun hz => absurd hz List.not_mem_nil))
        have F78 : Exa Z T75.heap b1 "com/example/rivulet/rivulet/Counter" := Fq71_0.keep K75q
        show Go p.tables e below _ (T75.setTop (mkF m 146 #[.val (.long qa), .second, .val (.long qb), .second, .val (.long qc), .second, .val (.int pm), .val (.int v7), .val (.long (0 : Int64)), .second, .val (.long qa), .second, .val (.long v18), .second, .val (.long v26), .second, .val (.ref b1), .val (.int (1 : Int32))] []))
        refine Go.st (fun _ k => XS.iload X75.here hx rfl (hb hby at_146) rfl k) ?_
        show Go p.tables e below _ (T75.setTop (mkF m 148 #[.val (.long qa), .second, .val (.long qb), .second, .val (.long qc), .second, .val (.int pm), .val (.int v7), .val (.long (0 : Int64)), .second, .val (.long qa), .second, .val (.long v18), .second, .val (.long v26), .second, .val (.ref b1), .val (.int (1 : Int32))] [(.int (1 : Int32))]))
        have hl79 : ¬ ((1 : Int32) = (0 : Int32)) := by decide
        refine Go.st (fun _ k => XS.ifNo X75.here hx rfl (hb hby at_148) rfl (Jvm.Free.XT.i0_eq_f hl79) k) ?_
        show Go p.tables e below _ (T75.setTop (mkF m 151 #[.val (.long qa), .second, .val (.long qb), .second, .val (.long qc), .second, .val (.int pm), .val (.int v7), .val (.long (0 : Int64)), .second, .val (.long qa), .second, .val (.long v18), .second, .val (.long v26), .second, .val (.ref b1), .val (.int (1 : Int32))] []))
        refine Go.st (fun _ k => XS.aload X75.here hx rfl (hb hby at_151) rfl rfl k) ?_
        show Go p.tables e below _ (T75.setTop (mkF m 153 #[.val (.long qa), .second, .val (.long qb), .second, .val (.long qc), .second, .val (.int pm), .val (.int v7), .val (.long (0 : Int64)), .second, .val (.long qa), .second, .val (.long v18), .second, .val (.long v26), .second, .val (.ref b1), .val (.int (1 : Int32))] [(.ref b1)]))
        obtain ⟨cq80, kq80, q80a, q80b, q80c⟩ := isOf hZ (rfl : T75.heap = T75.heap) Fq75_0
        obtain ⟨_, _, ⟨T80, L80, k80, n80⟩, -, X80, ⟨Lc80, hQ80, l80, y80, z80⟩, st80⟩ := X75.virtualBack hx (y := (⟨"com/example/rivulet/rivulet/Counter", "load", "()J"⟩ : MethodName)) (z := (⟨"com/example/rivulet/rivulet/Counter", "load", "()J"⟩ : MethodName)) hown (mvT hZ (hw _ (List.mem_of_getElem? (i := 15) rfl))) (mvT hZ (hw _ (List.mem_of_getElem? (i := 16) rfl))) (notFace_of_selects (args := #[]) (mvT hZ (hw _ (List.mem_of_getElem? (i := 18) rfl)))) (mvT hZ (hw _ (List.mem_of_getElem? (i := 18) rfl))) (mvT hZ (hw _ (List.mem_of_getElem? (i := 17) rfl))) (by decide) (backOf (W := 0) (rm_load l Z a0 hw [] b1 (((0 : Int64) + qa) + qb) (1 : Int32) (((0 : Int64) + qa) + qb) T75.heap n0 Z76 Fq75_1 Fq75_2 Fq75_3) hZ (hw _ (List.mem_of_getElem? (i := 19) rfl)) (hw _ (List.mem_of_getElem? (i := 3) rfl)) (by decide) (by decide)) q80a q80c (g := (mkF m 153 #[.val (.long qa), .second, .val (.long qb), .second, .val (.long qc), .second, .val (.int pm), .val (.int v7), .val (.long (0 : Int64)), .second, .val (.long qa), .second, .val (.long v18), .second, .val (.long v26), .second, .val (.ref b1), .val (.int (1 : Int32))] [(.ref b1)])) rfl (by rw [hml]; rfl) (Steps.refl _) (argsL := []) (rest := []) (lenOf pd_3 rfl) rfl (by show 2 * 0 + _ ≤ _; exact Nat.le_of_eq rfl) (hb hby at_153) (fun _ _ => ⟨rfl, (rfl : T75.heap = T75.heap), (by decide : 1 + 0 ≤ _), (by decide : 4 + 0 ≤ _)⟩)
        dsimp only [Pt.U, Pt.locs, Pt.cells, Pt.slots] at X80 l80 y80 z80 st80 hQ80
        subst l80 y80 z80
        obtain ⟨rfl, N80q, e80⟩ := hQ80
        have N80 := Fr.app N75 N80q
        refine Go.st (fun _ k => st80.trans k) ?_
        show Go p.tables e below _ (T80.setTop (mkF m 156 #[.val (.long qa), .second, .val (.long qb), .second, .val (.long qc), .second, .val (.int pm), .val (.int v7), .val (.long (0 : Int64)), .second, .val (.long qa), .second, .val (.long v18), .second, .val (.long v26), .second, .val (.ref b1), .val (.int (1 : Int32))] [(.long (ldF (1 : Int32) (((0 : Int64) + qa) + qb) (((0 : Int64) + qa) + qb)))]))
        refine Go.st (fun _ k => XS.iconst X80.here hx rfl (hb hby at_156) k) ?_
        show Go p.tables e below _ (T80.setTop (mkF m 157 #[.val (.long qa), .second, .val (.long qb), .second, .val (.long qc), .second, .val (.int pm), .val (.int v7), .val (.long (0 : Int64)), .second, .val (.long qa), .second, .val (.long v18), .second, .val (.long v26), .second, .val (.ref b1), .val (.int (1 : Int32))] [(.int (2 : Int32)), (.long (ldF (1 : Int32) (((0 : Int64) + qa) + qb) (((0 : Int64) + qa) + qb)))]))
        refine Go.st (fun _ k => XS.iload X80.here hx rfl (hb hby at_157) rfl k) ?_
        show Go p.tables e below _ (T80.setTop (mkF m 159 #[.val (.long qa), .second, .val (.long qb), .second, .val (.long qc), .second, .val (.int pm), .val (.int v7), .val (.long (0 : Int64)), .second, .val (.long qa), .second, .val (.long v18), .second, .val (.long v26), .second, .val (.ref b1), .val (.int (1 : Int32))] [(.int v7), (.int (2 : Int32)), (.long (ldF (1 : Int32) (((0 : Int64) + qa) + qb) (((0 : Int64) + qa) + qb)))]))
        refine Go.st (fun _ k => XS.lload X80.here hx rfl (hb hby at_159) rfl k) ?_
        show Go p.tables e below _ (T80.setTop (mkF m 161 #[.val (.long qa), .second, .val (.long qb), .second, .val (.long qc), .second, .val (.int pm), .val (.int v7), .val (.long (0 : Int64)), .second, .val (.long qa), .second, .val (.long v18), .second, .val (.long v26), .second, .val (.ref b1), .val (.int (1 : Int32))] [(.long (0 : Int64)), (.int v7), (.int (2 : Int32)), (.long (ldF (1 : Int32) (((0 : Int64) + qa) + qb) (((0 : Int64) + qa) + qb)))]))
        refine Go.st (fun _ k => XS.lload X80.here hx rfl (hb hby at_161) rfl k) ?_
        show Go p.tables e below _ (T80.setTop (mkF m 163 #[.val (.long qa), .second, .val (.long qb), .second, .val (.long qc), .second, .val (.int pm), .val (.int v7), .val (.long (0 : Int64)), .second, .val (.long qa), .second, .val (.long v18), .second, .val (.long v26), .second, .val (.ref b1), .val (.int (1 : Int32))] [(.long qa), (.long (0 : Int64)), (.int v7), (.int (2 : Int32)), (.long (ldF (1 : Int32) (((0 : Int64) + qa) + qb) (((0 : Int64) + qa) + qb)))]))
        refine Go.st (fun _ k => XS.lload X80.here hx rfl (hb hby at_163) rfl k) ?_
        show Go p.tables e below _ (T80.setTop (mkF m 165 #[.val (.long qa), .second, .val (.long qb), .second, .val (.long qc), .second, .val (.int pm), .val (.int v7), .val (.long (0 : Int64)), .second, .val (.long qa), .second, .val (.long v18), .second, .val (.long v26), .second, .val (.ref b1), .val (.int (1 : Int32))] [(.long v18), (.long qa), (.long (0 : Int64)), (.int v7), (.int (2 : Int32)), (.long (ldF (1 : Int32) (((0 : Int64) + qa) + qb) (((0 : Int64) + qa) + qb)))]))
        refine Go.st (fun _ k => XS.lload X80.here hx rfl (hb hby at_165) rfl k) ?_
        show Go p.tables e below _ (T80.setTop (mkF m 167 #[.val (.long qa), .second, .val (.long qb), .second, .val (.long qc), .second, .val (.int pm), .val (.int v7), .val (.long (0 : Int64)), .second, .val (.long qa), .second, .val (.long v18), .second, .val (.long v26), .second, .val (.ref b1), .val (.int (1 : Int32))] [(.long v26), (.long v18), (.long qa), (.long (0 : Int64)), (.int v7), (.int (2 : Int32)), (.long (ldF (1 : Int32) (((0 : Int64) + qa) + qb) (((0 : Int64) + qa) + qb)))]))
        obtain ⟨_, _, ⟨T81, L81, k81, n81⟩, -, X81, ⟨Lc81, hQ81, l81, y81, z81⟩, st81⟩ := Jvm.LawKit.callS X80 hx (y := (⟨"com/example/rivulet/rivulet/CounterLoadPinLaw", "expected", "(IIJJJJ)J"⟩ : MethodName)) hown (mvT hZ (hw _ (List.mem_of_getElem? (i := 24) rfl))) (mvT hZ (hw _ (List.mem_of_getElem? (i := 25) rfl))) (mvT hZ (hw _ (List.mem_of_getElem? (i := 26) rfl))) (mvT hZ (hw _ (List.mem_of_getElem? (i := 27) rfl))) (by decide) (backOf (W := 2) (rm_expe l Z a0 hw [] (2 : Int32) v7 (0 : Int64) qa v18 v26 T75.heap n0 Z76 ) hZ (hw _ (List.mem_of_getElem? (i := 27) rfl)) (hw _ (List.mem_of_getElem? (i := 26) rfl)) (by decide) (by decide)) (g := (mkF m 167 #[.val (.long qa), .second, .val (.long qb), .second, .val (.long qc), .second, .val (.int pm), .val (.int v7), .val (.long (0 : Int64)), .second, .val (.long qa), .second, .val (.long v18), .second, .val (.long v26), .second, .val (.ref b1), .val (.int (1 : Int32))] [(.long v26), (.long v18), (.long qa), (.long (0 : Int64)), (.int v7), (.int (2 : Int32)), (.long (ldF (1 : Int32) (((0 : Int64) + qa) + qb) (((0 : Int64) + qa) + qb)))])) rfl (by rw [hml]; rfl) (argsL := [(.int (2 : Int32)), (.int v7), (.long (0 : Int64)), (.long qa), (.long v18), (.long v26)]) (rest := [(.long (ldF (1 : Int32) (((0 : Int64) + qa) + qb) (((0 : Int64) + qa) + qb)))]) (lenOf pd_4 rfl) rfl (by show 2 * 0 + _ ≤ _; exact Nat.le_of_eq rfl) (hb hby at_167) (fun _ _ => ⟨rfl, e80, (by decide : 1 + 0 ≤ _), (by decide : 4 + 0 ≤ _)⟩)
        dsimp only [Pt.U, Pt.locs, Pt.cells, Pt.slots] at X81 l81 y81 z81 st81 hQ81
        subst l81 y81 z81
        obtain ⟨rfl, N81q, e81⟩ := hQ81
        have N81 := Fr.app N80 N81q
        refine Go.st st81 ?_
        show Go p.tables e below _ (T81.setTop (mkF m 170 #[.val (.long qa), .second, .val (.long qb), .second, .val (.long qc), .second, .val (.int pm), .val (.int v7), .val (.long (0 : Int64)), .second, .val (.long qa), .second, .val (.long v18), .second, .val (.long v26), .second, .val (.ref b1), .val (.int (1 : Int32))] [(.long (exF (2 : Int32) v7 (0 : Int64) qa v18 v26)), (.long (ldF (1 : Int32) (((0 : Int64) + qa) + qb) (((0 : Int64) + qa) + qb)))]))
        refine Go.st (fun _ k => Jvm.Free.XT.lcmp X81.here hx rfl (hb hby at_170) rfl k) ?_
        show Go p.tables e below _ (T81.setTop (mkF m 171 #[.val (.long qa), .second, .val (.long qb), .second, .val (.long qc), .second, .val (.int pm), .val (.int v7), .val (.long (0 : Int64)), .second, .val (.long qa), .second, .val (.long v18), .second, .val (.long v26), .second, .val (.ref b1), .val (.int (1 : Int32))] [(.int (Jvm.Free.XT.cmpL (ldF (1 : Int32) (((0 : Int64) + qa) + qb) (((0 : Int64) + qa) + qb)) (exF (2 : Int32) v7 (0 : Int64) qa v18 v26)))]))
        have hc171 : (ldF (1 : Int32) (((0 : Int64) + qa) + qb) (((0 : Int64) + qa) + qb)) = (exF (2 : Int32) v7 (0 : Int64) qa v18 v26) := (by simp [ldF, exF, prF, hc138, ← hqv18, ← hqv26])
        have hi171 : ((ldF (1 : Int32) (((0 : Int64) + qa) + qb) (((0 : Int64) + qa) + qb))).toInt = ((exF (2 : Int32) v7 (0 : Int64) qa v18 v26)).toInt := Int64.toInt_inj.symm.mp hc171
        refine Go.st (fun _ k => XS.ifNo X81.here hx rfl (hb hby at_171) rfl (Jvm.Free.XT.ll_ne_f hc171) k) ?_
        show Go p.tables e below _ (T81.setTop (mkF m 174 #[.val (.long qa), .second, .val (.long qb), .second, .val (.long qc), .second, .val (.int pm), .val (.int v7), .val (.long (0 : Int64)), .second, .val (.long qa), .second, .val (.long v18), .second, .val (.long v26), .second, .val (.ref b1), .val (.int (1 : Int32))] []))
        refine Go.st (fun _ k => XS.iconst X81.here hx rfl (hb hby at_174) k) ?_
        show Go p.tables e below _ (T81.setTop (mkF m 175 #[.val (.long qa), .second, .val (.long qb), .second, .val (.long qc), .second, .val (.int pm), .val (.int v7), .val (.long (0 : Int64)), .second, .val (.long qa), .second, .val (.long v18), .second, .val (.long v26), .second, .val (.ref b1), .val (.int (1 : Int32))] [(.int (1 : Int32))]))
        refine Go.st (fun _ k => XS.goto X81.here hx rfl (pc0 := 175) (pc' := 179) rfl (hb hby at_175) (by decide) (by decide) k) ?_
        show Go p.tables e below _ (T81.setTop (mkF m 179 #[.val (.long qa), .second, .val (.long qb), .second, .val (.long qc), .second, .val (.int pm), .val (.int v7), .val (.long (0 : Int64)), .second, .val (.long qa), .second, .val (.long v18), .second, .val (.long v26), .second, .val (.ref b1), .val (.int (1 : Int32))] [(.int (1 : Int32))]))
        refine Go.st (fun _ k => XS.istore X81.here hx rfl (hb hby at_179) rfl (l' := #[.val (.long qa), .second, .val (.long qb), .second, .val (.long qc), .second, .val (.int pm), .val (.int v7), .val (.long (0 : Int64)), .second, .val (.long qa), .second, .val (.long v18), .second, .val (.long v26), .second, .val (.ref b1), .val (.int (1 : Int32))]) rfl k) ?_
        show Go p.tables e below _ (T81.setTop (mkF m 181 #[.val (.long qa), .second, .val (.long qb), .second, .val (.long qc), .second, .val (.int pm), .val (.int v7), .val (.long (0 : Int64)), .second, .val (.long qa), .second, .val (.long v18), .second, .val (.long v26), .second, .val (.ref b1), .val (.int (1 : Int32))] []))
        show Go p.tables e below _ (T81.setTop (mkF m 181 #[.val (.long qa), .second, .val (.long qb), .second, .val (.long qc), .second, .val (.int pm), .val (.int v7), .val (.long (0 : Int64)), .second, .val (.long qa), .second, .val (.long v18), .second, .val (.long v26), .second, .val (.ref b1), .val (.int (1 : Int32))] []))
        refine Go.st (fun _ k => XS.aload X81.here hx rfl (hb hby at_181) rfl rfl k) ?_
        show Go p.tables e below _ (T81.setTop (mkF m 183 #[.val (.long qa), .second, .val (.long qb), .second, .val (.long qc), .second, .val (.int pm), .val (.int v7), .val (.long (0 : Int64)), .second, .val (.long qa), .second, .val (.long v18), .second, .val (.long v26), .second, .val (.ref b1), .val (.int (1 : Int32))] [(.ref b1)]))
        refine Go.st (fun _ k => XS.lload X81.here hx rfl (hb hby at_183) rfl k) ?_
        show Go p.tables e below _ (T81.setTop (mkF m 185 #[.val (.long qa), .second, .val (.long qb), .second, .val (.long qc), .second, .val (.int pm), .val (.int v7), .val (.long (0 : Int64)), .second, .val (.long qa), .second, .val (.long v18), .second, .val (.long v26), .second, .val (.ref b1), .val (.int (1 : Int32))] [(.long qc), (.ref b1)]))
        obtain ⟨cq82, kq82, q82a, q82b, q82c⟩ := isOf hZ e81 Fq75_0
        obtain ⟨_, _, ⟨T82, L82, k82, n82⟩, -, X82, ⟨Lc82, hQ82, l82, y82, z82⟩, st82⟩ := X81.virtualBack hx (y := (⟨"com/example/rivulet/rivulet/Counter", "add", "(J)V"⟩ : MethodName)) (z := (⟨"com/example/rivulet/rivulet/Counter", "add", "(J)V"⟩ : MethodName)) hown (mvT hZ (hw _ (List.mem_of_getElem? (i := 31) rfl))) (mvT hZ (hw _ (List.mem_of_getElem? (i := 32) rfl))) (notFace_of_selects (args := #[]) (mvT hZ (hw _ (List.mem_of_getElem? (i := 34) rfl)))) (mvT hZ (hw _ (List.mem_of_getElem? (i := 34) rfl))) (mvT hZ (hw _ (List.mem_of_getElem? (i := 33) rfl))) (by decide) (backOf (W := 0) (rm_cadd l Z a0 hw [] b1 qc (((0 : Int64) + qa) + qb) (1 : Int32) (((0 : Int64) + qa) + qb) T75.heap n0 Z76 Fq75_0 Fq75_1 Fq75_2 Fq75_3 Fq75_4 ge2) hZ (hw _ (List.mem_of_getElem? (i := 35) rfl)) (hw _ (List.mem_of_getElem? (i := 3) rfl)) (by decide) (by decide)) q82a q82c (g := (mkF m 185 #[.val (.long qa), .second, .val (.long qb), .second, .val (.long qc), .second, .val (.int pm), .val (.int v7), .val (.long (0 : Int64)), .second, .val (.long qa), .second, .val (.long v18), .second, .val (.long v26), .second, .val (.ref b1), .val (.int (1 : Int32))] [(.long qc), (.ref b1)])) rfl (by rw [hml]; rfl) (Steps.refl _) (argsL := [(.long qc)]) (rest := []) (lenOf pd_5 rfl) rfl (by show 2 * 0 + _ ≤ _; exact Nat.le_of_eq rfl) (hb hby at_185) (fun _ _ => ⟨rfl, e81, (by decide : 1 + 0 ≤ _), (by decide : 4 + 0 ≤ _)⟩)
        dsimp only [Pt.U, Pt.locs, Pt.cells, Pt.slots] at X82 l82 y82 z82 st82 hQ82
        subst l82 y82 z82
        obtain ⟨rfl, N82q, K82q, Fq82_0, Fq82_1, Fq82_2, Fq82_3, Fq82_4⟩ := hQ82
        have N82 := Fr.app N81 N82q
        refine Go.st (fun _ k => st82.trans k) ?_
        have Z83 : n0 ≤ T82.heap.size := Nat.le_trans Z76 K82q.1
        have K84 : Keep h0 T82.heap [] := K77.trans K82q (fun z hz => (List.mem_cons.mp hz).elim (fun q => by rw [q]; exact Or.inr sz3) (fun hz => absurd hz List.not_mem_nil))
        have F85 : Exa Z T82.heap b1 "com/example/rivulet/rivulet/Counter" := Fq75_0.keep K82q
        show Go p.tables e below _ (T82.setTop (mkF m 188 #[.val (.long qa), .second, .val (.long qb), .second, .val (.long qc), .second, .val (.int pm), .val (.int v7), .val (.long (0 : Int64)), .second, .val (.long qa), .second, .val (.long v18), .second, .val (.long v26), .second, .val (.ref b1), .val (.int (1 : Int32))] []))
        refine Go.st (fun _ k => XS.iload X82.here hx rfl (hb hby at_188) rfl k) ?_
        show Go p.tables e below _ (T82.setTop (mkF m 190 #[.val (.long qa), .second, .val (.long qb), .second, .val (.long qc), .second, .val (.int pm), .val (.int v7), .val (.long (0 : Int64)), .second, .val (.long qa), .second, .val (.long v18), .second, .val (.long v26), .second, .val (.ref b1), .val (.int (1 : Int32))] [(.int v7)]))
        refine Go.st (fun _ k => XS.iconst X82.here hx rfl (hb hby at_190) k) ?_
        show Go p.tables e below _ (T82.setTop (mkF m 191 #[.val (.long qa), .second, .val (.long qb), .second, .val (.long qc), .second, .val (.int pm), .val (.int v7), .val (.long (0 : Int64)), .second, .val (.long qa), .second, .val (.long v18), .second, .val (.long v26), .second, .val (.ref b1), .val (.int (1 : Int32))] [(.int (3 : Int32)), (.int v7)]))
        have hc191 : ¬ (v7 = (3 : Int32)) := (by rw [hc138]; decide)
        have lt_332 : (3 : Int32).toInt = 3 := by decide
        have hi191 : ¬ ((v7).toInt = ((3 : Int32)).toInt) := fun z => hc191 (Int32.toInt_inj.symm.mpr z)
        refine Go.st (fun _ k => XS.icmpYes X82.here hx rfl (pc0 := 191) (pc' := 199) rfl (hb hby at_191) rfl (Jvm.Free.XT.ii_ne_t hc191) (by decide) (by decide) k) ?_
        show Go p.tables e below _ (T82.setTop (mkF m 199 #[.val (.long qa), .second, .val (.long qb), .second, .val (.long qc), .second, .val (.int pm), .val (.int v7), .val (.long (0 : Int64)), .second, .val (.long qa), .second, .val (.long v18), .second, .val (.long v26), .second, .val (.ref b1), .val (.int (1 : Int32))] []))
        refine Go.st (fun _ k => XS.iload X82.here hx rfl (hb hby at_199) rfl k) ?_
        show Go p.tables e below _ (T82.setTop (mkF m 201 #[.val (.long qa), .second, .val (.long qb), .second, .val (.long qc), .second, .val (.int pm), .val (.int v7), .val (.long (0 : Int64)), .second, .val (.long qa), .second, .val (.long v18), .second, .val (.long v26), .second, .val (.ref b1), .val (.int (1 : Int32))] [(.int (1 : Int32))]))
        have hl86 : ¬ ((1 : Int32) = (0 : Int32)) := by decide
        refine Go.st (fun _ k => XS.ifNo X82.here hx rfl (hb hby at_201) rfl (Jvm.Free.XT.i0_eq_f hl86) k) ?_
        show Go p.tables e below _ (T82.setTop (mkF m 204 #[.val (.long qa), .second, .val (.long qb), .second, .val (.long qc), .second, .val (.int pm), .val (.int v7), .val (.long (0 : Int64)), .second, .val (.long qa), .second, .val (.long v18), .second, .val (.long v26), .second, .val (.ref b1), .val (.int (1 : Int32))] []))
        refine Go.st (fun _ k => XS.aload X82.here hx rfl (hb hby at_204) rfl rfl k) ?_
        show Go p.tables e below _ (T82.setTop (mkF m 206 #[.val (.long qa), .second, .val (.long qb), .second, .val (.long qc), .second, .val (.int pm), .val (.int v7), .val (.long (0 : Int64)), .second, .val (.long qa), .second, .val (.long v18), .second, .val (.long v26), .second, .val (.ref b1), .val (.int (1 : Int32))] [(.ref b1)]))
        obtain ⟨cq87, kq87, q87a, q87b, q87c⟩ := isOf hZ (rfl : T82.heap = T82.heap) Fq82_0
        obtain ⟨_, _, ⟨T87, L87, k87, n87⟩, -, X87, ⟨Lc87, hQ87, l87, y87, z87⟩, st87⟩ := X82.virtualBack hx (y := (⟨"com/example/rivulet/rivulet/Counter", "load", "()J"⟩ : MethodName)) (z := (⟨"com/example/rivulet/rivulet/Counter", "load", "()J"⟩ : MethodName)) hown (mvT hZ (hw _ (List.mem_of_getElem? (i := 15) rfl))) (mvT hZ (hw _ (List.mem_of_getElem? (i := 16) rfl))) (notFace_of_selects (args := #[]) (mvT hZ (hw _ (List.mem_of_getElem? (i := 18) rfl)))) (mvT hZ (hw _ (List.mem_of_getElem? (i := 18) rfl))) (mvT hZ (hw _ (List.mem_of_getElem? (i := 17) rfl))) (by decide) (backOf (W := 0) (rm_load l Z a0 hw [] b1 ((((0 : Int64) + qa) + qb) + qc) (1 : Int32) (((0 : Int64) + qa) + qb) T82.heap n0 Z83 Fq82_1 Fq82_2 Fq82_3) hZ (hw _ (List.mem_of_getElem? (i := 19) rfl)) (hw _ (List.mem_of_getElem? (i := 3) rfl)) (by decide) (by decide)) q87a q87c (g := (mkF m 206 #[.val (.long qa), .second, .val (.long qb), .second, .val (.long qc), .second, .val (.int pm), .val (.int v7), .val (.long (0 : Int64)), .second, .val (.long qa), .second, .val (.long v18), .second, .val (.long v26), .second, .val (.ref b1), .val (.int (1 : Int32))] [(.ref b1)])) rfl (by rw [hml]; rfl) (Steps.refl _) (argsL := []) (rest := []) (lenOf pd_3 rfl) rfl (by show 2 * 0 + _ ≤ _; exact Nat.le_of_eq rfl) (hb hby at_206) (fun _ _ => ⟨rfl, (rfl : T82.heap = T82.heap), (by decide : 1 + 0 ≤ _), (by decide : 4 + 0 ≤ _)⟩)
        dsimp only [Pt.U, Pt.locs, Pt.cells, Pt.slots] at X87 l87 y87 z87 st87 hQ87
        subst l87 y87 z87
        obtain ⟨rfl, N87q, e87⟩ := hQ87
        have N87 := Fr.app N82 N87q
        refine Go.st (fun _ k => st87.trans k) ?_
        show Go p.tables e below _ (T87.setTop (mkF m 209 #[.val (.long qa), .second, .val (.long qb), .second, .val (.long qc), .second, .val (.int pm), .val (.int v7), .val (.long (0 : Int64)), .second, .val (.long qa), .second, .val (.long v18), .second, .val (.long v26), .second, .val (.ref b1), .val (.int (1 : Int32))] [(.long (ldF (1 : Int32) (((0 : Int64) + qa) + qb) ((((0 : Int64) + qa) + qb) + qc)))]))
        refine Go.st (fun _ k => XS.iconst X87.here hx rfl (hb hby at_209) k) ?_
        show Go p.tables e below _ (T87.setTop (mkF m 210 #[.val (.long qa), .second, .val (.long qb), .second, .val (.long qc), .second, .val (.int pm), .val (.int v7), .val (.long (0 : Int64)), .second, .val (.long qa), .second, .val (.long v18), .second, .val (.long v26), .second, .val (.ref b1), .val (.int (1 : Int32))] [(.int (3 : Int32)), (.long (ldF (1 : Int32) (((0 : Int64) + qa) + qb) ((((0 : Int64) + qa) + qb) + qc)))]))
        refine Go.st (fun _ k => XS.iload X87.here hx rfl (hb hby at_210) rfl k) ?_
        show Go p.tables e below _ (T87.setTop (mkF m 212 #[.val (.long qa), .second, .val (.long qb), .second, .val (.long qc), .second, .val (.int pm), .val (.int v7), .val (.long (0 : Int64)), .second, .val (.long qa), .second, .val (.long v18), .second, .val (.long v26), .second, .val (.ref b1), .val (.int (1 : Int32))] [(.int v7), (.int (3 : Int32)), (.long (ldF (1 : Int32) (((0 : Int64) + qa) + qb) ((((0 : Int64) + qa) + qb) + qc)))]))
        refine Go.st (fun _ k => XS.lload X87.here hx rfl (hb hby at_212) rfl k) ?_
        show Go p.tables e below _ (T87.setTop (mkF m 214 #[.val (.long qa), .second, .val (.long qb), .second, .val (.long qc), .second, .val (.int pm), .val (.int v7), .val (.long (0 : Int64)), .second, .val (.long qa), .second, .val (.long v18), .second, .val (.long v26), .second, .val (.ref b1), .val (.int (1 : Int32))] [(.long (0 : Int64)), (.int v7), (.int (3 : Int32)), (.long (ldF (1 : Int32) (((0 : Int64) + qa) + qb) ((((0 : Int64) + qa) + qb) + qc)))]))
        refine Go.st (fun _ k => XS.lload X87.here hx rfl (hb hby at_214) rfl k) ?_
        show Go p.tables e below _ (T87.setTop (mkF m 216 #[.val (.long qa), .second, .val (.long qb), .second, .val (.long qc), .second, .val (.int pm), .val (.int v7), .val (.long (0 : Int64)), .second, .val (.long qa), .second, .val (.long v18), .second, .val (.long v26), .second, .val (.ref b1), .val (.int (1 : Int32))] [(.long qa), (.long (0 : Int64)), (.int v7), (.int (3 : Int32)), (.long (ldF (1 : Int32) (((0 : Int64) + qa) + qb) ((((0 : Int64) + qa) + qb) + qc)))]))
        refine Go.st (fun _ k => XS.lload X87.here hx rfl (hb hby at_216) rfl k) ?_
        show Go p.tables e below _ (T87.setTop (mkF m 218 #[.val (.long qa), .second, .val (.long qb), .second, .val (.long qc), .second, .val (.int pm), .val (.int v7), .val (.long (0 : Int64)), .second, .val (.long qa), .second, .val (.long v18), .second, .val (.long v26), .second, .val (.ref b1), .val (.int (1 : Int32))] [(.long v18), (.long qa), (.long (0 : Int64)), (.int v7), (.int (3 : Int32)), (.long (ldF (1 : Int32) (((0 : Int64) + qa) + qb) ((((0 : Int64) + qa) + qb) + qc)))]))
        refine Go.st (fun _ k => XS.lload X87.here hx rfl (hb hby at_218) rfl k) ?_
        show Go p.tables e below _ (T87.setTop (mkF m 220 #[.val (.long qa), .second, .val (.long qb), .second, .val (.long qc), .second, .val (.int pm), .val (.int v7), .val (.long (0 : Int64)), .second, .val (.long qa), .second, .val (.long v18), .second, .val (.long v26), .second, .val (.ref b1), .val (.int (1 : Int32))] [(.long v26), (.long v18), (.long qa), (.long (0 : Int64)), (.int v7), (.int (3 : Int32)), (.long (ldF (1 : Int32) (((0 : Int64) + qa) + qb) ((((0 : Int64) + qa) + qb) + qc)))]))
        obtain ⟨_, _, ⟨T88, L88, k88, n88⟩, -, X88, ⟨Lc88, hQ88, l88, y88, z88⟩, st88⟩ := Jvm.LawKit.callS X87 hx (y := (⟨"com/example/rivulet/rivulet/CounterLoadPinLaw", "expected", "(IIJJJJ)J"⟩ : MethodName)) hown (mvT hZ (hw _ (List.mem_of_getElem? (i := 24) rfl))) (mvT hZ (hw _ (List.mem_of_getElem? (i := 25) rfl))) (mvT hZ (hw _ (List.mem_of_getElem? (i := 26) rfl))) (mvT hZ (hw _ (List.mem_of_getElem? (i := 27) rfl))) (by decide) (backOf (W := 2) (rm_expe l Z a0 hw [] (3 : Int32) v7 (0 : Int64) qa v18 v26 T82.heap n0 Z83 ) hZ (hw _ (List.mem_of_getElem? (i := 27) rfl)) (hw _ (List.mem_of_getElem? (i := 26) rfl)) (by decide) (by decide)) (g := (mkF m 220 #[.val (.long qa), .second, .val (.long qb), .second, .val (.long qc), .second, .val (.int pm), .val (.int v7), .val (.long (0 : Int64)), .second, .val (.long qa), .second, .val (.long v18), .second, .val (.long v26), .second, .val (.ref b1), .val (.int (1 : Int32))] [(.long v26), (.long v18), (.long qa), (.long (0 : Int64)), (.int v7), (.int (3 : Int32)), (.long (ldF (1 : Int32) (((0 : Int64) + qa) + qb) ((((0 : Int64) + qa) + qb) + qc)))])) rfl (by rw [hml]; rfl) (argsL := [(.int (3 : Int32)), (.int v7), (.long (0 : Int64)), (.long qa), (.long v18), (.long v26)]) (rest := [(.long (ldF (1 : Int32) (((0 : Int64) + qa) + qb) ((((0 : Int64) + qa) + qb) + qc)))]) (lenOf pd_4 rfl) rfl (by show 2 * 0 + _ ≤ _; exact Nat.le_of_eq rfl) (hb hby at_220) (fun _ _ => ⟨rfl, e87, (by decide : 1 + 0 ≤ _), (by decide : 4 + 0 ≤ _)⟩)
        dsimp only [Pt.U, Pt.locs, Pt.cells, Pt.slots] at X88 l88 y88 z88 st88 hQ88
        subst l88 y88 z88
        obtain ⟨rfl, N88q, e88⟩ := hQ88
        have N88 := Fr.app N87 N88q
        refine Go.st st88 ?_
        show Go p.tables e below _ (T88.setTop (mkF m 223 #[.val (.long qa), .second, .val (.long qb), .second, .val (.long qc), .second, .val (.int pm), .val (.int v7), .val (.long (0 : Int64)), .second, .val (.long qa), .second, .val (.long v18), .second, .val (.long v26), .second, .val (.ref b1), .val (.int (1 : Int32))] [(.long (exF (3 : Int32) v7 (0 : Int64) qa v18 v26)), (.long (ldF (1 : Int32) (((0 : Int64) + qa) + qb) ((((0 : Int64) + qa) + qb) + qc)))]))
        refine Go.st (fun _ k => Jvm.Free.XT.lcmp X88.here hx rfl (hb hby at_223) rfl k) ?_
        show Go p.tables e below _ (T88.setTop (mkF m 224 #[.val (.long qa), .second, .val (.long qb), .second, .val (.long qc), .second, .val (.int pm), .val (.int v7), .val (.long (0 : Int64)), .second, .val (.long qa), .second, .val (.long v18), .second, .val (.long v26), .second, .val (.ref b1), .val (.int (1 : Int32))] [(.int (Jvm.Free.XT.cmpL (ldF (1 : Int32) (((0 : Int64) + qa) + qb) ((((0 : Int64) + qa) + qb) + qc)) (exF (3 : Int32) v7 (0 : Int64) qa v18 v26)))]))
        have hc224 : (ldF (1 : Int32) (((0 : Int64) + qa) + qb) ((((0 : Int64) + qa) + qb) + qc)) = (exF (3 : Int32) v7 (0 : Int64) qa v18 v26) := (by simp [ldF, exF, prF, hc138, ← hqv18, ← hqv26])
        have hi224 : ((ldF (1 : Int32) (((0 : Int64) + qa) + qb) ((((0 : Int64) + qa) + qb) + qc))).toInt = ((exF (3 : Int32) v7 (0 : Int64) qa v18 v26)).toInt := Int64.toInt_inj.symm.mp hc224
        refine Go.st (fun _ k => XS.ifNo X88.here hx rfl (hb hby at_224) rfl (Jvm.Free.XT.ll_ne_f hc224) k) ?_
        show Go p.tables e below _ (T88.setTop (mkF m 227 #[.val (.long qa), .second, .val (.long qb), .second, .val (.long qc), .second, .val (.int pm), .val (.int v7), .val (.long (0 : Int64)), .second, .val (.long qa), .second, .val (.long v18), .second, .val (.long v26), .second, .val (.ref b1), .val (.int (1 : Int32))] []))
        refine Go.st (fun _ k => XS.iconst X88.here hx rfl (hb hby at_227) k) ?_
        show Go p.tables e below _ (T88.setTop (mkF m 228 #[.val (.long qa), .second, .val (.long qb), .second, .val (.long qc), .second, .val (.int pm), .val (.int v7), .val (.long (0 : Int64)), .second, .val (.long qa), .second, .val (.long v18), .second, .val (.long v26), .second, .val (.ref b1), .val (.int (1 : Int32))] [(.int (1 : Int32))]))
        refine Go.st (fun _ k => XS.goto X88.here hx rfl (pc0 := 228) (pc' := 232) rfl (hb hby at_228) (by decide) (by decide) k) ?_
        show Go p.tables e below _ (T88.setTop (mkF m 232 #[.val (.long qa), .second, .val (.long qb), .second, .val (.long qc), .second, .val (.int pm), .val (.int v7), .val (.long (0 : Int64)), .second, .val (.long qa), .second, .val (.long v18), .second, .val (.long v26), .second, .val (.ref b1), .val (.int (1 : Int32))] [(.int (1 : Int32))]))
        refine Go.st (fun _ k => XS.istore X88.here hx rfl (hb hby at_232) rfl (l' := #[.val (.long qa), .second, .val (.long qb), .second, .val (.long qc), .second, .val (.int pm), .val (.int v7), .val (.long (0 : Int64)), .second, .val (.long qa), .second, .val (.long v18), .second, .val (.long v26), .second, .val (.ref b1), .val (.int (1 : Int32))]) rfl k) ?_
        show Go p.tables e below _ (T88.setTop (mkF m 234 #[.val (.long qa), .second, .val (.long qb), .second, .val (.long qc), .second, .val (.int pm), .val (.int v7), .val (.long (0 : Int64)), .second, .val (.long qa), .second, .val (.long v18), .second, .val (.long v26), .second, .val (.ref b1), .val (.int (1 : Int32))] []))
        show Go p.tables e below _ (T88.setTop (mkF m 234 #[.val (.long qa), .second, .val (.long qb), .second, .val (.long qc), .second, .val (.int pm), .val (.int v7), .val (.long (0 : Int64)), .second, .val (.long qa), .second, .val (.long v18), .second, .val (.long v26), .second, .val (.ref b1), .val (.int (1 : Int32))] []))
        refine Go.st (fun _ k => XS.iload X88.here hx rfl (hb hby at_234) rfl k) ?_
        show Go p.tables e below _ (T88.setTop (mkF m 236 #[.val (.long qa), .second, .val (.long qb), .second, .val (.long qc), .second, .val (.int pm), .val (.int v7), .val (.long (0 : Int64)), .second, .val (.long qa), .second, .val (.long v18), .second, .val (.long v26), .second, .val (.ref b1), .val (.int (1 : Int32))] [(.int (1 : Int32))]))
        subst hG
        obtain ⟨fs, hr, hrun, hended, hW, hsame⟩ := X88.leave (v := some (.int (nar .boolean (1 : Int32)))) (fun h => by rw [Bd.returns] at h; cases h)
        refine ⟨_, _, ?_, hrun, hended, _, _, rfl, ?_, ⟨_, rfl⟩, hW, hsame.mono (by decide) (by decide)⟩
        · exact retN X88 hx (t := .boolean) Bd.returns (by simp) (hb hby at_236) hr
        · show Q_law Z qa qb qc pm h0 n0 _ T88.heap _
          rw [e88]
          exact ⟨rfl, N88, K84⟩
      · skip
        have lt_232 : (2 : Int32).toInt = 2 := by decide
        have hi138 : ¬ ((v7).toInt = ((2 : Int32)).toInt) := fun z => hc138 (Int32.toInt_inj.symm.mpr z)
        refine Go.st (fun _ k => XS.icmpYes X71.here hx rfl (pc0 := 138) (pc' := 146) rfl (hb hby at_138) rfl (Jvm.Free.XT.ii_ne_t hc138) (by decide) (by decide) k) ?_
        show Go p.tables e below _ (T71.setTop (mkF m 146 #[.val (.long qa), .second, .val (.long qb), .second, .val (.long qc), .second, .val (.int pm), .val (.int v7), .val (.long (0 : Int64)), .second, .val (.long qa), .second, .val (.long v18), .second, .val (.long v26), .second, .val (.ref b1), .val (.int (1 : Int32))] []))
        refine Go.st (fun _ k => XS.iload X71.here hx rfl (hb hby at_146) rfl k) ?_
        show Go p.tables e below _ (T71.setTop (mkF m 148 #[.val (.long qa), .second, .val (.long qb), .second, .val (.long qc), .second, .val (.int pm), .val (.int v7), .val (.long (0 : Int64)), .second, .val (.long qa), .second, .val (.long v18), .second, .val (.long v26), .second, .val (.ref b1), .val (.int (1 : Int32))] [(.int (1 : Int32))]))
        have hl89 : ¬ ((1 : Int32) = (0 : Int32)) := by decide
        refine Go.st (fun _ k => XS.ifNo X71.here hx rfl (hb hby at_148) rfl (Jvm.Free.XT.i0_eq_f hl89) k) ?_
        show Go p.tables e below _ (T71.setTop (mkF m 151 #[.val (.long qa), .second, .val (.long qb), .second, .val (.long qc), .second, .val (.int pm), .val (.int v7), .val (.long (0 : Int64)), .second, .val (.long qa), .second, .val (.long v18), .second, .val (.long v26), .second, .val (.ref b1), .val (.int (1 : Int32))] []))
        refine Go.st (fun _ k => XS.aload X71.here hx rfl (hb hby at_151) rfl rfl k) ?_
        show Go p.tables e below _ (T71.setTop (mkF m 153 #[.val (.long qa), .second, .val (.long qb), .second, .val (.long qc), .second, .val (.int pm), .val (.int v7), .val (.long (0 : Int64)), .second, .val (.long qa), .second, .val (.long v18), .second, .val (.long v26), .second, .val (.ref b1), .val (.int (1 : Int32))] [(.ref b1)]))
        obtain ⟨cq90, kq90, q90a, q90b, q90c⟩ := isOf hZ (rfl : T71.heap = T71.heap) Fq71_0
        obtain ⟨_, _, ⟨T90, L90, k90, n90⟩, -, X90, ⟨Lc90, hQ90, l90, y90, z90⟩, st90⟩ := X71.virtualBack hx (y := (⟨"com/example/rivulet/rivulet/Counter", "load", "()J"⟩ : MethodName)) (z := (⟨"com/example/rivulet/rivulet/Counter", "load", "()J"⟩ : MethodName)) hown (mvT hZ (hw _ (List.mem_of_getElem? (i := 15) rfl))) (mvT hZ (hw _ (List.mem_of_getElem? (i := 16) rfl))) (notFace_of_selects (args := #[]) (mvT hZ (hw _ (List.mem_of_getElem? (i := 18) rfl)))) (mvT hZ (hw _ (List.mem_of_getElem? (i := 18) rfl))) (mvT hZ (hw _ (List.mem_of_getElem? (i := 17) rfl))) (by decide) (backOf (W := 0) (rm_load l Z a0 hw [] b1 (((0 : Int64) + qa) + qb) (0 : Int32) (0 : Int64) T71.heap n0 Z72 Fq71_1 Fq71_2 Fq71_3) hZ (hw _ (List.mem_of_getElem? (i := 19) rfl)) (hw _ (List.mem_of_getElem? (i := 3) rfl)) (by decide) (by decide)) q90a q90c (g := (mkF m 153 #[.val (.long qa), .second, .val (.long qb), .second, .val (.long qc), .second, .val (.int pm), .val (.int v7), .val (.long (0 : Int64)), .second, .val (.long qa), .second, .val (.long v18), .second, .val (.long v26), .second, .val (.ref b1), .val (.int (1 : Int32))] [(.ref b1)])) rfl (by rw [hml]; rfl) (Steps.refl _) (argsL := []) (rest := []) (lenOf pd_3 rfl) rfl (by show 2 * 0 + _ ≤ _; exact Nat.le_of_eq rfl) (hb hby at_153) (fun _ _ => ⟨rfl, (rfl : T71.heap = T71.heap), (by decide : 1 + 0 ≤ _), (by decide : 4 + 0 ≤ _)⟩)
        dsimp only [Pt.U, Pt.locs, Pt.cells, Pt.slots] at X90 l90 y90 z90 st90 hQ90
        subst l90 y90 z90
        obtain ⟨rfl, N90q, e90⟩ := hQ90
        have N90 := Fr.app N71 N90q
        refine Go.st (fun _ k => st90.trans k) ?_
        show Go p.tables e below _ (T90.setTop (mkF m 156 #[.val (.long qa), .second, .val (.long qb), .second, .val (.long qc), .second, .val (.int pm), .val (.int v7), .val (.long (0 : Int64)), .second, .val (.long qa), .second, .val (.long v18), .second, .val (.long v26), .second, .val (.ref b1), .val (.int (1 : Int32))] [(.long (ldF (0 : Int32) (0 : Int64) (((0 : Int64) + qa) + qb)))]))
        refine Go.st (fun _ k => XS.iconst X90.here hx rfl (hb hby at_156) k) ?_
        show Go p.tables e below _ (T90.setTop (mkF m 157 #[.val (.long qa), .second, .val (.long qb), .second, .val (.long qc), .second, .val (.int pm), .val (.int v7), .val (.long (0 : Int64)), .second, .val (.long qa), .second, .val (.long v18), .second, .val (.long v26), .second, .val (.ref b1), .val (.int (1 : Int32))] [(.int (2 : Int32)), (.long (ldF (0 : Int32) (0 : Int64) (((0 : Int64) + qa) + qb)))]))
        refine Go.st (fun _ k => XS.iload X90.here hx rfl (hb hby at_157) rfl k) ?_
        show Go p.tables e below _ (T90.setTop (mkF m 159 #[.val (.long qa), .second, .val (.long qb), .second, .val (.long qc), .second, .val (.int pm), .val (.int v7), .val (.long (0 : Int64)), .second, .val (.long qa), .second, .val (.long v18), .second, .val (.long v26), .second, .val (.ref b1), .val (.int (1 : Int32))] [(.int v7), (.int (2 : Int32)), (.long (ldF (0 : Int32) (0 : Int64) (((0 : Int64) + qa) + qb)))]))
        refine Go.st (fun _ k => XS.lload X90.here hx rfl (hb hby at_159) rfl k) ?_
        show Go p.tables e below _ (T90.setTop (mkF m 161 #[.val (.long qa), .second, .val (.long qb), .second, .val (.long qc), .second, .val (.int pm), .val (.int v7), .val (.long (0 : Int64)), .second, .val (.long qa), .second, .val (.long v18), .second, .val (.long v26), .second, .val (.ref b1), .val (.int (1 : Int32))] [(.long (0 : Int64)), (.int v7), (.int (2 : Int32)), (.long (ldF (0 : Int32) (0 : Int64) (((0 : Int64) + qa) + qb)))]))
        refine Go.st (fun _ k => XS.lload X90.here hx rfl (hb hby at_161) rfl k) ?_
        show Go p.tables e below _ (T90.setTop (mkF m 163 #[.val (.long qa), .second, .val (.long qb), .second, .val (.long qc), .second, .val (.int pm), .val (.int v7), .val (.long (0 : Int64)), .second, .val (.long qa), .second, .val (.long v18), .second, .val (.long v26), .second, .val (.ref b1), .val (.int (1 : Int32))] [(.long qa), (.long (0 : Int64)), (.int v7), (.int (2 : Int32)), (.long (ldF (0 : Int32) (0 : Int64) (((0 : Int64) + qa) + qb)))]))
        refine Go.st (fun _ k => XS.lload X90.here hx rfl (hb hby at_163) rfl k) ?_
        show Go p.tables e below _ (T90.setTop (mkF m 165 #[.val (.long qa), .second, .val (.long qb), .second, .val (.long qc), .second, .val (.int pm), .val (.int v7), .val (.long (0 : Int64)), .second, .val (.long qa), .second, .val (.long v18), .second, .val (.long v26), .second, .val (.ref b1), .val (.int (1 : Int32))] [(.long v18), (.long qa), (.long (0 : Int64)), (.int v7), (.int (2 : Int32)), (.long (ldF (0 : Int32) (0 : Int64) (((0 : Int64) + qa) + qb)))]))
        refine Go.st (fun _ k => XS.lload X90.here hx rfl (hb hby at_165) rfl k) ?_
        show Go p.tables e below _ (T90.setTop (mkF m 167 #[.val (.long qa), .second, .val (.long qb), .second, .val (.long qc), .second, .val (.int pm), .val (.int v7), .val (.long (0 : Int64)), .second, .val (.long qa), .second, .val (.long v18), .second, .val (.long v26), .second, .val (.ref b1), .val (.int (1 : Int32))] [(.long v26), (.long v18), (.long qa), (.long (0 : Int64)), (.int v7), (.int (2 : Int32)), (.long (ldF (0 : Int32) (0 : Int64) (((0 : Int64) + qa) + qb)))]))
        obtain ⟨_, _, ⟨T91, L91, k91, n91⟩, -, X91, ⟨Lc91, hQ91, l91, y91, z91⟩, st91⟩ := Jvm.LawKit.callS X90 hx (y := (⟨"com/example/rivulet/rivulet/CounterLoadPinLaw", "expected", "(IIJJJJ)J"⟩ : MethodName)) hown (mvT hZ (hw _ (List.mem_of_getElem? (i := 24) rfl))) (mvT hZ (hw _ (List.mem_of_getElem? (i := 25) rfl))) (mvT hZ (hw _ (List.mem_of_getElem? (i := 26) rfl))) (mvT hZ (hw _ (List.mem_of_getElem? (i := 27) rfl))) (by decide) (backOf (W := 2) (rm_expe l Z a0 hw [] (2 : Int32) v7 (0 : Int64) qa v18 v26 T71.heap n0 Z72 ) hZ (hw _ (List.mem_of_getElem? (i := 27) rfl)) (hw _ (List.mem_of_getElem? (i := 26) rfl)) (by decide) (by decide)) (g := (mkF m 167 #[.val (.long qa), .second, .val (.long qb), .second, .val (.long qc), .second, .val (.int pm), .val (.int v7), .val (.long (0 : Int64)), .second, .val (.long qa), .second, .val (.long v18), .second, .val (.long v26), .second, .val (.ref b1), .val (.int (1 : Int32))] [(.long v26), (.long v18), (.long qa), (.long (0 : Int64)), (.int v7), (.int (2 : Int32)), (.long (ldF (0 : Int32) (0 : Int64) (((0 : Int64) + qa) + qb)))])) rfl (by rw [hml]; rfl) (argsL := [(.int (2 : Int32)), (.int v7), (.long (0 : Int64)), (.long qa), (.long v18), (.long v26)]) (rest := [(.long (ldF (0 : Int32) (0 : Int64) (((0 : Int64) + qa) + qb)))]) (lenOf pd_4 rfl) rfl (by show 2 * 0 + _ ≤ _; exact Nat.le_of_eq rfl) (hb hby at_167) (fun _ _ => ⟨rfl, e90, (by decide : 1 + 0 ≤ _), (by decide : 4 + 0 ≤ _)⟩)
        dsimp only [Pt.U, Pt.locs, Pt.cells, Pt.slots] at X91 l91 y91 z91 st91 hQ91
        subst l91 y91 z91
        obtain ⟨rfl, N91q, e91⟩ := hQ91
        have N91 := Fr.app N90 N91q
        refine Go.st st91 ?_
        show Go p.tables e below _ (T91.setTop (mkF m 170 #[.val (.long qa), .second, .val (.long qb), .second, .val (.long qc), .second, .val (.int pm), .val (.int v7), .val (.long (0 : Int64)), .second, .val (.long qa), .second, .val (.long v18), .second, .val (.long v26), .second, .val (.ref b1), .val (.int (1 : Int32))] [(.long (exF (2 : Int32) v7 (0 : Int64) qa v18 v26)), (.long (ldF (0 : Int32) (0 : Int64) (((0 : Int64) + qa) + qb)))]))
        refine Go.st (fun _ k => Jvm.Free.XT.lcmp X91.here hx rfl (hb hby at_170) rfl k) ?_
        show Go p.tables e below _ (T91.setTop (mkF m 171 #[.val (.long qa), .second, .val (.long qb), .second, .val (.long qc), .second, .val (.int pm), .val (.int v7), .val (.long (0 : Int64)), .second, .val (.long qa), .second, .val (.long v18), .second, .val (.long v26), .second, .val (.ref b1), .val (.int (1 : Int32))] [(.int (Jvm.Free.XT.cmpL (ldF (0 : Int32) (0 : Int64) (((0 : Int64) + qa) + qb)) (exF (2 : Int32) v7 (0 : Int64) qa v18 v26)))]))
        have hc171 : (ldF (0 : Int32) (0 : Int64) (((0 : Int64) + qa) + qb)) = (exF (2 : Int32) v7 (0 : Int64) qa v18 v26) := (by have hk := own_k hqv7; have hl : ¬ v7 < (2 : Int32) := own_nlt32 (by omega); simp [ldF, exF, prF, hl, ← hqv18, ← hqv26])
        have hi171 : ((ldF (0 : Int32) (0 : Int64) (((0 : Int64) + qa) + qb))).toInt = ((exF (2 : Int32) v7 (0 : Int64) qa v18 v26)).toInt := Int64.toInt_inj.symm.mp hc171
        refine Go.st (fun _ k => XS.ifNo X91.here hx rfl (hb hby at_171) rfl (Jvm.Free.XT.ll_ne_f hc171) k) ?_
        show Go p.tables e below _ (T91.setTop (mkF m 174 #[.val (.long qa), .second, .val (.long qb), .second, .val (.long qc), .second, .val (.int pm), .val (.int v7), .val (.long (0 : Int64)), .second, .val (.long qa), .second, .val (.long v18), .second, .val (.long v26), .second, .val (.ref b1), .val (.int (1 : Int32))] []))
        refine Go.st (fun _ k => XS.iconst X91.here hx rfl (hb hby at_174) k) ?_
        show Go p.tables e below _ (T91.setTop (mkF m 175 #[.val (.long qa), .second, .val (.long qb), .second, .val (.long qc), .second, .val (.int pm), .val (.int v7), .val (.long (0 : Int64)), .second, .val (.long qa), .second, .val (.long v18), .second, .val (.long v26), .second, .val (.ref b1), .val (.int (1 : Int32))] [(.int (1 : Int32))]))
        refine Go.st (fun _ k => XS.goto X91.here hx rfl (pc0 := 175) (pc' := 179) rfl (hb hby at_175) (by decide) (by decide) k) ?_
        show Go p.tables e below _ (T91.setTop (mkF m 179 #[.val (.long qa), .second, .val (.long qb), .second, .val (.long qc), .second, .val (.int pm), .val (.int v7), .val (.long (0 : Int64)), .second, .val (.long qa), .second, .val (.long v18), .second, .val (.long v26), .second, .val (.ref b1), .val (.int (1 : Int32))] [(.int (1 : Int32))]))
        refine Go.st (fun _ k => XS.istore X91.here hx rfl (hb hby at_179) rfl (l' := #[.val (.long qa), .second, .val (.long qb), .second, .val (.long qc), .second, .val (.int pm), .val (.int v7), .val (.long (0 : Int64)), .second, .val (.long qa), .second, .val (.long v18), .second, .val (.long v26), .second, .val (.ref b1), .val (.int (1 : Int32))]) rfl k) ?_
        show Go p.tables e below _ (T91.setTop (mkF m 181 #[.val (.long qa), .second, .val (.long qb), .second, .val (.long qc), .second, .val (.int pm), .val (.int v7), .val (.long (0 : Int64)), .second, .val (.long qa), .second, .val (.long v18), .second, .val (.long v26), .second, .val (.ref b1), .val (.int (1 : Int32))] []))
        show Go p.tables e below _ (T91.setTop (mkF m 181 #[.val (.long qa), .second, .val (.long qb), .second, .val (.long qc), .second, .val (.int pm), .val (.int v7), .val (.long (0 : Int64)), .second, .val (.long qa), .second, .val (.long v18), .second, .val (.long v26), .second, .val (.ref b1), .val (.int (1 : Int32))] []))
        refine Go.st (fun _ k => XS.aload X91.here hx rfl (hb hby at_181) rfl rfl k) ?_
        show Go p.tables e below _ (T91.setTop (mkF m 183 #[.val (.long qa), .second, .val (.long qb), .second, .val (.long qc), .second, .val (.int pm), .val (.int v7), .val (.long (0 : Int64)), .second, .val (.long qa), .second, .val (.long v18), .second, .val (.long v26), .second, .val (.ref b1), .val (.int (1 : Int32))] [(.ref b1)]))
        refine Go.st (fun _ k => XS.lload X91.here hx rfl (hb hby at_183) rfl k) ?_
        show Go p.tables e below _ (T91.setTop (mkF m 185 #[.val (.long qa), .second, .val (.long qb), .second, .val (.long qc), .second, .val (.int pm), .val (.int v7), .val (.long (0 : Int64)), .second, .val (.long qa), .second, .val (.long v18), .second, .val (.long v26), .second, .val (.ref b1), .val (.int (1 : Int32))] [(.long qc), (.ref b1)]))
        obtain ⟨cq92, kq92, q92a, q92b, q92c⟩ := isOf hZ e91 Fq71_0
        obtain ⟨_, _, ⟨T92, L92, k92, n92⟩, -, X92, ⟨Lc92, hQ92, l92, y92, z92⟩, st92⟩ := X91.virtualBack hx (y := (⟨"com/example/rivulet/rivulet/Counter", "add", "(J)V"⟩ : MethodName)) (z := (⟨"com/example/rivulet/rivulet/Counter", "add", "(J)V"⟩ : MethodName)) hown (mvT hZ (hw _ (List.mem_of_getElem? (i := 31) rfl))) (mvT hZ (hw _ (List.mem_of_getElem? (i := 32) rfl))) (notFace_of_selects (args := #[]) (mvT hZ (hw _ (List.mem_of_getElem? (i := 34) rfl)))) (mvT hZ (hw _ (List.mem_of_getElem? (i := 34) rfl))) (mvT hZ (hw _ (List.mem_of_getElem? (i := 33) rfl))) (by decide) (backOf (W := 0) (rm_cadd l Z a0 hw [] b1 qc (((0 : Int64) + qa) + qb) (0 : Int32) (0 : Int64) T71.heap n0 Z72 Fq71_0 Fq71_1 Fq71_2 Fq71_3 Fq71_4 ge2) hZ (hw _ (List.mem_of_getElem? (i := 35) rfl)) (hw _ (List.mem_of_getElem? (i := 3) rfl)) (by decide) (by decide)) q92a q92c (g := (mkF m 185 #[.val (.long qa), .second, .val (.long qb), .second, .val (.long qc), .second, .val (.int pm), .val (.int v7), .val (.long (0 : Int64)), .second, .val (.long qa), .second, .val (.long v18), .second, .val (.long v26), .second, .val (.ref b1), .val (.int (1 : Int32))] [(.long qc), (.ref b1)])) rfl (by rw [hml]; rfl) (Steps.refl _) (argsL := [(.long qc)]) (rest := []) (lenOf pd_5 rfl) rfl (by show 2 * 0 + _ ≤ _; exact Nat.le_of_eq rfl) (hb hby at_185) (fun _ _ => ⟨rfl, e91, (by decide : 1 + 0 ≤ _), (by decide : 4 + 0 ≤ _)⟩)
        dsimp only [Pt.U, Pt.locs, Pt.cells, Pt.slots] at X92 l92 y92 z92 st92 hQ92
        subst l92 y92 z92
        obtain ⟨rfl, N92q, K92q, Fq92_0, Fq92_1, Fq92_2, Fq92_3, Fq92_4⟩ := hQ92
        have N92 := Fr.app N91 N92q
        refine Go.st (fun _ k => st92.trans k) ?_
        have Z93 : n0 ≤ T92.heap.size := Nat.le_trans Z72 K92q.1
        have K94 : Keep h0 T92.heap [] := K73.trans K92q (fun z hz => (List.mem_cons.mp hz).elim (fun q => by rw [q]; exact Or.inr sz3) (fun hz => absurd hz List.not_mem_nil))
        have F95 : Exa Z T92.heap b1 "com/example/rivulet/rivulet/Counter" := Fq71_0.keep K92q
        show Go p.tables e below _ (T92.setTop (mkF m 188 #[.val (.long qa), .second, .val (.long qb), .second, .val (.long qc), .second, .val (.int pm), .val (.int v7), .val (.long (0 : Int64)), .second, .val (.long qa), .second, .val (.long v18), .second, .val (.long v26), .second, .val (.ref b1), .val (.int (1 : Int32))] []))
        refine Go.st (fun _ k => XS.iload X92.here hx rfl (hb hby at_188) rfl k) ?_
        show Go p.tables e below _ (T92.setTop (mkF m 190 #[.val (.long qa), .second, .val (.long qb), .second, .val (.long qc), .second, .val (.int pm), .val (.int v7), .val (.long (0 : Int64)), .second, .val (.long qa), .second, .val (.long v18), .second, .val (.long v26), .second, .val (.ref b1), .val (.int (1 : Int32))] [(.int v7)]))
        refine Go.st (fun _ k => XS.iconst X92.here hx rfl (hb hby at_190) k) ?_
        show Go p.tables e below _ (T92.setTop (mkF m 191 #[.val (.long qa), .second, .val (.long qb), .second, .val (.long qc), .second, .val (.int pm), .val (.int v7), .val (.long (0 : Int64)), .second, .val (.long qa), .second, .val (.long v18), .second, .val (.long v26), .second, .val (.ref b1), .val (.int (1 : Int32))] [(.int (3 : Int32)), (.int v7)]))
        by_cases hc191 : v7 = (3 : Int32)
        · skip
          have lt_332 : (3 : Int32).toInt = 3 := by decide
          have hi191 : (v7).toInt = ((3 : Int32)).toInt := Int32.toInt_inj.symm.mp hc191
          refine Go.st (fun _ k => XS.icmpNo X92.here hx rfl (hb hby at_191) rfl (Jvm.Free.XT.ii_ne_f hc191) k) ?_
          show Go p.tables e below _ (T92.setTop (mkF m 194 #[.val (.long qa), .second, .val (.long qb), .second, .val (.long qc), .second, .val (.int pm), .val (.int v7), .val (.long (0 : Int64)), .second, .val (.long qa), .second, .val (.long v18), .second, .val (.long v26), .second, .val (.ref b1), .val (.int (1 : Int32))] []))
          refine Go.st (fun _ k => XS.aload X92.here hx rfl (hb hby at_194) rfl rfl k) ?_
          show Go p.tables e below _ (T92.setTop (mkF m 196 #[.val (.long qa), .second, .val (.long qb), .second, .val (.long qc), .second, .val (.int pm), .val (.int v7), .val (.long (0 : Int64)), .second, .val (.long qa), .second, .val (.long v18), .second, .val (.long v26), .second, .val (.ref b1), .val (.int (1 : Int32))] [(.ref b1)]))
          obtain ⟨cq96, kq96, q96a, q96b, q96c⟩ := isOf hZ (rfl : T92.heap = T92.heap) Fq92_0
          obtain ⟨_, _, ⟨T96, L96, k96, n96⟩, -, X96, ⟨Lc96, hQ96, l96, y96, z96⟩, st96⟩ := X92.virtualBack hx (y := (⟨"com/example/rivulet/rivulet/Counter", "loaded", "()V"⟩ : MethodName)) (z := (⟨"com/example/rivulet/rivulet/Counter", "loaded", "()V"⟩ : MethodName)) hown (mvT hZ (hw _ (List.mem_of_getElem? (i := 36) rfl))) (mvT hZ (hw _ (List.mem_of_getElem? (i := 37) rfl))) (notFace_of_selects (args := #[]) (mvT hZ (hw _ (List.mem_of_getElem? (i := 39) rfl)))) (mvT hZ (hw _ (List.mem_of_getElem? (i := 39) rfl))) (mvT hZ (hw _ (List.mem_of_getElem? (i := 38) rfl))) (by decide) (backOf (W := 0) (rm_loaded l Z a0 hw [] b1 ((((0 : Int64) + qa) + qb) + qc) (0 : Int32) (0 : Int64) T92.heap n0 Z93 Fq92_0 Fq92_1 Fq92_2 Fq92_3 Fq92_4 ge2) hZ (hw _ (List.mem_of_getElem? (i := 40) rfl)) (hw _ (List.mem_of_getElem? (i := 3) rfl)) (by decide) (by decide)) q96a q96c (g := (mkF m 196 #[.val (.long qa), .second, .val (.long qb), .second, .val (.long qc), .second, .val (.int pm), .val (.int v7), .val (.long (0 : Int64)), .second, .val (.long qa), .second, .val (.long v18), .second, .val (.long v26), .second, .val (.ref b1), .val (.int (1 : Int32))] [(.ref b1)])) rfl (by rw [hml]; rfl) (Steps.refl _) (argsL := []) (rest := []) (lenOf pd_2 rfl) rfl (by show 2 * 0 + _ ≤ _; exact Nat.le_of_eq rfl) (hb hby at_196) (fun _ _ => ⟨rfl, (rfl : T92.heap = T92.heap), (by decide : 1 + 0 ≤ _), (by decide : 4 + 0 ≤ _)⟩)
          dsimp only [Pt.U, Pt.locs, Pt.cells, Pt.slots] at X96 l96 y96 z96 st96 hQ96
          subst l96 y96 z96
          obtain ⟨rfl, N96q, K96q, Fq96_0, Fq96_1, Fq96_2, Fq96_3, Fq96_4⟩ := hQ96
          have N96 := Fr.app N92 N96q
          refine Go.st (fun _ k => st96.trans k) ?_
          have Z97 : n0 ≤ T96.heap.size := Nat.le_trans Z93 K96q.1
          have K98 : Keep h0 T96.heap [] := K94.trans K96q (fun z hz => (List.mem_cons.mp hz).elim (fun q => by rw [q]; exact Or.inr sz3) (fun hz => absurd hz List.not_mem_nil))
          have F99 : Exa Z T96.heap b1 "com/example/rivulet/rivulet/Counter" := Fq92_0.keep K96q
          show Go p.tables e below _ (T96.setTop (mkF m 199 #[.val (.long qa), .second, .val (.long qb), .second, .val (.long qc), .second, .val (.int pm), .val (.int v7), .val (.long (0 : Int64)), .second, .val (.long qa), .second, .val (.long v18), .second, .val (.long v26), .second, .val (.ref b1), .val (.int (1 : Int32))] []))
          refine Go.st (fun _ k => XS.iload X96.here hx rfl (hb hby at_199) rfl k) ?_
          show Go p.tables e below _ (T96.setTop (mkF m 201 #[.val (.long qa), .second, .val (.long qb), .second, .val (.long qc), .second, .val (.int pm), .val (.int v7), .val (.long (0 : Int64)), .second, .val (.long qa), .second, .val (.long v18), .second, .val (.long v26), .second, .val (.ref b1), .val (.int (1 : Int32))] [(.int (1 : Int32))]))
          have hl100 : ¬ ((1 : Int32) = (0 : Int32)) := by decide
          refine Go.st (fun _ k => XS.ifNo X96.here hx rfl (hb hby at_201) rfl (Jvm.Free.XT.i0_eq_f hl100) k) ?_
          show Go p.tables e below _ (T96.setTop (mkF m 204 #[.val (.long qa), .second, .val (.long qb), .second, .val (.long qc), .second, .val (.int pm), .val (.int v7), .val (.long (0 : Int64)), .second, .val (.long qa), .second, .val (.long v18), .second, .val (.long v26), .second, .val (.ref b1), .val (.int (1 : Int32))] []))
          refine Go.st (fun _ k => XS.aload X96.here hx rfl (hb hby at_204) rfl rfl k) ?_
          show Go p.tables e below _ (T96.setTop (mkF m 206 #[.val (.long qa), .second, .val (.long qb), .second, .val (.long qc), .second, .val (.int pm), .val (.int v7), .val (.long (0 : Int64)), .second, .val (.long qa), .second, .val (.long v18), .second, .val (.long v26), .second, .val (.ref b1), .val (.int (1 : Int32))] [(.ref b1)]))
          obtain ⟨cq101, kq101, q101a, q101b, q101c⟩ := isOf hZ (rfl : T96.heap = T96.heap) Fq96_0
          obtain ⟨_, _, ⟨T101, L101, k101, n101⟩, -, X101, ⟨Lc101, hQ101, l101, y101, z101⟩, st101⟩ := X96.virtualBack hx (y := (⟨"com/example/rivulet/rivulet/Counter", "load", "()J"⟩ : MethodName)) (z := (⟨"com/example/rivulet/rivulet/Counter", "load", "()J"⟩ : MethodName)) hown (mvT hZ (hw _ (List.mem_of_getElem? (i := 15) rfl))) (mvT hZ (hw _ (List.mem_of_getElem? (i := 16) rfl))) (notFace_of_selects (args := #[]) (mvT hZ (hw _ (List.mem_of_getElem? (i := 18) rfl)))) (mvT hZ (hw _ (List.mem_of_getElem? (i := 18) rfl))) (mvT hZ (hw _ (List.mem_of_getElem? (i := 17) rfl))) (by decide) (backOf (W := 0) (rm_load l Z a0 hw [] b1 ((((0 : Int64) + qa) + qb) + qc) (1 : Int32) ((((0 : Int64) + qa) + qb) + qc) T96.heap n0 Z97 Fq96_1 Fq96_2 Fq96_3) hZ (hw _ (List.mem_of_getElem? (i := 19) rfl)) (hw _ (List.mem_of_getElem? (i := 3) rfl)) (by decide) (by decide)) q101a q101c (g := (mkF m 206 #[.val (.long qa), .second, .val (.long qb), .second, .val (.long qc), .second, .val (.int pm), .val (.int v7), .val (.long (0 : Int64)), .second, .val (.long qa), .second, .val (.long v18), .second, .val (.long v26), .second, .val (.ref b1), .val (.int (1 : Int32))] [(.ref b1)])) rfl (by rw [hml]; rfl) (Steps.refl _) (argsL := []) (rest := []) (lenOf pd_3 rfl) rfl (by show 2 * 0 + _ ≤ _; exact Nat.le_of_eq rfl) (hb hby at_206) (fun _ _ => ⟨rfl, (rfl : T96.heap = T96.heap), (by decide : 1 + 0 ≤ _), (by decide : 4 + 0 ≤ _)⟩)
          dsimp only [Pt.U, Pt.locs, Pt.cells, Pt.slots] at X101 l101 y101 z101 st101 hQ101
          subst l101 y101 z101
          obtain ⟨rfl, N101q, e101⟩ := hQ101
          have N101 := Fr.app N96 N101q
          refine Go.st (fun _ k => st101.trans k) ?_
          show Go p.tables e below _ (T101.setTop (mkF m 209 #[.val (.long qa), .second, .val (.long qb), .second, .val (.long qc), .second, .val (.int pm), .val (.int v7), .val (.long (0 : Int64)), .second, .val (.long qa), .second, .val (.long v18), .second, .val (.long v26), .second, .val (.ref b1), .val (.int (1 : Int32))] [(.long (ldF (1 : Int32) ((((0 : Int64) + qa) + qb) + qc) ((((0 : Int64) + qa) + qb) + qc)))]))
          refine Go.st (fun _ k => XS.iconst X101.here hx rfl (hb hby at_209) k) ?_
          show Go p.tables e below _ (T101.setTop (mkF m 210 #[.val (.long qa), .second, .val (.long qb), .second, .val (.long qc), .second, .val (.int pm), .val (.int v7), .val (.long (0 : Int64)), .second, .val (.long qa), .second, .val (.long v18), .second, .val (.long v26), .second, .val (.ref b1), .val (.int (1 : Int32))] [(.int (3 : Int32)), (.long (ldF (1 : Int32) ((((0 : Int64) + qa) + qb) + qc) ((((0 : Int64) + qa) + qb) + qc)))]))
          refine Go.st (fun _ k => XS.iload X101.here hx rfl (hb hby at_210) rfl k) ?_
          show Go p.tables e below _ (T101.setTop (mkF m 212 #[.val (.long qa), .second, .val (.long qb), .second, .val (.long qc), .second, .val (.int pm), .val (.int v7), .val (.long (0 : Int64)), .second, .val (.long qa), .second, .val (.long v18), .second, .val (.long v26), .second, .val (.ref b1), .val (.int (1 : Int32))] [(.int v7), (.int (3 : Int32)), (.long (ldF (1 : Int32) ((((0 : Int64) + qa) + qb) + qc) ((((0 : Int64) + qa) + qb) + qc)))]))
          refine Go.st (fun _ k => XS.lload X101.here hx rfl (hb hby at_212) rfl k) ?_
          show Go p.tables e below _ (T101.setTop (mkF m 214 #[.val (.long qa), .second, .val (.long qb), .second, .val (.long qc), .second, .val (.int pm), .val (.int v7), .val (.long (0 : Int64)), .second, .val (.long qa), .second, .val (.long v18), .second, .val (.long v26), .second, .val (.ref b1), .val (.int (1 : Int32))] [(.long (0 : Int64)), (.int v7), (.int (3 : Int32)), (.long (ldF (1 : Int32) ((((0 : Int64) + qa) + qb) + qc) ((((0 : Int64) + qa) + qb) + qc)))]))
          refine Go.st (fun _ k => XS.lload X101.here hx rfl (hb hby at_214) rfl k) ?_
          show Go p.tables e below _ (T101.setTop (mkF m 216 #[.val (.long qa), .second, .val (.long qb), .second, .val (.long qc), .second, .val (.int pm), .val (.int v7), .val (.long (0 : Int64)), .second, .val (.long qa), .second, .val (.long v18), .second, .val (.long v26), .second, .val (.ref b1), .val (.int (1 : Int32))] [(.long qa), (.long (0 : Int64)), (.int v7), (.int (3 : Int32)), (.long (ldF (1 : Int32) ((((0 : Int64) + qa) + qb) + qc) ((((0 : Int64) + qa) + qb) + qc)))]))
          refine Go.st (fun _ k => XS.lload X101.here hx rfl (hb hby at_216) rfl k) ?_
          show Go p.tables e below _ (T101.setTop (mkF m 218 #[.val (.long qa), .second, .val (.long qb), .second, .val (.long qc), .second, .val (.int pm), .val (.int v7), .val (.long (0 : Int64)), .second, .val (.long qa), .second, .val (.long v18), .second, .val (.long v26), .second, .val (.ref b1), .val (.int (1 : Int32))] [(.long v18), (.long qa), (.long (0 : Int64)), (.int v7), (.int (3 : Int32)), (.long (ldF (1 : Int32) ((((0 : Int64) + qa) + qb) + qc) ((((0 : Int64) + qa) + qb) + qc)))]))
          refine Go.st (fun _ k => XS.lload X101.here hx rfl (hb hby at_218) rfl k) ?_
          show Go p.tables e below _ (T101.setTop (mkF m 220 #[.val (.long qa), .second, .val (.long qb), .second, .val (.long qc), .second, .val (.int pm), .val (.int v7), .val (.long (0 : Int64)), .second, .val (.long qa), .second, .val (.long v18), .second, .val (.long v26), .second, .val (.ref b1), .val (.int (1 : Int32))] [(.long v26), (.long v18), (.long qa), (.long (0 : Int64)), (.int v7), (.int (3 : Int32)), (.long (ldF (1 : Int32) ((((0 : Int64) + qa) + qb) + qc) ((((0 : Int64) + qa) + qb) + qc)))]))
          obtain ⟨_, _, ⟨T102, L102, k102, n102⟩, -, X102, ⟨Lc102, hQ102, l102, y102, z102⟩, st102⟩ := Jvm.LawKit.callS X101 hx (y := (⟨"com/example/rivulet/rivulet/CounterLoadPinLaw", "expected", "(IIJJJJ)J"⟩ : MethodName)) hown (mvT hZ (hw _ (List.mem_of_getElem? (i := 24) rfl))) (mvT hZ (hw _ (List.mem_of_getElem? (i := 25) rfl))) (mvT hZ (hw _ (List.mem_of_getElem? (i := 26) rfl))) (mvT hZ (hw _ (List.mem_of_getElem? (i := 27) rfl))) (by decide) (backOf (W := 2) (rm_expe l Z a0 hw [] (3 : Int32) v7 (0 : Int64) qa v18 v26 T96.heap n0 Z97 ) hZ (hw _ (List.mem_of_getElem? (i := 27) rfl)) (hw _ (List.mem_of_getElem? (i := 26) rfl)) (by decide) (by decide)) (g := (mkF m 220 #[.val (.long qa), .second, .val (.long qb), .second, .val (.long qc), .second, .val (.int pm), .val (.int v7), .val (.long (0 : Int64)), .second, .val (.long qa), .second, .val (.long v18), .second, .val (.long v26), .second, .val (.ref b1), .val (.int (1 : Int32))] [(.long v26), (.long v18), (.long qa), (.long (0 : Int64)), (.int v7), (.int (3 : Int32)), (.long (ldF (1 : Int32) ((((0 : Int64) + qa) + qb) + qc) ((((0 : Int64) + qa) + qb) + qc)))])) rfl (by rw [hml]; rfl) (argsL := [(.int (3 : Int32)), (.int v7), (.long (0 : Int64)), (.long qa), (.long v18), (.long v26)]) (rest := [(.long (ldF (1 : Int32) ((((0 : Int64) + qa) + qb) + qc) ((((0 : Int64) + qa) + qb) + qc)))]) (lenOf pd_4 rfl) rfl (by show 2 * 0 + _ ≤ _; exact Nat.le_of_eq rfl) (hb hby at_220) (fun _ _ => ⟨rfl, e101, (by decide : 1 + 0 ≤ _), (by decide : 4 + 0 ≤ _)⟩)
          dsimp only [Pt.U, Pt.locs, Pt.cells, Pt.slots] at X102 l102 y102 z102 st102 hQ102
          subst l102 y102 z102
          obtain ⟨rfl, N102q, e102⟩ := hQ102
          have N102 := Fr.app N101 N102q
          refine Go.st st102 ?_
          show Go p.tables e below _ (T102.setTop (mkF m 223 #[.val (.long qa), .second, .val (.long qb), .second, .val (.long qc), .second, .val (.int pm), .val (.int v7), .val (.long (0 : Int64)), .second, .val (.long qa), .second, .val (.long v18), .second, .val (.long v26), .second, .val (.ref b1), .val (.int (1 : Int32))] [(.long (exF (3 : Int32) v7 (0 : Int64) qa v18 v26)), (.long (ldF (1 : Int32) ((((0 : Int64) + qa) + qb) + qc) ((((0 : Int64) + qa) + qb) + qc)))]))
          refine Go.st (fun _ k => Jvm.Free.XT.lcmp X102.here hx rfl (hb hby at_223) rfl k) ?_
          show Go p.tables e below _ (T102.setTop (mkF m 224 #[.val (.long qa), .second, .val (.long qb), .second, .val (.long qc), .second, .val (.int pm), .val (.int v7), .val (.long (0 : Int64)), .second, .val (.long qa), .second, .val (.long v18), .second, .val (.long v26), .second, .val (.ref b1), .val (.int (1 : Int32))] [(.int (Jvm.Free.XT.cmpL (ldF (1 : Int32) ((((0 : Int64) + qa) + qb) + qc) ((((0 : Int64) + qa) + qb) + qc)) (exF (3 : Int32) v7 (0 : Int64) qa v18 v26)))]))
          have hc224 : (ldF (1 : Int32) ((((0 : Int64) + qa) + qb) + qc) ((((0 : Int64) + qa) + qb) + qc)) = (exF (3 : Int32) v7 (0 : Int64) qa v18 v26) := (by simp [ldF, exF, prF, hc191, ← hqv18, ← hqv26])
          have hi224 : ((ldF (1 : Int32) ((((0 : Int64) + qa) + qb) + qc) ((((0 : Int64) + qa) + qb) + qc))).toInt = ((exF (3 : Int32) v7 (0 : Int64) qa v18 v26)).toInt := Int64.toInt_inj.symm.mp hc224
          refine Go.st (fun _ k => XS.ifNo X102.here hx rfl (hb hby at_224) rfl (Jvm.Free.XT.ll_ne_f hc224) k) ?_
          show Go p.tables e below _ (T102.setTop (mkF m 227 #[.val (.long qa), .second, .val (.long qb), .second, .val (.long qc), .second, .val (.int pm), .val (.int v7), .val (.long (0 : Int64)), .second, .val (.long qa), .second, .val (.long v18), .second, .val (.long v26), .second, .val (.ref b1), .val (.int (1 : Int32))] []))
          refine Go.st (fun _ k => XS.iconst X102.here hx rfl (hb hby at_227) k) ?_
          show Go p.tables e below _ (T102.setTop (mkF m 228 #[.val (.long qa), .second, .val (.long qb), .second, .val (.long qc), .second, .val (.int pm), .val (.int v7), .val (.long (0 : Int64)), .second, .val (.long qa), .second, .val (.long v18), .second, .val (.long v26), .second, .val (.ref b1), .val (.int (1 : Int32))] [(.int (1 : Int32))]))
          refine Go.st (fun _ k => XS.goto X102.here hx rfl (pc0 := 228) (pc' := 232) rfl (hb hby at_228) (by decide) (by decide) k) ?_
          show Go p.tables e below _ (T102.setTop (mkF m 232 #[.val (.long qa), .second, .val (.long qb), .second, .val (.long qc), .second, .val (.int pm), .val (.int v7), .val (.long (0 : Int64)), .second, .val (.long qa), .second, .val (.long v18), .second, .val (.long v26), .second, .val (.ref b1), .val (.int (1 : Int32))] [(.int (1 : Int32))]))
          refine Go.st (fun _ k => XS.istore X102.here hx rfl (hb hby at_232) rfl (l' := #[.val (.long qa), .second, .val (.long qb), .second, .val (.long qc), .second, .val (.int pm), .val (.int v7), .val (.long (0 : Int64)), .second, .val (.long qa), .second, .val (.long v18), .second, .val (.long v26), .second, .val (.ref b1), .val (.int (1 : Int32))]) rfl k) ?_
          show Go p.tables e below _ (T102.setTop (mkF m 234 #[.val (.long qa), .second, .val (.long qb), .second, .val (.long qc), .second, .val (.int pm), .val (.int v7), .val (.long (0 : Int64)), .second, .val (.long qa), .second, .val (.long v18), .second, .val (.long v26), .second, .val (.ref b1), .val (.int (1 : Int32))] []))
          show Go p.tables e below _ (T102.setTop (mkF m 234 #[.val (.long qa), .second, .val (.long qb), .second, .val (.long qc), .second, .val (.int pm), .val (.int v7), .val (.long (0 : Int64)), .second, .val (.long qa), .second, .val (.long v18), .second, .val (.long v26), .second, .val (.ref b1), .val (.int (1 : Int32))] []))
          refine Go.st (fun _ k => XS.iload X102.here hx rfl (hb hby at_234) rfl k) ?_
          show Go p.tables e below _ (T102.setTop (mkF m 236 #[.val (.long qa), .second, .val (.long qb), .second, .val (.long qc), .second, .val (.int pm), .val (.int v7), .val (.long (0 : Int64)), .second, .val (.long qa), .second, .val (.long v18), .second, .val (.long v26), .second, .val (.ref b1), .val (.int (1 : Int32))] [(.int (1 : Int32))]))
          subst hG
          obtain ⟨fs, hr, hrun, hended, hW, hsame⟩ := X102.leave (v := some (.int (nar .boolean (1 : Int32)))) (fun h => by rw [Bd.returns] at h; cases h)
          refine ⟨_, _, ?_, hrun, hended, _, _, rfl, ?_, ⟨_, rfl⟩, hW, hsame.mono (by decide) (by decide)⟩
          · exact retN X102 hx (t := .boolean) Bd.returns (by simp) (hb hby at_236) hr
          · show Q_law Z qa qb qc pm h0 n0 _ T102.heap _
            rw [e102]
            exact ⟨rfl, N102, K98⟩
        · skip
          have lt_332 : (3 : Int32).toInt = 3 := by decide
          have hi191 : ¬ ((v7).toInt = ((3 : Int32)).toInt) := fun z => hc191 (Int32.toInt_inj.symm.mpr z)
          refine Go.st (fun _ k => XS.icmpYes X92.here hx rfl (pc0 := 191) (pc' := 199) rfl (hb hby at_191) rfl (Jvm.Free.XT.ii_ne_t hc191) (by decide) (by decide) k) ?_
          show Go p.tables e below _ (T92.setTop (mkF m 199 #[.val (.long qa), .second, .val (.long qb), .second, .val (.long qc), .second, .val (.int pm), .val (.int v7), .val (.long (0 : Int64)), .second, .val (.long qa), .second, .val (.long v18), .second, .val (.long v26), .second, .val (.ref b1), .val (.int (1 : Int32))] []))
          refine Go.st (fun _ k => XS.iload X92.here hx rfl (hb hby at_199) rfl k) ?_
          show Go p.tables e below _ (T92.setTop (mkF m 201 #[.val (.long qa), .second, .val (.long qb), .second, .val (.long qc), .second, .val (.int pm), .val (.int v7), .val (.long (0 : Int64)), .second, .val (.long qa), .second, .val (.long v18), .second, .val (.long v26), .second, .val (.ref b1), .val (.int (1 : Int32))] [(.int (1 : Int32))]))
          have hl103 : ¬ ((1 : Int32) = (0 : Int32)) := by decide
          refine Go.st (fun _ k => XS.ifNo X92.here hx rfl (hb hby at_201) rfl (Jvm.Free.XT.i0_eq_f hl103) k) ?_
          show Go p.tables e below _ (T92.setTop (mkF m 204 #[.val (.long qa), .second, .val (.long qb), .second, .val (.long qc), .second, .val (.int pm), .val (.int v7), .val (.long (0 : Int64)), .second, .val (.long qa), .second, .val (.long v18), .second, .val (.long v26), .second, .val (.ref b1), .val (.int (1 : Int32))] []))
          refine Go.st (fun _ k => XS.aload X92.here hx rfl (hb hby at_204) rfl rfl k) ?_
          show Go p.tables e below _ (T92.setTop (mkF m 206 #[.val (.long qa), .second, .val (.long qb), .second, .val (.long qc), .second, .val (.int pm), .val (.int v7), .val (.long (0 : Int64)), .second, .val (.long qa), .second, .val (.long v18), .second, .val (.long v26), .second, .val (.ref b1), .val (.int (1 : Int32))] [(.ref b1)]))
          obtain ⟨cq104, kq104, q104a, q104b, q104c⟩ := isOf hZ (rfl : T92.heap = T92.heap) Fq92_0
          obtain ⟨_, _, ⟨T104, L104, k104, n104⟩, -, X104, ⟨Lc104, hQ104, l104, y104, z104⟩, st104⟩ := X92.virtualBack hx (y := (⟨"com/example/rivulet/rivulet/Counter", "load", "()J"⟩ : MethodName)) (z := (⟨"com/example/rivulet/rivulet/Counter", "load", "()J"⟩ : MethodName)) hown (mvT hZ (hw _ (List.mem_of_getElem? (i := 15) rfl))) (mvT hZ (hw _ (List.mem_of_getElem? (i := 16) rfl))) (notFace_of_selects (args := #[]) (mvT hZ (hw _ (List.mem_of_getElem? (i := 18) rfl)))) (mvT hZ (hw _ (List.mem_of_getElem? (i := 18) rfl))) (mvT hZ (hw _ (List.mem_of_getElem? (i := 17) rfl))) (by decide) (backOf (W := 0) (rm_load l Z a0 hw [] b1 ((((0 : Int64) + qa) + qb) + qc) (0 : Int32) (0 : Int64) T92.heap n0 Z93 Fq92_1 Fq92_2 Fq92_3) hZ (hw _ (List.mem_of_getElem? (i := 19) rfl)) (hw _ (List.mem_of_getElem? (i := 3) rfl)) (by decide) (by decide)) q104a q104c (g := (mkF m 206 #[.val (.long qa), .second, .val (.long qb), .second, .val (.long qc), .second, .val (.int pm), .val (.int v7), .val (.long (0 : Int64)), .second, .val (.long qa), .second, .val (.long v18), .second, .val (.long v26), .second, .val (.ref b1), .val (.int (1 : Int32))] [(.ref b1)])) rfl (by rw [hml]; rfl) (Steps.refl _) (argsL := []) (rest := []) (lenOf pd_3 rfl) rfl (by show 2 * 0 + _ ≤ _; exact Nat.le_of_eq rfl) (hb hby at_206) (fun _ _ => ⟨rfl, (rfl : T92.heap = T92.heap), (by decide : 1 + 0 ≤ _), (by decide : 4 + 0 ≤ _)⟩)
          dsimp only [Pt.U, Pt.locs, Pt.cells, Pt.slots] at X104 l104 y104 z104 st104 hQ104
          subst l104 y104 z104
          obtain ⟨rfl, N104q, e104⟩ := hQ104
          have N104 := Fr.app N92 N104q
          refine Go.st (fun _ k => st104.trans k) ?_
          show Go p.tables e below _ (T104.setTop (mkF m 209 #[.val (.long qa), .second, .val (.long qb), .second, .val (.long qc), .second, .val (.int pm), .val (.int v7), .val (.long (0 : Int64)), .second, .val (.long qa), .second, .val (.long v18), .second, .val (.long v26), .second, .val (.ref b1), .val (.int (1 : Int32))] [(.long (ldF (0 : Int32) (0 : Int64) ((((0 : Int64) + qa) + qb) + qc)))]))
          refine Go.st (fun _ k => XS.iconst X104.here hx rfl (hb hby at_209) k) ?_
          show Go p.tables e below _ (T104.setTop (mkF m 210 #[.val (.long qa), .second, .val (.long qb), .second, .val (.long qc), .second, .val (.int pm), .val (.int v7), .val (.long (0 : Int64)), .second, .val (.long qa), .second, .val (.long v18), .second, .val (.long v26), .second, .val (.ref b1), .val (.int (1 : Int32))] [(.int (3 : Int32)), (.long (ldF (0 : Int32) (0 : Int64) ((((0 : Int64) + qa) + qb) + qc)))]))
          refine Go.st (fun _ k => XS.iload X104.here hx rfl (hb hby at_210) rfl k) ?_
          show Go p.tables e below _ (T104.setTop (mkF m 212 #[.val (.long qa), .second, .val (.long qb), .second, .val (.long qc), .second, .val (.int pm), .val (.int v7), .val (.long (0 : Int64)), .second, .val (.long qa), .second, .val (.long v18), .second, .val (.long v26), .second, .val (.ref b1), .val (.int (1 : Int32))] [(.int v7), (.int (3 : Int32)), (.long (ldF (0 : Int32) (0 : Int64) ((((0 : Int64) + qa) + qb) + qc)))]))
          refine Go.st (fun _ k => XS.lload X104.here hx rfl (hb hby at_212) rfl k) ?_
          show Go p.tables e below _ (T104.setTop (mkF m 214 #[.val (.long qa), .second, .val (.long qb), .second, .val (.long qc), .second, .val (.int pm), .val (.int v7), .val (.long (0 : Int64)), .second, .val (.long qa), .second, .val (.long v18), .second, .val (.long v26), .second, .val (.ref b1), .val (.int (1 : Int32))] [(.long (0 : Int64)), (.int v7), (.int (3 : Int32)), (.long (ldF (0 : Int32) (0 : Int64) ((((0 : Int64) + qa) + qb) + qc)))]))
          refine Go.st (fun _ k => XS.lload X104.here hx rfl (hb hby at_214) rfl k) ?_
          show Go p.tables e below _ (T104.setTop (mkF m 216 #[.val (.long qa), .second, .val (.long qb), .second, .val (.long qc), .second, .val (.int pm), .val (.int v7), .val (.long (0 : Int64)), .second, .val (.long qa), .second, .val (.long v18), .second, .val (.long v26), .second, .val (.ref b1), .val (.int (1 : Int32))] [(.long qa), (.long (0 : Int64)), (.int v7), (.int (3 : Int32)), (.long (ldF (0 : Int32) (0 : Int64) ((((0 : Int64) + qa) + qb) + qc)))]))
          refine Go.st (fun _ k => XS.lload X104.here hx rfl (hb hby at_216) rfl k) ?_
          show Go p.tables e below _ (T104.setTop (mkF m 218 #[.val (.long qa), .second, .val (.long qb), .second, .val (.long qc), .second, .val (.int pm), .val (.int v7), .val (.long (0 : Int64)), .second, .val (.long qa), .second, .val (.long v18), .second, .val (.long v26), .second, .val (.ref b1), .val (.int (1 : Int32))] [(.long v18), (.long qa), (.long (0 : Int64)), (.int v7), (.int (3 : Int32)), (.long (ldF (0 : Int32) (0 : Int64) ((((0 : Int64) + qa) + qb) + qc)))]))
          refine Go.st (fun _ k => XS.lload X104.here hx rfl (hb hby at_218) rfl k) ?_
          show Go p.tables e below _ (T104.setTop (mkF m 220 #[.val (.long qa), .second, .val (.long qb), .second, .val (.long qc), .second, .val (.int pm), .val (.int v7), .val (.long (0 : Int64)), .second, .val (.long qa), .second, .val (.long v18), .second, .val (.long v26), .second, .val (.ref b1), .val (.int (1 : Int32))] [(.long v26), (.long v18), (.long qa), (.long (0 : Int64)), (.int v7), (.int (3 : Int32)), (.long (ldF (0 : Int32) (0 : Int64) ((((0 : Int64) + qa) + qb) + qc)))]))
          obtain ⟨_, _, ⟨T105, L105, k105, n105⟩, -, X105, ⟨Lc105, hQ105, l105, y105, z105⟩, st105⟩ := Jvm.LawKit.callS X104 hx (y := (⟨"com/example/rivulet/rivulet/CounterLoadPinLaw", "expected", "(IIJJJJ)J"⟩ : MethodName)) hown (mvT hZ (hw _ (List.mem_of_getElem? (i := 24) rfl))) (mvT hZ (hw _ (List.mem_of_getElem? (i := 25) rfl))) (mvT hZ (hw _ (List.mem_of_getElem? (i := 26) rfl))) (mvT hZ (hw _ (List.mem_of_getElem? (i := 27) rfl))) (by decide) (backOf (W := 2) (rm_expe l Z a0 hw [] (3 : Int32) v7 (0 : Int64) qa v18 v26 T92.heap n0 Z93 ) hZ (hw _ (List.mem_of_getElem? (i := 27) rfl)) (hw _ (List.mem_of_getElem? (i := 26) rfl)) (by decide) (by decide)) (g := (mkF m 220 #[.val (.long qa), .second, .val (.long qb), .second, .val (.long qc), .second, .val (.int pm), .val (.int v7), .val (.long (0 : Int64)), .second, .val (.long qa), .second, .val (.long v18), .second, .val (.long v26), .second, .val (.ref b1), .val (.int (1 : Int32))] [(.long v26), (.long v18), (.long qa), (.long (0 : Int64)), (.int v7), (.int (3 : Int32)), (.long (ldF (0 : Int32) (0 : Int64) ((((0 : Int64) + qa) + qb) + qc)))])) rfl (by rw [hml]; rfl) (argsL := [(.int (3 : Int32)), (.int v7), (.long (0 : Int64)), (.long qa), (.long v18), (.long v26)]) (rest := [(.long (ldF (0 : Int32) (0 : Int64) ((((0 : Int64) + qa) + qb) + qc)))]) (lenOf pd_4 rfl) rfl (by show 2 * 0 + _ ≤ _; exact Nat.le_of_eq rfl) (hb hby at_220) (fun _ _ => ⟨rfl, e104, (by decide : 1 + 0 ≤ _), (by decide : 4 + 0 ≤ _)⟩)
          dsimp only [Pt.U, Pt.locs, Pt.cells, Pt.slots] at X105 l105 y105 z105 st105 hQ105
          subst l105 y105 z105
          obtain ⟨rfl, N105q, e105⟩ := hQ105
          have N105 := Fr.app N104 N105q
          refine Go.st st105 ?_
          show Go p.tables e below _ (T105.setTop (mkF m 223 #[.val (.long qa), .second, .val (.long qb), .second, .val (.long qc), .second, .val (.int pm), .val (.int v7), .val (.long (0 : Int64)), .second, .val (.long qa), .second, .val (.long v18), .second, .val (.long v26), .second, .val (.ref b1), .val (.int (1 : Int32))] [(.long (exF (3 : Int32) v7 (0 : Int64) qa v18 v26)), (.long (ldF (0 : Int32) (0 : Int64) ((((0 : Int64) + qa) + qb) + qc)))]))
          refine Go.st (fun _ k => Jvm.Free.XT.lcmp X105.here hx rfl (hb hby at_223) rfl k) ?_
          show Go p.tables e below _ (T105.setTop (mkF m 224 #[.val (.long qa), .second, .val (.long qb), .second, .val (.long qc), .second, .val (.int pm), .val (.int v7), .val (.long (0 : Int64)), .second, .val (.long qa), .second, .val (.long v18), .second, .val (.long v26), .second, .val (.ref b1), .val (.int (1 : Int32))] [(.int (Jvm.Free.XT.cmpL (ldF (0 : Int32) (0 : Int64) ((((0 : Int64) + qa) + qb) + qc)) (exF (3 : Int32) v7 (0 : Int64) qa v18 v26)))]))
          have hc224 : (ldF (0 : Int32) (0 : Int64) ((((0 : Int64) + qa) + qb) + qc)) = (exF (3 : Int32) v7 (0 : Int64) qa v18 v26) := (by have hk := own_k hqv7; have hl : ¬ v7 < (3 : Int32) := own_nlt32 (by omega); simp [ldF, exF, prF, hl, ← hqv18, ← hqv26])
          have hi224 : ((ldF (0 : Int32) (0 : Int64) ((((0 : Int64) + qa) + qb) + qc))).toInt = ((exF (3 : Int32) v7 (0 : Int64) qa v18 v26)).toInt := Int64.toInt_inj.symm.mp hc224
          refine Go.st (fun _ k => XS.ifNo X105.here hx rfl (hb hby at_224) rfl (Jvm.Free.XT.ll_ne_f hc224) k) ?_
          show Go p.tables e below _ (T105.setTop (mkF m 227 #[.val (.long qa), .second, .val (.long qb), .second, .val (.long qc), .second, .val (.int pm), .val (.int v7), .val (.long (0 : Int64)), .second, .val (.long qa), .second, .val (.long v18), .second, .val (.long v26), .second, .val (.ref b1), .val (.int (1 : Int32))] []))
          refine Go.st (fun _ k => XS.iconst X105.here hx rfl (hb hby at_227) k) ?_
          show Go p.tables e below _ (T105.setTop (mkF m 228 #[.val (.long qa), .second, .val (.long qb), .second, .val (.long qc), .second, .val (.int pm), .val (.int v7), .val (.long (0 : Int64)), .second, .val (.long qa), .second, .val (.long v18), .second, .val (.long v26), .second, .val (.ref b1), .val (.int (1 : Int32))] [(.int (1 : Int32))]))
          refine Go.st (fun _ k => XS.goto X105.here hx rfl (pc0 := 228) (pc' := 232) rfl (hb hby at_228) (by decide) (by decide) k) ?_
          show Go p.tables e below _ (T105.setTop (mkF m 232 #[.val (.long qa), .second, .val (.long qb), .second, .val (.long qc), .second, .val (.int pm), .val (.int v7), .val (.long (0 : Int64)), .second, .val (.long qa), .second, .val (.long v18), .second, .val (.long v26), .second, .val (.ref b1), .val (.int (1 : Int32))] [(.int (1 : Int32))]))
          refine Go.st (fun _ k => XS.istore X105.here hx rfl (hb hby at_232) rfl (l' := #[.val (.long qa), .second, .val (.long qb), .second, .val (.long qc), .second, .val (.int pm), .val (.int v7), .val (.long (0 : Int64)), .second, .val (.long qa), .second, .val (.long v18), .second, .val (.long v26), .second, .val (.ref b1), .val (.int (1 : Int32))]) rfl k) ?_
          show Go p.tables e below _ (T105.setTop (mkF m 234 #[.val (.long qa), .second, .val (.long qb), .second, .val (.long qc), .second, .val (.int pm), .val (.int v7), .val (.long (0 : Int64)), .second, .val (.long qa), .second, .val (.long v18), .second, .val (.long v26), .second, .val (.ref b1), .val (.int (1 : Int32))] []))
          show Go p.tables e below _ (T105.setTop (mkF m 234 #[.val (.long qa), .second, .val (.long qb), .second, .val (.long qc), .second, .val (.int pm), .val (.int v7), .val (.long (0 : Int64)), .second, .val (.long qa), .second, .val (.long v18), .second, .val (.long v26), .second, .val (.ref b1), .val (.int (1 : Int32))] []))
          refine Go.st (fun _ k => XS.iload X105.here hx rfl (hb hby at_234) rfl k) ?_
          show Go p.tables e below _ (T105.setTop (mkF m 236 #[.val (.long qa), .second, .val (.long qb), .second, .val (.long qc), .second, .val (.int pm), .val (.int v7), .val (.long (0 : Int64)), .second, .val (.long qa), .second, .val (.long v18), .second, .val (.long v26), .second, .val (.ref b1), .val (.int (1 : Int32))] [(.int (1 : Int32))]))
          subst hG
          obtain ⟨fs, hr, hrun, hended, hW, hsame⟩ := X105.leave (v := some (.int (nar .boolean (1 : Int32)))) (fun h => by rw [Bd.returns] at h; cases h)
          refine ⟨_, _, ?_, hrun, hended, _, _, rfl, ?_, ⟨_, rfl⟩, hW, hsame.mono (by decide) (by decide)⟩
          · exact retN X105 hx (t := .boolean) Bd.returns (by simp) (hb hby at_236) hr
          · show Q_law Z qa qb qc pm h0 n0 _ T105.heap _
            rw [e105]
            exact ⟨rfl, N105, K94⟩
set_option maxRecDepth 65536 in
set_option maxHeartbeats 40000000 in
theorem comes_1 {Post : Tables → Env → Array Value → State → Outcome → State → Prop} (hpost : ∀ tb e args s v u, (limb_1_1.after args s (.returned v) u = true ∧ limb_1_2.after args s (.returned v) u = true ∧ True) → FrameEnd s (.returned v) u (Jvm.fieldLocs frame_1_writes args s ++ Jvm.arrayLocs frame_1_arrays args s ++ Jvm.staticLocs frame_1_statics s) 16 128 → Post tb e args s (.returned v) u) :
    ArmFor flags0 classFile x code maxLocals ret World_1 tables_1 room_1 Calls_1 rest_1 Pre_1 Post := by
  intro l hfl _ _ p e ha hc hk s m args below hf hA hF happ hP
  obtain ⟨hcalls, hrest, hpre⟩ := hP
  obtain ⟨-, -, -, hnamed, -, -, -, hat⟩ := (Spec.applies_iff hf).mp happ
  obtain ⟨hg, hn⟩ := and_e (Cond.before_iff.mp (show (Jvm.Cond.and given_1 narrow_1).before args s = true from hpre))
  obtain ⟨hcount, hg0⟩ := and_e hg
  obtain ⟨hv0, hg1⟩ := and_e hg0
  obtain ⟨hv1, hg2⟩ := and_e hg1
  obtain ⟨hv2, hg3⟩ := and_e hg2
  obtain ⟨w0, w1, w2, w3, rfl⟩ : ∃ w0 w1 w2 w3 : Value, args = #[w0, w1, w2, w3] := by
    have hs : args.size = 4 := by simpa [Cond.value, given_1] using hcount
    obtain ⟨L⟩ := args
    match L, hs with
    | [w0, w1, w2, w3], _ => exact ⟨w0, w1, w2, w3, rfl⟩
  have hw := fun d (hd : d ∈ tables_1) => atoms_spec (ws := Jvm.Cond.code x code maxLocals ret :: tables_1) hat d (List.mem_cons_of_mem _ hd)
  have hfit : Fit s := fun {y c} hc i hi => by
    obtain ⟨ha, rfl⟩ := Array.getElem?_eq_some_iff.mp hc
    have q := List.all_eq_true.mp ((Array.all_eq_true_iff_forall_mem.mp hF) _ (Array.getElem_mem ha)) i (List.mem_range.mpr hi)
    simpa [Array.getElem?_eq_getElem hi] using q
  obtain ⟨i0, ei0⟩ := isL_v hv0
  obtain rfl : w0 = (.long i0) := Option.some.inj ei0
  obtain ⟨i1, ei1⟩ := isL_v hv1
  obtain rfl : w1 = (.long i1) := Option.some.inj ei1
  obtain ⟨i2, ei2⟩ := isL_v hv2
  obtain rfl : w2 = (.long i2) := Option.some.inj ei2
  obtain ⟨i3, ei3⟩ := is_v hg3
  obtain rfl : w3 = (.int i3) := Option.some.inj ei3
  obtain ⟨n, o, h1, h2, h3, _, L, rfl, ⟨rfl, N, -⟩, hq⟩ := rm_law l s _ hw tables_1 i0 i1 i2 i3 s.heap s.heap.size (Nat.le_refl _)  p e ha hc hk s m _ below hf ((Spec.applies_iff_loose hf).mp happ).1 ⟨rfl, State.Warmed39.refl s, rfl⟩ trivial
  refine ⟨n, _, h1, h2, h3, hpost _ _ _ _ _ _ ⟨Cond.after_iff.mpr rfl, Cond.after_iff.mpr (eq_i res_at (Term.int_eval (1)) rfl), trivial⟩ ⟨hq.1, hq.2.1, (hq.2.2.sift fun y hy => Or.inr (N y hy)).mono (by decide) (by decide)⟩⟩
theorem main_1_1 : Claimed_1_1 := comes_1 fun _ _ _ _ _ _ h hF => ⟨h.1, hF⟩
theorem main_1_2 : Claimed_1_2 := comes_1 fun _ _ _ _ _ _ h hF => ⟨h.2.1, hF⟩
end Jvm.Pilot.@@N@@
namespace Jvm.Pilot.@@N@@
open Jvm Jvm.ClassFile Sem Op Lib Jvm.Free Jvm.Stand Jvm.Pilot.@@N@@.Jvm.D
/-! MADE BY PROGRAM (witnessworld.py) out of the Statement's table words and the real class files: 7 classes; the members and pool entries that the words name. The judged class is class 1, her method 3. -/
namespace start1
open Jvm.ClassFile
def u (s : String) : CpInfo := .utf8 (stringToUtf16 s)
/-- a pool by its gaps: so many unusable entries, then the entry; so many at the end -/
def gap : Nat → List CpInfo → List CpInfo
  | 0, r => r
  | n + 1, r => .unusable :: gap n r
def poolList (es : List (Nat × CpInfo)) (last : Nat) : List CpInfo := es.foldr (fun e r => gap e.1 (e.2 :: r)) (gap last [])
def pool (es : List (Nat × CpInfo)) (last : Nat) : Array CpInfo := ⟨poolList es last⟩
def fileOf (pool : Array CpInfo) (this : Nat) (attrs : Array Attribute := #[]) (ms : Array MethodInfo := #[]) (fl : Nat := 33) (sup : Nat := 0) (ifs : Array Nat := #[]) (fds : Array FieldInfo := #[]) : ClassFile where
  minorVersion := 0
  majorVersion := 65
  constantPool := pool
  accessFlags := fl
  thisClass := this
  superClass := sup
  interfaces := ifs
  fields := fds
  methods := ms
  attributes := attrs
def plain (name : String) (sup : Option ClassId) : Class where
  name := name
  kind := .ordinary
  loader := none
  accessFlags := 33
  super := sup
  interfaces := #[]
  cf := none
  fields := #[]
  methods := #[]
  instanceTypes := #[]
  staticTypes := #[]
  resolved := #[]
  callSites := []
  init := .initialized
  statics := none
  mirror := none

def pool0 : Array CpInfo := pool [(5, u "<init>"), (0, u "()V"), (1, .class_ 10), (1, u "java/lang/Object")] 113

def k0c0 : Code := { maxStack := 0, maxLocals := 1, code := object_method_1_code, exceptionTable := #[], attributes := #[] }
def k0m0 : Method := { name := "<init>", desc := "()V", sig := { parameters := [], returnType := none }, accessFlags := 1, code := some k0c0 }
/-- java/lang/Object -/
def k0 : Class := { plain "java/lang/Object" none with
  accessFlags := 33
  interfaces := #[]
  cf := some (fileOf pool0 8 #[] #[{ accessFlags := 1, nameIndex := 5, descriptorIndex := 6, attributes := #[] }] 33 0 #[] #[])
  fields := #[]
  methods := #[k0m0]
  instanceTypes := #[]
  staticTypes := #[]
  resolved := Array.replicate 124 none
  statics := none }

def pool1 : Array CpInfo := pool [(2, .class_ 4), (0, .nameAndType 5 6), (0, u "java/lang/Object"), (0, u "<init>"), (0, u "()V"), (0, .methodref 8 9), (0, .class_ 10), (0, .nameAndType 11 12), (0, u "com/example/rivulet/rivulet/CounterLoadPinLaw"), (0, u "prefix"), (0, u "(IJJJJ)J"), (0, .integer 2147483647), (0, .class_ 15), (0, u "com/example/rivulet/rivulet/Counter"), (0, .methodref 14 3), (0, .methodref 14 18), (0, .nameAndType 19 6), (0, u "loaded"), (0, .methodref 14 21), (0, .nameAndType 22 23), (0, u "load"), (0, u "()J"), (0, .methodref 8 25), (0, .nameAndType 26 27), (0, u "expected"), (0, u "(IIJJJJ)J"), (0, .methodref 14 29), (0, .nameAndType 30 31), (0, u "add"), (0, u "(J)V"), (3, u "law"), (0, u "(JJJI)Z")] 2

def k1m0 : Method := { name := "<init>", desc := "()V", sig := { parameters := [], returnType := none }, accessFlags := 1, code := none }
def k1c1 : Code := { maxStack := 2, maxLocals := 9, code := method_2_code, exceptionTable := #[], attributes := #[] }
def k1m1 : Method := { name := "prefix", desc := "(IJJJJ)J", sig := { parameters := [.int, .long, .long, .long, .long], returnType := some .long }, accessFlags := 10, code := some k1c1 }
def k1c2 : Code := { maxStack := 9, maxLocals := 10, code := method_3_code, exceptionTable := #[], attributes := #[] }
def k1m2 : Method := { name := "expected", desc := "(IIJJJJ)J", sig := { parameters := [.int, .int, .long, .long, .long, .long], returnType := some .long }, accessFlags := 10, code := some k1c2 }
def k1c3 : Code := { maxStack := 12, maxLocals := 18, code := code, exceptionTable := #[], attributes := #[] }
def k1m3 : Method := { name := "law", desc := "(JJJI)Z", sig := { parameters := [.long, .long, .long, .int], returnType := some .boolean }, accessFlags := 9, code := some k1c3 }
/-- com/example/rivulet/rivulet/CounterLoadPinLaw -/
def k1 : Class := { plain "com/example/rivulet/rivulet/CounterLoadPinLaw" (some 0) with
  accessFlags := 49
  interfaces := #[]
  cf := some (fileOf pool1 8 #[] #[{ accessFlags := 1, nameIndex := 5, descriptorIndex := 6, attributes := #[] }, { accessFlags := 10, nameIndex := 11, descriptorIndex := 12, attributes := #[] }, { accessFlags := 10, nameIndex := 26, descriptorIndex := 27, attributes := #[] }, { accessFlags := 9, nameIndex := 35, descriptorIndex := 36, attributes := #[] }] 49 2 #[] #[])
  fields := #[]
  methods := #[k1m0, k1m1, k1m2, k1m3]
  instanceTypes := #[]
  staticTypes := #[]
  resolved := Array.replicate 39 none
  statics := none }

def pool2 : Array CpInfo := pool [(1, .methodref 2 3), (0, .class_ 4), (0, .nameAndType 5 6), (0, u "com/example/rivulet/rivulet/Counter"), (0, u "<init>"), (0, u "(Lcom/example/rivulet/rivulet/WorkLimit;)V"), (0, .methodref 8 9), (0, .class_ 10), (0, .nameAndType 5 11), (0, u "java/lang/Object"), (0, u "()V"), (0, .fieldref 2 13), (0, .nameAndType 14 15), (0, u "work"), (0, u "Lcom/example/rivulet/rivulet/WorkLimit;"), (0, .fieldref 2 17), (0, .nameAndType 18 19), (0, u "count"), (0, u "J"), (4, u "add"), (0, u "(J)V"), (0, .fieldref 2 27), (0, .nameAndType 28 29), (0, u "loaded"), (0, u "Z"), (0, .fieldref 2 31), (0, .nameAndType 32 19), (0, u "load"), (2, u "()J")] 7

def k2c0 : Code := { maxStack := 2, maxLocals := 1, code := prog_25_method_1_code, exceptionTable := #[], attributes := #[] }
def k2m0 : Method := { name := "<init>", desc := "()V", sig := { parameters := [], returnType := none }, accessFlags := 0, code := some k2c0 }
def k2c1 : Code := { maxStack := 2, maxLocals := 2, code := prog_25_method_2_code, exceptionTable := #[], attributes := #[] }
def k2m1 : Method := { name := "<init>", desc := "(Lcom/example/rivulet/rivulet/WorkLimit;)V", sig := { parameters := [(.object "com/example/rivulet/rivulet/WorkLimit")], returnType := none }, accessFlags := 0, code := some k2c1 }
def k2c2 : Code := { maxStack := 5, maxLocals := 3, code := prog_25_method_3_code, exceptionTable := #[], attributes := #[] }
def k2m2 : Method := { name := "add", desc := "(J)V", sig := { parameters := [.long], returnType := none }, accessFlags := 0, code := some k2c2 }
def k2c3 : Code := { maxStack := 3, maxLocals := 1, code := prog_25_method_4_code, exceptionTable := #[], attributes := #[] }
def k2m3 : Method := { name := "loaded", desc := "()V", sig := { parameters := [], returnType := none }, accessFlags := 0, code := some k2c3 }
def k2c4 : Code := { maxStack := 2, maxLocals := 1, code := prog_25_method_5_code, exceptionTable := #[], attributes := #[] }
def k2m4 : Method := { name := "load", desc := "()J", sig := { parameters := [], returnType := some .long }, accessFlags := 0, code := some k2c4 }
/-- com/example/rivulet/rivulet/Counter -/
def k2 : Class := { plain "com/example/rivulet/rivulet/Counter" (some 0) with
  accessFlags := 48
  interfaces := #[]
  cf := some (fileOf pool2 2 #[] #[{ accessFlags := 0, nameIndex := 5, descriptorIndex := 11, attributes := #[] }, { accessFlags := 0, nameIndex := 5, descriptorIndex := 6, attributes := #[] }, { accessFlags := 0, nameIndex := 24, descriptorIndex := 25, attributes := #[] }, { accessFlags := 0, nameIndex := 28, descriptorIndex := 11, attributes := #[] }, { accessFlags := 0, nameIndex := 32, descriptorIndex := 35, attributes := #[] }] 48 8 #[] #[{ accessFlags := 2, nameIndex := 18, descriptorIndex := 19, attributes := #[] }, { accessFlags := 2, nameIndex := 28, descriptorIndex := 29, attributes := #[] }, { accessFlags := 2, nameIndex := 32, descriptorIndex := 19, attributes := #[] }, { accessFlags := 18, nameIndex := 14, descriptorIndex := 15, attributes := #[] }])
  fields := #[{ name := "count", type := .long, accessFlags := 2, slot := 0, constantValue := 0 }, { name := "loaded", type := .boolean, accessFlags := 2, slot := 1, constantValue := 0 }, { name := "load", type := .long, accessFlags := 2, slot := 2, constantValue := 0 }, { name := "work", type := (.object "com/example/rivulet/rivulet/WorkLimit"), accessFlags := 18, slot := 3, constantValue := 0 }]
  methods := #[k2m0, k2m1, k2m2, k2m3, k2m4]
  instanceTypes := #[.long, .boolean, .long, (.object "com/example/rivulet/rivulet/WorkLimit")]
  staticTypes := #[]
  resolved := Array.replicate 43 none
  statics := none }

def pool3 : Array CpInfo := pool [(1, u "java/lang/Cloneable"), (0, .class_ 1), (0, u "java/lang/Object"), (0, .class_ 3)] 3

/-- java/lang/Cloneable -/
def k3 : Class := { plain "java/lang/Cloneable" (some 0) with
  accessFlags := 1537
  interfaces := #[]
  cf := some (fileOf pool3 2 #[] #[] 1537 4 #[] #[])
  fields := #[]
  methods := #[]
  instanceTypes := #[]
  staticTypes := #[]
  resolved := Array.replicate 8 none
  statics := none }

def pool4 : Array CpInfo := pool [(1, u "java/io/Serializable"), (0, .class_ 1), (0, u "java/lang/Object"), (0, .class_ 3)] 3

/-- java/io/Serializable -/
def k4 : Class := { plain "java/io/Serializable" (some 0) with
  accessFlags := 1537
  interfaces := #[]
  cf := some (fileOf pool4 2 #[] #[] 1537 4 #[] #[])
  fields := #[]
  methods := #[]
  instanceTypes := #[]
  staticTypes := #[]
  resolved := Array.replicate 8 none
  statics := none }

/-- the primitive byte -/
def k5 : Class := { plain "byte" none with kind := .primitive 'B', accessFlags := 0x411 }
/-- [B -/
def k6 : Class := { plain "[B" (some 0) with kind := .array 5 .byte, interfaces := #[3, 4], accessFlags := 1041 }

def heap : Heap := #[]
def classes : Array Class := #[k0, k1, k2, k3, k4, k5, k6]
def interned : List (Array UInt16 × Addr) := []
def slotsUsed : Nat := 0
def theMethod : MethodId := ⟨1, 3⟩
def args0 : Array Value := #[.long 5, .long 7, .long 0, .int 5]
def aboutOver (below : List Frame) : State where
  vm := { classes := classes, interned := interned.toArray }
  heap := heap
  slotsUsed := slotsUsed
  threads := #[{ frames := .invoking theMethod args0 :: below }]
def below0 : List Frame := [.native { method := ⟨0, 0⟩, args := #[] }]
def about1 : State := aboutOver below0
def p0 : Program := .bare "" "" ""
def e0 : Env := launch0.env 0 0 0
theorem w_frames : about1.frames = Frame.invoking theMethod args0 :: below0 := rfl
set_option maxRecDepth 65536 in
theorem w_args : argsFit about1.vm theMethod args0 = true := by decide +kernel
set_option maxRecDepth 65536 in
theorem w_heap : heapFits about1 = true := by decide +kernel
set_option maxRecDepth 65536 in
theorem w_runnable : about1.curStatus? = some .runnable := by decide +kernel
set_option maxRecDepth 65536 in
theorem w_alone : about1.alone = true := by decide +kernel
set_option maxRecDepth 65536 in
theorem w_named : about1.methodNamed? x = some theMethod := by decide +kernel
set_option maxRecDepth 65536 in
theorem w_hears : about1.hears theMethod below0 = true := by decide +kernel
set_option maxRecDepth 65536 in
theorem w_ripe : about1.ripe theMethod args0 below0 = true := by decide +kernel
theorem w_running : about1.status = .running := rfl
set_option maxRecDepth 65536 in
theorem w_room : about1.hasRoom e0.platform room_1 = true :=
  launch0.hasRoom_least _ room_1 (by decide +kernel) (by decide +kernel) (by decide +kernel) (by decide +kernel) (by decide +kernel) (by decide +kernel)
theorem allAtoms_all (ts : List Jvm.Cond) (a : Array Jvm.Value) (st : Jvm.State) : (allAtoms ts).before a st = ts.all (fun c => c.before a st) := by
  induction ts with
  | nil => rfl
  | cons c t ih =>
    show (Jvm.Cond.and c (allAtoms t)).before a st = _
    rw [Jvm.Cond.before_and, ih, List.all_cons]
def words1 : List Jvm.Cond := Jvm.Cond.code x code maxLocals ret :: tables_1
/-- a 'code' word, met by the world's own term for the bytes: nothing is compared byte by byte -/
theorem code_word {y : MethodName} {bytes : ByteArray} {mx : Nat} {rt : Option FieldType} {a : Array Value} {s : State} {m : MethodId} {meth : Method} {c : Code} (h1 : s.methodNamed? y = some m) (h2 : s.vm.method? m = some meth) (h3 : meth.code = some c) (h4 : c.code = bytes)
    (h5 : (c.maxLocals == mx && c.exceptionTable.isEmpty && decide (c.maxStack ≤ mostOperands) && decide (meth.sig.returnType = rt) && !meth.locks && decide (parseMethodDescriptor y.desc = some meth.sig)) = true) : (Jvm.Cond.code y bytes mx rt).before a s = true := by
  simp only [Bool.and_eq_true, beq_iff_eq, Bool.not_eq_true', decide_eq_true_eq] at h5
  obtain ⟨⟨⟨⟨⟨g1, g2⟩, g3⟩, g4⟩, g5⟩, g6⟩ := h5
  simp [Cond.before, Cond.holds, Cond.value, h1, h2, h3, h4, g1, g2, g3, g4, g5, g6]
def isCode : Jvm.Cond → Bool
  | .code _ _ _ _ => true
  | _ => false
theorem all_split {L : List Jvm.Cond} {P : Jvm.Cond → Bool} (h1 : L.all (fun c => isCode c || P c) = true) (h2 : ∀ c ∈ L.filter isCode, P c = true) : L.all P = true := by
  refine List.all_eq_true.mpr fun c hc => ?_
  have h := List.all_eq_true.mp h1 c hc
  rcases Bool.eq_false_or_eq_true (isCode c) with hi | hi
  · exact h2 c (List.mem_filter.mpr ⟨hc, hi⟩)
  · simpa [hi] using h
set_option maxRecDepth 65536 in
theorem w_c0 : (Jvm.Cond.code x code maxLocals ret).before args0 about1 = true := code_word (m := ⟨1, 3⟩) (meth := k1m3) (c := k1c3) (by decide +kernel) rfl rfl rfl (by decide +kernel)
set_option maxRecDepth 65536 in
theorem w_c1 : (Jvm.Cond.code ({ cls := "com/example/rivulet/rivulet/Counter", name := "<init>", desc := "()V" } : Jvm.MethodName) prog_25_method_1_code (1 : Nat) (Option.none : Option Jvm.ClassFile.FieldType)).before args0 about1 = true := code_word (m := ⟨2, 0⟩) (meth := k2m0) (c := k2c0) (by decide +kernel) rfl rfl rfl (by decide +kernel)
set_option maxRecDepth 65536 in
theorem w_c2 : (Jvm.Cond.code ({ cls := "com/example/rivulet/rivulet/Counter", name := "<init>", desc := "(Lcom/example/rivulet/rivulet/WorkLimit;)V" } : Jvm.MethodName) prog_25_method_2_code (2 : Nat) (Option.none : Option Jvm.ClassFile.FieldType)).before args0 about1 = true := code_word (m := ⟨2, 1⟩) (meth := k2m1) (c := k2c1) (by decide +kernel) rfl rfl rfl (by decide +kernel)
set_option maxRecDepth 65536 in
theorem w_c3 : (Jvm.Cond.code ({ cls := "java/lang/Object", name := "<init>", desc := "()V" } : Jvm.MethodName) object_method_1_code (1 : Nat) (Option.none : Option Jvm.ClassFile.FieldType)).before args0 about1 = true := code_word (m := ⟨0, 0⟩) (meth := k0m0) (c := k0c0) (by decide +kernel) rfl rfl rfl (by decide +kernel)
set_option maxRecDepth 65536 in
theorem w_c4 : (Jvm.Cond.code ({ cls := "com/example/rivulet/rivulet/Counter", name := "load", desc := "()J" } : Jvm.MethodName) prog_25_method_5_code (1 : Nat) (Option.some Jvm.ClassFile.FieldType.long)).before args0 about1 = true := code_word (m := ⟨2, 4⟩) (meth := k2m4) (c := k2c4) (by decide +kernel) rfl rfl rfl (by decide +kernel)
set_option maxRecDepth 65536 in
theorem w_c5 : (Jvm.Cond.code ({ cls := "com/example/rivulet/rivulet/CounterLoadPinLaw", name := "expected", desc := "(IIJJJJ)J" } : Jvm.MethodName) method_3_code (10 : Nat) (Option.some Jvm.ClassFile.FieldType.long)).before args0 about1 = true := code_word (m := ⟨1, 2⟩) (meth := k1m2) (c := k1c2) (by decide +kernel) rfl rfl rfl (by decide +kernel)
set_option maxRecDepth 65536 in
theorem w_c6 : (Jvm.Cond.code ({ cls := "com/example/rivulet/rivulet/CounterLoadPinLaw", name := "prefix", desc := "(IJJJJ)J" } : Jvm.MethodName) method_2_code (9 : Nat) (Option.some Jvm.ClassFile.FieldType.long)).before args0 about1 = true := code_word (m := ⟨1, 1⟩) (meth := k1m1) (c := k1c1) (by decide +kernel) rfl rfl rfl (by decide +kernel)
set_option maxRecDepth 65536 in
theorem w_c7 : (Jvm.Cond.code ({ cls := "com/example/rivulet/rivulet/Counter", name := "add", desc := "(J)V" } : Jvm.MethodName) prog_25_method_3_code (3 : Nat) (Option.none : Option Jvm.ClassFile.FieldType)).before args0 about1 = true := code_word (m := ⟨2, 2⟩) (meth := k2m2) (c := k2c2) (by decide +kernel) rfl rfl rfl (by decide +kernel)
set_option maxRecDepth 65536 in
theorem w_c8 : (Jvm.Cond.code ({ cls := "com/example/rivulet/rivulet/Counter", name := "loaded", desc := "()V" } : Jvm.MethodName) prog_25_method_4_code (1 : Nat) (Option.none : Option Jvm.ClassFile.FieldType)).before args0 about1 = true := code_word (m := ⟨2, 3⟩) (meth := k2m3) (c := k2c3) (by decide +kernel) rfl rfl rfl (by decide +kernel)
def codes1 : List Jvm.Cond := [Jvm.Cond.code x code maxLocals ret, Jvm.Cond.code ({ cls := "com/example/rivulet/rivulet/Counter", name := "<init>", desc := "()V" } : Jvm.MethodName) prog_25_method_1_code (1 : Nat) (Option.none : Option Jvm.ClassFile.FieldType), Jvm.Cond.code ({ cls := "com/example/rivulet/rivulet/Counter", name := "<init>", desc := "(Lcom/example/rivulet/rivulet/WorkLimit;)V" } : Jvm.MethodName) prog_25_method_2_code (2 : Nat) (Option.none : Option Jvm.ClassFile.FieldType), Jvm.Cond.code ({ cls := "java/lang/Object", name := "<init>", desc := "()V" } : Jvm.MethodName) object_method_1_code (1 : Nat) (Option.none : Option Jvm.ClassFile.FieldType), Jvm.Cond.code ({ cls := "com/example/rivulet/rivulet/Counter", name := "load", desc := "()J" } : Jvm.MethodName) prog_25_method_5_code (1 : Nat) (Option.some Jvm.ClassFile.FieldType.long), Jvm.Cond.code ({ cls := "com/example/rivulet/rivulet/CounterLoadPinLaw", name := "expected", desc := "(IIJJJJ)J" } : Jvm.MethodName) method_3_code (10 : Nat) (Option.some Jvm.ClassFile.FieldType.long), Jvm.Cond.code ({ cls := "com/example/rivulet/rivulet/CounterLoadPinLaw", name := "prefix", desc := "(IJJJJ)J" } : Jvm.MethodName) method_2_code (9 : Nat) (Option.some Jvm.ClassFile.FieldType.long), Jvm.Cond.code ({ cls := "com/example/rivulet/rivulet/Counter", name := "add", desc := "(J)V" } : Jvm.MethodName) prog_25_method_3_code (3 : Nat) (Option.none : Option Jvm.ClassFile.FieldType), Jvm.Cond.code ({ cls := "com/example/rivulet/rivulet/Counter", name := "loaded", desc := "()V" } : Jvm.MethodName) prog_25_method_4_code (1 : Nat) (Option.none : Option Jvm.ClassFile.FieldType)]
set_option maxRecDepth 65536 in
theorem codes_eq : words1.filter isCode = codes1 := rfl
theorem w_codes : ∀ c ∈ words1.filter isCode, c.before args0 about1 = true := by
  rw [codes_eq]
  intro c hc
  simp only [codes1, List.mem_cons, List.not_mem_nil, or_false] at hc
  rcases hc with rfl | rfl | rfl | rfl | rfl | rfl | rfl | rfl | rfl
  · exact w_c0
  · exact w_c1
  · exact w_c2
  · exact w_c3
  · exact w_c4
  · exact w_c5
  · exact w_c6
  · exact w_c7
  · exact w_c8
set_option maxRecDepth 65536 in
theorem w_t1 : (words1.take 24).all (fun c => isCode c || c.before args0 about1) = true := by decide +kernel
set_option maxRecDepth 65536 in
theorem w_t2 : (words1.drop 24).all (fun c => isCode c || c.before args0 about1) = true := by decide +kernel
theorem w_tables : (allAtoms (Jvm.Cond.code x code maxLocals ret :: tables_1)).before args0 about1 = true := by
  rw [allAtoms_all]
  show words1.all (fun c => c.before args0 about1) = true
  refine all_split ?_ w_codes
  rw [← List.take_append_drop 24 words1, List.all_append, w_t1, w_t2]
  rfl
set_option maxRecDepth 65536 in
theorem w_case : (Jvm.Cond.and given_1 narrow_1).before args0 about1 = true := by decide +kernel
theorem w_applies : (headSpec (Jvm.Cond.code x code maxLocals ret :: tables_1) room_1).applies x e0.platform about1 = true :=
  (Spec.applies_iff w_frames).mpr ⟨w_running, w_runnable, w_alone, w_named, w_hears, w_ripe, w_room, w_tables⟩
theorem atStart : AtStart classFile x code maxLocals ret World_1 tables_1 room_1 Calls_1 rest_1 Pre_1 launch0 p0 e0 about1 theMethod args0 below0 :=
  ⟨lists_1, trivial, launch0.admits_env _ _ _, launch0.least_env, fairChoices_fair.cas, fairChoices_fair.clock, w_frames, w_args, w_heap, w_applies, trivial, trivial, w_case⟩
end start1
theorem witness_1 : WitnessClaimed_1 := ⟨start1.p0, start1.e0, start1.about1, start1.theMethod, start1.args0, start1.below0, start1.atStart⟩
end Jvm.Pilot.@@N@@
