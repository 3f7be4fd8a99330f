import JvmDerived
import JvmDerived.Pilot.@@N@@Statement
import JvmDerived.Pilot.@@N@@Code
set_option linter.unusedVariables false
set_option linter.unusedSimpArgs false
@@BLOCK:NumsL.lean.txt@@
namespace Jvm.RoadKit
open Sem ClassFile Op Lib Jvm.Stand Jvm.Free Jvm.LawKit
section New
variable {p : Program} {l : Launch} {e : Env} {R : Room} {s : State} {m : MethodId} {args : Array Value} {below : List Frame} {meth : Method} {c : Code} {T : State} {locs : List Loc} {cells slots : Nat}
theorem retI (X : Stand p l e R s m args below meth c T locs cells slots) (hx : p.tables.exec = Jvm.exec) {pc : Nat} {Ls : Array Slot} {z : Int32} {rest : List Value} (hret : meth.sig.returnType = some .int) (hd : decode c.code pc = .ok (.ireturn, 1)) {fs : List Frame}
    (hl : ∀ (f : JFrame) (acts : List Action), f.method = m → f.locked = none → f.entered = [] → (doReturn e (T.setTop f) acts (some (.int z))).1 = T.setFrames fs) : Steps p.tables e below (T.setTop (mkF m pc Ls (.int z :: rest))) (T.setFrames fs) := by
  have hm' : T.vm.method? m = some meth := X.method'
  have hn : narrow .int (.int z) = .int z := rfl
  show Steps p.tables e below (T.setTop { method := m, pc := pc, locals := Ls, stack := _ :: rest, locked := none }) _
  jvm_step X.here [X.here.top, hx, hd, hm', hret, hn]
  first | (intro acts; rw [hl _ acts rfl rfl rfl]) | rw [hl _ _ rfl rfl rfl]
  exact Steps.refl _
end New
end Jvm.RoadKit
namespace Jvm.Pilot.@@N@@
open Jvm Jvm.ClassFile Sem Op Lib Jvm.Free Jvm.Stand Jvm.LawKit Jvm.RoadKit Bundle Jvm.Pilot.@@N@@.Jvm.D
/-- from here the run comes to an end of which G holds -/
def Go (tb : Tables) (e : Env) (below : List Frame) (G : State → Outcome → Prop) (U : State) : Prop := ∃ t o, Steps tb e below U t ∧ G t o
theorem Go.st {tb : Tables} {e : Env} {below : List Frame} {G : State → Outcome → Prop} {U U' : State} (h : ∀ t, Steps tb e below U' t → Steps tb e below U t) (k : Go tb e below G U') : Go tb e below G U :=
  let ⟨t, o, a, b⟩ := k
  ⟨t, o, h t a, b⟩
theorem Go.start {tb : Tables} {e : Env} {below : List Frame} {G0 : State → Outcome → Prop} {U : State} (h : ∀ G, G = G0 → Go tb e below G U) : Go tb e below G0 U := h _ rfl
theorem Go.join {tb : Tables} {e : Env} {below : List Frame} {G : State → Outcome → Prop} {U : State} {α : Type} {F : α → State} (k : ∀ z, Go tb e below G (F z)) (h : (∀ z, Go tb e below G (F z)) → Go tb e below G U) : Go tb e below G U := h k
theorem Go.joinR {tb : Tables} {e : Env} {below : List Frame} {G : State → Outcome → Prop} {U : State} {α : Type} {F : α → State} {R : α → Prop} (k : ∀ z, R z → Go tb e below G (F z)) (h : (∀ z, R z → Go tb e below G (F z)) → Go tb e below G U) : Go tb e below G U := h k
theorem own_lrem {tb : Tables} {e : Env} {below : List Frame} {T target : State} {g : JFrame} {n : Nat} {x y : Int64} {rest : List Value} (k : Steps tb e below (T.setTop { g with pc := n, stack := .long (x % y) :: rest }) target) :
    Steps tb e below (T.setTop { g with pc := n, stack := .long (x - (x / y) * y) :: rest }) target := by
  rw [lrem_mod]
  exact k
theorem i64_addc (x y : Int64) : (x + y).toInt = x.toInt + y.toInt ∧ -2 ^ 63 ≤ x.toInt + y.toInt ∧ x.toInt + y.toInt < 2 ^ 63 ∨ (x + y).toInt = x.toInt + y.toInt - 2 ^ 64 ∧ 2 ^ 63 ≤ x.toInt + y.toInt ∨ (x + y).toInt = x.toInt + y.toInt + 2 ^ 64 ∧ x.toInt + y.toInt < -2 ^ 63 := by
  have h := Int64.toInt_add x y
  have a1 := Int64.le_toInt x
  have a2 := Int64.toInt_lt x
  have b1 := Int64.le_toInt y
  have b2 := Int64.toInt_lt y
  rw [Int.bmod_def] at h
  split at h <;> omega
theorem i64_subc (x y : Int64) : (x - y).toInt = x.toInt - y.toInt ∧ -2 ^ 63 ≤ x.toInt - y.toInt ∧ x.toInt - y.toInt < 2 ^ 63 ∨ (x - y).toInt = x.toInt - y.toInt - 2 ^ 64 ∧ 2 ^ 63 ≤ x.toInt - y.toInt ∨ (x - y).toInt = x.toInt - y.toInt + 2 ^ 64 ∧ x.toInt - y.toInt < -2 ^ 63 := by
  have h := Int64.toInt_sub x y
  have a1 := Int64.le_toInt x
  have a2 := Int64.toInt_lt x
  have b1 := Int64.le_toInt y
  have b2 := Int64.toInt_lt y
  rw [Int.bmod_def] at h
  split at h <;> omega
theorem i32_i2c (x : Int32) : (x.toUInt32.toUInt16.toUInt32.toInt32).toInt = x.toInt % 65536 := by
  have h1 : (x.toUInt32.toUInt16.toUInt32.toInt32).toInt = ((x.toUInt32.toUInt16.toUInt32).toNat : Int).bmod (2 ^ 32) := by
    rw [← Int32.toInt_toBitVec, BitVec.toInt_eq_toNat_bmod]; rfl
  have h2 : (x.toUInt32.toUInt16.toUInt32).toNat = x.toBitVec.toNat % 65536 := by
    simp [UInt32.toNat_toUInt16, UInt16.toNat_toUInt32]; rfl
  have h3 : x.toInt = (x.toBitVec.toNat : Int).bmod (2 ^ 32) := by
    rw [← Int32.toInt_toBitVec, BitVec.toInt_eq_toNat_bmod]
  have h4 := x.toBitVec.isLt
  rw [h1, h2, h3, Int.bmod_def, Int.bmod_def]
  split <;> split <;> omega
theorem i32_addc (x y : Int32) : (x + y).toInt = x.toInt + y.toInt ∧ -2 ^ 31 ≤ x.toInt + y.toInt ∧ x.toInt + y.toInt < 2 ^ 31 ∨ (x + y).toInt = x.toInt + y.toInt - 2 ^ 32 ∧ 2 ^ 31 ≤ x.toInt + y.toInt ∨ (x + y).toInt = x.toInt + y.toInt + 2 ^ 32 ∧ x.toInt + y.toInt < -2 ^ 31 := by
  have h := Int32.toInt_add x y
  have a1 := Int32.le_toInt x
  have a2 := Int32.toInt_lt x
  have b1 := Int32.le_toInt y
  have b2 := Int32.toInt_lt y
  rw [Int.bmod_def] at h
  split at h <;> omega
theorem i32_subc (x y : Int32) : (x - y).toInt = x.toInt - y.toInt ∧ -2 ^ 31 ≤ x.toInt - y.toInt ∧ x.toInt - y.toInt < 2 ^ 31 ∨ (x - y).toInt = x.toInt - y.toInt - 2 ^ 32 ∧ 2 ^ 31 ≤ x.toInt - y.toInt ∨ (x - y).toInt = x.toInt - y.toInt + 2 ^ 32 ∧ x.toInt - y.toInt < -2 ^ 31 := by
  have h := Int32.toInt_sub x y
  have a1 := Int32.le_toInt x
  have a2 := Int32.toInt_lt x
  have b1 := Int32.le_toInt y
  have b2 := Int32.toInt_lt y
  rw [Int.bmod_def] at h
  split at h <;> omega
theorem own_eq32 {a b : Int32} (h : a.toInt = b.toInt) : a = b := Int32.toInt_inj.mp h
theorem own_eq64 {a b : Int64} (h : a.toInt = b.toInt) : a = b := Int64.toInt_inj.mp h
theorem own_lt64 {a b : Int64} (h : a.toInt < b.toInt) : a < b := Int64.lt_iff_toInt_lt.mpr h
theorem own_lt32 {a b : Int32} (h : a.toInt < b.toInt) : a < b := Int32.lt_iff_toInt_lt.mpr h
theorem own_nlt64 {a b : Int64} (h : b.toInt ≤ a.toInt) : ¬ a < b := fun z => by have := Int64.lt_iff_toInt_lt.mp z; omega
theorem own_nlt32 {a b : Int32} (h : b.toInt ≤ a.toInt) : ¬ a < b := fun z => by have := Int32.lt_iff_toInt_lt.mp z; omega
theorem own_ne32 {a b : Int32} (h : a.toInt ≠ b.toInt) : ¬ a = b := fun z => h (by rw [z])
theorem own_ne64 {a b : Int64} (h : a.toInt ≠ b.toInt) : ¬ a = b := fun z => h (by rw [z])
def accB (lim pr : Int64) : Int32 := if lim = 0 then 1 else if lim < pr then 0 else 1
def accS (lim pr : Int64) : Int32 := if lim = 0 then 1 else if pr < lim then 0 else 1
theorem pn_0 : plainName "io/floorbook/engine/Side" = true := by first | (simp [plainName, overriddenIn]; done) | decide +kernel
theorem d_accB_0 : decode prog_31_method_5_code 0 = .ok (.lload_n 1, 1) := by decide +kernel
theorem d_accB_1 : decode prog_31_method_5_code 1 = .ok (.lconst 0, 1) := by decide +kernel
theorem d_accB_2 : decode prog_31_method_5_code 2 = .ok (.lcmp, 1) := by decide +kernel
theorem d_accB_3 : decode prog_31_method_5_code 3 = .ok (.ifCond .ne 5, 3) := by decide +kernel
theorem d_accB_6 : decode prog_31_method_5_code 6 = .ok (.iconst 1, 1) := by decide +kernel
theorem d_accB_7 : decode prog_31_method_5_code 7 = .ok (.ireturn, 1) := by decide +kernel
theorem d_accB_8 : decode prog_31_method_5_code 8 = .ok (.aload_n 0, 1) := by decide +kernel
theorem d_accB_9 : decode prog_31_method_5_code 9 = .ok (.getstatic 3, 3) := by decide +kernel
theorem d_accB_12 : decode prog_31_method_5_code 12 = .ok (.if_acmp .ne 17, 3) := by decide +kernel
theorem d_accB_15 : decode prog_31_method_5_code 15 = .ok (.lload_n 3, 1) := by decide +kernel
theorem d_accB_16 : decode prog_31_method_5_code 16 = .ok (.lload_n 1, 1) := by decide +kernel
theorem d_accB_17 : decode prog_31_method_5_code 17 = .ok (.lcmp, 1) := by decide +kernel
theorem d_accB_18 : decode prog_31_method_5_code 18 = .ok (.ifCond .gt 7, 3) := by decide +kernel
theorem d_accB_21 : decode prog_31_method_5_code 21 = .ok (.iconst 1, 1) := by decide +kernel
theorem d_accB_22 : decode prog_31_method_5_code 22 = .ok (.goto 18, 3) := by decide +kernel
theorem d_accB_25 : decode prog_31_method_5_code 25 = .ok (.iconst 0, 1) := by decide +kernel
theorem d_accB_26 : decode prog_31_method_5_code 26 = .ok (.goto 14, 3) := by decide +kernel
theorem d_accB_40 : decode prog_31_method_5_code 40 = .ok (.ireturn, 1) := by decide +kernel
theorem ef_accB (m : MethodId) (ao : Addr) (ql : Int64) (qp : Int64) : entryFrame m #[(.ref ao), (.long ql), (.long qp)] 5 = mkF m 0 #[.val (.ref ao), .val (.long ql), .second, .val (.long qp), .second] [] := by first | (simp [entryFrame, mkF, argsToLocals, Value.category]; done) | rfl
def Q_accB (Z : State) (ao : Addr) (ql : Int64) (qp : Int64) (h0 : Heap) (n0 : Nat) (v : Option Value) (h : Heap) (L : List Loc) : Prop := v = some (.int (accB ql qp)) ∧ Fr n0 L ∧ h = h0
set_option maxRecDepth 65536 in
set_option maxHeartbeats 40000000 in
theorem rm_accB (l : Launch) (Z : State) (a0 : Array Value) (hw : ∀ d ∈ tables_1, d.before a0 Z = true) (ws : List Jvm.Cond) (ao : Addr) (ql : Int64) (qp : Int64) (h0 : Heap) (n0 : Nat) (Z0 : n0 ≤ h0.size) (P0 : Sta Z h0 "io/floorbook/engine/Side" "BUY" "Lio/floorbook/engine/Side;" (.ref ao)) :
    MetFree l (⟨"io/floorbook/engine/Side", "accepts", "(JJ)Z"⟩ : MethodName) (head1 (Jvm.Cond.code (⟨"io/floorbook/engine/Side", "accepts", "(JJ)Z"⟩ : MethodName) prog_31_method_5_code 5 (some .boolean) :: ws) ({ frames := 0, cells := 0, slots := 0, locals := 0 } : Room)) (fun a U => a = #[(.ref ao), (.long ql), (.long qp)] ∧ Z.Warmed39 U.vm ∧ U.heap = h0) (fun _ _ _ _ _ => True) (fun _ U o U' => ∃ v L, o = .returned v ∧ Q_accB Z ao ql qp h0 n0 v U'.heap L ∧ FrameEnd U o U' L ({ frames := 0, cells := 0, slots := 0, locals := 0 } : Room).cells ({ frames := 0, cells := 0, slots := 0, locals := 0 } : Room).slots) := by
  refine MetFree.of_bodySF (plainFor_of_name pn_0) hisR ?_
  intro p e s m args below meth c s₁ Bd hml0 hP hK
  obtain ⟨rfl, hZ, hh⟩ := hP
  have hx := Bd.exec
  have hby := Bd.bytes
  have hml : c.maxLocals = 5 := hml0
  have hown : s.vm.findClass "io/floorbook/engine/Side" = some m.cls := findClass_of_methodNamed Bd.named
  have hnm := (name_of_methodNamed Bd.named Bd.method).1
  have X0 : Stand p l e ({ frames := 0, cells := 0, slots := 0, locals := 0 } : Room) s m #[(.ref ao), (.long ql), (.long qp)] below meth c s₁ [] 0 0 := Stand.of_body Bd
  have e0 : s₁.heap = h0 := by rw [← hh, Bd.state]; rfl
  have N0 := Fr.nil n0
  have K0 : Keep h0 h0 [] := Keep.refl h0 []
  show Go p.tables e below _ (s₁.setTop (entryFrame m #[(.ref ao), (.long ql), (.long qp)] 5))
  refine Go.start ?_
  intro G hG
  refine Go.st (fun t k => castTop (ef_accB m ao ql qp) k) ?_
  show Go p.tables e below _ (s₁.setTop (mkF m 0 #[.val (.ref ao), .val (.long ql), .second, .val (.long qp), .second] []))
  refine Go.st (fun _ k => XS.lloadN X0.here hx rfl (hb hby d_accB_0) rfl k) ?_
  show Go p.tables e below _ (s₁.setTop (mkF m 1 #[.val (.ref ao), .val (.long ql), .second, .val (.long qp), .second] [(.long ql)]))
  refine Go.st (fun _ k => XS.lconst X0.here hx rfl (hb hby d_accB_1) k) ?_
  show Go p.tables e below _ (s₁.setTop (mkF m 2 #[.val (.ref ao), .val (.long ql), .second, .val (.long qp), .second] [(.long (0 : Int64)), (.long ql)]))
  refine Go.st (fun _ k => Jvm.Free.XT.lcmp X0.here hx rfl (hb hby d_accB_2) rfl k) ?_
  show Go p.tables e below _ (s₁.setTop (mkF m 3 #[.val (.ref ao), .val (.long ql), .second, .val (.long qp), .second] [(.int (Jvm.Free.XT.cmpL ql (0 : Int64)))]))
  by_cases hc3 : ql = (0 : Int64)
  · skip
    refine Go.st (fun _ k => XS.ifNo X0.here hx rfl (hb hby d_accB_3) rfl (Jvm.Free.XT.ll_ne_f hc3) k) ?_
    show Go p.tables e below _ (s₁.setTop (mkF m 6 #[.val (.ref ao), .val (.long ql), .second, .val (.long qp), .second] []))
    refine Go.st (fun _ k => XS.iconst X0.here hx rfl (hb hby d_accB_6) k) ?_
    show Go p.tables e below _ (s₁.setTop (mkF m 7 #[.val (.ref ao), .val (.long ql), .second, .val (.long qp), .second] [(.int (1 : Int32))]))
    subst hG
    obtain ⟨fs, hr, hrun, hended, hW, hsame⟩ := X0.leave (v := some (.int (nar .boolean (1 : Int32)))) (fun h => by rw [Bd.returns] at h; cases h)
    refine ⟨_, _, ?_, hrun, hended, _, _, rfl, ?_, ⟨_, rfl⟩, hW, hsame.mono (by decide) (by decide)⟩
    · exact retN X0 hx (t := .boolean) Bd.returns (by simp) (hb hby d_accB_7) hr
    · show Q_accB Z ao ql qp h0 n0 _ s₁.heap _
      rw [e0]
      exact ⟨(by show some (Value.int (1 : Int32)) = _; simp [accB, hc3]), N0, rfl⟩
  · skip
    refine Go.st (fun _ k => XS.ifYes X0.here hx rfl (pc0 := 3) (pc' := 8) rfl (hb hby d_accB_3) rfl (Jvm.Free.XT.ll_ne_t hc3) (by decide) (by decide) k) ?_
    show Go p.tables e below _ (s₁.setTop (mkF m 8 #[.val (.ref ao), .val (.long ql), .second, .val (.long qp), .second] []))
    refine Go.st (fun _ k => XS.aloadN X0.here hx rfl (hb hby d_accB_8) rfl rfl k) ?_
    show Go p.tables e below _ (s₁.setTop (mkF m 9 #[.val (.ref ao), .val (.long ql), .second, .val (.long qp), .second] [(.ref ao)]))
    obtain ⟨T1, X1, e1, st1⟩ := getS2 X0 hx hZ hown (host := "") (Or.inl (hw _ (List.mem_of_getElem? (i := 10) rfl))) Via.refl e0 P0 (g := (mkF m 9 #[.val (.ref ao), .val (.long ql), .second, .val (.long qp), .second] [(.ref ao)])) rfl (hb hby d_accB_9)
    refine Go.st st1 ?_
    show Go p.tables e below _ (T1.setTop (mkF m 12 #[.val (.ref ao), .val (.long ql), .second, .val (.long qp), .second] [(.ref ao), (.ref ao)]))
    refine Go.st (fun _ k => Jvm.RoadKit.acmp (g := (mkF m 12 #[.val (.ref ao), .val (.long ql), .second, .val (.long qp), .second] [(.ref ao), (.ref ao)])) X1 hx rfl rfl rfl (pc0 := 12) (pc' := 15) (same := true) rfl (hb hby d_accB_12) rfl (decide_eq_true rfl) (by decide) (by decide) k) ?_
    show Go p.tables e below _ (T1.setTop (mkF m 15 #[.val (.ref ao), .val (.long ql), .second, .val (.long qp), .second] []))
    refine Go.st (fun _ k => XS.lloadN X1.here hx rfl (hb hby d_accB_15) rfl k) ?_
    show Go p.tables e below _ (T1.setTop (mkF m 16 #[.val (.ref ao), .val (.long ql), .second, .val (.long qp), .second] [(.long qp)]))
    refine Go.st (fun _ k => XS.lloadN X1.here hx rfl (hb hby d_accB_16) rfl k) ?_
    show Go p.tables e below _ (T1.setTop (mkF m 17 #[.val (.ref ao), .val (.long ql), .second, .val (.long qp), .second] [(.long ql), (.long qp)]))
    refine Go.st (fun _ k => Jvm.Free.XT.lcmp X1.here hx rfl (hb hby d_accB_17) rfl k) ?_
    show Go p.tables e below _ (T1.setTop (mkF m 18 #[.val (.ref ao), .val (.long ql), .second, .val (.long qp), .second] [(.int (Jvm.Free.XT.cmpL qp ql))]))
    by_cases hc18 : ql < qp
    · skip
      refine Go.st (fun _ k => XS.ifYes X1.here hx rfl (pc0 := 18) (pc' := 25) rfl (hb hby d_accB_18) rfl (Jvm.Free.XT.ll_gt_t hc18) (by decide) (by decide) k) ?_
      show Go p.tables e below _ (T1.setTop (mkF m 25 #[.val (.ref ao), .val (.long ql), .second, .val (.long qp), .second] []))
      refine Go.st (fun _ k => XS.iconst X1.here hx rfl (hb hby d_accB_25) k) ?_
      show Go p.tables e below _ (T1.setTop (mkF m 26 #[.val (.ref ao), .val (.long ql), .second, .val (.long qp), .second] [(.int (0 : Int32))]))
      refine Go.st (fun _ k => XS.goto X1.here hx rfl (pc0 := 26) (pc' := 40) rfl (hb hby d_accB_26) (by decide) (by decide) k) ?_
      show Go p.tables e below _ (T1.setTop (mkF m 40 #[.val (.ref ao), .val (.long ql), .second, .val (.long qp), .second] [(.int (0 : Int32))]))
      subst hG
      obtain ⟨fs, hr, hrun, hended, hW, hsame⟩ := X1.leave (v := some (.int (nar .boolean (0 : Int32)))) (fun h => by rw [Bd.returns] at h; cases h)
      refine ⟨_, _, ?_, hrun, hended, _, _, rfl, ?_, ⟨_, rfl⟩, hW, hsame.mono (by decide) (by decide)⟩
      · exact retN X1 hx (t := .boolean) Bd.returns (by simp) (hb hby d_accB_40) hr
      · show Q_accB Z ao ql qp h0 n0 _ T1.heap _
        rw [e1]
        exact ⟨(by show some (Value.int (0 : Int32)) = _; simp [accB, hc3, hc18]), N0, rfl⟩
    · skip
      refine Go.st (fun _ k => XS.ifNo X1.here hx rfl (hb hby d_accB_18) rfl (Jvm.Free.XT.ll_gt_f hc18) k) ?_
      show Go p.tables e below _ (T1.setTop (mkF m 21 #[.val (.ref ao), .val (.long ql), .second, .val (.long qp), .second] []))
      refine Go.st (fun _ k => XS.iconst X1.here hx rfl (hb hby d_accB_21) k) ?_
      show Go p.tables e below _ (T1.setTop (mkF m 22 #[.val (.ref ao), .val (.long ql), .second, .val (.long qp), .second] [(.int (1 : Int32))]))
      refine Go.st (fun _ k => XS.goto X1.here hx rfl (pc0 := 22) (pc' := 40) rfl (hb hby d_accB_22) (by decide) (by decide) k) ?_
      show Go p.tables e below _ (T1.setTop (mkF m 40 #[.val (.ref ao), .val (.long ql), .second, .val (.long qp), .second] [(.int (1 : Int32))]))
      subst hG
      obtain ⟨fs, hr, hrun, hended, hW, hsame⟩ := X1.leave (v := some (.int (nar .boolean (1 : Int32)))) (fun h => by rw [Bd.returns] at h; cases h)
      refine ⟨_, _, ?_, hrun, hended, _, _, rfl, ?_, ⟨_, rfl⟩, hW, hsame.mono (by decide) (by decide)⟩
      · exact retN X1 hx (t := .boolean) Bd.returns (by simp) (hb hby d_accB_40) hr
      · show Q_accB Z ao ql qp h0 n0 _ T1.heap _
        rw [e1]
        exact ⟨(by show some (Value.int (1 : Int32)) = _; simp [accB, hc3, hc18]), N0, rfl⟩
theorem d_accS_0 : decode prog_31_method_5_code 0 = .ok (.lload_n 1, 1) := by decide +kernel
theorem d_accS_1 : decode prog_31_method_5_code 1 = .ok (.lconst 0, 1) := by decide +kernel
theorem d_accS_2 : decode prog_31_method_5_code 2 = .ok (.lcmp, 1) := by decide +kernel
theorem d_accS_3 : decode prog_31_method_5_code 3 = .ok (.ifCond .ne 5, 3) := by decide +kernel
theorem d_accS_6 : decode prog_31_method_5_code 6 = .ok (.iconst 1, 1) := by decide +kernel
theorem d_accS_7 : decode prog_31_method_5_code 7 = .ok (.ireturn, 1) := by decide +kernel
theorem d_accS_8 : decode prog_31_method_5_code 8 = .ok (.aload_n 0, 1) := by decide +kernel
theorem d_accS_9 : decode prog_31_method_5_code 9 = .ok (.getstatic 3, 3) := by decide +kernel
theorem d_accS_12 : decode prog_31_method_5_code 12 = .ok (.if_acmp .ne 17, 3) := by decide +kernel
theorem d_accS_29 : decode prog_31_method_5_code 29 = .ok (.lload_n 3, 1) := by decide +kernel
theorem d_accS_30 : decode prog_31_method_5_code 30 = .ok (.lload_n 1, 1) := by decide +kernel
theorem d_accS_31 : decode prog_31_method_5_code 31 = .ok (.lcmp, 1) := by decide +kernel
theorem d_accS_32 : decode prog_31_method_5_code 32 = .ok (.ifCond .lt 7, 3) := by decide +kernel
theorem d_accS_35 : decode prog_31_method_5_code 35 = .ok (.iconst 1, 1) := by decide +kernel
theorem d_accS_36 : decode prog_31_method_5_code 36 = .ok (.goto 4, 3) := by decide +kernel
theorem d_accS_39 : decode prog_31_method_5_code 39 = .ok (.iconst 0, 1) := by decide +kernel
theorem d_accS_40 : decode prog_31_method_5_code 40 = .ok (.ireturn, 1) := by decide +kernel
theorem ef_accS (m : MethodId) (ao : Addr) (ql : Int64) (qp : Int64) : entryFrame m #[(.ref ao), (.long ql), (.long qp)] 5 = mkF m 0 #[.val (.ref ao), .val (.long ql), .second, .val (.long qp), .second] [] := by first | (simp [entryFrame, mkF, argsToLocals, Value.category]; done) | rfl
def Q_accS (Z : State) (ao : Addr) (ql : Int64) (qp : Int64) (ab : Addr) (h0 : Heap) (n0 : Nat) (v : Option Value) (h : Heap) (L : List Loc) : Prop := v = some (.int (accS ql qp)) ∧ Fr n0 L ∧ h = h0
set_option maxRecDepth 65536 in
set_option maxHeartbeats 40000000 in
theorem rm_accS (l : Launch) (Z : State) (a0 : Array Value) (hw : ∀ d ∈ tables_1, d.before a0 Z = true) (ws : List Jvm.Cond) (ao : Addr) (ql : Int64) (qp : Int64) (ab : Addr) (h0 : Heap) (n0 : Nat) (Z0 : n0 ≤ h0.size) (P0 : Sta Z h0 "io/floorbook/engine/Side" "BUY" "Lio/floorbook/engine/Side;" (.ref ab)) (hne : ao ≠ ab) :
    MetFree l (⟨"io/floorbook/engine/Side", "accepts", "(JJ)Z"⟩ : MethodName) (head1 (Jvm.Cond.code (⟨"io/floorbook/engine/Side", "accepts", "(JJ)Z"⟩ : MethodName) prog_31_method_5_code 5 (some .boolean) :: ws) ({ frames := 0, cells := 0, slots := 0, locals := 0 } : Room)) (fun a U => a = #[(.ref ao), (.long ql), (.long qp)] ∧ Z.Warmed39 U.vm ∧ U.heap = h0) (fun _ _ _ _ _ => True) (fun _ U o U' => ∃ v L, o = .returned v ∧ Q_accS Z ao ql qp ab h0 n0 v U'.heap L ∧ FrameEnd U o U' L ({ frames := 0, cells := 0, slots := 0, locals := 0 } : Room).cells ({ frames := 0, cells := 0, slots := 0, locals := 0 } : Room).slots) := by
  refine MetFree.of_bodySF (plainFor_of_name pn_0) hisR ?_
  intro p e s m args below meth c s₁ Bd hml0 hP hK
  obtain ⟨rfl, hZ, hh⟩ := hP
  have hx := Bd.exec
  have hby := Bd.bytes
  have hml : c.maxLocals = 5 := hml0
  have hown : s.vm.findClass "io/floorbook/engine/Side" = some m.cls := findClass_of_methodNamed Bd.named
  have hnm := (name_of_methodNamed Bd.named Bd.method).1
  have X0 : Stand p l e ({ frames := 0, cells := 0, slots := 0, locals := 0 } : Room) s m #[(.ref ao), (.long ql), (.long qp)] below meth c s₁ [] 0 0 := Stand.of_body Bd
  have e0 : s₁.heap = h0 := by rw [← hh, Bd.state]; rfl
  have N0 := Fr.nil n0
  have K0 : Keep h0 h0 [] := Keep.refl h0 []
  show Go p.tables e below _ (s₁.setTop (entryFrame m #[(.ref ao), (.long ql), (.long qp)] 5))
  refine Go.start ?_
  intro G hG
  refine Go.st (fun t k => castTop (ef_accS m ao ql qp) k) ?_
  show Go p.tables e below _ (s₁.setTop (mkF m 0 #[.val (.ref ao), .val (.long ql), .second, .val (.long qp), .second] []))
  refine Go.st (fun _ k => XS.lloadN X0.here hx rfl (hb hby d_accS_0) rfl k) ?_
  show Go p.tables e below _ (s₁.setTop (mkF m 1 #[.val (.ref ao), .val (.long ql), .second, .val (.long qp), .second] [(.long ql)]))
  refine Go.st (fun _ k => XS.lconst X0.here hx rfl (hb hby d_accS_1) k) ?_
  show Go p.tables e below _ (s₁.setTop (mkF m 2 #[.val (.ref ao), .val (.long ql), .second, .val (.long qp), .second] [(.long (0 : Int64)), (.long ql)]))
  refine Go.st (fun _ k => Jvm.Free.XT.lcmp X0.here hx rfl (hb hby d_accS_2) rfl k) ?_
  show Go p.tables e below _ (s₁.setTop (mkF m 3 #[.val (.ref ao), .val (.long ql), .second, .val (.long qp), .second] [(.int (Jvm.Free.XT.cmpL ql (0 : Int64)))]))
  by_cases hc3 : ql = (0 : Int64)
  · skip
    refine Go.st (fun _ k => XS.ifNo X0.here hx rfl (hb hby d_accS_3) rfl (Jvm.Free.XT.ll_ne_f hc3) k) ?_
    show Go p.tables e below _ (s₁.setTop (mkF m 6 #[.val (.ref ao), .val (.long ql), .second, .val (.long qp), .second] []))
    refine Go.st (fun _ k => XS.iconst X0.here hx rfl (hb hby d_accS_6) k) ?_
    show Go p.tables e below _ (s₁.setTop (mkF m 7 #[.val (.ref ao), .val (.long ql), .second, .val (.long qp), .second] [(.int (1 : Int32))]))
    subst hG
    obtain ⟨fs, hr, hrun, hended, hW, hsame⟩ := X0.leave (v := some (.int (nar .boolean (1 : Int32)))) (fun h => by rw [Bd.returns] at h; cases h)
    refine ⟨_, _, ?_, hrun, hended, _, _, rfl, ?_, ⟨_, rfl⟩, hW, hsame.mono (by decide) (by decide)⟩
    · exact retN X0 hx (t := .boolean) Bd.returns (by simp) (hb hby d_accS_7) hr
    · show Q_accS Z ao ql qp ab h0 n0 _ s₁.heap _
      rw [e0]
      exact ⟨(by show some (Value.int (1 : Int32)) = _; simp [accS, hc3]), N0, rfl⟩
  · skip
    refine Go.st (fun _ k => XS.ifYes X0.here hx rfl (pc0 := 3) (pc' := 8) rfl (hb hby d_accS_3) rfl (Jvm.Free.XT.ll_ne_t hc3) (by decide) (by decide) k) ?_
    show Go p.tables e below _ (s₁.setTop (mkF m 8 #[.val (.ref ao), .val (.long ql), .second, .val (.long qp), .second] []))
    refine Go.st (fun _ k => XS.aloadN X0.here hx rfl (hb hby d_accS_8) rfl rfl k) ?_
    show Go p.tables e below _ (s₁.setTop (mkF m 9 #[.val (.ref ao), .val (.long ql), .second, .val (.long qp), .second] [(.ref ao)]))
    obtain ⟨T1, X1, e1, st1⟩ := getS2 X0 hx hZ hown (host := "") (Or.inl (hw _ (List.mem_of_getElem? (i := 10) rfl))) Via.refl e0 P0 (g := (mkF m 9 #[.val (.ref ao), .val (.long ql), .second, .val (.long qp), .second] [(.ref ao)])) rfl (hb hby d_accS_9)
    refine Go.st st1 ?_
    show Go p.tables e below _ (T1.setTop (mkF m 12 #[.val (.ref ao), .val (.long ql), .second, .val (.long qp), .second] [(.ref ab), (.ref ao)]))
    refine Go.st (fun _ k => Jvm.RoadKit.acmp (g := (mkF m 12 #[.val (.ref ao), .val (.long ql), .second, .val (.long qp), .second] [(.ref ab), (.ref ao)])) X1 hx rfl rfl rfl (pc0 := 12) (pc' := 29) (same := false) rfl (hb hby d_accS_12) rfl (decide_eq_false fun q => hne (Value.ref.inj q)) (by decide) (by decide) k) ?_
    show Go p.tables e below _ (T1.setTop (mkF m 29 #[.val (.ref ao), .val (.long ql), .second, .val (.long qp), .second] []))
    refine Go.st (fun _ k => XS.lloadN X1.here hx rfl (hb hby d_accS_29) rfl k) ?_
    show Go p.tables e below _ (T1.setTop (mkF m 30 #[.val (.ref ao), .val (.long ql), .second, .val (.long qp), .second] [(.long qp)]))
    refine Go.st (fun _ k => XS.lloadN X1.here hx rfl (hb hby d_accS_30) rfl k) ?_
    show Go p.tables e below _ (T1.setTop (mkF m 31 #[.val (.ref ao), .val (.long ql), .second, .val (.long qp), .second] [(.long ql), (.long qp)]))
    refine Go.st (fun _ k => Jvm.Free.XT.lcmp X1.here hx rfl (hb hby d_accS_31) rfl k) ?_
    show Go p.tables e below _ (T1.setTop (mkF m 32 #[.val (.ref ao), .val (.long ql), .second, .val (.long qp), .second] [(.int (Jvm.Free.XT.cmpL qp ql))]))
    by_cases hc32 : qp < ql
    · skip
      refine Go.st (fun _ k => XS.ifYes X1.here hx rfl (pc0 := 32) (pc' := 39) rfl (hb hby d_accS_32) rfl (Jvm.Free.XT.ll_lt_t hc32) (by decide) (by decide) k) ?_
      show Go p.tables e below _ (T1.setTop (mkF m 39 #[.val (.ref ao), .val (.long ql), .second, .val (.long qp), .second] []))
      refine Go.st (fun _ k => XS.iconst X1.here hx rfl (hb hby d_accS_39) k) ?_
      show Go p.tables e below _ (T1.setTop (mkF m 40 #[.val (.ref ao), .val (.long ql), .second, .val (.long qp), .second] [(.int (0 : Int32))]))
      subst hG
      obtain ⟨fs, hr, hrun, hended, hW, hsame⟩ := X1.leave (v := some (.int (nar .boolean (0 : Int32)))) (fun h => by rw [Bd.returns] at h; cases h)
      refine ⟨_, _, ?_, hrun, hended, _, _, rfl, ?_, ⟨_, rfl⟩, hW, hsame.mono (by decide) (by decide)⟩
      · exact retN X1 hx (t := .boolean) Bd.returns (by simp) (hb hby d_accS_40) hr
      · show Q_accS Z ao ql qp ab h0 n0 _ T1.heap _
        rw [e1]
        exact ⟨(by show some (Value.int (0 : Int32)) = _; simp [accS, hc3, hc32]), N0, rfl⟩
    · skip
      refine Go.st (fun _ k => XS.ifNo X1.here hx rfl (hb hby d_accS_32) rfl (Jvm.Free.XT.ll_lt_f hc32) k) ?_
      show Go p.tables e below _ (T1.setTop (mkF m 35 #[.val (.ref ao), .val (.long ql), .second, .val (.long qp), .second] []))
      refine Go.st (fun _ k => XS.iconst X1.here hx rfl (hb hby d_accS_35) k) ?_
      show Go p.tables e below _ (T1.setTop (mkF m 36 #[.val (.ref ao), .val (.long ql), .second, .val (.long qp), .second] [(.int (1 : Int32))]))
      refine Go.st (fun _ k => XS.goto X1.here hx rfl (pc0 := 36) (pc' := 40) rfl (hb hby d_accS_36) (by decide) (by decide) k) ?_
      show Go p.tables e below _ (T1.setTop (mkF m 40 #[.val (.ref ao), .val (.long ql), .second, .val (.long qp), .second] [(.int (1 : Int32))]))
      subst hG
      obtain ⟨fs, hr, hrun, hended, hW, hsame⟩ := X1.leave (v := some (.int (nar .boolean (1 : Int32)))) (fun h => by rw [Bd.returns] at h; cases h)
      refine ⟨_, _, ?_, hrun, hended, _, _, rfl, ?_, ⟨_, rfl⟩, hW, hsame.mono (by decide) (by decide)⟩
      · exact retN X1 hx (t := .boolean) Bd.returns (by simp) (hb hby d_accS_40) hr
      · show Q_accS Z ao ql qp ab h0 n0 _ T1.heap _
        rw [e1]
        exact ⟨(by show some (Value.int (1 : Int32)) = _; simp [accS, hc3, hc32]), N0, rfl⟩
theorem pd_0 : parseMethodDescriptor "(JJ)Z" = some ⟨[.long, .long], some .boolean⟩ := by decide +kernel
theorem pn_1 : plainName "io/floorbook/engine/SideAcceptsPinLaw" = true := by first | (simp [plainName, overriddenIn]; done) | decide +kernel
theorem ef_law (m : MethodId) (pm : Int32) (qa : Int64) (qb : Int64) (pd : Int32) : entryFrame m #[(.int pm), (.long qa), (.long qb), (.int pd)] maxLocals = mkF m 0 #[.val (.int pm), .val (.long qa), .second, .val (.long qb), .second, .val (.int pd), .unset, .unset, .unset, .unset, .unset, .unset, .unset, .unset] [] := by first | (simp [entryFrame, mkF, argsToLocals, Value.category, maxLocals]; done) | rfl
def Q_law (Z : State) (pm : Int32) (qa : Int64) (qb : Int64) (pd : Int32) (ab : Addr) (as_ : Addr) (h0 : Heap) (n0 : Nat) (v : Option Value) (h : Heap) (L : List Loc) : Prop := v = some (.int (1 : Int32)) ∧ Fr n0 L ∧ h = h0
set_option maxRecDepth 65536 in
set_option maxHeartbeats 40000000 in
theorem rm_law (l : Launch) (Z : State) (a0 : Array Value) (hw : ∀ d ∈ tables_1, d.before a0 Z = true) (ws : List Jvm.Cond) (pm : Int32) (qa : Int64) (qb : Int64) (pd : Int32) (ab : Addr) (as_ : Addr) (h0 : Heap) (n0 : Nat) (Z0 : n0 ≤ h0.size) (P0 : Sta Z h0 "io/floorbook/engine/Side" "BUY" "Lio/floorbook/engine/Side;" (.ref ab)) (P1 : Sta Z h0 "io/floorbook/engine/Side" "SELL" "Lio/floorbook/engine/Side;" (.ref as_)) (P2 : Exa Z h0 ab "io/floorbook/engine/Side") (P3 : Exa Z h0 as_ "io/floorbook/engine/Side") (hne : as_ ≠ ab) :
    MetFree l x (head1 (Jvm.Cond.code x code maxLocals ret :: ws) room_1) (fun a U => a = #[(.int pm), (.long qa), (.long qb), (.int pd)] ∧ Z.Warmed39 U.vm ∧ U.heap = h0) (fun _ _ _ _ _ => True) (fun _ U o U' => ∃ v L, o = .returned v ∧ Q_law Z pm qa qb pd ab as_ h0 n0 v U'.heap L ∧ FrameEnd U o U' L room_1.cells room_1.slots) := by
  refine MetFree.of_bodySF (plainFor_of_name pn_1) hisR ?_
  intro p e s m args below meth c s₁ Bd hml0 hP hK
  obtain ⟨rfl, hZ, hh⟩ := hP
  have hx := Bd.exec
  have hby := Bd.bytes
  have hml : c.maxLocals = 14 := hml0
  have hown : s.vm.findClass "io/floorbook/engine/SideAcceptsPinLaw" = some m.cls := findClass_of_methodNamed Bd.named
  have hnm := (name_of_methodNamed Bd.named Bd.method).1
  have X0 : Stand p l e room_1 s m #[(.int pm), (.long qa), (.long qb), (.int pd)] below meth c s₁ [] 0 0 := Stand.of_body Bd
  have e0 : s₁.heap = h0 := by rw [← hh, Bd.state]; rfl
  have N0 := Fr.nil n0
  have K0 : Keep h0 h0 [] := Keep.refl h0 []
  show Go p.tables e below _ (s₁.setTop (entryFrame m #[(.int pm), (.long qa), (.long qb), (.int pd)] maxLocals))
  refine Go.start ?_
  intro G hG
  refine Go.st (fun t k => castTop (ef_law m pm qa qb pd) k) ?_
  show Go p.tables e below _ (s₁.setTop (mkF m 0 #[.val (.int pm), .val (.long qa), .second, .val (.long qb), .second, .val (.int pd), .unset, .unset, .unset, .unset, .unset, .unset, .unset, .unset] []))
  refine Go.st (fun _ k => XS.iloadN X0.here hx rfl (hb hby at_0) rfl k) ?_
  show Go p.tables e below _ (s₁.setTop (mkF m 1 #[.val (.int pm), .val (.long qa), .second, .val (.long qb), .second, .val (.int pd), .unset, .unset, .unset, .unset, .unset, .unset, .unset, .unset] [(.int pm)]))
  refine Go.st (fun _ k => XS.iconst X0.here hx rfl (hb hby at_1) k) ?_
  show Go p.tables e below _ (s₁.setTop (mkF m 2 #[.val (.int pm), .val (.long qa), .second, .val (.long qb), .second, .val (.int pd), .unset, .unset, .unset, .unset, .unset, .unset, .unset, .unset] [(.int (3 : Int32)), (.int pm)]))
  refine Go.st (fun _ k => XS.iand X0.here hx rfl (hb hby at_2) rfl k) ?_
  show Go p.tables e below _ (s₁.setTop (mkF m 3 #[.val (.int pm), .val (.long qa), .second, .val (.long qb), .second, .val (.int pd), .unset, .unset, .unset, .unset, .unset, .unset, .unset, .unset] [(.int (pm &&& (3 : Int32)))]))
  refine Go.join (F := fun j11 : Int64 => s₁.setTop (mkF m 11 #[.val (.int pm), .val (.long qa), .second, .val (.long qb), .second, .val (.int pd), .unset, .unset, .unset, .unset, .unset, .unset, .unset, .unset] [(.long j11)])) ?_ (fun J11 => ?_)
  · intro j11
    show Go p.tables e below _ (s₁.setTop (mkF m 11 #[.val (.int pm), .val (.long qa), .second, .val (.long qb), .second, .val (.int pd), .unset, .unset, .unset, .unset, .unset, .unset, .unset, .unset] [(.long j11)]))
    refine Go.st (fun _ k => XS.lstore X0.here hx rfl (hb hby at_11) rfl (l' := #[.val (.int pm), .val (.long qa), .second, .val (.long qb), .second, .val (.int pd), .val (.long j11), .second, .unset, .unset, .unset, .unset, .unset, .unset]) rfl k) ?_
    show Go p.tables e below _ (s₁.setTop (mkF m 13 #[.val (.int pm), .val (.long qa), .second, .val (.long qb), .second, .val (.int pd), .val (.long j11), .second, .unset, .unset, .unset, .unset, .unset, .unset] []))
    show Go p.tables e below _ (s₁.setTop (mkF m 13 #[.val (.int pm), .val (.long qa), .second, .val (.long qb), .second, .val (.int pd), .val (.long j11), .second, .unset, .unset, .unset, .unset, .unset, .unset] []))
    refine Go.st (fun _ k => XS.iloadN X0.here hx rfl (hb hby at_13) rfl k) ?_
    show Go p.tables e below _ (s₁.setTop (mkF m 14 #[.val (.int pm), .val (.long qa), .second, .val (.long qb), .second, .val (.int pd), .val (.long j11), .second, .unset, .unset, .unset, .unset, .unset, .unset] [(.int pm)]))
    refine Go.st (fun _ k => XS.iconst X0.here hx rfl (hb hby at_14) k) ?_
    show Go p.tables e below _ (s₁.setTop (mkF m 15 #[.val (.int pm), .val (.long qa), .second, .val (.long qb), .second, .val (.int pd), .val (.long j11), .second, .unset, .unset, .unset, .unset, .unset, .unset] [(.int (4 : Int32)), (.int pm)]))
    refine Go.st (fun _ k => XS.iand X0.here hx rfl (hb hby at_15) rfl k) ?_
    show Go p.tables e below _ (s₁.setTop (mkF m 16 #[.val (.int pm), .val (.long qa), .second, .val (.long qb), .second, .val (.int pd), .val (.long j11), .second, .unset, .unset, .unset, .unset, .unset, .unset] [(.int (pm &&& (4 : Int32)))]))
    refine Go.join (F := fun j31 : Int64 => s₁.setTop (mkF m 31 #[.val (.int pm), .val (.long qa), .second, .val (.long qb), .second, .val (.int pd), .val (.long j11), .second, .unset, .unset, .unset, .unset, .unset, .unset] [(.long j31)])) ?_ (fun J31 => ?_)
    · intro j31
      show Go p.tables e below _ (s₁.setTop (mkF m 31 #[.val (.int pm), .val (.long qa), .second, .val (.long qb), .second, .val (.int pd), .val (.long j11), .second, .unset, .unset, .unset, .unset, .unset, .unset] [(.long j31)]))
      refine Go.st (fun _ k => XS.lstore X0.here hx rfl (hb hby at_31) rfl (l' := #[.val (.int pm), .val (.long qa), .second, .val (.long qb), .second, .val (.int pd), .val (.long j11), .second, .val (.long j31), .second, .unset, .unset, .unset, .unset]) rfl k) ?_
      show Go p.tables e below _ (s₁.setTop (mkF m 33 #[.val (.int pm), .val (.long qa), .second, .val (.long qb), .second, .val (.int pd), .val (.long j11), .second, .val (.long j31), .second, .unset, .unset, .unset, .unset] []))
      show Go p.tables e below _ (s₁.setTop (mkF m 33 #[.val (.int pm), .val (.long qa), .second, .val (.long qb), .second, .val (.int pd), .val (.long j11), .second, .val (.long j31), .second, .unset, .unset, .unset, .unset] []))
      refine Go.st (fun _ k => XS.lload X0.here hx rfl (hb hby at_33) rfl k) ?_
      show Go p.tables e below _ (s₁.setTop (mkF m 35 #[.val (.int pm), .val (.long qa), .second, .val (.long qb), .second, .val (.int pd), .val (.long j11), .second, .val (.long j31), .second, .unset, .unset, .unset, .unset] [(.long j11)]))
      refine Go.st (fun _ k => XS.lconst X0.here hx rfl (hb hby at_35) k) ?_
      show Go p.tables e below _ (s₁.setTop (mkF m 36 #[.val (.int pm), .val (.long qa), .second, .val (.long qb), .second, .val (.int pd), .val (.long j11), .second, .val (.long j31), .second, .unset, .unset, .unset, .unset] [(.long (0 : Int64)), (.long j11)]))
      refine Go.st (fun _ k => Jvm.Free.XT.lcmp X0.here hx rfl (hb hby at_36) rfl k) ?_
      show Go p.tables e below _ (s₁.setTop (mkF m 37 #[.val (.int pm), .val (.long qa), .second, .val (.long qb), .second, .val (.int pd), .val (.long j11), .second, .val (.long j31), .second, .unset, .unset, .unset, .unset] [(.int (Jvm.Free.XT.cmpL j11 (0 : Int64)))]))
      by_cases hc37 : j11 = (0 : Int64)
      · skip
        refine Go.st (fun _ k => XS.ifNo X0.here hx rfl (hb hby at_37) rfl (Jvm.Free.XT.ll_ne_f hc37) k) ?_
        show Go p.tables e below _ (s₁.setTop (mkF m 40 #[.val (.int pm), .val (.long qa), .second, .val (.long qb), .second, .val (.int pd), .val (.long j11), .second, .val (.long j31), .second, .unset, .unset, .unset, .unset] []))
        refine Go.st (fun _ k => XS.iconst X0.here hx rfl (hb hby at_40) k) ?_
        show Go p.tables e below _ (s₁.setTop (mkF m 41 #[.val (.int pm), .val (.long qa), .second, .val (.long qb), .second, .val (.int pd), .val (.long j11), .second, .val (.long j31), .second, .unset, .unset, .unset, .unset] [(.int (1 : Int32))]))
        refine Go.st (fun _ k => XS.istore X0.here hx rfl (hb hby at_41) rfl (l' := #[.val (.int pm), .val (.long qa), .second, .val (.long qb), .second, .val (.int pd), .val (.long j11), .second, .val (.long j31), .second, .val (.int (1 : Int32)), .unset, .unset, .unset]) rfl k) ?_
        show Go p.tables e below _ (s₁.setTop (mkF m 43 #[.val (.int pm), .val (.long qa), .second, .val (.long qb), .second, .val (.int pd), .val (.long j11), .second, .val (.long j31), .second, .val (.int (1 : Int32)), .unset, .unset, .unset] []))
        show Go p.tables e below _ (s₁.setTop (mkF m 43 #[.val (.int pm), .val (.long qa), .second, .val (.long qb), .second, .val (.int pd), .val (.long j11), .second, .val (.long j31), .second, .val (.int (1 : Int32)), .unset, .unset, .unset] []))
        refine Go.st (fun _ k => XS.iconst X0.here hx rfl (hb hby at_43) k) ?_
        show Go p.tables e below _ (s₁.setTop (mkF m 44 #[.val (.int pm), .val (.long qa), .second, .val (.long qb), .second, .val (.int pd), .val (.long j11), .second, .val (.long j31), .second, .val (.int (1 : Int32)), .unset, .unset, .unset] [(.int (1 : Int32))]))
        refine Go.st (fun _ k => XS.istore X0.here hx rfl (hb hby at_44) rfl (l' := #[.val (.int pm), .val (.long qa), .second, .val (.long qb), .second, .val (.int pd), .val (.long j11), .second, .val (.long j31), .second, .val (.int (1 : Int32)), .val (.int (1 : Int32)), .unset, .unset]) rfl k) ?_
        show Go p.tables e below _ (s₁.setTop (mkF m 46 #[.val (.int pm), .val (.long qa), .second, .val (.long qb), .second, .val (.int pd), .val (.long j11), .second, .val (.long j31), .second, .val (.int (1 : Int32)), .val (.int (1 : Int32)), .unset, .unset] []))
        show Go p.tables e below _ (s₁.setTop (mkF m 46 #[.val (.int pm), .val (.long qa), .second, .val (.long qb), .second, .val (.int pd), .val (.long j11), .second, .val (.long j31), .second, .val (.int (1 : Int32)), .val (.int (1 : Int32)), .unset, .unset] []))
        refine Go.st (fun _ k => XS.goto X0.here hx rfl (pc0 := 46) (pc' := 79) rfl (hb hby at_46) (by decide) (by decide) k) ?_
        show Go p.tables e below _ (s₁.setTop (mkF m 79 #[.val (.int pm), .val (.long qa), .second, .val (.long qb), .second, .val (.int pd), .val (.long j11), .second, .val (.long j31), .second, .val (.int (1 : Int32)), .val (.int (1 : Int32)), .unset, .unset] []))
        obtain ⟨T1, X1, e1, st1⟩ := getS2 X0 hx hZ hown (host := "") (Or.inl (hw _ (List.mem_of_getElem? (i := 0) rfl))) Via.refl e0 P0 (g := (mkF m 79 #[.val (.int pm), .val (.long qa), .second, .val (.long qb), .second, .val (.int pd), .val (.long j11), .second, .val (.long j31), .second, .val (.int (1 : Int32)), .val (.int (1 : Int32)), .unset, .unset] [])) rfl (hb hby at_79)
        refine Go.st st1 ?_
        show Go p.tables e below _ (T1.setTop (mkF m 82 #[.val (.int pm), .val (.long qa), .second, .val (.long qb), .second, .val (.int pd), .val (.long j11), .second, .val (.long j31), .second, .val (.int (1 : Int32)), .val (.int (1 : Int32)), .unset, .unset] [(.ref ab)]))
        refine Go.st (fun _ k => XS.lload X1.here hx rfl (hb hby at_82) rfl k) ?_
        show Go p.tables e below _ (T1.setTop (mkF m 84 #[.val (.int pm), .val (.long qa), .second, .val (.long qb), .second, .val (.int pd), .val (.long j11), .second, .val (.long j31), .second, .val (.int (1 : Int32)), .val (.int (1 : Int32)), .unset, .unset] [(.long j11), (.ref ab)]))
        refine Go.st (fun _ k => XS.lload X1.here hx rfl (hb hby at_84) rfl k) ?_
        show Go p.tables e below _ (T1.setTop (mkF m 86 #[.val (.int pm), .val (.long qa), .second, .val (.long qb), .second, .val (.int pd), .val (.long j11), .second, .val (.long j31), .second, .val (.int (1 : Int32)), .val (.int (1 : Int32)), .unset, .unset] [(.long j31), (.long j11), (.ref ab)]))
        obtain ⟨cq2, kq2, q2a, q2b, q2c⟩ := isOf hZ e1 P2
        obtain ⟨_, _, ⟨T2, L2, k2, n2⟩, -, X2, ⟨Lc2, hQ2, l2, y2, z2⟩, st2⟩ := X1.virtualBack hx (y := (⟨"io/floorbook/engine/Side", "accepts", "(JJ)Z"⟩ : MethodName)) (z := (⟨"io/floorbook/engine/Side", "accepts", "(JJ)Z"⟩ : MethodName)) hown (mvT hZ (hw _ (List.mem_of_getElem? (i := 3) rfl))) (mvT hZ (hw _ (List.mem_of_getElem? (i := 4) rfl))) (notFace_of_selects (args := #[]) (mvT hZ (hw _ (List.mem_of_getElem? (i := 6) rfl)))) (mvT hZ (hw _ (List.mem_of_getElem? (i := 6) rfl))) (mvT hZ (hw _ (List.mem_of_getElem? (i := 5) rfl))) (by decide) (backOf (W := 0) (rm_accB l Z a0 hw [] ab j11 j31 h0 n0 Z0 P0) hZ (hw _ (List.mem_of_getElem? (i := 7) rfl)) (hw _ (List.mem_of_getElem? (i := 1) rfl)) (by decide) (by decide)) q2a q2c (g := (mkF m 86 #[.val (.int pm), .val (.long qa), .second, .val (.long qb), .second, .val (.int pd), .val (.long j11), .second, .val (.long j31), .second, .val (.int (1 : Int32)), .val (.int (1 : Int32)), .unset, .unset] [(.long j31), (.long j11), (.ref ab)])) rfl (by rw [hml]; rfl) (Steps.refl _) (argsL := [(.long j11), (.long j31)]) (rest := []) (lenOf pd_0 rfl) rfl (by show 2 * 0 + _ ≤ _; exact Nat.le_of_eq rfl) (hb hby at_86) (fun _ _ => ⟨rfl, e1, (by decide : 0 + 0 ≤ _), (by decide : 0 + 0 ≤ _)⟩)
        dsimp only [Pt.U, Pt.locs, Pt.cells, Pt.slots] at X2 l2 y2 z2 st2 hQ2
        subst l2 y2 z2
        obtain ⟨rfl, N2q, e2⟩ := hQ2
        have N2 := Fr.app N0 N2q
        refine Go.st (fun _ k => st2.trans k) ?_
        show Go p.tables e below _ (T2.setTop (mkF m 89 #[.val (.int pm), .val (.long qa), .second, .val (.long qb), .second, .val (.int pd), .val (.long j11), .second, .val (.long j31), .second, .val (.int (1 : Int32)), .val (.int (1 : Int32)), .unset, .unset] [(.int (accB j11 j31))]))
        refine Go.st (fun _ k => XS.istore X2.here hx rfl (hb hby at_89) rfl (l' := #[.val (.int pm), .val (.long qa), .second, .val (.long qb), .second, .val (.int pd), .val (.long j11), .second, .val (.long j31), .second, .val (.int (1 : Int32)), .val (.int (1 : Int32)), .val (.int (accB j11 j31)), .unset]) rfl k) ?_
        show Go p.tables e below _ (T2.setTop (mkF m 91 #[.val (.int pm), .val (.long qa), .second, .val (.long qb), .second, .val (.int pd), .val (.long j11), .second, .val (.long j31), .second, .val (.int (1 : Int32)), .val (.int (1 : Int32)), .val (.int (accB j11 j31)), .unset] []))
        generalize hqv89 : (accB j11 j31) = v89
        show Go p.tables e below _ (T2.setTop (mkF m 91 #[.val (.int pm), .val (.long qa), .second, .val (.long qb), .second, .val (.int pd), .val (.long j11), .second, .val (.long j31), .second, .val (.int (1 : Int32)), .val (.int (1 : Int32)), .val (.int v89), .unset] []))
        obtain ⟨T3, X3, e3, st3⟩ := getS2 X2 hx hZ hown (host := "") (Or.inl (hw _ (List.mem_of_getElem? (i := 8) rfl))) Via.refl e2 P1 (g := (mkF m 91 #[.val (.int pm), .val (.long qa), .second, .val (.long qb), .second, .val (.int pd), .val (.long j11), .second, .val (.long j31), .second, .val (.int (1 : Int32)), .val (.int (1 : Int32)), .val (.int v89), .unset] [])) rfl (hb hby at_91)
        refine Go.st st3 ?_
        show Go p.tables e below _ (T3.setTop (mkF m 94 #[.val (.int pm), .val (.long qa), .second, .val (.long qb), .second, .val (.int pd), .val (.long j11), .second, .val (.long j31), .second, .val (.int (1 : Int32)), .val (.int (1 : Int32)), .val (.int v89), .unset] [(.ref as_)]))
        refine Go.st (fun _ k => XS.lload X3.here hx rfl (hb hby at_94) rfl k) ?_
        show Go p.tables e below _ (T3.setTop (mkF m 96 #[.val (.int pm), .val (.long qa), .second, .val (.long qb), .second, .val (.int pd), .val (.long j11), .second, .val (.long j31), .second, .val (.int (1 : Int32)), .val (.int (1 : Int32)), .val (.int v89), .unset] [(.long j11), (.ref as_)]))
        refine Go.st (fun _ k => XS.lload X3.here hx rfl (hb hby at_96) rfl k) ?_
        show Go p.tables e below _ (T3.setTop (mkF m 98 #[.val (.int pm), .val (.long qa), .second, .val (.long qb), .second, .val (.int pd), .val (.long j11), .second, .val (.long j31), .second, .val (.int (1 : Int32)), .val (.int (1 : Int32)), .val (.int v89), .unset] [(.long j31), (.long j11), (.ref as_)]))
        obtain ⟨cq4, kq4, q4a, q4b, q4c⟩ := isOf hZ e3 P3
        obtain ⟨_, _, ⟨T4, L4, k4, n4⟩, -, X4, ⟨Lc4, hQ4, l4, y4, z4⟩, st4⟩ := X3.virtualBack hx (y := (⟨"io/floorbook/engine/Side", "accepts", "(JJ)Z"⟩ : MethodName)) (z := (⟨"io/floorbook/engine/Side", "accepts", "(JJ)Z"⟩ : MethodName)) hown (mvT hZ (hw _ (List.mem_of_getElem? (i := 3) rfl))) (mvT hZ (hw _ (List.mem_of_getElem? (i := 4) rfl))) (notFace_of_selects (args := #[]) (mvT hZ (hw _ (List.mem_of_getElem? (i := 6) rfl)))) (mvT hZ (hw _ (List.mem_of_getElem? (i := 6) rfl))) (mvT hZ (hw _ (List.mem_of_getElem? (i := 5) rfl))) (by decide) (backOf (W := 0) (rm_accS l Z a0 hw [] as_ j11 j31 ab h0 n0 Z0 P0 hne) hZ (hw _ (List.mem_of_getElem? (i := 7) rfl)) (hw _ (List.mem_of_getElem? (i := 1) rfl)) (by decide) (by decide)) q4a q4c (g := (mkF m 98 #[.val (.int pm), .val (.long qa), .second, .val (.long qb), .second, .val (.int pd), .val (.long j11), .second, .val (.long j31), .second, .val (.int (1 : Int32)), .val (.int (1 : Int32)), .val (.int v89), .unset] [(.long j31), (.long j11), (.ref as_)])) rfl (by rw [hml]; rfl) (Steps.refl _) (argsL := [(.long j11), (.long j31)]) (rest := []) (lenOf pd_0 rfl) rfl (by show 2 * 0 + _ ≤ _; exact Nat.le_of_eq rfl) (hb hby at_98) (fun _ _ => ⟨rfl, e3, (by decide : 0 + 0 ≤ _), (by decide : 0 + 0 ≤ _)⟩)
        dsimp only [Pt.U, Pt.locs, Pt.cells, Pt.slots] at X4 l4 y4 z4 st4 hQ4
        subst l4 y4 z4
        obtain ⟨rfl, N4q, e4⟩ := hQ4
        have N4 := Fr.app N2 N4q
        refine Go.st (fun _ k => st4.trans k) ?_
        show Go p.tables e below _ (T4.setTop (mkF m 101 #[.val (.int pm), .val (.long qa), .second, .val (.long qb), .second, .val (.int pd), .val (.long j11), .second, .val (.long j31), .second, .val (.int (1 : Int32)), .val (.int (1 : Int32)), .val (.int v89), .unset] [(.int (accS j11 j31))]))
        refine Go.st (fun _ k => XS.istore X4.here hx rfl (hb hby at_101) rfl (l' := #[.val (.int pm), .val (.long qa), .second, .val (.long qb), .second, .val (.int pd), .val (.long j11), .second, .val (.long j31), .second, .val (.int (1 : Int32)), .val (.int (1 : Int32)), .val (.int v89), .val (.int (accS j11 j31))]) rfl k) ?_
        show Go p.tables e below _ (T4.setTop (mkF m 103 #[.val (.int pm), .val (.long qa), .second, .val (.long qb), .second, .val (.int pd), .val (.long j11), .second, .val (.long j31), .second, .val (.int (1 : Int32)), .val (.int (1 : Int32)), .val (.int v89), .val (.int (accS j11 j31))] []))
        generalize hqv101 : (accS j11 j31) = v101
        show Go p.tables e below _ (T4.setTop (mkF m 103 #[.val (.int pm), .val (.long qa), .second, .val (.long qb), .second, .val (.int pd), .val (.long j11), .second, .val (.long j31), .second, .val (.int (1 : Int32)), .val (.int (1 : Int32)), .val (.int v89), .val (.int v101)] []))
        refine Go.st (fun _ k => XS.iload X4.here hx rfl (hb hby at_103) rfl k) ?_
        show Go p.tables e below _ (T4.setTop (mkF m 105 #[.val (.int pm), .val (.long qa), .second, .val (.long qb), .second, .val (.int pd), .val (.long j11), .second, .val (.long j31), .second, .val (.int (1 : Int32)), .val (.int (1 : Int32)), .val (.int v89), .val (.int v101)] [(.int v89)]))
        refine Go.st (fun _ k => XS.iload X4.here hx rfl (hb hby at_105) rfl k) ?_
        show Go p.tables e below _ (T4.setTop (mkF m 107 #[.val (.int pm), .val (.long qa), .second, .val (.long qb), .second, .val (.int pd), .val (.long j11), .second, .val (.long j31), .second, .val (.int (1 : Int32)), .val (.int (1 : Int32)), .val (.int v89), .val (.int v101)] [(.int (1 : Int32)), (.int v89)]))
        have hc107 : v89 = (1 : Int32) := (by rw [← hqv89]; simp [accB, hc37])
        refine Go.st (fun _ k => XS.icmpNo X4.here hx rfl (hb hby at_107) rfl (Jvm.Free.XT.ii_ne_f hc107) k) ?_
        show Go p.tables e below _ (T4.setTop (mkF m 110 #[.val (.int pm), .val (.long qa), .second, .val (.long qb), .second, .val (.int pd), .val (.long j11), .second, .val (.long j31), .second, .val (.int (1 : Int32)), .val (.int (1 : Int32)), .val (.int v89), .val (.int v101)] []))
        refine Go.st (fun _ k => XS.iload X4.here hx rfl (hb hby at_110) rfl k) ?_
        show Go p.tables e below _ (T4.setTop (mkF m 112 #[.val (.int pm), .val (.long qa), .second, .val (.long qb), .second, .val (.int pd), .val (.long j11), .second, .val (.long j31), .second, .val (.int (1 : Int32)), .val (.int (1 : Int32)), .val (.int v89), .val (.int v101)] [(.int v101)]))
        refine Go.st (fun _ k => XS.iload X4.here hx rfl (hb hby at_112) rfl k) ?_
        show Go p.tables e below _ (T4.setTop (mkF m 114 #[.val (.int pm), .val (.long qa), .second, .val (.long qb), .second, .val (.int pd), .val (.long j11), .second, .val (.long j31), .second, .val (.int (1 : Int32)), .val (.int (1 : Int32)), .val (.int v89), .val (.int v101)] [(.int (1 : Int32)), (.int v101)]))
        have hc114 : v101 = (1 : Int32) := (by rw [← hqv101]; simp [accS, hc37])
        refine Go.st (fun _ k => XS.icmpNo X4.here hx rfl (hb hby at_114) rfl (Jvm.Free.XT.ii_ne_f hc114) k) ?_
        show Go p.tables e below _ (T4.setTop (mkF m 117 #[.val (.int pm), .val (.long qa), .second, .val (.long qb), .second, .val (.int pd), .val (.long j11), .second, .val (.long j31), .second, .val (.int (1 : Int32)), .val (.int (1 : Int32)), .val (.int v89), .val (.int v101)] []))
        refine Go.st (fun _ k => XS.iconst X4.here hx rfl (hb hby at_117) k) ?_
        show Go p.tables e below _ (T4.setTop (mkF m 118 #[.val (.int pm), .val (.long qa), .second, .val (.long qb), .second, .val (.int pd), .val (.long j11), .second, .val (.long j31), .second, .val (.int (1 : Int32)), .val (.int (1 : Int32)), .val (.int v89), .val (.int v101)] [(.int (1 : Int32))]))
        refine Go.st (fun _ k => XS.goto X4.here hx rfl (pc0 := 118) (pc' := 122) rfl (hb hby at_118) (by decide) (by decide) k) ?_
        show Go p.tables e below _ (T4.setTop (mkF m 122 #[.val (.int pm), .val (.long qa), .second, .val (.long qb), .second, .val (.int pd), .val (.long j11), .second, .val (.long j31), .second, .val (.int (1 : Int32)), .val (.int (1 : Int32)), .val (.int v89), .val (.int v101)] [(.int (1 : Int32))]))
        subst hG
        obtain ⟨fs, hr, hrun, hended, hW, hsame⟩ := X4.leave (v := some (.int (nar .boolean (1 : Int32)))) (fun h => by rw [Bd.returns] at h; cases h)
        refine ⟨_, _, ?_, hrun, hended, _, _, rfl, ?_, ⟨_, rfl⟩, hW, hsame.mono (by decide) (by decide)⟩
        · exact retN X4 hx (t := .boolean) Bd.returns (by simp) (hb hby at_122) hr
        · show Q_law Z pm qa qb pd ab as_ h0 n0 _ T4.heap _
          rw [e4]
          exact ⟨rfl, N4, rfl⟩
      · skip
        refine Go.st (fun _ k => XS.ifYes X0.here hx rfl (pc0 := 37) (pc' := 49) rfl (hb hby at_37) rfl (Jvm.Free.XT.ll_ne_t hc37) (by decide) (by decide) k) ?_
        show Go p.tables e below _ (s₁.setTop (mkF m 49 #[.val (.int pm), .val (.long qa), .second, .val (.long qb), .second, .val (.int pd), .val (.long j11), .second, .val (.long j31), .second, .unset, .unset, .unset, .unset] []))
        refine Go.st (fun _ k => XS.lload X0.here hx rfl (hb hby at_49) rfl k) ?_
        show Go p.tables e below _ (s₁.setTop (mkF m 51 #[.val (.int pm), .val (.long qa), .second, .val (.long qb), .second, .val (.int pd), .val (.long j11), .second, .val (.long j31), .second, .unset, .unset, .unset, .unset] [(.long j31)]))
        refine Go.st (fun _ k => XS.lload X0.here hx rfl (hb hby at_51) rfl k) ?_
        show Go p.tables e below _ (s₁.setTop (mkF m 53 #[.val (.int pm), .val (.long qa), .second, .val (.long qb), .second, .val (.int pd), .val (.long j11), .second, .val (.long j31), .second, .unset, .unset, .unset, .unset] [(.long j11), (.long j31)]))
        refine Go.st (fun _ k => Jvm.Free.XT.lcmp X0.here hx rfl (hb hby at_53) rfl k) ?_
        show Go p.tables e below _ (s₁.setTop (mkF m 54 #[.val (.int pm), .val (.long qa), .second, .val (.long qb), .second, .val (.int pd), .val (.long j11), .second, .val (.long j31), .second, .unset, .unset, .unset, .unset] [(.int (Jvm.Free.XT.cmpL j31 j11))]))
        by_cases hc54 : j11 < j31
        · skip
          refine Go.st (fun _ k => XS.ifYes X0.here hx rfl (pc0 := 54) (pc' := 61) rfl (hb hby at_54) rfl (Jvm.Free.XT.ll_gt_t hc54) (by decide) (by decide) k) ?_
          show Go p.tables e below _ (s₁.setTop (mkF m 61 #[.val (.int pm), .val (.long qa), .second, .val (.long qb), .second, .val (.int pd), .val (.long j11), .second, .val (.long j31), .second, .unset, .unset, .unset, .unset] []))
          refine Go.st (fun _ k => XS.iconst X0.here hx rfl (hb hby at_61) k) ?_
          show Go p.tables e below _ (s₁.setTop (mkF m 62 #[.val (.int pm), .val (.long qa), .second, .val (.long qb), .second, .val (.int pd), .val (.long j11), .second, .val (.long j31), .second, .unset, .unset, .unset, .unset] [(.int (0 : Int32))]))
          refine Go.st (fun _ k => XS.istore X0.here hx rfl (hb hby at_62) rfl (l' := #[.val (.int pm), .val (.long qa), .second, .val (.long qb), .second, .val (.int pd), .val (.long j11), .second, .val (.long j31), .second, .val (.int (0 : Int32)), .unset, .unset, .unset]) rfl k) ?_
          show Go p.tables e below _ (s₁.setTop (mkF m 64 #[.val (.int pm), .val (.long qa), .second, .val (.long qb), .second, .val (.int pd), .val (.long j11), .second, .val (.long j31), .second, .val (.int (0 : Int32)), .unset, .unset, .unset] []))
          show Go p.tables e below _ (s₁.setTop (mkF m 64 #[.val (.int pm), .val (.long qa), .second, .val (.long qb), .second, .val (.int pd), .val (.long j11), .second, .val (.long j31), .second, .val (.int (0 : Int32)), .unset, .unset, .unset] []))
          refine Go.st (fun _ k => XS.lload X0.here hx rfl (hb hby at_64) rfl k) ?_
          show Go p.tables e below _ (s₁.setTop (mkF m 66 #[.val (.int pm), .val (.long qa), .second, .val (.long qb), .second, .val (.int pd), .val (.long j11), .second, .val (.long j31), .second, .val (.int (0 : Int32)), .unset, .unset, .unset] [(.long j31)]))
          refine Go.st (fun _ k => XS.lload X0.here hx rfl (hb hby at_66) rfl k) ?_
          show Go p.tables e below _ (s₁.setTop (mkF m 68 #[.val (.int pm), .val (.long qa), .second, .val (.long qb), .second, .val (.int pd), .val (.long j11), .second, .val (.long j31), .second, .val (.int (0 : Int32)), .unset, .unset, .unset] [(.long j11), (.long j31)]))
          refine Go.st (fun _ k => Jvm.Free.XT.lcmp X0.here hx rfl (hb hby at_68) rfl k) ?_
          show Go p.tables e below _ (s₁.setTop (mkF m 69 #[.val (.int pm), .val (.long qa), .second, .val (.long qb), .second, .val (.int pd), .val (.long j11), .second, .val (.long j31), .second, .val (.int (0 : Int32)), .unset, .unset, .unset] [(.int (Jvm.Free.XT.cmpL j31 j11))]))
          by_cases hc69 : j31 < j11
          · skip
            refine Go.st (fun _ k => XS.ifYes X0.here hx rfl (pc0 := 69) (pc' := 76) rfl (hb hby at_69) rfl (Jvm.Free.XT.ll_lt_t hc69) (by decide) (by decide) k) ?_
            show Go p.tables e below _ (s₁.setTop (mkF m 76 #[.val (.int pm), .val (.long qa), .second, .val (.long qb), .second, .val (.int pd), .val (.long j11), .second, .val (.long j31), .second, .val (.int (0 : Int32)), .unset, .unset, .unset] []))
            refine Go.st (fun _ k => XS.iconst X0.here hx rfl (hb hby at_76) k) ?_
            show Go p.tables e below _ (s₁.setTop (mkF m 77 #[.val (.int pm), .val (.long qa), .second, .val (.long qb), .second, .val (.int pd), .val (.long j11), .second, .val (.long j31), .second, .val (.int (0 : Int32)), .unset, .unset, .unset] [(.int (0 : Int32))]))
            refine Go.st (fun _ k => XS.istore X0.here hx rfl (hb hby at_77) rfl (l' := #[.val (.int pm), .val (.long qa), .second, .val (.long qb), .second, .val (.int pd), .val (.long j11), .second, .val (.long j31), .second, .val (.int (0 : Int32)), .val (.int (0 : Int32)), .unset, .unset]) rfl k) ?_
            show Go p.tables e below _ (s₁.setTop (mkF m 79 #[.val (.int pm), .val (.long qa), .second, .val (.long qb), .second, .val (.int pd), .val (.long j11), .second, .val (.long j31), .second, .val (.int (0 : Int32)), .val (.int (0 : Int32)), .unset, .unset] []))
            show Go p.tables e below _ (s₁.setTop (mkF m 79 #[.val (.int pm), .val (.long qa), .second, .val (.long qb), .second, .val (.int pd), .val (.long j11), .second, .val (.long j31), .second, .val (.int (0 : Int32)), .val (.int (0 : Int32)), .unset, .unset] []))
            obtain ⟨T5, X5, e5, st5⟩ := getS2 X0 hx hZ hown (host := "") (Or.inl (hw _ (List.mem_of_getElem? (i := 0) rfl))) Via.refl e0 P0 (g := (mkF m 79 #[.val (.int pm), .val (.long qa), .second, .val (.long qb), .second, .val (.int pd), .val (.long j11), .second, .val (.long j31), .second, .val (.int (0 : Int32)), .val (.int (0 : Int32)), .unset, .unset] [])) rfl (hb hby at_79)
            refine Go.st st5 ?_
            show Go p.tables e below _ (T5.setTop (mkF m 82 #[.val (.int pm), .val (.long qa), .second, .val (.long qb), .second, .val (.int pd), .val (.long j11), .second, .val (.long j31), .second, .val (.int (0 : Int32)), .val (.int (0 : Int32)), .unset, .unset] [(.ref ab)]))
            refine Go.st (fun _ k => XS.lload X5.here hx rfl (hb hby at_82) rfl k) ?_
            show Go p.tables e below _ (T5.setTop (mkF m 84 #[.val (.int pm), .val (.long qa), .second, .val (.long qb), .second, .val (.int pd), .val (.long j11), .second, .val (.long j31), .second, .val (.int (0 : Int32)), .val (.int (0 : Int32)), .unset, .unset] [(.long j11), (.ref ab)]))
            refine Go.st (fun _ k => XS.lload X5.here hx rfl (hb hby at_84) rfl k) ?_
            show Go p.tables e below _ (T5.setTop (mkF m 86 #[.val (.int pm), .val (.long qa), .second, .val (.long qb), .second, .val (.int pd), .val (.long j11), .second, .val (.long j31), .second, .val (.int (0 : Int32)), .val (.int (0 : Int32)), .unset, .unset] [(.long j31), (.long j11), (.ref ab)]))
            obtain ⟨cq6, kq6, q6a, q6b, q6c⟩ := isOf hZ e5 P2
            obtain ⟨_, _, ⟨T6, L6, k6, n6⟩, -, X6, ⟨Lc6, hQ6, l6, y6, z6⟩, st6⟩ := X5.virtualBack hx (y := (⟨"io/floorbook/engine/Side", "accepts", "(JJ)Z"⟩ : MethodName)) (z := (⟨"io/floorbook/engine/Side", "accepts", "(JJ)Z"⟩ : MethodName)) hown (mvT hZ (hw _ (List.mem_of_getElem? (i := 3) rfl))) (mvT hZ (hw _ (List.mem_of_getElem? (i := 4) rfl))) (notFace_of_selects (args := #[]) (mvT hZ (hw _ (List.mem_of_getElem? (i := 6) rfl)))) (mvT hZ (hw _ (List.mem_of_getElem? (i := 6) rfl))) (mvT hZ (hw _ (List.mem_of_getElem? (i := 5) rfl))) (by decide) (backOf (W := 0) (rm_accB l Z a0 hw [] ab j11 j31 h0 n0 Z0 P0) hZ (hw _ (List.mem_of_getElem? (i := 7) rfl)) (hw _ (List.mem_of_getElem? (i := 1) rfl)) (by decide) (by decide)) q6a q6c (g := (mkF m 86 #[.val (.int pm), .val (.long qa), .second, .val (.long qb), .second, .val (.int pd), .val (.long j11), .second, .val (.long j31), .second, .val (.int (0 : Int32)), .val (.int (0 : Int32)), .unset, .unset] [(.long j31), (.long j11), (.ref ab)])) rfl (by rw [hml]; rfl) (Steps.refl _) (argsL := [(.long j11), (.long j31)]) (rest := []) (lenOf pd_0 rfl) rfl (by show 2 * 0 + _ ≤ _; exact Nat.le_of_eq rfl) (hb hby at_86) (fun _ _ => ⟨rfl, e5, (by decide : 0 + 0 ≤ _), (by decide : 0 + 0 ≤ _)⟩)
            dsimp only [Pt.U, Pt.locs, Pt.cells, Pt.slots] at X6 l6 y6 z6 st6 hQ6
            subst l6 y6 z6
            obtain ⟨rfl, N6q, e6⟩ := hQ6
            have N6 := Fr.app N0 N6q
            refine Go.st (fun _ k => st6.trans k) ?_
            show Go p.tables e below _ (T6.setTop (mkF m 89 #[.val (.int pm), .val (.long qa), .second, .val (.long qb), .second, .val (.int pd), .val (.long j11), .second, .val (.long j31), .second, .val (.int (0 : Int32)), .val (.int (0 : Int32)), .unset, .unset] [(.int (accB j11 j31))]))
            refine Go.st (fun _ k => XS.istore X6.here hx rfl (hb hby at_89) rfl (l' := #[.val (.int pm), .val (.long qa), .second, .val (.long qb), .second, .val (.int pd), .val (.long j11), .second, .val (.long j31), .second, .val (.int (0 : Int32)), .val (.int (0 : Int32)), .val (.int (accB j11 j31)), .unset]) rfl k) ?_
            show Go p.tables e below _ (T6.setTop (mkF m 91 #[.val (.int pm), .val (.long qa), .second, .val (.long qb), .second, .val (.int pd), .val (.long j11), .second, .val (.long j31), .second, .val (.int (0 : Int32)), .val (.int (0 : Int32)), .val (.int (accB j11 j31)), .unset] []))
            generalize hqv89 : (accB j11 j31) = v89
            show Go p.tables e below _ (T6.setTop (mkF m 91 #[.val (.int pm), .val (.long qa), .second, .val (.long qb), .second, .val (.int pd), .val (.long j11), .second, .val (.long j31), .second, .val (.int (0 : Int32)), .val (.int (0 : Int32)), .val (.int v89), .unset] []))
            obtain ⟨T7, X7, e7, st7⟩ := getS2 X6 hx hZ hown (host := "") (Or.inl (hw _ (List.mem_of_getElem? (i := 8) rfl))) Via.refl e6 P1 (g := (mkF m 91 #[.val (.int pm), .val (.long qa), .second, .val (.long qb), .second, .val (.int pd), .val (.long j11), .second, .val (.long j31), .second, .val (.int (0 : Int32)), .val (.int (0 : Int32)), .val (.int v89), .unset] [])) rfl (hb hby at_91)
            refine Go.st st7 ?_
            show Go p.tables e below _ (T7.setTop (mkF m 94 #[.val (.int pm), .val (.long qa), .second, .val (.long qb), .second, .val (.int pd), .val (.long j11), .second, .val (.long j31), .second, .val (.int (0 : Int32)), .val (.int (0 : Int32)), .val (.int v89), .unset] [(.ref as_)]))
            refine Go.st (fun _ k => XS.lload X7.here hx rfl (hb hby at_94) rfl k) ?_
            show Go p.tables e below _ (T7.setTop (mkF m 96 #[.val (.int pm), .val (.long qa), .second, .val (.long qb), .second, .val (.int pd), .val (.long j11), .second, .val (.long j31), .second, .val (.int (0 : Int32)), .val (.int (0 : Int32)), .val (.int v89), .unset] [(.long j11), (.ref as_)]))
            refine Go.st (fun _ k => XS.lload X7.here hx rfl (hb hby at_96) rfl k) ?_
            show Go p.tables e below _ (T7.setTop (mkF m 98 #[.val (.int pm), .val (.long qa), .second, .val (.long qb), .second, .val (.int pd), .val (.long j11), .second, .val (.long j31), .second, .val (.int (0 : Int32)), .val (.int (0 : Int32)), .val (.int v89), .unset] [(.long j31), (.long j11), (.ref as_)]))
            obtain ⟨cq8, kq8, q8a, q8b, q8c⟩ := isOf hZ e7 P3
            obtain ⟨_, _, ⟨T8, L8, k8, n8⟩, -, X8, ⟨Lc8, hQ8, l8, y8, z8⟩, st8⟩ := X7.virtualBack hx (y := (⟨"io/floorbook/engine/Side", "accepts", "(JJ)Z"⟩ : MethodName)) (z := (⟨"io/floorbook/engine/Side", "accepts", "(JJ)Z"⟩ : MethodName)) hown (mvT hZ (hw _ (List.mem_of_getElem? (i := 3) rfl))) (mvT hZ (hw _ (List.mem_of_getElem? (i := 4) rfl))) (notFace_of_selects (args := #[]) (mvT hZ (hw _ (List.mem_of_getElem? (i := 6) rfl)))) (mvT hZ (hw _ (List.mem_of_getElem? (i := 6) rfl))) (mvT hZ (hw _ (List.mem_of_getElem? (i := 5) rfl))) (by decide) (backOf (W := 0) (rm_accS l Z a0 hw [] as_ j11 j31 ab h0 n0 Z0 P0 hne) hZ (hw _ (List.mem_of_getElem? (i := 7) rfl)) (hw _ (List.mem_of_getElem? (i := 1) rfl)) (by decide) (by decide)) q8a q8c (g := (mkF m 98 #[.val (.int pm), .val (.long qa), .second, .val (.long qb), .second, .val (.int pd), .val (.long j11), .second, .val (.long j31), .second, .val (.int (0 : Int32)), .val (.int (0 : Int32)), .val (.int v89), .unset] [(.long j31), (.long j11), (.ref as_)])) rfl (by rw [hml]; rfl) (Steps.refl _) (argsL := [(.long j11), (.long j31)]) (rest := []) (lenOf pd_0 rfl) rfl (by show 2 * 0 + _ ≤ _; exact Nat.le_of_eq rfl) (hb hby at_98) (fun _ _ => ⟨rfl, e7, (by decide : 0 + 0 ≤ _), (by decide : 0 + 0 ≤ _)⟩)
            dsimp only [Pt.U, Pt.locs, Pt.cells, Pt.slots] at X8 l8 y8 z8 st8 hQ8
            subst l8 y8 z8
            obtain ⟨rfl, N8q, e8⟩ := hQ8
            have N8 := Fr.app N6 N8q
            refine Go.st (fun _ k => st8.trans k) ?_
            show Go p.tables e below _ (T8.setTop (mkF m 101 #[.val (.int pm), .val (.long qa), .second, .val (.long qb), .second, .val (.int pd), .val (.long j11), .second, .val (.long j31), .second, .val (.int (0 : Int32)), .val (.int (0 : Int32)), .val (.int v89), .unset] [(.int (accS j11 j31))]))
            refine Go.st (fun _ k => XS.istore X8.here hx rfl (hb hby at_101) rfl (l' := #[.val (.int pm), .val (.long qa), .second, .val (.long qb), .second, .val (.int pd), .val (.long j11), .second, .val (.long j31), .second, .val (.int (0 : Int32)), .val (.int (0 : Int32)), .val (.int v89), .val (.int (accS j11 j31))]) rfl k) ?_
            show Go p.tables e below _ (T8.setTop (mkF m 103 #[.val (.int pm), .val (.long qa), .second, .val (.long qb), .second, .val (.int pd), .val (.long j11), .second, .val (.long j31), .second, .val (.int (0 : Int32)), .val (.int (0 : Int32)), .val (.int v89), .val (.int (accS j11 j31))] []))
            generalize hqv101 : (accS j11 j31) = v101
            show Go p.tables e below _ (T8.setTop (mkF m 103 #[.val (.int pm), .val (.long qa), .second, .val (.long qb), .second, .val (.int pd), .val (.long j11), .second, .val (.long j31), .second, .val (.int (0 : Int32)), .val (.int (0 : Int32)), .val (.int v89), .val (.int v101)] []))
            refine Go.st (fun _ k => XS.iload X8.here hx rfl (hb hby at_103) rfl k) ?_
            show Go p.tables e below _ (T8.setTop (mkF m 105 #[.val (.int pm), .val (.long qa), .second, .val (.long qb), .second, .val (.int pd), .val (.long j11), .second, .val (.long j31), .second, .val (.int (0 : Int32)), .val (.int (0 : Int32)), .val (.int v89), .val (.int v101)] [(.int v89)]))
            refine Go.st (fun _ k => XS.iload X8.here hx rfl (hb hby at_105) rfl k) ?_
            show Go p.tables e below _ (T8.setTop (mkF m 107 #[.val (.int pm), .val (.long qa), .second, .val (.long qb), .second, .val (.int pd), .val (.long j11), .second, .val (.long j31), .second, .val (.int (0 : Int32)), .val (.int (0 : Int32)), .val (.int v89), .val (.int v101)] [(.int (0 : Int32)), (.int v89)]))
            have hc107 : v89 = (0 : Int32) := (by rw [← hqv89]; simp [accB, hc37, hc54, hc69])
            refine Go.st (fun _ k => XS.icmpNo X8.here hx rfl (hb hby at_107) rfl (Jvm.Free.XT.ii_ne_f hc107) k) ?_
            show Go p.tables e below _ (T8.setTop (mkF m 110 #[.val (.int pm), .val (.long qa), .second, .val (.long qb), .second, .val (.int pd), .val (.long j11), .second, .val (.long j31), .second, .val (.int (0 : Int32)), .val (.int (0 : Int32)), .val (.int v89), .val (.int v101)] []))
            refine Go.st (fun _ k => XS.iload X8.here hx rfl (hb hby at_110) rfl k) ?_
            show Go p.tables e below _ (T8.setTop (mkF m 112 #[.val (.int pm), .val (.long qa), .second, .val (.long qb), .second, .val (.int pd), .val (.long j11), .second, .val (.long j31), .second, .val (.int (0 : Int32)), .val (.int (0 : Int32)), .val (.int v89), .val (.int v101)] [(.int v101)]))
            refine Go.st (fun _ k => XS.iload X8.here hx rfl (hb hby at_112) rfl k) ?_
            show Go p.tables e below _ (T8.setTop (mkF m 114 #[.val (.int pm), .val (.long qa), .second, .val (.long qb), .second, .val (.int pd), .val (.long j11), .second, .val (.long j31), .second, .val (.int (0 : Int32)), .val (.int (0 : Int32)), .val (.int v89), .val (.int v101)] [(.int (0 : Int32)), (.int v101)]))
            have hc114 : v101 = (0 : Int32) := (by rw [← hqv101]; simp [accS, hc37, hc54, hc69])
            refine Go.st (fun _ k => XS.icmpNo X8.here hx rfl (hb hby at_114) rfl (Jvm.Free.XT.ii_ne_f hc114) k) ?_
            show Go p.tables e below _ (T8.setTop (mkF m 117 #[.val (.int pm), .val (.long qa), .second, .val (.long qb), .second, .val (.int pd), .val (.long j11), .second, .val (.long j31), .second, .val (.int (0 : Int32)), .val (.int (0 : Int32)), .val (.int v89), .val (.int v101)] []))
            refine Go.st (fun _ k => XS.iconst X8.here hx rfl (hb hby at_117) k) ?_
            show Go p.tables e below _ (T8.setTop (mkF m 118 #[.val (.int pm), .val (.long qa), .second, .val (.long qb), .second, .val (.int pd), .val (.long j11), .second, .val (.long j31), .second, .val (.int (0 : Int32)), .val (.int (0 : Int32)), .val (.int v89), .val (.int v101)] [(.int (1 : Int32))]))
            refine Go.st (fun _ k => XS.goto X8.here hx rfl (pc0 := 118) (pc' := 122) rfl (hb hby at_118) (by decide) (by decide) k) ?_
            show Go p.tables e below _ (T8.setTop (mkF m 122 #[.val (.int pm), .val (.long qa), .second, .val (.long qb), .second, .val (.int pd), .val (.long j11), .second, .val (.long j31), .second, .val (.int (0 : Int32)), .val (.int (0 : Int32)), .val (.int v89), .val (.int v101)] [(.int (1 : Int32))]))
            subst hG
            obtain ⟨fs, hr, hrun, hended, hW, hsame⟩ := X8.leave (v := some (.int (nar .boolean (1 : Int32)))) (fun h => by rw [Bd.returns] at h; cases h)
            refine ⟨_, _, ?_, hrun, hended, _, _, rfl, ?_, ⟨_, rfl⟩, hW, hsame.mono (by decide) (by decide)⟩
            · exact retN X8 hx (t := .boolean) Bd.returns (by simp) (hb hby at_122) hr
            · show Q_law Z pm qa qb pd ab as_ h0 n0 _ T8.heap _
              rw [e8]
              exact ⟨rfl, N8, rfl⟩
          · skip
            refine Go.st (fun _ k => XS.ifNo X0.here hx rfl (hb hby at_69) rfl (Jvm.Free.XT.ll_lt_f hc69) k) ?_
            show Go p.tables e below _ (s₁.setTop (mkF m 72 #[.val (.int pm), .val (.long qa), .second, .val (.long qb), .second, .val (.int pd), .val (.long j11), .second, .val (.long j31), .second, .val (.int (0 : Int32)), .unset, .unset, .unset] []))
            refine Go.st (fun _ k => XS.iconst X0.here hx rfl (hb hby at_72) k) ?_
            show Go p.tables e below _ (s₁.setTop (mkF m 73 #[.val (.int pm), .val (.long qa), .second, .val (.long qb), .second, .val (.int pd), .val (.long j11), .second, .val (.long j31), .second, .val (.int (0 : Int32)), .unset, .unset, .unset] [(.int (1 : Int32))]))
            refine Go.st (fun _ k => XS.goto X0.here hx rfl (pc0 := 73) (pc' := 77) rfl (hb hby at_73) (by decide) (by decide) k) ?_
            show Go p.tables e below _ (s₁.setTop (mkF m 77 #[.val (.int pm), .val (.long qa), .second, .val (.long qb), .second, .val (.int pd), .val (.long j11), .second, .val (.long j31), .second, .val (.int (0 : Int32)), .unset, .unset, .unset] [(.int (1 : Int32))]))
            refine Go.st (fun _ k => XS.istore X0.here hx rfl (hb hby at_77) rfl (l' := #[.val (.int pm), .val (.long qa), .second, .val (.long qb), .second, .val (.int pd), .val (.long j11), .second, .val (.long j31), .second, .val (.int (0 : Int32)), .val (.int (1 : Int32)), .unset, .unset]) rfl k) ?_
            show Go p.tables e below _ (s₁.setTop (mkF m 79 #[.val (.int pm), .val (.long qa), .second, .val (.long qb), .second, .val (.int pd), .val (.long j11), .second, .val (.long j31), .second, .val (.int (0 : Int32)), .val (.int (1 : Int32)), .unset, .unset] []))
            show Go p.tables e below _ (s₁.setTop (mkF m 79 #[.val (.int pm), .val (.long qa), .second, .val (.long qb), .second, .val (.int pd), .val (.long j11), .second, .val (.long j31), .second, .val (.int (0 : Int32)), .val (.int (1 : Int32)), .unset, .unset] []))
            obtain ⟨T9, X9, e9, st9⟩ := getS2 X0 hx hZ hown (host := "") (Or.inl (hw _ (List.mem_of_getElem? (i := 0) rfl))) Via.refl e0 P0 (g := (mkF m 79 #[.val (.int pm), .val (.long qa), .second, .val (.long qb), .second, .val (.int pd), .val (.long j11), .second, .val (.long j31), .second, .val (.int (0 : Int32)), .val (.int (1 : Int32)), .unset, .unset] [])) rfl (hb hby at_79)
            refine Go.st st9 ?_
            show Go p.tables e below _ (T9.setTop (mkF m 82 #[.val (.int pm), .val (.long qa), .second, .val (.long qb), .second, .val (.int pd), .val (.long j11), .second, .val (.long j31), .second, .val (.int (0 : Int32)), .val (.int (1 : Int32)), .unset, .unset] [(.ref ab)]))
            refine Go.st (fun _ k => XS.lload X9.here hx rfl (hb hby at_82) rfl k) ?_
            show Go p.tables e below _ (T9.setTop (mkF m 84 #[.val (.int pm), .val (.long qa), .second, .val (.long qb), .second, .val (.int pd), .val (.long j11), .second, .val (.long j31), .second, .val (.int (0 : Int32)), .val (.int (1 : Int32)), .unset, .unset] [(.long j11), (.ref ab)]))
            refine Go.st (fun _ k => XS.lload X9.here hx rfl (hb hby at_84) rfl k) ?_
            show Go p.tables e below _ (T9.setTop (mkF m 86 #[.val (.int pm), .val (.long qa), .second, .val (.long qb), .second, .val (.int pd), .val (.long j11), .second, .val (.long j31), .second, .val (.int (0 : Int32)), .val (.int (1 : Int32)), .unset, .unset] [(.long j31), (.long j11), (.ref ab)]))
            obtain ⟨cq10, kq10, q10a, q10b, q10c⟩ := isOf hZ e9 P2
            obtain ⟨_, _, ⟨T10, L10, k10, n10⟩, -, X10, ⟨Lc10, hQ10, l10, y10, z10⟩, st10⟩ := X9.virtualBack hx (y := (⟨"io/floorbook/engine/Side", "accepts", "(JJ)Z"⟩ : MethodName)) (z := (⟨"io/floorbook/engine/Side", "accepts", "(JJ)Z"⟩ : MethodName)) hown (mvT hZ (hw _ (List.mem_of_getElem? (i := 3) rfl))) (mvT hZ (hw _ (List.mem_of_getElem? (i := 4) rfl))) (notFace_of_selects (args := #[]) (mvT hZ (hw _ (List.mem_of_getElem? (i := 6) rfl)))) (mvT hZ (hw _ (List.mem_of_getElem? (i := 6) rfl))) (mvT hZ (hw _ (List.mem_of_getElem? (i := 5) rfl))) (by decide) (backOf (W := 0) (rm_accB l Z a0 hw [] ab j11 j31 h0 n0 Z0 P0) hZ (hw _ (List.mem_of_getElem? (i := 7) rfl)) (hw _ (List.mem_of_getElem? (i := 1) rfl)) (by decide) (by decide)) q10a q10c (g := (mkF m 86 #[.val (.int pm), .val (.long qa), .second, .val (.long qb), .second, .val (.int pd), .val (.long j11), .second, .val (.long j31), .second, .val (.int (0 : Int32)), .val (.int (1 : Int32)), .unset, .unset] [(.long j31), (.long j11), (.ref ab)])) rfl (by rw [hml]; rfl) (Steps.refl _) (argsL := [(.long j11), (.long j31)]) (rest := []) (lenOf pd_0 rfl) rfl (by show 2 * 0 + _ ≤ _; exact Nat.le_of_eq rfl) (hb hby at_86) (fun _ _ => ⟨rfl, e9, (by decide : 0 + 0 ≤ _), (by decide : 0 + 0 ≤ _)⟩)
            dsimp only [Pt.U, Pt.locs, Pt.cells, Pt.slots] at X10 l10 y10 z10 st10 hQ10
            subst l10 y10 z10
            obtain ⟨rfl, N10q, e10⟩ := hQ10
            have N10 := Fr.app N0 N10q
            refine Go.st (fun _ k => st10.trans k) ?_
            show Go p.tables e below _ (T10.setTop (mkF m 89 #[.val (.int pm), .val (.long qa), .second, .val (.long qb), .second, .val (.int pd), .val (.long j11), .second, .val (.long j31), .second, .val (.int (0 : Int32)), .val (.int (1 : Int32)), .unset, .unset] [(.int (accB j11 j31))]))
            refine Go.st (fun _ k => XS.istore X10.here hx rfl (hb hby at_89) rfl (l' := #[.val (.int pm), .val (.long qa), .second, .val (.long qb), .second, .val (.int pd), .val (.long j11), .second, .val (.long j31), .second, .val (.int (0 : Int32)), .val (.int (1 : Int32)), .val (.int (accB j11 j31)), .unset]) rfl k) ?_
            show Go p.tables e below _ (T10.setTop (mkF m 91 #[.val (.int pm), .val (.long qa), .second, .val (.long qb), .second, .val (.int pd), .val (.long j11), .second, .val (.long j31), .second, .val (.int (0 : Int32)), .val (.int (1 : Int32)), .val (.int (accB j11 j31)), .unset] []))
            generalize hqv89 : (accB j11 j31) = v89
            show Go p.tables e below _ (T10.setTop (mkF m 91 #[.val (.int pm), .val (.long qa), .second, .val (.long qb), .second, .val (.int pd), .val (.long j11), .second, .val (.long j31), .second, .val (.int (0 : Int32)), .val (.int (1 : Int32)), .val (.int v89), .unset] []))
            obtain ⟨T11, X11, e11, st11⟩ := getS2 X10 hx hZ hown (host := "") (Or.inl (hw _ (List.mem_of_getElem? (i := 8) rfl))) Via.refl e10 P1 (g := (mkF m 91 #[.val (.int pm), .val (.long qa), .second, .val (.long qb), .second, .val (.int pd), .val (.long j11), .second, .val (.long j31), .second, .val (.int (0 : Int32)), .val (.int (1 : Int32)), .val (.int v89), .unset] [])) rfl (hb hby at_91)
            refine Go.st st11 ?_
            show Go p.tables e below _ (T11.setTop (mkF m 94 #[.val (.int pm), .val (.long qa), .second, .val (.long qb), .second, .val (.int pd), .val (.long j11), .second, .val (.long j31), .second, .val (.int (0 : Int32)), .val (.int (1 : Int32)), .val (.int v89), .unset] [(.ref as_)]))
            refine Go.st (fun _ k => XS.lload X11.here hx rfl (hb hby at_94) rfl k) ?_
            show Go p.tables e below _ (T11.setTop (mkF m 96 #[.val (.int pm), .val (.long qa), .second, .val (.long qb), .second, .val (.int pd), .val (.long j11), .second, .val (.long j31), .second, .val (.int (0 : Int32)), .val (.int (1 : Int32)), .val (.int v89), .unset] [(.long j11), (.ref as_)]))
            refine Go.st (fun _ k => XS.lload X11.here hx rfl (hb hby at_96) rfl k) ?_
            show Go p.tables e below _ (T11.setTop (mkF m 98 #[.val (.int pm), .val (.long qa), .second, .val (.long qb), .second, .val (.int pd), .val (.long j11), .second, .val (.long j31), .second, .val (.int (0 : Int32)), .val (.int (1 : Int32)), .val (.int v89), .unset] [(.long j31), (.long j11), (.ref as_)]))
            obtain ⟨cq12, kq12, q12a, q12b, q12c⟩ := isOf hZ e11 P3
            obtain ⟨_, _, ⟨T12, L12, k12, n12⟩, -, X12, ⟨Lc12, hQ12, l12, y12, z12⟩, st12⟩ := X11.virtualBack hx (y := (⟨"io/floorbook/engine/Side", "accepts", "(JJ)Z"⟩ : MethodName)) (z := (⟨"io/floorbook/engine/Side", "accepts", "(JJ)Z"⟩ : MethodName)) hown (mvT hZ (hw _ (List.mem_of_getElem? (i := 3) rfl))) (mvT hZ (hw _ (List.mem_of_getElem? (i := 4) rfl))) (notFace_of_selects (args := #[]) (mvT hZ (hw _ (List.mem_of_getElem? (i := 6) rfl)))) (mvT hZ (hw _ (List.mem_of_getElem? (i := 6) rfl))) (mvT hZ (hw _ (List.mem_of_getElem? (i := 5) rfl))) (by decide) (backOf (W := 0) (rm_accS l Z a0 hw [] as_ j11 j31 ab h0 n0 Z0 P0 hne) hZ (hw _ (List.mem_of_getElem? (i := 7) rfl)) (hw _ (List.mem_of_getElem? (i := 1) rfl)) (by decide) (by decide)) q12a q12c (g := (mkF m 98 #[.val (.int pm), .val (.long qa), .second, .val (.long qb), .second, .val (.int pd), .val (.long j11), .second, .val (.long j31), .second, .val (.int (0 : Int32)), .val (.int (1 : Int32)), .val (.int v89), .unset] [(.long j31), (.long j11), (.ref as_)])) rfl (by rw [hml]; rfl) (Steps.refl _) (argsL := [(.long j11), (.long j31)]) (rest := []) (lenOf pd_0 rfl) rfl (by show 2 * 0 + _ ≤ _; exact Nat.le_of_eq rfl) (hb hby at_98) (fun _ _ => ⟨rfl, e11, (by decide : 0 + 0 ≤ _), (by decide : 0 + 0 ≤ _)⟩)
            dsimp only [Pt.U, Pt.locs, Pt.cells, Pt.slots] at X12 l12 y12 z12 st12 hQ12
            subst l12 y12 z12
            obtain ⟨rfl, N12q, e12⟩ := hQ12
            have N12 := Fr.app N10 N12q
            refine Go.st (fun _ k => st12.trans k) ?_
            show Go p.tables e below _ (T12.setTop (mkF m 101 #[.val (.int pm), .val (.long qa), .second, .val (.long qb), .second, .val (.int pd), .val (.long j11), .second, .val (.long j31), .second, .val (.int (0 : Int32)), .val (.int (1 : Int32)), .val (.int v89), .unset] [(.int (accS j11 j31))]))
            refine Go.st (fun _ k => XS.istore X12.here hx rfl (hb hby at_101) rfl (l' := #[.val (.int pm), .val (.long qa), .second, .val (.long qb), .second, .val (.int pd), .val (.long j11), .second, .val (.long j31), .second, .val (.int (0 : Int32)), .val (.int (1 : Int32)), .val (.int v89), .val (.int (accS j11 j31))]) rfl k) ?_
            show Go p.tables e below _ (T12.setTop (mkF m 103 #[.val (.int pm), .val (.long qa), .second, .val (.long qb), .second, .val (.int pd), .val (.long j11), .second, .val (.long j31), .second, .val (.int (0 : Int32)), .val (.int (1 : Int32)), .val (.int v89), .val (.int (accS j11 j31))] []))
            generalize hqv101 : (accS j11 j31) = v101
            show Go p.tables e below _ (T12.setTop (mkF m 103 #[.val (.int pm), .val (.long qa), .second, .val (.long qb), .second, .val (.int pd), .val (.long j11), .second, .val (.long j31), .second, .val (.int (0 : Int32)), .val (.int (1 : Int32)), .val (.int v89), .val (.int v101)] []))
            refine Go.st (fun _ k => XS.iload X12.here hx rfl (hb hby at_103) rfl k) ?_
            show Go p.tables e below _ (T12.setTop (mkF m 105 #[.val (.int pm), .val (.long qa), .second, .val (.long qb), .second, .val (.int pd), .val (.long j11), .second, .val (.long j31), .second, .val (.int (0 : Int32)), .val (.int (1 : Int32)), .val (.int v89), .val (.int v101)] [(.int v89)]))
            refine Go.st (fun _ k => XS.iload X12.here hx rfl (hb hby at_105) rfl k) ?_
            show Go p.tables e below _ (T12.setTop (mkF m 107 #[.val (.int pm), .val (.long qa), .second, .val (.long qb), .second, .val (.int pd), .val (.long j11), .second, .val (.long j31), .second, .val (.int (0 : Int32)), .val (.int (1 : Int32)), .val (.int v89), .val (.int v101)] [(.int (0 : Int32)), (.int v89)]))
            have hc107 : v89 = (0 : Int32) := (by rw [← hqv89]; simp [accB, hc37, hc54, hc69])
            refine Go.st (fun _ k => XS.icmpNo X12.here hx rfl (hb hby at_107) rfl (Jvm.Free.XT.ii_ne_f hc107) k) ?_
            show Go p.tables e below _ (T12.setTop (mkF m 110 #[.val (.int pm), .val (.long qa), .second, .val (.long qb), .second, .val (.int pd), .val (.long j11), .second, .val (.long j31), .second, .val (.int (0 : Int32)), .val (.int (1 : Int32)), .val (.int v89), .val (.int v101)] []))
            refine Go.st (fun _ k => XS.iload X12.here hx rfl (hb hby at_110) rfl k) ?_
            show Go p.tables e below _ (T12.setTop (mkF m 112 #[.val (.int pm), .val (.long qa), .second, .val (.long qb), .second, .val (.int pd), .val (.long j11), .second, .val (.long j31), .second, .val (.int (0 : Int32)), .val (.int (1 : Int32)), .val (.int v89), .val (.int v101)] [(.int v101)]))
            refine Go.st (fun _ k => XS.iload X12.here hx rfl (hb hby at_112) rfl k) ?_
            show Go p.tables e below _ (T12.setTop (mkF m 114 #[.val (.int pm), .val (.long qa), .second, .val (.long qb), .second, .val (.int pd), .val (.long j11), .second, .val (.long j31), .second, .val (.int (0 : Int32)), .val (.int (1 : Int32)), .val (.int v89), .val (.int v101)] [(.int (1 : Int32)), (.int v101)]))
            have hc114 : v101 = (1 : Int32) := (by rw [← hqv101]; simp [accS, hc37, hc54, hc69])
            refine Go.st (fun _ k => XS.icmpNo X12.here hx rfl (hb hby at_114) rfl (Jvm.Free.XT.ii_ne_f hc114) k) ?_
            show Go p.tables e below _ (T12.setTop (mkF m 117 #[.val (.int pm), .val (.long qa), .second, .val (.long qb), .second, .val (.int pd), .val (.long j11), .second, .val (.long j31), .second, .val (.int (0 : Int32)), .val (.int (1 : Int32)), .val (.int v89), .val (.int v101)] []))
            refine Go.st (fun _ k => XS.iconst X12.here hx rfl (hb hby at_117) k) ?_
            show Go p.tables e below _ (T12.setTop (mkF m 118 #[.val (.int pm), .val (.long qa), .second, .val (.long qb), .second, .val (.int pd), .val (.long j11), .second, .val (.long j31), .second, .val (.int (0 : Int32)), .val (.int (1 : Int32)), .val (.int v89), .val (.int v101)] [(.int (1 : Int32))]))
            refine Go.st (fun _ k => XS.goto X12.here hx rfl (pc0 := 118) (pc' := 122) rfl (hb hby at_118) (by decide) (by decide) k) ?_
            show Go p.tables e below _ (T12.setTop (mkF m 122 #[.val (.int pm), .val (.long qa), .second, .val (.long qb), .second, .val (.int pd), .val (.long j11), .second, .val (.long j31), .second, .val (.int (0 : Int32)), .val (.int (1 : Int32)), .val (.int v89), .val (.int v101)] [(.int (1 : Int32))]))
            subst hG
            obtain ⟨fs, hr, hrun, hended, hW, hsame⟩ := X12.leave (v := some (.int (nar .boolean (1 : Int32)))) (fun h => by rw [Bd.returns] at h; cases h)
            refine ⟨_, _, ?_, hrun, hended, _, _, rfl, ?_, ⟨_, rfl⟩, hW, hsame.mono (by decide) (by decide)⟩
            · exact retN X12 hx (t := .boolean) Bd.returns (by simp) (hb hby at_122) hr
            · show Q_law Z pm qa qb pd ab as_ h0 n0 _ T12.heap _
              rw [e12]
              exact ⟨rfl, N12, rfl⟩
        · skip
          refine Go.st (fun _ k => XS.ifNo X0.here hx rfl (hb hby at_54) rfl (Jvm.Free.XT.ll_gt_f hc54) k) ?_
          show Go p.tables e below _ (s₁.setTop (mkF m 57 #[.val (.int pm), .val (.long qa), .second, .val (.long qb), .second, .val (.int pd), .val (.long j11), .second, .val (.long j31), .second, .unset, .unset, .unset, .unset] []))
          refine Go.st (fun _ k => XS.iconst X0.here hx rfl (hb hby at_57) k) ?_
          show Go p.tables e below _ (s₁.setTop (mkF m 58 #[.val (.int pm), .val (.long qa), .second, .val (.long qb), .second, .val (.int pd), .val (.long j11), .second, .val (.long j31), .second, .unset, .unset, .unset, .unset] [(.int (1 : Int32))]))
          refine Go.st (fun _ k => XS.goto X0.here hx rfl (pc0 := 58) (pc' := 62) rfl (hb hby at_58) (by decide) (by decide) k) ?_
          show Go p.tables e below _ (s₁.setTop (mkF m 62 #[.val (.int pm), .val (.long qa), .second, .val (.long qb), .second, .val (.int pd), .val (.long j11), .second, .val (.long j31), .second, .unset, .unset, .unset, .unset] [(.int (1 : Int32))]))
          refine Go.st (fun _ k => XS.istore X0.here hx rfl (hb hby at_62) rfl (l' := #[.val (.int pm), .val (.long qa), .second, .val (.long qb), .second, .val (.int pd), .val (.long j11), .second, .val (.long j31), .second, .val (.int (1 : Int32)), .unset, .unset, .unset]) rfl k) ?_
          show Go p.tables e below _ (s₁.setTop (mkF m 64 #[.val (.int pm), .val (.long qa), .second, .val (.long qb), .second, .val (.int pd), .val (.long j11), .second, .val (.long j31), .second, .val (.int (1 : Int32)), .unset, .unset, .unset] []))
          show Go p.tables e below _ (s₁.setTop (mkF m 64 #[.val (.int pm), .val (.long qa), .second, .val (.long qb), .second, .val (.int pd), .val (.long j11), .second, .val (.long j31), .second, .val (.int (1 : Int32)), .unset, .unset, .unset] []))
          refine Go.st (fun _ k => XS.lload X0.here hx rfl (hb hby at_64) rfl k) ?_
          show Go p.tables e below _ (s₁.setTop (mkF m 66 #[.val (.int pm), .val (.long qa), .second, .val (.long qb), .second, .val (.int pd), .val (.long j11), .second, .val (.long j31), .second, .val (.int (1 : Int32)), .unset, .unset, .unset] [(.long j31)]))
          refine Go.st (fun _ k => XS.lload X0.here hx rfl (hb hby at_66) rfl k) ?_
          show Go p.tables e below _ (s₁.setTop (mkF m 68 #[.val (.int pm), .val (.long qa), .second, .val (.long qb), .second, .val (.int pd), .val (.long j11), .second, .val (.long j31), .second, .val (.int (1 : Int32)), .unset, .unset, .unset] [(.long j11), (.long j31)]))
          refine Go.st (fun _ k => Jvm.Free.XT.lcmp X0.here hx rfl (hb hby at_68) rfl k) ?_
          show Go p.tables e below _ (s₁.setTop (mkF m 69 #[.val (.int pm), .val (.long qa), .second, .val (.long qb), .second, .val (.int pd), .val (.long j11), .second, .val (.long j31), .second, .val (.int (1 : Int32)), .unset, .unset, .unset] [(.int (Jvm.Free.XT.cmpL j31 j11))]))
          by_cases hc69 : j31 < j11
          · skip
            refine Go.st (fun _ k => XS.ifYes X0.here hx rfl (pc0 := 69) (pc' := 76) rfl (hb hby at_69) rfl (Jvm.Free.XT.ll_lt_t hc69) (by decide) (by decide) k) ?_
            show Go p.tables e below _ (s₁.setTop (mkF m 76 #[.val (.int pm), .val (.long qa), .second, .val (.long qb), .second, .val (.int pd), .val (.long j11), .second, .val (.long j31), .second, .val (.int (1 : Int32)), .unset, .unset, .unset] []))
            refine Go.st (fun _ k => XS.iconst X0.here hx rfl (hb hby at_76) k) ?_
            show Go p.tables e below _ (s₁.setTop (mkF m 77 #[.val (.int pm), .val (.long qa), .second, .val (.long qb), .second, .val (.int pd), .val (.long j11), .second, .val (.long j31), .second, .val (.int (1 : Int32)), .unset, .unset, .unset] [(.int (0 : Int32))]))
            refine Go.st (fun _ k => XS.istore X0.here hx rfl (hb hby at_77) rfl (l' := #[.val (.int pm), .val (.long qa), .second, .val (.long qb), .second, .val (.int pd), .val (.long j11), .second, .val (.long j31), .second, .val (.int (1 : Int32)), .val (.int (0 : Int32)), .unset, .unset]) rfl k) ?_
            show Go p.tables e below _ (s₁.setTop (mkF m 79 #[.val (.int pm), .val (.long qa), .second, .val (.long qb), .second, .val (.int pd), .val (.long j11), .second, .val (.long j31), .second, .val (.int (1 : Int32)), .val (.int (0 : Int32)), .unset, .unset] []))
            show Go p.tables e below _ (s₁.setTop (mkF m 79 #[.val (.int pm), .val (.long qa), .second, .val (.long qb), .second, .val (.int pd), .val (.long j11), .second, .val (.long j31), .second, .val (.int (1 : Int32)), .val (.int (0 : Int32)), .unset, .unset] []))
            obtain ⟨T13, X13, e13, st13⟩ := getS2 X0 hx hZ hown (host := "") (Or.inl (hw _ (List.mem_of_getElem? (i := 0) rfl))) Via.refl e0 P0 (g := (mkF m 79 #[.val (.int pm), .val (.long qa), .second, .val (.long qb), .second, .val (.int pd), .val (.long j11), .second, .val (.long j31), .second, .val (.int (1 : Int32)), .val (.int (0 : Int32)), .unset, .unset] [])) rfl (hb hby at_79)
            refine Go.st st13 ?_
            show Go p.tables e below _ (T13.setTop (mkF m 82 #[.val (.int pm), .val (.long qa), .second, .val (.long qb), .second, .val (.int pd), .val (.long j11), .second, .val (.long j31), .second, .val (.int (1 : Int32)), .val (.int (0 : Int32)), .unset, .unset] [(.ref ab)]))
            refine Go.st (fun _ k => XS.lload X13.here hx rfl (hb hby at_82) rfl k) ?_
            show Go p.tables e below _ (T13.setTop (mkF m 84 #[.val (.int pm), .val (.long qa), .second, .val (.long qb), .second, .val (.int pd), .val (.long j11), .second, .val (.long j31), .second, .val (.int (1 : Int32)), .val (.int (0 : Int32)), .unset, .unset] [(.long j11), (.ref ab)]))
            refine Go.st (fun _ k => XS.lload X13.here hx rfl (hb hby at_84) rfl k) ?_
            show Go p.tables e below _ (T13.setTop (mkF m 86 #[.val (.int pm), .val (.long qa), .second, .val (.long qb), .second, .val (.int pd), .val (.long j11), .second, .val (.long j31), .second, .val (.int (1 : Int32)), .val (.int (0 : Int32)), .unset, .unset] [(.long j31), (.long j11), (.ref ab)]))
            obtain ⟨cq14, kq14, q14a, q14b, q14c⟩ := isOf hZ e13 P2
            obtain ⟨_, _, ⟨T14, L14, k14, n14⟩, -, X14, ⟨Lc14, hQ14, l14, y14, z14⟩, st14⟩ := X13.virtualBack hx (y := (⟨"io/floorbook/engine/Side", "accepts", "(JJ)Z"⟩ : MethodName)) (z := (⟨"io/floorbook/engine/Side", "accepts", "(JJ)Z"⟩ : MethodName)) hown (mvT hZ (hw _ (List.mem_of_getElem? (i := 3) rfl))) (mvT hZ (hw _ (List.mem_of_getElem? (i := 4) rfl))) (notFace_of_selects (args := #[]) (mvT hZ (hw _ (List.mem_of_getElem? (i := 6) rfl)))) (mvT hZ (hw _ (List.mem_of_getElem? (i := 6) rfl))) (mvT hZ (hw _ (List.mem_of_getElem? (i := 5) rfl))) (by decide) (backOf (W := 0) (rm_accB l Z a0 hw [] ab j11 j31 h0 n0 Z0 P0) hZ (hw _ (List.mem_of_getElem? (i := 7) rfl)) (hw _ (List.mem_of_getElem? (i := 1) rfl)) (by decide) (by decide)) q14a q14c (g := (mkF m 86 #[.val (.int pm), .val (.long qa), .second, .val (.long qb), .second, .val (.int pd), .val (.long j11), .second, .val (.long j31), .second, .val (.int (1 : Int32)), .val (.int (0 : Int32)), .unset, .unset] [(.long j31), (.long j11), (.ref ab)])) rfl (by rw [hml]; rfl) (Steps.refl _) (argsL := [(.long j11), (.long j31)]) (rest := []) (lenOf pd_0 rfl) rfl (by show 2 * 0 + _ ≤ _; exact Nat.le_of_eq rfl) (hb hby at_86) (fun _ _ => ⟨rfl, e13, (by decide : 0 + 0 ≤ _), (by decide : 0 + 0 ≤ _)⟩)
            dsimp only [Pt.U, Pt.locs, Pt.cells, Pt.slots] at X14 l14 y14 z14 st14 hQ14
            subst l14 y14 z14
            obtain ⟨rfl, N14q, e14⟩ := hQ14
            have N14 := Fr.app N0 N14q
            refine Go.st (fun _ k => st14.trans k) ?_
            show Go p.tables e below _ (T14.setTop (mkF m 89 #[.val (.int pm), .val (.long qa), .second, .val (.long qb), .second, .val (.int pd), .val (.long j11), .second, .val (.long j31), .second, .val (.int (1 : Int32)), .val (.int (0 : Int32)), .unset, .unset] [(.int (accB j11 j31))]))
            refine Go.st (fun _ k => XS.istore X14.here hx rfl (hb hby at_89) rfl (l' := #[.val (.int pm), .val (.long qa), .second, .val (.long qb), .second, .val (.int pd), .val (.long j11), .second, .val (.long j31), .second, .val (.int (1 : Int32)), .val (.int (0 : Int32)), .val (.int (accB j11 j31)), .unset]) rfl k) ?_
            show Go p.tables e below _ (T14.setTop (mkF m 91 #[.val (.int pm), .val (.long qa), .second, .val (.long qb), .second, .val (.int pd), .val (.long j11), .second, .val (.long j31), .second, .val (.int (1 : Int32)), .val (.int (0 : Int32)), .val (.int (accB j11 j31)), .unset] []))
            generalize hqv89 : (accB j11 j31) = v89
            show Go p.tables e below _ (T14.setTop (mkF m 91 #[.val (.int pm), .val (.long qa), .second, .val (.long qb), .second, .val (.int pd), .val (.long j11), .second, .val (.long j31), .second, .val (.int (1 : Int32)), .val (.int (0 : Int32)), .val (.int v89), .unset] []))
            obtain ⟨T15, X15, e15, st15⟩ := getS2 X14 hx hZ hown (host := "") (Or.inl (hw _ (List.mem_of_getElem? (i := 8) rfl))) Via.refl e14 P1 (g := (mkF m 91 #[.val (.int pm), .val (.long qa), .second, .val (.long qb), .second, .val (.int pd), .val (.long j11), .second, .val (.long j31), .second, .val (.int (1 : Int32)), .val (.int (0 : Int32)), .val (.int v89), .unset] [])) rfl (hb hby at_91)
            refine Go.st st15 ?_
            show Go p.tables e below _ (T15.setTop (mkF m 94 #[.val (.int pm), .val (.long qa), .second, .val (.long qb), .second, .val (.int pd), .val (.long j11), .second, .val (.long j31), .second, .val (.int (1 : Int32)), .val (.int (0 : Int32)), .val (.int v89), .unset] [(.ref as_)]))
            refine Go.st (fun _ k => XS.lload X15.here hx rfl (hb hby at_94) rfl k) ?_
            show Go p.tables e below _ (T15.setTop (mkF m 96 #[.val (.int pm), .val (.long qa), .second, .val (.long qb), .second, .val (.int pd), .val (.long j11), .second, .val (.long j31), .second, .val (.int (1 : Int32)), .val (.int (0 : Int32)), .val (.int v89), .unset] [(.long j11), (.ref as_)]))
            refine Go.st (fun _ k => XS.lload X15.here hx rfl (hb hby at_96) rfl k) ?_
            show Go p.tables e below _ (T15.setTop (mkF m 98 #[.val (.int pm), .val (.long qa), .second, .val (.long qb), .second, .val (.int pd), .val (.long j11), .second, .val (.long j31), .second, .val (.int (1 : Int32)), .val (.int (0 : Int32)), .val (.int v89), .unset] [(.long j31), (.long j11), (.ref as_)]))
            obtain ⟨cq16, kq16, q16a, q16b, q16c⟩ := isOf hZ e15 P3
            obtain ⟨_, _, ⟨T16, L16, k16, n16⟩, -, X16, ⟨Lc16, hQ16, l16, y16, z16⟩, st16⟩ := X15.virtualBack hx (y := (⟨"io/floorbook/engine/Side", "accepts", "(JJ)Z"⟩ : MethodName)) (z := (⟨"io/floorbook/engine/Side", "accepts", "(JJ)Z"⟩ : MethodName)) hown (mvT hZ (hw _ (List.mem_of_getElem? (i := 3) rfl))) (mvT hZ (hw _ (List.mem_of_getElem? (i := 4) rfl))) (notFace_of_selects (args := #[]) (mvT hZ (hw _ (List.mem_of_getElem? (i := 6) rfl)))) (mvT hZ (hw _ (List.mem_of_getElem? (i := 6) rfl))) (mvT hZ (hw _ (List.mem_of_getElem? (i := 5) rfl))) (by decide) (backOf (W := 0) (rm_accS l Z a0 hw [] as_ j11 j31 ab h0 n0 Z0 P0 hne) hZ (hw _ (List.mem_of_getElem? (i := 7) rfl)) (hw _ (List.mem_of_getElem? (i := 1) rfl)) (by decide) (by decide)) q16a q16c (g := (mkF m 98 #[.val (.int pm), .val (.long qa), .second, .val (.long qb), .second, .val (.int pd), .val (.long j11), .second, .val (.long j31), .second, .val (.int (1 : Int32)), .val (.int (0 : Int32)), .val (.int v89), .unset] [(.long j31), (.long j11), (.ref as_)])) rfl (by rw [hml]; rfl) (Steps.refl _) (argsL := [(.long j11), (.long j31)]) (rest := []) (lenOf pd_0 rfl) rfl (by show 2 * 0 + _ ≤ _; exact Nat.le_of_eq rfl) (hb hby at_98) (fun _ _ => ⟨rfl, e15, (by decide : 0 + 0 ≤ _), (by decide : 0 + 0 ≤ _)⟩)
            dsimp only [Pt.U, Pt.locs, Pt.cells, Pt.slots] at X16 l16 y16 z16 st16 hQ16
            subst l16 y16 z16
            obtain ⟨rfl, N16q, e16⟩ := hQ16
            have N16 := Fr.app N14 N16q
            refine Go.st (fun _ k => st16.trans k) ?_
            show Go p.tables e below _ (T16.setTop (mkF m 101 #[.val (.int pm), .val (.long qa), .second, .val (.long qb), .second, .val (.int pd), .val (.long j11), .second, .val (.long j31), .second, .val (.int (1 : Int32)), .val (.int (0 : Int32)), .val (.int v89), .unset] [(.int (accS j11 j31))]))
            refine Go.st (fun _ k => XS.istore X16.here hx rfl (hb hby at_101) rfl (l' := #[.val (.int pm), .val (.long qa), .second, .val (.long qb), .second, .val (.int pd), .val (.long j11), .second, .val (.long j31), .second, .val (.int (1 : Int32)), .val (.int (0 : Int32)), .val (.int v89), .val (.int (accS j11 j31))]) rfl k) ?_
            show Go p.tables e below _ (T16.setTop (mkF m 103 #[.val (.int pm), .val (.long qa), .second, .val (.long qb), .second, .val (.int pd), .val (.long j11), .second, .val (.long j31), .second, .val (.int (1 : Int32)), .val (.int (0 : Int32)), .val (.int v89), .val (.int (accS j11 j31))] []))
            generalize hqv101 : (accS j11 j31) = v101
            show Go p.tables e below _ (T16.setTop (mkF m 103 #[.val (.int pm), .val (.long qa), .second, .val (.long qb), .second, .val (.int pd), .val (.long j11), .second, .val (.long j31), .second, .val (.int (1 : Int32)), .val (.int (0 : Int32)), .val (.int v89), .val (.int v101)] []))
            refine Go.st (fun _ k => XS.iload X16.here hx rfl (hb hby at_103) rfl k) ?_
            show Go p.tables e below _ (T16.setTop (mkF m 105 #[.val (.int pm), .val (.long qa), .second, .val (.long qb), .second, .val (.int pd), .val (.long j11), .second, .val (.long j31), .second, .val (.int (1 : Int32)), .val (.int (0 : Int32)), .val (.int v89), .val (.int v101)] [(.int v89)]))
            refine Go.st (fun _ k => XS.iload X16.here hx rfl (hb hby at_105) rfl k) ?_
            show Go p.tables e below _ (T16.setTop (mkF m 107 #[.val (.int pm), .val (.long qa), .second, .val (.long qb), .second, .val (.int pd), .val (.long j11), .second, .val (.long j31), .second, .val (.int (1 : Int32)), .val (.int (0 : Int32)), .val (.int v89), .val (.int v101)] [(.int (1 : Int32)), (.int v89)]))
            have hc107 : v89 = (1 : Int32) := (by rw [← hqv89]; simp [accB, hc37, hc54, hc69])
            refine Go.st (fun _ k => XS.icmpNo X16.here hx rfl (hb hby at_107) rfl (Jvm.Free.XT.ii_ne_f hc107) k) ?_
            show Go p.tables e below _ (T16.setTop (mkF m 110 #[.val (.int pm), .val (.long qa), .second, .val (.long qb), .second, .val (.int pd), .val (.long j11), .second, .val (.long j31), .second, .val (.int (1 : Int32)), .val (.int (0 : Int32)), .val (.int v89), .val (.int v101)] []))
            refine Go.st (fun _ k => XS.iload X16.here hx rfl (hb hby at_110) rfl k) ?_
            show Go p.tables e below _ (T16.setTop (mkF m 112 #[.val (.int pm), .val (.long qa), .second, .val (.long qb), .second, .val (.int pd), .val (.long j11), .second, .val (.long j31), .second, .val (.int (1 : Int32)), .val (.int (0 : Int32)), .val (.int v89), .val (.int v101)] [(.int v101)]))
            refine Go.st (fun _ k => XS.iload X16.here hx rfl (hb hby at_112) rfl k) ?_
            show Go p.tables e below _ (T16.setTop (mkF m 114 #[.val (.int pm), .val (.long qa), .second, .val (.long qb), .second, .val (.int pd), .val (.long j11), .second, .val (.long j31), .second, .val (.int (1 : Int32)), .val (.int (0 : Int32)), .val (.int v89), .val (.int v101)] [(.int (0 : Int32)), (.int v101)]))
            have hc114 : v101 = (0 : Int32) := (by rw [← hqv101]; simp [accS, hc37, hc54, hc69])
            refine Go.st (fun _ k => XS.icmpNo X16.here hx rfl (hb hby at_114) rfl (Jvm.Free.XT.ii_ne_f hc114) k) ?_
            show Go p.tables e below _ (T16.setTop (mkF m 117 #[.val (.int pm), .val (.long qa), .second, .val (.long qb), .second, .val (.int pd), .val (.long j11), .second, .val (.long j31), .second, .val (.int (1 : Int32)), .val (.int (0 : Int32)), .val (.int v89), .val (.int v101)] []))
            refine Go.st (fun _ k => XS.iconst X16.here hx rfl (hb hby at_117) k) ?_
            show Go p.tables e below _ (T16.setTop (mkF m 118 #[.val (.int pm), .val (.long qa), .second, .val (.long qb), .second, .val (.int pd), .val (.long j11), .second, .val (.long j31), .second, .val (.int (1 : Int32)), .val (.int (0 : Int32)), .val (.int v89), .val (.int v101)] [(.int (1 : Int32))]))
            refine Go.st (fun _ k => XS.goto X16.here hx rfl (pc0 := 118) (pc' := 122) rfl (hb hby at_118) (by decide) (by decide) k) ?_
            show Go p.tables e below _ (T16.setTop (mkF m 122 #[.val (.int pm), .val (.long qa), .second, .val (.long qb), .second, .val (.int pd), .val (.long j11), .second, .val (.long j31), .second, .val (.int (1 : Int32)), .val (.int (0 : Int32)), .val (.int v89), .val (.int v101)] [(.int (1 : Int32))]))
            subst hG
            obtain ⟨fs, hr, hrun, hended, hW, hsame⟩ := X16.leave (v := some (.int (nar .boolean (1 : Int32)))) (fun h => by rw [Bd.returns] at h; cases h)
            refine ⟨_, _, ?_, hrun, hended, _, _, rfl, ?_, ⟨_, rfl⟩, hW, hsame.mono (by decide) (by decide)⟩
            · exact retN X16 hx (t := .boolean) Bd.returns (by simp) (hb hby at_122) hr
            · show Q_law Z pm qa qb pd ab as_ h0 n0 _ T16.heap _
              rw [e16]
              exact ⟨rfl, N16, rfl⟩
          · skip
            refine Go.st (fun _ k => XS.ifNo X0.here hx rfl (hb hby at_69) rfl (Jvm.Free.XT.ll_lt_f hc69) k) ?_
            show Go p.tables e below _ (s₁.setTop (mkF m 72 #[.val (.int pm), .val (.long qa), .second, .val (.long qb), .second, .val (.int pd), .val (.long j11), .second, .val (.long j31), .second, .val (.int (1 : Int32)), .unset, .unset, .unset] []))
            refine Go.st (fun _ k => XS.iconst X0.here hx rfl (hb hby at_72) k) ?_
            show Go p.tables e below _ (s₁.setTop (mkF m 73 #[.val (.int pm), .val (.long qa), .second, .val (.long qb), .second, .val (.int pd), .val (.long j11), .second, .val (.long j31), .second, .val (.int (1 : Int32)), .unset, .unset, .unset] [(.int (1 : Int32))]))
            refine Go.st (fun _ k => XS.goto X0.here hx rfl (pc0 := 73) (pc' := 77) rfl (hb hby at_73) (by decide) (by decide) k) ?_
            show Go p.tables e below _ (s₁.setTop (mkF m 77 #[.val (.int pm), .val (.long qa), .second, .val (.long qb), .second, .val (.int pd), .val (.long j11), .second, .val (.long j31), .second, .val (.int (1 : Int32)), .unset, .unset, .unset] [(.int (1 : Int32))]))
            refine Go.st (fun _ k => XS.istore X0.here hx rfl (hb hby at_77) rfl (l' := #[.val (.int pm), .val (.long qa), .second, .val (.long qb), .second, .val (.int pd), .val (.long j11), .second, .val (.long j31), .second, .val (.int (1 : Int32)), .val (.int (1 : Int32)), .unset, .unset]) rfl k) ?_
            show Go p.tables e below _ (s₁.setTop (mkF m 79 #[.val (.int pm), .val (.long qa), .second, .val (.long qb), .second, .val (.int pd), .val (.long j11), .second, .val (.long j31), .second, .val (.int (1 : Int32)), .val (.int (1 : Int32)), .unset, .unset] []))
            show Go p.tables e below _ (s₁.setTop (mkF m 79 #[.val (.int pm), .val (.long qa), .second, .val (.long qb), .second, .val (.int pd), .val (.long j11), .second, .val (.long j31), .second, .val (.int (1 : Int32)), .val (.int (1 : Int32)), .unset, .unset] []))
            obtain ⟨T17, X17, e17, st17⟩ := getS2 X0 hx hZ hown (host := "") (Or.inl (hw _ (List.mem_of_getElem? (i := 0) rfl))) Via.refl e0 P0 (g := (mkF m 79 #[.val (.int pm), .val (.long qa), .second, .val (.long qb), .second, .val (.int pd), .val (.long j11), .second, .val (.long j31), .second, .val (.int (1 : Int32)), .val (.int (1 : Int32)), .unset, .unset] [])) rfl (hb hby at_79)
            refine Go.st st17 ?_
            show Go p.tables e below _ (T17.setTop (mkF m 82 #[.val (.int pm), .val (.long qa), .second, .val (.long qb), .second, .val (.int pd), .val (.long j11), .second, .val (.long j31), .second, .val (.int (1 : Int32)), .val (.int (1 : Int32)), .unset, .unset] [(.ref ab)]))
            refine Go.st (fun _ k => XS.lload X17.here hx rfl (hb hby at_82) rfl k) ?_
            show Go p.tables e below _ (T17.setTop (mkF m 84 #[.val (.int pm), .val (.long qa), .second, .val (.long qb), .second, .val (.int pd), .val (.long j11), .second, .val (.long j31), .second, .val (.int (1 : Int32)), .val (.int (1 : Int32)), .unset, .unset] [(.long j11), (.ref ab)]))
            refine Go.st (fun _ k => XS.lload X17.here hx rfl (hb hby at_84) rfl k) ?_
            show Go p.tables e below _ (T17.setTop (mkF m 86 #[.val (.int pm), .val (.long qa), .second, .val (.long qb), .second, .val (.int pd), .val (.long j11), .second, .val (.long j31), .second, .val (.int (1 : Int32)), .val (.int (1 : Int32)), .unset, .unset] [(.long j31), (.long j11), (.ref ab)]))
            obtain ⟨cq18, kq18, q18a, q18b, q18c⟩ := isOf hZ e17 P2
            obtain ⟨_, _, ⟨T18, L18, k18, n18⟩, -, X18, ⟨Lc18, hQ18, l18, y18, z18⟩, st18⟩ := X17.virtualBack hx (y := (⟨"io/floorbook/engine/Side", "accepts", "(JJ)Z"⟩ : MethodName)) (z := (⟨"io/floorbook/engine/Side", "accepts", "(JJ)Z"⟩ : MethodName)) hown (mvT hZ (hw _ (List.mem_of_getElem? (i := 3) rfl))) (mvT hZ (hw _ (List.mem_of_getElem? (i := 4) rfl))) (notFace_of_selects (args := #[]) (mvT hZ (hw _ (List.mem_of_getElem? (i := 6) rfl)))) (mvT hZ (hw _ (List.mem_of_getElem? (i := 6) rfl))) (mvT hZ (hw _ (List.mem_of_getElem? (i := 5) rfl))) (by decide) (backOf (W := 0) (rm_accB l Z a0 hw [] ab j11 j31 h0 n0 Z0 P0) hZ (hw _ (List.mem_of_getElem? (i := 7) rfl)) (hw _ (List.mem_of_getElem? (i := 1) rfl)) (by decide) (by decide)) q18a q18c (g := (mkF m 86 #[.val (.int pm), .val (.long qa), .second, .val (.long qb), .second, .val (.int pd), .val (.long j11), .second, .val (.long j31), .second, .val (.int (1 : Int32)), .val (.int (1 : Int32)), .unset, .unset] [(.long j31), (.long j11), (.ref ab)])) rfl (by rw [hml]; rfl) (Steps.refl _) (argsL := [(.long j11), (.long j31)]) (rest := []) (lenOf pd_0 rfl) rfl (by show 2 * 0 + _ ≤ _; exact Nat.le_of_eq rfl) (hb hby at_86) (fun _ _ => ⟨rfl, e17, (by decide : 0 + 0 ≤ _), (by decide : 0 + 0 ≤ _)⟩)
            dsimp only [Pt.U, Pt.locs, Pt.cells, Pt.slots] at X18 l18 y18 z18 st18 hQ18
            subst l18 y18 z18
            obtain ⟨rfl, N18q, e18⟩ := hQ18
            have N18 := Fr.app N0 N18q
            refine Go.st (fun _ k => st18.trans k) ?_
            show Go p.tables e below _ (T18.setTop (mkF m 89 #[.val (.int pm), .val (.long qa), .second, .val (.long qb), .second, .val (.int pd), .val (.long j11), .second, .val (.long j31), .second, .val (.int (1 : Int32)), .val (.int (1 : Int32)), .unset, .unset] [(.int (accB j11 j31))]))
            refine Go.st (fun _ k => XS.istore X18.here hx rfl (hb hby at_89) rfl (l' := #[.val (.int pm), .val (.long qa), .second, .val (.long qb), .second, .val (.int pd), .val (.long j11), .second, .val (.long j31), .second, .val (.int (1 : Int32)), .val (.int (1 : Int32)), .val (.int (accB j11 j31)), .unset]) rfl k) ?_
            show Go p.tables e below _ (T18.setTop (mkF m 91 #[.val (.int pm), .val (.long qa), .second, .val (.long qb), .second, .val (.int pd), .val (.long j11), .second, .val (.long j31), .second, .val (.int (1 : Int32)), .val (.int (1 : Int32)), .val (.int (accB j11 j31)), .unset] []))
            generalize hqv89 : (accB j11 j31) = v89
            show Go p.tables e below _ (T18.setTop (mkF m 91 #[.val (.int pm), .val (.long qa), .second, .val (.long qb), .second, .val (.int pd), .val (.long j11), .second, .val (.long j31), .second, .val (.int (1 : Int32)), .val (.int (1 : Int32)), .val (.int v89), .unset] []))
            obtain ⟨T19, X19, e19, st19⟩ := getS2 X18 hx hZ hown (host := "") (Or.inl (hw _ (List.mem_of_getElem? (i := 8) rfl))) Via.refl e18 P1 (g := (mkF m 91 #[.val (.int pm), .val (.long qa), .second, .val (.long qb), .second, .val (.int pd), .val (.long j11), .second, .val (.long j31), .second, .val (.int (1 : Int32)), .val (.int (1 : Int32)), .val (.int v89), .unset] [])) rfl (hb hby at_91)
            refine Go.st st19 ?_
            show Go p.tables e below _ (T19.setTop (mkF m 94 #[.val (.int pm), .val (.long qa), .second, .val (.long qb), .second, .val (.int pd), .val (.long j11), .second, .val (.long j31), .second, .val (.int (1 : Int32)), .val (.int (1 : Int32)), .val (.int v89), .unset] [(.ref as_)]))
            refine Go.st (fun _ k => XS.lload X19.here hx rfl (hb hby at_94) rfl k) ?_
            show Go p.tables e below _ (T19.setTop (mkF m 96 #[.val (.int pm), .val (.long qa), .second, .val (.long qb), .second, .val (.int pd), .val (.long j11), .second, .val (.long j31), .second, .val (.int (1 : Int32)), .val (.int (1 : Int32)), .val (.int v89), .unset] [(.long j11), (.ref as_)]))
            refine Go.st (fun _ k => XS.lload X19.here hx rfl (hb hby at_96) rfl k) ?_
            show Go p.tables e below _ (T19.setTop (mkF m 98 #[.val (.int pm), .val (.long qa), .second, .val (.long qb), .second, .val (.int pd), .val (.long j11), .second, .val (.long j31), .second, .val (.int (1 : Int32)), .val (.int (1 : Int32)), .val (.int v89), .unset] [(.long j31), (.long j11), (.ref as_)]))
            obtain ⟨cq20, kq20, q20a, q20b, q20c⟩ := isOf hZ e19 P3
            obtain ⟨_, _, ⟨T20, L20, k20, n20⟩, -, X20, ⟨Lc20, hQ20, l20, y20, z20⟩, st20⟩ := X19.virtualBack hx (y := (⟨"io/floorbook/engine/Side", "accepts", "(JJ)Z"⟩ : MethodName)) (z := (⟨"io/floorbook/engine/Side", "accepts", "(JJ)Z"⟩ : MethodName)) hown (mvT hZ (hw _ (List.mem_of_getElem? (i := 3) rfl))) (mvT hZ (hw _ (List.mem_of_getElem? (i := 4) rfl))) (notFace_of_selects (args := #[]) (mvT hZ (hw _ (List.mem_of_getElem? (i := 6) rfl)))) (mvT hZ (hw _ (List.mem_of_getElem? (i := 6) rfl))) (mvT hZ (hw _ (List.mem_of_getElem? (i := 5) rfl))) (by decide) (backOf (W := 0) (rm_accS l Z a0 hw [] as_ j11 j31 ab h0 n0 Z0 P0 hne) hZ (hw _ (List.mem_of_getElem? (i := 7) rfl)) (hw _ (List.mem_of_getElem? (i := 1) rfl)) (by decide) (by decide)) q20a q20c (g := (mkF m 98 #[.val (.int pm), .val (.long qa), .second, .val (.long qb), .second, .val (.int pd), .val (.long j11), .second, .val (.long j31), .second, .val (.int (1 : Int32)), .val (.int (1 : Int32)), .val (.int v89), .unset] [(.long j31), (.long j11), (.ref as_)])) rfl (by rw [hml]; rfl) (Steps.refl _) (argsL := [(.long j11), (.long j31)]) (rest := []) (lenOf pd_0 rfl) rfl (by show 2 * 0 + _ ≤ _; exact Nat.le_of_eq rfl) (hb hby at_98) (fun _ _ => ⟨rfl, e19, (by decide : 0 + 0 ≤ _), (by decide : 0 + 0 ≤ _)⟩)
            dsimp only [Pt.U, Pt.locs, Pt.cells, Pt.slots] at X20 l20 y20 z20 st20 hQ20
            subst l20 y20 z20
            obtain ⟨rfl, N20q, e20⟩ := hQ20
            have N20 := Fr.app N18 N20q
            refine Go.st (fun _ k => st20.trans k) ?_
            show Go p.tables e below _ (T20.setTop (mkF m 101 #[.val (.int pm), .val (.long qa), .second, .val (.long qb), .second, .val (.int pd), .val (.long j11), .second, .val (.long j31), .second, .val (.int (1 : Int32)), .val (.int (1 : Int32)), .val (.int v89), .unset] [(.int (accS j11 j31))]))
            refine Go.st (fun _ k => XS.istore X20.here hx rfl (hb hby at_101) rfl (l' := #[.val (.int pm), .val (.long qa), .second, .val (.long qb), .second, .val (.int pd), .val (.long j11), .second, .val (.long j31), .second, .val (.int (1 : Int32)), .val (.int (1 : Int32)), .val (.int v89), .val (.int (accS j11 j31))]) rfl k) ?_
            show Go p.tables e below _ (T20.setTop (mkF m 103 #[.val (.int pm), .val (.long qa), .second, .val (.long qb), .second, .val (.int pd), .val (.long j11), .second, .val (.long j31), .second, .val (.int (1 : Int32)), .val (.int (1 : Int32)), .val (.int v89), .val (.int (accS j11 j31))] []))
            generalize hqv101 : (accS j11 j31) = v101
            show Go p.tables e below _ (T20.setTop (mkF m 103 #[.val (.int pm), .val (.long qa), .second, .val (.long qb), .second, .val (.int pd), .val (.long j11), .second, .val (.long j31), .second, .val (.int (1 : Int32)), .val (.int (1 : Int32)), .val (.int v89), .val (.int v101)] []))
            refine Go.st (fun _ k => XS.iload X20.here hx rfl (hb hby at_103) rfl k) ?_
            show Go p.tables e below _ (T20.setTop (mkF m 105 #[.val (.int pm), .val (.long qa), .second, .val (.long qb), .second, .val (.int pd), .val (.long j11), .second, .val (.long j31), .second, .val (.int (1 : Int32)), .val (.int (1 : Int32)), .val (.int v89), .val (.int v101)] [(.int v89)]))
            refine Go.st (fun _ k => XS.iload X20.here hx rfl (hb hby at_105) rfl k) ?_
            show Go p.tables e below _ (T20.setTop (mkF m 107 #[.val (.int pm), .val (.long qa), .second, .val (.long qb), .second, .val (.int pd), .val (.long j11), .second, .val (.long j31), .second, .val (.int (1 : Int32)), .val (.int (1 : Int32)), .val (.int v89), .val (.int v101)] [(.int (1 : Int32)), (.int v89)]))
            have hc107 : v89 = (1 : Int32) := (by rw [← hqv89]; simp [accB, hc37, hc54, hc69])
            refine Go.st (fun _ k => XS.icmpNo X20.here hx rfl (hb hby at_107) rfl (Jvm.Free.XT.ii_ne_f hc107) k) ?_
            show Go p.tables e below _ (T20.setTop (mkF m 110 #[.val (.int pm), .val (.long qa), .second, .val (.long qb), .second, .val (.int pd), .val (.long j11), .second, .val (.long j31), .second, .val (.int (1 : Int32)), .val (.int (1 : Int32)), .val (.int v89), .val (.int v101)] []))
            refine Go.st (fun _ k => XS.iload X20.here hx rfl (hb hby at_110) rfl k) ?_
            show Go p.tables e below _ (T20.setTop (mkF m 112 #[.val (.int pm), .val (.long qa), .second, .val (.long qb), .second, .val (.int pd), .val (.long j11), .second, .val (.long j31), .second, .val (.int (1 : Int32)), .val (.int (1 : Int32)), .val (.int v89), .val (.int v101)] [(.int v101)]))
            refine Go.st (fun _ k => XS.iload X20.here hx rfl (hb hby at_112) rfl k) ?_
            show Go p.tables e below _ (T20.setTop (mkF m 114 #[.val (.int pm), .val (.long qa), .second, .val (.long qb), .second, .val (.int pd), .val (.long j11), .second, .val (.long j31), .second, .val (.int (1 : Int32)), .val (.int (1 : Int32)), .val (.int v89), .val (.int v101)] [(.int (1 : Int32)), (.int v101)]))
            have hc114 : v101 = (1 : Int32) := (by rw [← hqv101]; simp [accS, hc37, hc54, hc69])
            refine Go.st (fun _ k => XS.icmpNo X20.here hx rfl (hb hby at_114) rfl (Jvm.Free.XT.ii_ne_f hc114) k) ?_
            show Go p.tables e below _ (T20.setTop (mkF m 117 #[.val (.int pm), .val (.long qa), .second, .val (.long qb), .second, .val (.int pd), .val (.long j11), .second, .val (.long j31), .second, .val (.int (1 : Int32)), .val (.int (1 : Int32)), .val (.int v89), .val (.int v101)] []))
            refine Go.st (fun _ k => XS.iconst X20.here hx rfl (hb hby at_117) k) ?_
            show Go p.tables e below _ (T20.setTop (mkF m 118 #[.val (.int pm), .val (.long qa), .second, .val (.long qb), .second, .val (.int pd), .val (.long j11), .second, .val (.long j31), .second, .val (.int (1 : Int32)), .val (.int (1 : Int32)), .val (.int v89), .val (.int v101)] [(.int (1 : Int32))]))
            refine Go.st (fun _ k => XS.goto X20.here hx rfl (pc0 := 118) (pc' := 122) rfl (hb hby at_118) (by decide) (by decide) k) ?_
            show Go p.tables e below _ (T20.setTop (mkF m 122 #[.val (.int pm), .val (.long qa), .second, .val (.long qb), .second, .val (.int pd), .val (.long j11), .second, .val (.long j31), .second, .val (.int (1 : Int32)), .val (.int (1 : Int32)), .val (.int v89), .val (.int v101)] [(.int (1 : Int32))]))
            subst hG
            obtain ⟨fs, hr, hrun, hended, hW, hsame⟩ := X20.leave (v := some (.int (nar .boolean (1 : Int32)))) (fun h => by rw [Bd.returns] at h; cases h)
            refine ⟨_, _, ?_, hrun, hended, _, _, rfl, ?_, ⟨_, rfl⟩, hW, hsame.mono (by decide) (by decide)⟩
            · exact retN X20 hx (t := .boolean) Bd.returns (by simp) (hb hby at_122) hr
            · show Q_law Z pm qa qb pd ab as_ h0 n0 _ T20.heap _
              rw [e20]
              exact ⟨rfl, N20, rfl⟩
    by_cases hc16 : (pm &&& (4 : Int32)) = (0 : Int32)
    · skip
      refine Go.st (fun _ k => XS.ifYes X0.here hx rfl (pc0 := 16) (pc' := 23) rfl (hb hby at_16) rfl (Jvm.Free.XT.i0_eq_t hc16) (by decide) (by decide) k) ?_
      show Go p.tables e below _ (s₁.setTop (mkF m 23 #[.val (.int pm), .val (.long qa), .second, .val (.long qb), .second, .val (.int pd), .val (.long j11), .second, .unset, .unset, .unset, .unset, .unset, .unset] []))
      refine Go.st (fun _ k => XS.lload X0.here hx rfl (hb hby at_23) rfl k) ?_
      show Go p.tables e below _ (s₁.setTop (mkF m 25 #[.val (.int pm), .val (.long qa), .second, .val (.long qb), .second, .val (.int pd), .val (.long j11), .second, .unset, .unset, .unset, .unset, .unset, .unset] [(.long j11)]))
      refine Go.st (fun _ k => XS.iload X0.here hx rfl (hb hby at_25) rfl k) ?_
      show Go p.tables e below _ (s₁.setTop (mkF m 27 #[.val (.int pm), .val (.long qa), .second, .val (.long qb), .second, .val (.int pd), .val (.long j11), .second, .unset, .unset, .unset, .unset, .unset, .unset] [(.int pd), (.long j11)]))
      refine Go.st (fun _ k => XS.iconst X0.here hx rfl (hb hby at_27) k) ?_
      show Go p.tables e below _ (s₁.setTop (mkF m 28 #[.val (.int pm), .val (.long qa), .second, .val (.long qb), .second, .val (.int pd), .val (.long j11), .second, .unset, .unset, .unset, .unset, .unset, .unset] [(.int (3 : Int32)), (.int pd), (.long j11)]))
      refine Go.st (fun _ k => iremM X0 hx rfl (hb hby at_28) rfl (by decide) k) ?_
      show Go p.tables e below _ (s₁.setTop (mkF m 29 #[.val (.int pm), .val (.long qa), .second, .val (.long qb), .second, .val (.int pd), .val (.long j11), .second, .unset, .unset, .unset, .unset, .unset, .unset] [(.int (pd % (3 : Int32))), (.long j11)]))
      refine Go.st (fun _ k => XS.i2l X0.here hx rfl (hb hby at_29) rfl k) ?_
      show Go p.tables e below _ (s₁.setTop (mkF m 30 #[.val (.int pm), .val (.long qa), .second, .val (.long qb), .second, .val (.int pd), .val (.long j11), .second, .unset, .unset, .unset, .unset, .unset, .unset] [(.long ((pd % (3 : Int32)).toInt64)), (.long j11)]))
      refine Go.st (fun _ k => XS.ladd X0.here hx rfl (hb hby at_30) rfl k) ?_
      show Go p.tables e below _ (s₁.setTop (mkF m 31 #[.val (.int pm), .val (.long qa), .second, .val (.long qb), .second, .val (.int pd), .val (.long j11), .second, .unset, .unset, .unset, .unset, .unset, .unset] [(.long (j11 + ((pd % (3 : Int32)).toInt64)))]))
      exact J31 _
    · skip
      refine Go.st (fun _ k => XS.ifNo X0.here hx rfl (hb hby at_16) rfl (Jvm.Free.XT.i0_eq_f hc16) k) ?_
      show Go p.tables e below _ (s₁.setTop (mkF m 19 #[.val (.int pm), .val (.long qa), .second, .val (.long qb), .second, .val (.int pd), .val (.long j11), .second, .unset, .unset, .unset, .unset, .unset, .unset] []))
      refine Go.st (fun _ k => XS.lloadN X0.here hx rfl (hb hby at_19) rfl k) ?_
      show Go p.tables e below _ (s₁.setTop (mkF m 20 #[.val (.int pm), .val (.long qa), .second, .val (.long qb), .second, .val (.int pd), .val (.long j11), .second, .unset, .unset, .unset, .unset, .unset, .unset] [(.long qb)]))
      refine Go.st (fun _ k => XS.goto X0.here hx rfl (pc0 := 20) (pc' := 31) rfl (hb hby at_20) (by decide) (by decide) k) ?_
      show Go p.tables e below _ (s₁.setTop (mkF m 31 #[.val (.int pm), .val (.long qa), .second, .val (.long qb), .second, .val (.int pd), .val (.long j11), .second, .unset, .unset, .unset, .unset, .unset, .unset] [(.long qb)]))
      exact J31 _
  by_cases hc3 : (pm &&& (3 : Int32)) = (0 : Int32)
  · skip
    refine Go.st (fun _ k => XS.ifNo X0.here hx rfl (hb hby at_3) rfl (Jvm.Free.XT.i0_ne_f hc3) k) ?_
    show Go p.tables e below _ (s₁.setTop (mkF m 6 #[.val (.int pm), .val (.long qa), .second, .val (.long qb), .second, .val (.int pd), .unset, .unset, .unset, .unset, .unset, .unset, .unset, .unset] []))
    refine Go.st (fun _ k => XS.lconst X0.here hx rfl (hb hby at_6) k) ?_
    show Go p.tables e below _ (s₁.setTop (mkF m 7 #[.val (.int pm), .val (.long qa), .second, .val (.long qb), .second, .val (.int pd), .unset, .unset, .unset, .unset, .unset, .unset, .unset, .unset] [(.long (0 : Int64))]))
    refine Go.st (fun _ k => XS.goto X0.here hx rfl (pc0 := 7) (pc' := 11) rfl (hb hby at_7) (by decide) (by decide) k) ?_
    show Go p.tables e below _ (s₁.setTop (mkF m 11 #[.val (.int pm), .val (.long qa), .second, .val (.long qb), .second, .val (.int pd), .unset, .unset, .unset, .unset, .unset, .unset, .unset, .unset] [(.long (0 : Int64))]))
    exact J11 _
  · skip
    refine Go.st (fun _ k => XS.ifYes X0.here hx rfl (pc0 := 3) (pc' := 10) rfl (hb hby at_3) rfl (Jvm.Free.XT.i0_ne_t hc3) (by decide) (by decide) k) ?_
    show Go p.tables e below _ (s₁.setTop (mkF m 10 #[.val (.int pm), .val (.long qa), .second, .val (.long qb), .second, .val (.int pd), .unset, .unset, .unset, .unset, .unset, .unset, .unset, .unset] []))
    refine Go.st (fun _ k => XS.lloadN X0.here hx rfl (hb hby at_10) rfl k) ?_
    show Go p.tables e below _ (s₁.setTop (mkF m 11 #[.val (.int pm), .val (.long qa), .second, .val (.long qb), .second, .val (.int pd), .unset, .unset, .unset, .unset, .unset, .unset, .unset, .unset] [(.long qa)]))
    exact J11 _
set_option maxRecDepth 65536 in
set_option maxHeartbeats 40000000 in
theorem comes_1 {Post : Tables → Env → Array Value → State → Outcome → State → Prop} (hpost : ∀ tb e args s v u, (limb_1_1.after args s (.returned v) u = true ∧ limb_1_2.after args s (.returned v) u = true ∧ True) → FrameEnd s (.returned v) u (Jvm.fieldLocs frame_1_writes args s ++ Jvm.arrayLocs frame_1_arrays args s ++ Jvm.staticLocs frame_1_statics s) 0 0 → Post tb e args s (.returned v) u) :
    ArmFor flags0 classFile x code maxLocals ret World_1 tables_1 room_1 Calls_1 rest_1 Pre_1 Post := by
  intro l hfl _ _ p e ha hc hk s m args below hf hA hF happ hP
  obtain ⟨hcalls, hrest, hpre⟩ := hP
  obtain ⟨-, -, -, hnamed, -, -, -, hat⟩ := (Spec.applies_iff hf).mp happ
  obtain ⟨hg, hn⟩ := and_e (Cond.before_iff.mp (show (Jvm.Cond.and given_1 narrow_1).before args s = true from hpre))
  obtain ⟨hcount, hg0⟩ := and_e hg
  obtain ⟨hv0, hg1⟩ := and_e hg0
  obtain ⟨hv1, hg2⟩ := and_e hg1
  obtain ⟨hv2, hg3⟩ := and_e hg2
  obtain ⟨w0, w1, w2, w3, rfl⟩ : ∃ w0 w1 w2 w3 : Value, args = #[w0, w1, w2, w3] := by
    have hs : args.size = 4 := by simpa [Cond.value, given_1] using hcount
    obtain ⟨L⟩ := args
    match L, hs with
    | [w0, w1, w2, w3], _ => exact ⟨w0, w1, w2, w3, rfl⟩
  have hw := fun d (hd : d ∈ tables_1) => atoms_spec (ws := Jvm.Cond.code x code maxLocals ret :: tables_1) hat d (List.mem_cons_of_mem _ hd)
  have hfit : Fit s := fun {y c} hc i hi => by
    obtain ⟨ha, rfl⟩ := Array.getElem?_eq_some_iff.mp hc
    have q := List.all_eq_true.mp ((Array.all_eq_true_iff_forall_mem.mp hF) _ (Array.getElem_mem ha)) i (List.mem_range.mpr hi)
    simpa [Array.getElem?_eq_getElem hi] using q
  obtain ⟨i0, ei0⟩ := is_v hv0
  obtain rfl : w0 = (.int i0) := Option.some.inj ei0
  obtain ⟨i1, ei1⟩ := isL_v hv1
  obtain rfl : w1 = (.long i1) := Option.some.inj ei1
  obtain ⟨i2, ei2⟩ := isL_v hv2
  obtain rfl : w2 = (.long i2) := Option.some.inj ei2
  obtain ⟨i3, ei3⟩ := is_v hg3
  obtain rfl : w3 = (.int i3) := Option.some.inj ei3
  obtain ⟨m1, hn1⟩ := and_e hn
  obtain ⟨m2, hn2⟩ := and_e hn1
  obtain ⟨m3, m4⟩ := and_e hn2
  obtain ⟨ab, evb⟩ := exa_v m1
  obtain ⟨as_, evs⟩ := exa_v m2
  have Eb := Exa.start evb m1
  have Es := Exa.start evs m2
  have Sb := Sta.start evb (Or.inr ⟨(hw _ (List.mem_of_getElem? (i := 1) rfl)), (hw _ (List.mem_of_getElem? (i := 2) rfl))⟩)
  have Ss := Sta.start evs (Or.inr ⟨(hw _ (List.mem_of_getElem? (i := 1) rfl)), (hw _ (List.mem_of_getElem? (i := 9) rfl))⟩)
  have o1 := eqv_i (Term.int_eval 1) m3
  have o0 := eqv_i (Term.int_eval 0) m4
  rw [fld_at evs] at o1
  rw [fld_at evb] at o0
  have hne : as_ ≠ ab := fun z => absurd (Value.int.inj (Option.some.inj (o0.symm.trans (z ▸ o1)))) (by decide)
  obtain ⟨n, o, h1, h2, h3, _, L, rfl, ⟨rfl, N, -⟩, hq⟩ := rm_law l s _ hw tables_1 i0 i1 i2 i3 ab as_ s.heap s.heap.size (Nat.le_refl _) Sb Ss Eb Es hne p e ha hc hk s m _ below hf ((Spec.applies_iff_loose hf).mp happ).1 ⟨rfl, State.Warmed39.refl s, rfl⟩ trivial
  refine ⟨n, _, h1, h2, h3, hpost _ _ _ _ _ _ ⟨Cond.after_iff.mpr rfl, Cond.after_iff.mpr (eq_i res_at (Term.int_eval (1)) rfl), trivial⟩ ⟨hq.1, hq.2.1, (hq.2.2.sift fun y hy => Or.inr (N y hy)).mono (by decide) (by decide)⟩⟩
theorem main_1_1 : Claimed_1_1 := comes_1 fun _ _ _ _ _ _ h hF => ⟨h.1, hF⟩
theorem main_1_2 : Claimed_1_2 := comes_1 fun _ _ _ _ _ _ h hF => ⟨h.2.1, hF⟩
end Jvm.Pilot.@@N@@
namespace Jvm.Pilot.@@N@@
open Jvm Jvm.ClassFile Sem Op Lib Jvm.Free Jvm.Stand Jvm.Pilot.@@N@@.Jvm.D
/-! MADE BY PROGRAM (witnessworld.py) out of the Statement's table words and the real class files: 12 classes; the members and pool entries that the words name. The judged class is class 1, her method 1. -/
namespace start1
open Jvm.ClassFile
def u (s : String) : CpInfo := .utf8 (stringToUtf16 s)
/-- a pool by its gaps: so many unusable entries, then the entry; so many at the end -/
def gap : Nat → List CpInfo → List CpInfo
  | 0, r => r
  | n + 1, r => .unusable :: gap n r
def poolList (es : List (Nat × CpInfo)) (last : Nat) : List CpInfo := es.foldr (fun e r => gap e.1 (e.2 :: r)) (gap last [])
def pool (es : List (Nat × CpInfo)) (last : Nat) : Array CpInfo := ⟨poolList es last⟩
def fileOf (pool : Array CpInfo) (this : Nat) (attrs : Array Attribute := #[]) (ms : Array MethodInfo := #[]) (fl : Nat := 33) (sup : Nat := 0) (ifs : Array Nat := #[]) (fds : Array FieldInfo := #[]) : ClassFile where
  minorVersion := 0
  majorVersion := 65
  constantPool := pool
  accessFlags := fl
  thisClass := this
  superClass := sup
  interfaces := ifs
  fields := fds
  methods := ms
  attributes := attrs
def plain (name : String) (sup : Option ClassId) : Class where
  name := name
  kind := .ordinary
  loader := none
  accessFlags := 33
  super := sup
  interfaces := #[]
  cf := none
  fields := #[]
  methods := #[]
  instanceTypes := #[]
  staticTypes := #[]
  resolved := #[]
  callSites := []
  init := .initialized
  statics := none
  mirror := none

def pool0 : Array CpInfo := pool [(5, u "<init>"), (0, u "()V"), (1, .class_ 10), (1, u "java/lang/Object")] 113

def k0m0 : Method := { name := "<init>", desc := "()V", sig := { parameters := [], returnType := none }, accessFlags := 1, code := none }
/-- java/lang/Object -/
def k0 : Class := { plain "java/lang/Object" none with
  accessFlags := 33
  interfaces := #[]
  cf := some (fileOf pool0 8 #[] #[{ accessFlags := 1, nameIndex := 5, descriptorIndex := 6, attributes := #[] }] 33 0 #[] #[])
  fields := #[]
  methods := #[k0m0]
  instanceTypes := #[]
  staticTypes := #[]
  resolved := Array.replicate 124 none
  statics := none }

def pool1 : Array CpInfo := pool [(2, .class_ 4), (1, u "java/lang/Object"), (0, u "<init>"), (0, u "()V"), (0, .fieldref 8 9), (0, .class_ 10), (0, .nameAndType 11 12), (0, u "io/floorbook/engine/Side"), (0, u "BUY"), (0, u "Lio/floorbook/engine/Side;"), (0, .methodref 8 14), (0, .nameAndType 15 16), (0, u "accepts"), (0, u "(JJ)Z"), (0, .fieldref 8 18), (0, .nameAndType 19 12), (0, u "SELL"), (0, .class_ 21), (0, u "io/floorbook/engine/SideAcceptsPinLaw"), (2, u "law"), (0, u "(IJJI)Z")] 3

def k1m0 : Method := { name := "<init>", desc := "()V", sig := { parameters := [], returnType := none }, accessFlags := 1, code := none }
def k1c1 : Code := { maxStack := 5, maxLocals := 14, code := code, exceptionTable := #[], attributes := #[] }
def k1m1 : Method := { name := "law", desc := "(IJJI)Z", sig := { parameters := [.int, .long, .long, .int], returnType := some .boolean }, accessFlags := 9, code := some k1c1 }
/-- io/floorbook/engine/SideAcceptsPinLaw -/
def k1 : Class := { plain "io/floorbook/engine/SideAcceptsPinLaw" (some 0) with
  accessFlags := 49
  interfaces := #[]
  cf := some (fileOf pool1 20 #[] #[{ accessFlags := 1, nameIndex := 5, descriptorIndex := 6, attributes := #[] }, { accessFlags := 9, nameIndex := 24, descriptorIndex := 25, attributes := #[] }] 49 2 #[] #[])
  fields := #[]
  methods := #[k1m0, k1m1]
  instanceTypes := #[]
  staticTypes := #[]
  resolved := Array.replicate 29 none
  statics := none }

def pool2 : Array CpInfo := pool [(1, .class_ 2), (0, u "java/lang/constant/Constable"), (0, .class_ 4), (0, u "java/lang/Object")] 6

/-- java/lang/constant/Constable -/
def k2 : Class := { plain "java/lang/constant/Constable" (some 0) with
  accessFlags := 1537
  interfaces := #[]
  cf := some (fileOf pool2 1 #[] #[] 1537 3 #[] #[])
  fields := #[]
  methods := #[]
  instanceTypes := #[]
  staticTypes := #[]
  resolved := Array.replicate 11 none
  statics := none }

def pool3 : Array CpInfo := pool [(1, .class_ 2), (0, u "java/lang/Comparable"), (0, .class_ 4), (0, u "java/lang/Object")] 7

/-- java/lang/Comparable -/
def k3 : Class := { plain "java/lang/Comparable" (some 0) with
  accessFlags := 1537
  interfaces := #[]
  cf := some (fileOf pool3 1 #[] #[] 1537 3 #[] #[])
  fields := #[]
  methods := #[]
  instanceTypes := #[]
  staticTypes := #[]
  resolved := Array.replicate 12 none
  statics := none }

def pool4 : Array CpInfo := pool [(1, .class_ 2), (0, u "java/io/Serializable"), (0, .class_ 4), (0, u "java/lang/Object")] 2

/-- java/io/Serializable -/
def k4 : Class := { plain "java/io/Serializable" (some 0) with
  accessFlags := 1537
  interfaces := #[]
  cf := some (fileOf pool4 1 #[] #[] 1537 3 #[] #[])
  fields := #[]
  methods := #[]
  instanceTypes := #[]
  staticTypes := #[]
  resolved := Array.replicate 7 none
  statics := none }

def pool5 : Array CpInfo := pool [(2, .class_ 4), (1, u "java/lang/Enum"), (0, u "name"), (0, u "Ljava/lang/String;"), (2, u "ordinal"), (0, u "I"), (1, .class_ 14), (1, u "java/lang/Object"), (4, u "hash"), (86, .class_ 108), (1, u "java/lang/Enum$EnumDesc"), (2, .class_ 112), (0, u "java/lang/constant/Constable"), (0, .class_ 114), (0, u "java/lang/Comparable"), (0, .class_ 116), (0, u "java/io/Serializable")] 87

/-- java/lang/Enum -/
def k5 : Class := { plain "java/lang/Enum" (some 0) with
  accessFlags := 1057
  interfaces := #[2, 3, 4]
  cf := some (fileOf pool5 2 #[.nestMembers #[106]] #[] 1057 12 #[111, 113, 115] #[{ accessFlags := 18, nameIndex := 5, descriptorIndex := 6, attributes := #[] }, { accessFlags := 18, nameIndex := 9, descriptorIndex := 10, attributes := #[] }, { accessFlags := 2, nameIndex := 19, descriptorIndex := 10, attributes := #[] }])
  fields := #[{ name := "name", type := (.object "java/lang/String"), accessFlags := 18, slot := 0, constantValue := 0 }, { name := "ordinal", type := .int, accessFlags := 18, slot := 1, constantValue := 0 }, { name := "hash", type := .int, accessFlags := 2, slot := 2, constantValue := 0 }]
  methods := #[]
  instanceTypes := #[(.object "java/lang/String"), .int, .int]
  staticTypes := #[]
  resolved := Array.replicate 204 none
  statics := none }

def pool6 : Array CpInfo := pool [(1, .class_ 2), (0, u "io/floorbook/engine/Side"), (0, .fieldref 1 4), (0, .nameAndType 5 6), (0, u "BUY"), (0, u "Lio/floorbook/engine/Side;"), (2, u "SELL"), (2, u "$VALUES"), (0, u "[Lio/floorbook/engine/Side;"), (6, .class_ 22), (1, u "java/lang/Enum"), (34, u "accepts"), (0, u "(JJ)Z")] 6

def k6c0 : Code := { maxStack := 4, maxLocals := 5, code := prog_31_method_5_code, exceptionTable := #[], attributes := #[] }
def k6m0 : Method := { name := "accepts", desc := "(JJ)Z", sig := { parameters := [.long, .long], returnType := some .boolean }, accessFlags := 1, code := some k6c0 }
/-- io/floorbook/engine/Side -/
def k6 : Class := { plain "io/floorbook/engine/Side" (some 5) with
  accessFlags := 16433
  interfaces := #[]
  cf := some (fileOf pool6 1 #[] #[{ accessFlags := 1, nameIndex := 57, descriptorIndex := 58, attributes := #[] }] 16433 20 #[] #[{ accessFlags := 16409, nameIndex := 5, descriptorIndex := 6, attributes := #[] }, { accessFlags := 16409, nameIndex := 9, descriptorIndex := 6, attributes := #[] }, { accessFlags := 4122, nameIndex := 12, descriptorIndex := 13, attributes := #[] }])
  fields := #[{ name := "BUY", type := (.object "io/floorbook/engine/Side"), accessFlags := 16409, slot := 0, constantValue := 0 }, { name := "SELL", type := (.object "io/floorbook/engine/Side"), accessFlags := 16409, slot := 1, constantValue := 0 }, { name := "$VALUES", type := (.array (.object "io/floorbook/engine/Side")), accessFlags := 4122, slot := 2, constantValue := 0 }]
  methods := #[k6m0]
  instanceTypes := #[(.object "java/lang/String"), .int, .int]
  staticTypes := #[(.object "io/floorbook/engine/Side"), (.object "io/floorbook/engine/Side"), (.array (.object "io/floorbook/engine/Side"))]
  resolved := Array.replicate 65 none
  statics := some 0 }

def pool7 : Array CpInfo := pool [(1, u "java/lang/Cloneable"), (0, .class_ 1), (0, u "java/lang/Object"), (0, .class_ 3)] 3

/-- java/lang/Cloneable -/
def k7 : Class := { plain "java/lang/Cloneable" (some 0) with
  accessFlags := 1537
  interfaces := #[]
  cf := some (fileOf pool7 2 #[] #[] 1537 4 #[] #[])
  fields := #[]
  methods := #[]
  instanceTypes := #[]
  staticTypes := #[]
  resolved := Array.replicate 8 none
  statics := none }

/-- the primitive byte -/
def k8 : Class := { plain "byte" none with kind := .primitive 'B', accessFlags := 0x411 }
/-- [B -/
def k9 : Class := { plain "[B" (some 0) with kind := .array 8 .byte, interfaces := #[7, 4], accessFlags := 1041 }

/-- the primitive int -/
def k10 : Class := { plain "int" none with kind := .primitive 'I', accessFlags := 0x411 }
/-- [I -/
def k11 : Class := { plain "[I" (some 0) with kind := .array 10 .int, interfaces := #[7, 4], accessFlags := 1041 }

def heap : Heap := #[{ cls := 6, slots := #[.ref 1, .ref 2, .null], vm := .statics 6 },
  { cls := 6, slots := #[.null, .int 0, .int 0], vm := .none },
  { cls := 6, slots := #[.null, .int 1, .int 0], vm := .none }]
def classes : Array Class := #[k0, k1, k2, k3, k4, k5, k6, k7, k8, k9, k10, k11]
def interned : List (Array UInt16 × Addr) := []
def slotsUsed : Nat := 9
def theMethod : MethodId := ⟨1, 1⟩
def args0 : Array Value := #[.int 5, .long 7, .long 0, .int 5]
def aboutOver (below : List Frame) : State where
  vm := { classes := classes, interned := interned.toArray }
  heap := heap
  slotsUsed := slotsUsed
  threads := #[{ frames := .invoking theMethod args0 :: below }]
def below0 : List Frame := [.native { method := ⟨0, 0⟩, args := #[] }]
def about1 : State := aboutOver below0
def p0 : Program := .bare "" "" ""
def e0 : Env := launch0.env 0 0 0
theorem w_frames : about1.frames = Frame.invoking theMethod args0 :: below0 := rfl
set_option maxRecDepth 65536 in
theorem w_args : argsFit about1.vm theMethod args0 = true := by decide +kernel
set_option maxRecDepth 65536 in
theorem w_heap : heapFits about1 = true := by decide +kernel
set_option maxRecDepth 65536 in
theorem w_runnable : about1.curStatus? = some .runnable := by decide +kernel
set_option maxRecDepth 65536 in
theorem w_alone : about1.alone = true := by decide +kernel
set_option maxRecDepth 65536 in
theorem w_named : about1.methodNamed? x = some theMethod := by decide +kernel
set_option maxRecDepth 65536 in
theorem w_hears : about1.hears theMethod below0 = true := by decide +kernel
set_option maxRecDepth 65536 in
theorem w_ripe : about1.ripe theMethod args0 below0 = true := by decide +kernel
theorem w_running : about1.status = .running := rfl
set_option maxRecDepth 65536 in
theorem w_room : about1.hasRoom e0.platform room_1 = true :=
  launch0.hasRoom_least _ room_1 (by decide +kernel) (by decide +kernel) (by decide +kernel) (by decide +kernel) (by decide +kernel) (by decide +kernel)
theorem allAtoms_all (ts : List Jvm.Cond) (a : Array Jvm.Value) (st : Jvm.State) : (allAtoms ts).before a st = ts.all (fun c => c.before a st) := by
  induction ts with
  | nil => rfl
  | cons c t ih =>
    show (Jvm.Cond.and c (allAtoms t)).before a st = _
    rw [Jvm.Cond.before_and, ih, List.all_cons]
def words1 : List Jvm.Cond := Jvm.Cond.code x code maxLocals ret :: tables_1
/-- a 'code' word, met by the world's own term for the bytes: nothing is compared byte by byte -/
theorem code_word {y : MethodName} {bytes : ByteArray} {mx : Nat} {rt : Option FieldType} {a : Array Value} {s : State} {m : MethodId} {meth : Method} {c : Code} (h1 : s.methodNamed? y = some m) (h2 : s.vm.method? m = some meth) (h3 : meth.code = some c) (h4 : c.code = bytes)
    (h5 : (c.maxLocals == mx && c.exceptionTable.isEmpty && decide (c.maxStack ≤ mostOperands) && decide (meth.sig.returnType = rt) && !meth.locks && decide (parseMethodDescriptor y.desc = some meth.sig)) = true) : (Jvm.Cond.code y bytes mx rt).before a s = true := by
  simp only [Bool.and_eq_true, beq_iff_eq, Bool.not_eq_true', decide_eq_true_eq] at h5
  obtain ⟨⟨⟨⟨⟨g1, g2⟩, g3⟩, g4⟩, g5⟩, g6⟩ := h5
  simp [Cond.before, Cond.holds, Cond.value, h1, h2, h3, h4, g1, g2, g3, g4, g5, g6]
def isCode : Jvm.Cond → Bool
  | .code _ _ _ _ => true
  | _ => false
theorem all_split {L : List Jvm.Cond} {P : Jvm.Cond → Bool} (h1 : L.all (fun c => isCode c || P c) = true) (h2 : ∀ c ∈ L.filter isCode, P c = true) : L.all P = true := by
  refine List.all_eq_true.mpr fun c hc => ?_
  have h := List.all_eq_true.mp h1 c hc
  rcases Bool.eq_false_or_eq_true (isCode c) with hi | hi
  · exact h2 c (List.mem_filter.mpr ⟨hc, hi⟩)
  · simpa [hi] using h
set_option maxRecDepth 65536 in
theorem w_c0 : (Jvm.Cond.code x code maxLocals ret).before args0 about1 = true := code_word (m := ⟨1, 1⟩) (meth := k1m1) (c := k1c1) (by decide +kernel) rfl rfl rfl (by decide +kernel)
set_option maxRecDepth 65536 in
theorem w_c1 : (Jvm.Cond.code ({ cls := "io/floorbook/engine/Side", name := "accepts", desc := "(JJ)Z" } : Jvm.MethodName) prog_31_method_5_code (5 : Nat) (Option.some Jvm.ClassFile.FieldType.boolean)).before args0 about1 = true := code_word (m := ⟨6, 0⟩) (meth := k6m0) (c := k6c0) (by decide +kernel) rfl rfl rfl (by decide +kernel)
def codes1 : List Jvm.Cond := [Jvm.Cond.code x code maxLocals ret, Jvm.Cond.code ({ cls := "io/floorbook/engine/Side", name := "accepts", desc := "(JJ)Z" } : Jvm.MethodName) prog_31_method_5_code (5 : Nat) (Option.some Jvm.ClassFile.FieldType.boolean)]
set_option maxRecDepth 65536 in
theorem codes_eq : words1.filter isCode = codes1 := rfl
theorem w_codes : ∀ c ∈ words1.filter isCode, c.before args0 about1 = true := by
  rw [codes_eq]
  intro c hc
  simp only [codes1, List.mem_cons, List.not_mem_nil, or_false] at hc
  rcases hc with rfl | rfl
  · exact w_c0
  · exact w_c1
set_option maxRecDepth 65536 in
theorem w_t1 : words1.all (fun c => isCode c || c.before args0 about1) = true := by decide +kernel
theorem w_tables : (allAtoms (Jvm.Cond.code x code maxLocals ret :: tables_1)).before args0 about1 = true := by
  rw [allAtoms_all]
  show words1.all (fun c => c.before args0 about1) = true
  refine all_split ?_ w_codes
  rw [w_t1]
set_option maxRecDepth 65536 in
theorem w_case : (Jvm.Cond.and given_1 narrow_1).before args0 about1 = true := by decide +kernel
theorem w_applies : (headSpec (Jvm.Cond.code x code maxLocals ret :: tables_1) room_1).applies x e0.platform about1 = true :=
  (Spec.applies_iff w_frames).mpr ⟨w_running, w_runnable, w_alone, w_named, w_hears, w_ripe, w_room, w_tables⟩
theorem atStart : AtStart classFile x code maxLocals ret World_1 tables_1 room_1 Calls_1 rest_1 Pre_1 launch0 p0 e0 about1 theMethod args0 below0 :=
  ⟨lists_1, trivial, launch0.admits_env _ _ _, launch0.least_env, fairChoices_fair.cas, fairChoices_fair.clock, w_frames, w_args, w_heap, w_applies, trivial, trivial, w_case⟩
end start1
theorem witness_1 : WitnessClaimed_1 := ⟨start1.p0, start1.e0, start1.about1, start1.theMethod, start1.args0, start1.below0, start1.atStart⟩
end Jvm.Pilot.@@N@@
