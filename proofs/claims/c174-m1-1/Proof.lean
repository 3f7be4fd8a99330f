import JvmDerived
import JvmDerived.Pilot.@@N@@Statement
import JvmDerived.Pilot.@@N@@Code
set_option linter.unusedVariables false
set_option linter.unusedSimpArgs false
@@BLOCK:NumsL.lean.txt@@
namespace Jvm.RoadKit
open Sem ClassFile Op Lib Jvm.Stand Jvm.Free Jvm.LawKit
section New
variable {p : Program} {l : Launch} {e : Env} {R : Room} {s : State} {m : MethodId} {args : Array Value} {below : List Frame} {meth : Method} {c : Code} {T : State} {locs : List Loc} {cells slots : Nat}
theorem retI (X : Stand p l e R s m args below meth c T locs cells slots) (hx : p.tables.exec = Jvm.exec) {pc : Nat} {Ls : Array Slot} {z : Int32} {rest : List Value} (hret : meth.sig.returnType = some .int) (hd : decode c.code pc = .ok (.ireturn, 1)) {fs : List Frame}
    (hl : ∀ (f : JFrame) (acts : List Action), f.method = m → f.locked = none → f.entered = [] → (doReturn e (T.setTop f) acts (some (.int z))).1 = T.setFrames fs) : Steps p.tables e below (T.setTop (mkF m pc Ls (.int z :: rest))) (T.setFrames fs) := by
  have hm' : T.vm.method? m = some meth := X.method'
  have hn : narrow .int (.int z) = .int z := rfl
  show Steps p.tables e below (T.setTop { method := m, pc := pc, locals := Ls, stack := _ :: rest, locked := none }) _
  jvm_step X.here [X.here.top, hx, hd, hm', hret, hn]
  first | (intro acts; rw [hl _ acts rfl rfl rfl]) | rw [hl _ _ rfl rfl rfl]
  exact Steps.refl _
end New
end Jvm.RoadKit
namespace Jvm.Pilot.@@N@@
open Jvm Jvm.ClassFile Sem Op Lib Jvm.Free Jvm.Stand Jvm.LawKit Jvm.RoadKit Bundle Jvm.Pilot.@@N@@.Jvm.D
/-- from here the run comes to an end of which G holds -/
def Go (tb : Tables) (e : Env) (below : List Frame) (G : State → Outcome → Prop) (U : State) : Prop := ∃ t o, Steps tb e below U t ∧ G t o
theorem Go.st {tb : Tables} {e : Env} {below : List Frame} {G : State → Outcome → Prop} {U U' : State} (h : ∀ t, Steps tb e below U' t → Steps tb e below U t) (k : Go tb e below G U') : Go tb e below G U :=
  let ⟨t, o, a, b⟩ := k
  ⟨t, o, h t a, b⟩
theorem Go.start {tb : Tables} {e : Env} {below : List Frame} {G0 : State → Outcome → Prop} {U : State} (h : ∀ G, G = G0 → Go tb e below G U) : Go tb e below G0 U := h _ rfl
theorem Go.join {tb : Tables} {e : Env} {below : List Frame} {G : State → Outcome → Prop} {U : State} {α : Type} {F : α → State} (k : ∀ z, Go tb e below G (F z)) (h : (∀ z, Go tb e below G (F z)) → Go tb e below G U) : Go tb e below G U := h k
theorem Go.joinR {tb : Tables} {e : Env} {below : List Frame} {G : State → Outcome → Prop} {U : State} {α : Type} {F : α → State} {R : α → Prop} (k : ∀ z, R z → Go tb e below G (F z)) (h : (∀ z, R z → Go tb e below G (F z)) → Go tb e below G U) : Go tb e below G U := h k
theorem own_lrem {tb : Tables} {e : Env} {below : List Frame} {T target : State} {g : JFrame} {n : Nat} {x y : Int64} {rest : List Value} (k : Steps tb e below (T.setTop { g with pc := n, stack := .long (x % y) :: rest }) target) :
    Steps tb e below (T.setTop { g with pc := n, stack := .long (x - (x / y) * y) :: rest }) target := by
  rw [lrem_mod]
  exact k
theorem i64_addc (x y : Int64) : (x + y).toInt = x.toInt + y.toInt ∧ -2 ^ 63 ≤ x.toInt + y.toInt ∧ x.toInt + y.toInt < 2 ^ 63 ∨ (x + y).toInt = x.toInt + y.toInt - 2 ^ 64 ∧ 2 ^ 63 ≤ x.toInt + y.toInt ∨ (x + y).toInt = x.toInt + y.toInt + 2 ^ 64 ∧ x.toInt + y.toInt < -2 ^ 63 := by
  have h := Int64.toInt_add x y
  have a1 := Int64.le_toInt x
  have a2 := Int64.toInt_lt x
  have b1 := Int64.le_toInt y
  have b2 := Int64.toInt_lt y
  rw [Int.bmod_def] at h
  split at h <;> omega
theorem i64_subc (x y : Int64) : (x - y).toInt = x.toInt - y.toInt ∧ -2 ^ 63 ≤ x.toInt - y.toInt ∧ x.toInt - y.toInt < 2 ^ 63 ∨ (x - y).toInt = x.toInt - y.toInt - 2 ^ 64 ∧ 2 ^ 63 ≤ x.toInt - y.toInt ∨ (x - y).toInt = x.toInt - y.toInt + 2 ^ 64 ∧ x.toInt - y.toInt < -2 ^ 63 := by
  have h := Int64.toInt_sub x y
  have a1 := Int64.le_toInt x
  have a2 := Int64.toInt_lt x
  have b1 := Int64.le_toInt y
  have b2 := Int64.toInt_lt y
  rw [Int.bmod_def] at h
  split at h <;> omega
theorem i32_i2c (x : Int32) : (x.toUInt32.toUInt16.toUInt32.toInt32).toInt = x.toInt % 65536 := by
  have h1 : (x.toUInt32.toUInt16.toUInt32.toInt32).toInt = ((x.toUInt32.toUInt16.toUInt32).toNat : Int).bmod (2 ^ 32) := by
    rw [← Int32.toInt_toBitVec, BitVec.toInt_eq_toNat_bmod]; rfl
  have h2 : (x.toUInt32.toUInt16.toUInt32).toNat = x.toBitVec.toNat % 65536 := by
    simp [UInt32.toNat_toUInt16, UInt16.toNat_toUInt32]; rfl
  have h3 : x.toInt = (x.toBitVec.toNat : Int).bmod (2 ^ 32) := by
    rw [← Int32.toInt_toBitVec, BitVec.toInt_eq_toNat_bmod]
  have h4 := x.toBitVec.isLt
  rw [h1, h2, h3, Int.bmod_def, Int.bmod_def]
  split <;> split <;> omega
theorem i32_addc (x y : Int32) : (x + y).toInt = x.toInt + y.toInt ∧ -2 ^ 31 ≤ x.toInt + y.toInt ∧ x.toInt + y.toInt < 2 ^ 31 ∨ (x + y).toInt = x.toInt + y.toInt - 2 ^ 32 ∧ 2 ^ 31 ≤ x.toInt + y.toInt ∨ (x + y).toInt = x.toInt + y.toInt + 2 ^ 32 ∧ x.toInt + y.toInt < -2 ^ 31 := by
  have h := Int32.toInt_add x y
  have a1 := Int32.le_toInt x
  have a2 := Int32.toInt_lt x
  have b1 := Int32.le_toInt y
  have b2 := Int32.toInt_lt y
  rw [Int.bmod_def] at h
  split at h <;> omega
theorem i32_subc (x y : Int32) : (x - y).toInt = x.toInt - y.toInt ∧ -2 ^ 31 ≤ x.toInt - y.toInt ∧ x.toInt - y.toInt < 2 ^ 31 ∨ (x - y).toInt = x.toInt - y.toInt - 2 ^ 32 ∧ 2 ^ 31 ≤ x.toInt - y.toInt ∨ (x - y).toInt = x.toInt - y.toInt + 2 ^ 32 ∧ x.toInt - y.toInt < -2 ^ 31 := by
  have h := Int32.toInt_sub x y
  have a1 := Int32.le_toInt x
  have a2 := Int32.toInt_lt x
  have b1 := Int32.le_toInt y
  have b2 := Int32.toInt_lt y
  rw [Int.bmod_def] at h
  split at h <;> omega
theorem own_eq32 {a b : Int32} (h : a.toInt = b.toInt) : a = b := Int32.toInt_inj.mp h
theorem own_eq64 {a b : Int64} (h : a.toInt = b.toInt) : a = b := Int64.toInt_inj.mp h
theorem own_lt64 {a b : Int64} (h : a.toInt < b.toInt) : a < b := Int64.lt_iff_toInt_lt.mpr h
theorem own_lt32 {a b : Int32} (h : a.toInt < b.toInt) : a < b := Int32.lt_iff_toInt_lt.mpr h
theorem own_nlt64 {a b : Int64} (h : b.toInt ≤ a.toInt) : ¬ a < b := fun z => by have := Int64.lt_iff_toInt_lt.mp z; omega
theorem own_nlt32 {a b : Int32} (h : b.toInt ≤ a.toInt) : ¬ a < b := fun z => by have := Int32.lt_iff_toInt_lt.mp z; omega
theorem own_ne32 {a b : Int32} (h : a.toInt ≠ b.toInt) : ¬ a = b := fun z => h (by rw [z])
theorem own_ne64 {a b : Int64} (h : a.toInt ≠ b.toInt) : ¬ a = b := fun z => h (by rw [z])
theorem pn_0 : plainName "com/example/clotho/clotho/jsonpath/Budget" = true := by first | (simp [plainName, overriddenIn]; done) | decide +kernel
theorem d_binit_0 : decode prog_3_method_1_code 0 = .ok (.aload_n 0, 1) := by decide +kernel
theorem d_binit_1 : decode prog_3_method_1_code 1 = .ok (.invokespecial 1, 3) := by decide +kernel
theorem d_binit_4 : decode prog_3_method_1_code 4 = .ok (.return_, 1) := by decide +kernel
theorem ef_binit (m : MethodId) (ao : Addr) : entryFrame m #[(.ref ao)] 1 = mkF m 0 #[.val (.ref ao)] [] := by first | (simp [entryFrame, mkF, argsToLocals, Value.category]; done) | rfl
def Q_binit (Z : State) (ao : Addr) (h0 : Heap) (n0 : Nat) (v : Option Value) (h : Heap) (L : List Loc) : Prop := v = none ∧ Fr n0 L ∧ h = h0
set_option maxRecDepth 65536 in
set_option maxHeartbeats 40000000 in
theorem rm_binit (l : Launch) (Z : State) (a0 : Array Value) (hw : ∀ d ∈ tables_1, d.before a0 Z = true) (ws : List Jvm.Cond) (ao : Addr) (h0 : Heap) (n0 : Nat) (Z0 : n0 ≤ h0.size)  :
    MetFree l (⟨"com/example/clotho/clotho/jsonpath/Budget", "<init>", "()V"⟩ : MethodName) (head1 (Jvm.Cond.code (⟨"com/example/clotho/clotho/jsonpath/Budget", "<init>", "()V"⟩ : MethodName) prog_3_method_1_code 1 none :: ws) ({ frames := 1, cells := 0, slots := 0, locals := 12 } : Room)) (fun a U => a = #[(.ref ao)] ∧ Z.Warmed39 U.vm ∧ U.heap = h0) (fun _ _ _ _ _ => True) (fun _ U o U' => ∃ v L, o = .returned v ∧ Q_binit Z ao h0 n0 v U'.heap L ∧ FrameEnd U o U' L ({ frames := 1, cells := 0, slots := 0, locals := 12 } : Room).cells ({ frames := 1, cells := 0, slots := 0, locals := 12 } : Room).slots) := by
  refine MetFree.of_bodySF (plainFor_of_name pn_0) hisR ?_
  intro p e s m args below meth c s₁ Bd hml0 hP hK
  obtain ⟨rfl, hZ, hh⟩ := hP
  have hx := Bd.exec
  have hby := Bd.bytes
  have hml : c.maxLocals = 1 := hml0
  have hown : s.vm.findClass "com/example/clotho/clotho/jsonpath/Budget" = some m.cls := findClass_of_methodNamed Bd.named
  have hnm := (name_of_methodNamed Bd.named Bd.method).1
  have X0 : Stand p l e ({ frames := 1, cells := 0, slots := 0, locals := 12 } : Room) s m #[(.ref ao)] below meth c s₁ [] 0 0 := Stand.of_body Bd
  have e0 : s₁.heap = h0 := by rw [← hh, Bd.state]; rfl
  have N0 := Fr.nil n0
  have K0 : Keep h0 h0 [] := Keep.refl h0 []
  show Go p.tables e below _ (s₁.setTop (entryFrame m #[(.ref ao)] 1))
  refine Go.start ?_
  intro G hG
  refine Go.st (fun t k => castTop (ef_binit m ao) k) ?_
  show Go p.tables e below _ (s₁.setTop (mkF m 0 #[.val (.ref ao)] []))
  refine Go.st (fun _ k => XS.aloadN X0.here hx rfl (hb hby d_binit_0) rfl rfl k) ?_
  show Go p.tables e below _ (s₁.setTop (mkF m 1 #[.val (.ref ao)] [(.ref ao)]))
  obtain ⟨T1, X1, e1, st1⟩ := initO X0 hx hZ hown (hw _ (List.mem_of_getElem? (i := 12) rfl)) (hw _ (List.mem_of_getElem? (i := 13) rfl)) (hw _ (List.mem_of_getElem? (i := 14) rfl)) e0 (g := (mkF m 1 #[.val (.ref ao)] [(.ref ao)])) rfl (by rw [hml]; rfl) rfl (hb hby d_binit_1) (by decide) (W := 0) (by show 2 * 0 + _ ≤ _; exact Nat.le_of_eq rfl) (by decide)
  refine Go.st st1 ?_
  show Go p.tables e below _ (T1.setTop (mkF m 4 #[.val (.ref ao)] []))
  subst hG
  obtain ⟨fs, hr, hrun, hended, hW, hsame⟩ := X1.leave (v := none) (fun _ => rfl)
  refine ⟨_, _, ?_, hrun, hended, _, _, rfl, ?_, ⟨_, rfl⟩, hW, hsame.mono (by decide) (by decide)⟩
  · exact X1.returnOut hx Bd.returns (hb hby d_binit_4) hr
  · show Q_binit Z ao h0 n0 _ T1.heap _
    rw [e1]
    exact ⟨rfl, N0, rfl⟩
theorem d_touched_0 : decode prog_3_method_2_code 0 = .ok (.aload_n 0, 1) := by decide +kernel
theorem d_touched_1 : decode prog_3_method_2_code 1 = .ok (.getfield 7, 3) := by decide +kernel
theorem d_touched_4 : decode prog_3_method_2_code 4 = .ok (.lconst 0, 1) := by decide +kernel
theorem d_touched_5 : decode prog_3_method_2_code 5 = .ok (.lcmp, 1) := by decide +kernel
theorem d_touched_6 : decode prog_3_method_2_code 6 = .ok (.ifCond .le 7, 3) := by decide +kernel
theorem d_touched_9 : decode prog_3_method_2_code 9 = .ok (.iconst 1, 1) := by decide +kernel
theorem d_touched_10 : decode prog_3_method_2_code 10 = .ok (.goto 4, 3) := by decide +kernel
theorem d_touched_13 : decode prog_3_method_2_code 13 = .ok (.iconst 0, 1) := by decide +kernel
theorem d_touched_14 : decode prog_3_method_2_code 14 = .ok (.ireturn, 1) := by decide +kernel
theorem ef_touched (m : MethodId) (ao : Addr) : entryFrame m #[(.ref ao)] 1 = mkF m 0 #[.val (.ref ao)] [] := by first | (simp [entryFrame, mkF, argsToLocals, Value.category]; done) | rfl
def Q_touched (Z : State) (ao : Addr) (wst : Int64) (h0 : Heap) (n0 : Nat) (v : Option Value) (h : Heap) (L : List Loc) : Prop := ∃ rr : Int32, v = some (.int rr) ∧ Fr n0 L ∧ h = h0 ∧ (rr.toInt = 1 ∧ 0 < wst.toInt ∨ rr.toInt = 0 ∧ wst.toInt ≤ 0)
set_option maxRecDepth 65536 in
set_option maxHeartbeats 40000000 in
theorem rm_touched (l : Launch) (Z : State) (a0 : Array Value) (hw : ∀ d ∈ tables_1, d.before a0 Z = true) (ws : List Jvm.Cond) (ao : Addr) (wst : Int64) (h0 : Heap) (n0 : Nat) (Z0 : n0 ≤ h0.size) (P0 : Fld Z h0 ao "com/example/clotho/clotho/jsonpath/Budget" "steps" "J" (.long wst)) :
    MetFree l (⟨"com/example/clotho/clotho/jsonpath/Budget", "isTouched", "()Z"⟩ : MethodName) (head1 (Jvm.Cond.code (⟨"com/example/clotho/clotho/jsonpath/Budget", "isTouched", "()Z"⟩ : MethodName) prog_3_method_2_code 1 (some .boolean) :: ws) ({ frames := 0, cells := 0, slots := 0, locals := 0 } : Room)) (fun a U => a = #[(.ref ao)] ∧ Z.Warmed39 U.vm ∧ U.heap = h0) (fun _ _ _ _ _ => True) (fun _ U o U' => ∃ v L, o = .returned v ∧ Q_touched Z ao wst h0 n0 v U'.heap L ∧ FrameEnd U o U' L ({ frames := 0, cells := 0, slots := 0, locals := 0 } : Room).cells ({ frames := 0, cells := 0, slots := 0, locals := 0 } : Room).slots) := by
  refine MetFree.of_bodySF (plainFor_of_name pn_0) hisR ?_
  intro p e s m args below meth c s₁ Bd hml0 hP hK
  obtain ⟨rfl, hZ, hh⟩ := hP
  have hx := Bd.exec
  have hby := Bd.bytes
  have hml : c.maxLocals = 1 := hml0
  have hown : s.vm.findClass "com/example/clotho/clotho/jsonpath/Budget" = some m.cls := findClass_of_methodNamed Bd.named
  have hnm := (name_of_methodNamed Bd.named Bd.method).1
  have X0 : Stand p l e ({ frames := 0, cells := 0, slots := 0, locals := 0 } : Room) s m #[(.ref ao)] below meth c s₁ [] 0 0 := Stand.of_body Bd
  have e0 : s₁.heap = h0 := by rw [← hh, Bd.state]; rfl
  have N0 := Fr.nil n0
  have K0 : Keep h0 h0 [] := Keep.refl h0 []
  show Go p.tables e below _ (s₁.setTop (entryFrame m #[(.ref ao)] 1))
  refine Go.start ?_
  intro G hG
  refine Go.st (fun t k => castTop (ef_touched m ao) k) ?_
  show Go p.tables e below _ (s₁.setTop (mkF m 0 #[.val (.ref ao)] []))
  refine Go.st (fun _ k => XS.aloadN X0.here hx rfl (hb hby d_touched_0) rfl rfl k) ?_
  show Go p.tables e below _ (s₁.setTop (mkF m 1 #[.val (.ref ao)] [(.ref ao)]))
  obtain ⟨T1, X1, e1, st1⟩ := getF X0 hx hZ hown (host := "") (Or.inl (hw _ (List.mem_of_getElem? (i := 25) rfl))) Via.refl e0 P0 (g := (mkF m 1 #[.val (.ref ao)] [(.ref ao)])) rfl rfl (hb hby d_touched_1)
  refine Go.st st1 ?_
  show Go p.tables e below _ (T1.setTop (mkF m 4 #[.val (.ref ao)] [(.long wst)]))
  refine Go.st (fun _ k => XS.lconst X1.here hx rfl (hb hby d_touched_4) k) ?_
  show Go p.tables e below _ (T1.setTop (mkF m 5 #[.val (.ref ao)] [(.long (0 : Int64)), (.long wst)]))
  refine Go.st (fun _ k => Jvm.Free.XT.lcmp X1.here hx rfl (hb hby d_touched_5) rfl k) ?_
  show Go p.tables e below _ (T1.setTop (mkF m 6 #[.val (.ref ao)] [(.int (Jvm.Free.XT.cmpL wst (0 : Int64)))]))
  by_cases hc6 : (0 : Int64) < wst
  · skip
    have lt_064 : (0 : Int64).toInt = 0 := by decide
    have hi6 : ((0 : Int64)).toInt < (wst).toInt := Int64.lt_iff_toInt_lt.mp hc6
    refine Go.st (fun _ k => XS.ifNo X1.here hx rfl (hb hby d_touched_6) rfl (Jvm.Free.XT.ll_le_f hc6) k) ?_
    show Go p.tables e below _ (T1.setTop (mkF m 9 #[.val (.ref ao)] []))
    refine Go.st (fun _ k => XS.iconst X1.here hx rfl (hb hby d_touched_9) k) ?_
    show Go p.tables e below _ (T1.setTop (mkF m 10 #[.val (.ref ao)] [(.int (1 : Int32))]))
    refine Go.st (fun _ k => XS.goto X1.here hx rfl (pc0 := 10) (pc' := 14) rfl (hb hby d_touched_10) (by decide) (by decide) k) ?_
    show Go p.tables e below _ (T1.setTop (mkF m 14 #[.val (.ref ao)] [(.int (1 : Int32))]))
    have lt_132 : (1 : Int32).toInt = 1 := by decide
    subst hG
    obtain ⟨fs, hr, hrun, hended, hW, hsame⟩ := X1.leave (v := some (.int (nar .boolean (1 : Int32)))) (fun h => by rw [Bd.returns] at h; cases h)
    refine ⟨_, _, ?_, hrun, hended, _, _, rfl, ?_, ⟨_, rfl⟩, hW, hsame.mono (by decide) (by decide)⟩
    · exact retN X1 hx (t := .boolean) Bd.returns (by simp) (hb hby d_touched_14) hr
    · show Q_touched Z ao wst h0 n0 _ T1.heap _
      rw [e1]
      exact ⟨(1 : Int32), rfl, N0, rfl, (by omega)⟩
  · skip
    have lt_064 : (0 : Int64).toInt = 0 := by decide
    have hi6 : ¬ (((0 : Int64)).toInt < (wst).toInt) := fun z => hc6 (Int64.lt_iff_toInt_lt.mpr z)
    refine Go.st (fun _ k => XS.ifYes X1.here hx rfl (pc0 := 6) (pc' := 13) rfl (hb hby d_touched_6) rfl (Jvm.Free.XT.ll_le_t hc6) (by decide) (by decide) k) ?_
    show Go p.tables e below _ (T1.setTop (mkF m 13 #[.val (.ref ao)] []))
    refine Go.st (fun _ k => XS.iconst X1.here hx rfl (hb hby d_touched_13) k) ?_
    show Go p.tables e below _ (T1.setTop (mkF m 14 #[.val (.ref ao)] [(.int (0 : Int32))]))
    have lt_032 : (0 : Int32).toInt = 0 := by decide
    subst hG
    obtain ⟨fs, hr, hrun, hended, hW, hsame⟩ := X1.leave (v := some (.int (nar .boolean (0 : Int32)))) (fun h => by rw [Bd.returns] at h; cases h)
    refine ⟨_, _, ?_, hrun, hended, _, _, rfl, ?_, ⟨_, rfl⟩, hW, hsame.mono (by decide) (by decide)⟩
    · exact retN X1 hx (t := .boolean) Bd.returns (by simp) (hb hby d_touched_14) hr
    · show Q_touched Z ao wst h0 n0 _ T1.heap _
      rw [e1]
      exact ⟨(0 : Int32), rfl, N0, rfl, (by omega)⟩
theorem d_take_0 : decode prog_3_method_3_code 0 = .ok (.lload_n 1, 1) := by decide +kernel
theorem d_take_1 : decode prog_3_method_3_code 1 = .ok (.ldc2_w 13, 3) := by decide +kernel
theorem d_take_4 : decode prog_3_method_3_code 4 = .ok (.aload_n 0, 1) := by decide +kernel
theorem d_take_5 : decode prog_3_method_3_code 5 = .ok (.getfield 7, 3) := by decide +kernel
theorem d_take_8 : decode prog_3_method_3_code 8 = .ok (.lsub, 1) := by decide +kernel
theorem d_take_9 : decode prog_3_method_3_code 9 = .ok (.lcmp, 1) := by decide +kernel
theorem d_take_10 : decode prog_3_method_3_code 10 = .ok (.ifCond .gt 7, 3) := by decide +kernel
theorem d_take_13 : decode prog_3_method_3_code 13 = .ok (.iconst 1, 1) := by decide +kernel
theorem d_take_14 : decode prog_3_method_3_code 14 = .ok (.goto 4, 3) := by decide +kernel
theorem d_take_17 : decode prog_3_method_3_code 17 = .ok (.iconst 0, 1) := by decide +kernel
theorem d_take_18 : decode prog_3_method_3_code 18 = .ok (.istore_n 3, 1) := by decide +kernel
theorem d_take_19 : decode prog_3_method_3_code 19 = .ok (.iload_n 3, 1) := by decide +kernel
theorem d_take_20 : decode prog_3_method_3_code 20 = .ok (.ifCond .eq 13, 3) := by decide +kernel
theorem d_take_23 : decode prog_3_method_3_code 23 = .ok (.aload_n 0, 1) := by decide +kernel
theorem d_take_24 : decode prog_3_method_3_code 24 = .ok (.dup, 1) := by decide +kernel
theorem d_take_25 : decode prog_3_method_3_code 25 = .ok (.getfield 7, 3) := by decide +kernel
theorem d_take_28 : decode prog_3_method_3_code 28 = .ok (.lload_n 1, 1) := by decide +kernel
theorem d_take_29 : decode prog_3_method_3_code 29 = .ok (.ladd, 1) := by decide +kernel
theorem d_take_30 : decode prog_3_method_3_code 30 = .ok (.putfield 7, 3) := by decide +kernel
theorem d_take_33 : decode prog_3_method_3_code 33 = .ok (.iload_n 3, 1) := by decide +kernel
theorem d_take_34 : decode prog_3_method_3_code 34 = .ok (.ireturn, 1) := by decide +kernel
theorem ef_take (m : MethodId) (ao : Addr) (qc : Int64) : entryFrame m #[(.ref ao), (.long qc)] 4 = mkF m 0 #[.val (.ref ao), .val (.long qc), .second, .unset] [] := by first | (simp [entryFrame, mkF, argsToLocals, Value.category]; done) | rfl
def Q_take (Z : State) (ao : Addr) (qc : Int64) (wst : Int64) (h0 : Heap) (n0 : Nat) (v : Option Value) (h : Heap) (L : List Loc) : Prop := ∃ rr : Int32, ∃ wn : Int64, v = some (.int rr) ∧ Fr n0 L ∧ Keep h0 h [ao] ∧ Exa Z h ao "com/example/clotho/clotho/jsonpath/Budget" ∧ Fld Z h ao "com/example/clotho/clotho/jsonpath/Budget" "steps" "J" (.long wn) ∧ (rr.toInt = 1 ∧ wn.toInt = wst.toInt + qc.toInt ∧ wst.toInt + qc.toInt ≤ 10000000 ∨ rr.toInt = 0 ∧ wn.toInt = wst.toInt ∧ 10000000 < wst.toInt + qc.toInt)
set_option maxRecDepth 65536 in
set_option maxHeartbeats 40000000 in
theorem rm_take (l : Launch) (Z : State) (a0 : Array Value) (hw : ∀ d ∈ tables_1, d.before a0 Z = true) (ws : List Jvm.Cond) (ao : Addr) (qc : Int64) (wst : Int64) (h0 : Heap) (n0 : Nat) (Z0 : n0 ≤ h0.size) (P0 : Fld Z h0 ao "com/example/clotho/clotho/jsonpath/Budget" "steps" "J" (.long wst)) (P1 : Exa Z h0 ao "com/example/clotho/clotho/jsonpath/Budget") (P2 : n0 ≤ ao) (hst : 0 ≤ wst.toInt ∧ wst.toInt ≤ 10000000) (hqc : 0 ≤ qc.toInt) :
    MetFree l (⟨"com/example/clotho/clotho/jsonpath/Budget", "take", "(J)Z"⟩ : MethodName) (head1 (Jvm.Cond.code (⟨"com/example/clotho/clotho/jsonpath/Budget", "take", "(J)Z"⟩ : MethodName) prog_3_method_3_code 4 (some .boolean) :: ws) ({ frames := 0, cells := 0, slots := 0, locals := 0 } : Room)) (fun a U => a = #[(.ref ao), (.long qc)] ∧ Z.Warmed39 U.vm ∧ U.heap = h0) (fun _ _ _ _ _ => True) (fun _ U o U' => ∃ v L, o = .returned v ∧ Q_take Z ao qc wst h0 n0 v U'.heap L ∧ FrameEnd U o U' L ({ frames := 0, cells := 0, slots := 0, locals := 0 } : Room).cells ({ frames := 0, cells := 0, slots := 0, locals := 0 } : Room).slots) := by
  refine MetFree.of_bodySF (plainFor_of_name pn_0) hisR ?_
  intro p e s m args below meth c s₁ Bd hml0 hP hK
  obtain ⟨rfl, hZ, hh⟩ := hP
  have hx := Bd.exec
  have hby := Bd.bytes
  have hml : c.maxLocals = 4 := hml0
  have hown : s.vm.findClass "com/example/clotho/clotho/jsonpath/Budget" = some m.cls := findClass_of_methodNamed Bd.named
  have hnm := (name_of_methodNamed Bd.named Bd.method).1
  have X0 : Stand p l e ({ frames := 0, cells := 0, slots := 0, locals := 0 } : Room) s m #[(.ref ao), (.long qc)] below meth c s₁ [] 0 0 := Stand.of_body Bd
  have e0 : s₁.heap = h0 := by rw [← hh, Bd.state]; rfl
  have N0 := Fr.nil n0
  have K0 : Keep h0 h0 [ao] := Keep.refl h0 [ao]
  show Go p.tables e below _ (s₁.setTop (entryFrame m #[(.ref ao), (.long qc)] 4))
  refine Go.start ?_
  intro G hG
  refine Go.st (fun t k => castTop (ef_take m ao qc) k) ?_
  have hsb := i64_subc (10000000 : Int64) wst
  have had := i64_addc wst qc
  show Go p.tables e below _ (s₁.setTop (mkF m 0 #[.val (.ref ao), .val (.long qc), .second, .unset] []))
  refine Go.st (fun _ k => XS.lloadN X0.here hx rfl (hb hby d_take_0) rfl k) ?_
  show Go p.tables e below _ (s₁.setTop (mkF m 1 #[.val (.ref ao), .val (.long qc), .second, .unset] [(.long qc)]))
  refine Go.st (fun _ k => X0.ldc2Long hx hown (mvT hZ (hw _ (List.mem_of_getElem? (i := 24) rfl))) (g := (mkF m 1 #[.val (.ref ao), .val (.long qc), .second, .unset] [(.long qc)])) rfl (hb hby d_take_1) _ k) ?_
  show Go p.tables e below _ (s₁.setTop (mkF m 4 #[.val (.ref ao), .val (.long qc), .second, .unset] [(.long (10000000 : Int64)), (.long qc)]))
  refine Go.st (fun _ k => XS.aloadN X0.here hx rfl (hb hby d_take_4) rfl rfl k) ?_
  show Go p.tables e below _ (s₁.setTop (mkF m 5 #[.val (.ref ao), .val (.long qc), .second, .unset] [(.ref ao), (.long (10000000 : Int64)), (.long qc)]))
  obtain ⟨T1, X1, e1, st1⟩ := getF X0 hx hZ hown (host := "") (Or.inl (hw _ (List.mem_of_getElem? (i := 25) rfl))) Via.refl e0 P0 (g := (mkF m 5 #[.val (.ref ao), .val (.long qc), .second, .unset] [(.ref ao), (.long (10000000 : Int64)), (.long qc)])) rfl rfl (hb hby d_take_5)
  refine Go.st st1 ?_
  show Go p.tables e below _ (T1.setTop (mkF m 8 #[.val (.ref ao), .val (.long qc), .second, .unset] [(.long wst), (.long (10000000 : Int64)), (.long qc)]))
  refine Go.st (fun _ k => XS.lsub X1.here hx rfl (hb hby d_take_8) rfl k) ?_
  show Go p.tables e below _ (T1.setTop (mkF m 9 #[.val (.ref ao), .val (.long qc), .second, .unset] [(.long ((10000000 : Int64) - wst)), (.long qc)]))
  refine Go.st (fun _ k => Jvm.Free.XT.lcmp X1.here hx rfl (hb hby d_take_9) rfl k) ?_
  show Go p.tables e below _ (T1.setTop (mkF m 10 #[.val (.ref ao), .val (.long qc), .second, .unset] [(.int (Jvm.Free.XT.cmpL qc ((10000000 : Int64) - wst)))]))
  by_cases hc10 : ((10000000 : Int64) - wst) < qc
  · skip
    have lt_1000000064 : (10000000 : Int64).toInt = 10000000 := by decide
    have hi10 : (((10000000 : Int64) - wst)).toInt < (qc).toInt := Int64.lt_iff_toInt_lt.mp hc10
    refine Go.st (fun _ k => XS.ifYes X1.here hx rfl (pc0 := 10) (pc' := 17) rfl (hb hby d_take_10) rfl (Jvm.Free.XT.ll_gt_t hc10) (by decide) (by decide) k) ?_
    show Go p.tables e below _ (T1.setTop (mkF m 17 #[.val (.ref ao), .val (.long qc), .second, .unset] []))
    refine Go.st (fun _ k => XS.iconst X1.here hx rfl (hb hby d_take_17) k) ?_
    show Go p.tables e below _ (T1.setTop (mkF m 18 #[.val (.ref ao), .val (.long qc), .second, .unset] [(.int (0 : Int32))]))
    refine Go.st (fun _ k => XS.istoreN X1.here hx rfl (hb hby d_take_18) rfl (l' := #[.val (.ref ao), .val (.long qc), .second, .val (.int (0 : Int32))]) rfl k) ?_
    show Go p.tables e below _ (T1.setTop (mkF m 19 #[.val (.ref ao), .val (.long qc), .second, .val (.int (0 : Int32))] []))
    show Go p.tables e below _ (T1.setTop (mkF m 19 #[.val (.ref ao), .val (.long qc), .second, .val (.int (0 : Int32))] []))
    refine Go.st (fun _ k => XS.iloadN X1.here hx rfl (hb hby d_take_19) rfl k) ?_
    show Go p.tables e below _ (T1.setTop (mkF m 20 #[.val (.ref ao), .val (.long qc), .second, .val (.int (0 : Int32))] [(.int (0 : Int32))]))
    have hl2 : (0 : Int32) = (0 : Int32) := by decide
    refine Go.st (fun _ k => XS.ifYes X1.here hx rfl (pc0 := 20) (pc' := 33) rfl (hb hby d_take_20) rfl (Jvm.Free.XT.i0_eq_t hl2) (by decide) (by decide) k) ?_
    show Go p.tables e below _ (T1.setTop (mkF m 33 #[.val (.ref ao), .val (.long qc), .second, .val (.int (0 : Int32))] []))
    refine Go.st (fun _ k => XS.iloadN X1.here hx rfl (hb hby d_take_33) rfl k) ?_
    show Go p.tables e below _ (T1.setTop (mkF m 34 #[.val (.ref ao), .val (.long qc), .second, .val (.int (0 : Int32))] [(.int (0 : Int32))]))
    have lt_032 : (0 : Int32).toInt = 0 := by decide
    subst hG
    obtain ⟨fs, hr, hrun, hended, hW, hsame⟩ := X1.leave (v := some (.int (nar .boolean (0 : Int32)))) (fun h => by rw [Bd.returns] at h; cases h)
    refine ⟨_, _, ?_, hrun, hended, _, _, rfl, ?_, ⟨_, rfl⟩, hW, hsame.mono (by decide) (by decide)⟩
    · exact retN X1 hx (t := .boolean) Bd.returns (by simp) (hb hby d_take_34) hr
    · show Q_take Z ao qc wst h0 n0 _ T1.heap _
      rw [e1]
      exact ⟨(0 : Int32), wst, rfl, N0, K0, P1, P0, (by omega)⟩
  · skip
    have lt_1000000064 : (10000000 : Int64).toInt = 10000000 := by decide
    have hi10 : ¬ ((((10000000 : Int64) - wst)).toInt < (qc).toInt) := fun z => hc10 (Int64.lt_iff_toInt_lt.mpr z)
    refine Go.st (fun _ k => XS.ifNo X1.here hx rfl (hb hby d_take_10) rfl (Jvm.Free.XT.ll_gt_f hc10) k) ?_
    show Go p.tables e below _ (T1.setTop (mkF m 13 #[.val (.ref ao), .val (.long qc), .second, .unset] []))
    refine Go.st (fun _ k => XS.iconst X1.here hx rfl (hb hby d_take_13) k) ?_
    show Go p.tables e below _ (T1.setTop (mkF m 14 #[.val (.ref ao), .val (.long qc), .second, .unset] [(.int (1 : Int32))]))
    refine Go.st (fun _ k => XS.goto X1.here hx rfl (pc0 := 14) (pc' := 18) rfl (hb hby d_take_14) (by decide) (by decide) k) ?_
    show Go p.tables e below _ (T1.setTop (mkF m 18 #[.val (.ref ao), .val (.long qc), .second, .unset] [(.int (1 : Int32))]))
    refine Go.st (fun _ k => XS.istoreN X1.here hx rfl (hb hby d_take_18) rfl (l' := #[.val (.ref ao), .val (.long qc), .second, .val (.int (1 : Int32))]) rfl k) ?_
    show Go p.tables e below _ (T1.setTop (mkF m 19 #[.val (.ref ao), .val (.long qc), .second, .val (.int (1 : Int32))] []))
    show Go p.tables e below _ (T1.setTop (mkF m 19 #[.val (.ref ao), .val (.long qc), .second, .val (.int (1 : Int32))] []))
    refine Go.st (fun _ k => XS.iloadN X1.here hx rfl (hb hby d_take_19) rfl k) ?_
    show Go p.tables e below _ (T1.setTop (mkF m 20 #[.val (.ref ao), .val (.long qc), .second, .val (.int (1 : Int32))] [(.int (1 : Int32))]))
    have hl3 : ¬ ((1 : Int32) = (0 : Int32)) := by decide
    refine Go.st (fun _ k => XS.ifNo X1.here hx rfl (hb hby d_take_20) rfl (Jvm.Free.XT.i0_eq_f hl3) k) ?_
    show Go p.tables e below _ (T1.setTop (mkF m 23 #[.val (.ref ao), .val (.long qc), .second, .val (.int (1 : Int32))] []))
    refine Go.st (fun _ k => XS.aloadN X1.here hx rfl (hb hby d_take_23) rfl rfl k) ?_
    show Go p.tables e below _ (T1.setTop (mkF m 24 #[.val (.ref ao), .val (.long qc), .second, .val (.int (1 : Int32))] [(.ref ao)]))
    refine Go.st (fun _ k => XS.dup X1.here hx rfl (hb hby d_take_24) rfl rfl k) ?_
    show Go p.tables e below _ (T1.setTop (mkF m 25 #[.val (.ref ao), .val (.long qc), .second, .val (.int (1 : Int32))] [(.ref ao), (.ref ao)]))
    obtain ⟨T4, X4, e4, st4⟩ := getF X1 hx hZ hown (host := "") (Or.inl (hw _ (List.mem_of_getElem? (i := 25) rfl))) Via.refl e1 P0 (g := (mkF m 25 #[.val (.ref ao), .val (.long qc), .second, .val (.int (1 : Int32))] [(.ref ao), (.ref ao)])) rfl rfl (hb hby d_take_25)
    refine Go.st st4 ?_
    show Go p.tables e below _ (T4.setTop (mkF m 28 #[.val (.ref ao), .val (.long qc), .second, .val (.int (1 : Int32))] [(.long wst), (.ref ao)]))
    refine Go.st (fun _ k => XS.lloadN X4.here hx rfl (hb hby d_take_28) rfl k) ?_
    show Go p.tables e below _ (T4.setTop (mkF m 29 #[.val (.ref ao), .val (.long qc), .second, .val (.int (1 : Int32))] [(.long qc), (.long wst), (.ref ao)]))
    refine Go.st (fun _ k => XS.ladd X4.here hx rfl (hb hby d_take_29) rfl k) ?_
    show Go p.tables e below _ (T4.setTop (mkF m 30 #[.val (.ref ao), .val (.long qc), .second, .val (.int (1 : Int32))] [(.long (wst + qc)), (.ref ao)]))
    obtain ⟨T5, h5, X5, e5, W5, st5⟩ := putF X4 hx hZ hown (host := "") (Or.inl (hw _ (List.mem_of_getElem? (i := 25) rfl))) Via.refl e4 P0 P1 (Or.inl (hw _ (List.mem_of_getElem? (i := 26) rfl))) (hw _ (List.mem_of_getElem? (i := 7) rfl)) (ty := .long) (by decide) rfl rfl (g := (mkF m 30 #[.val (.ref ao), .val (.long qc), .second, .val (.int (1 : Int32))] [(.long (wst + qc)), (.ref ao)])) rfl rfl (hb hby d_take_30)
    refine Go.st st5 ?_
    have F6 : Fld Z h5 ao "com/example/clotho/clotho/jsonpath/Budget" "steps" "J" (.long (wst + qc)) := P0.same W5
    have F7 : Exa Z h5 ao "com/example/clotho/clotho/jsonpath/Budget" := P1.wr W5
    have K8 : Keep h0 h5 [ao] := K0.wr W5 (Or.inl (List.mem_of_getElem? (i := 0) rfl))
    have Z9 : n0 ≤ h5.size := Nat.le_trans Z0 (Nat.le_of_eq W5.size.symm)
    have N10 := Fr.snoc X5 N0 P2
    show Go p.tables e below _ (T5.setTop (mkF m 33 #[.val (.ref ao), .val (.long qc), .second, .val (.int (1 : Int32))] []))
    refine Go.st (fun _ k => XS.iloadN X5.here hx rfl (hb hby d_take_33) rfl k) ?_
    show Go p.tables e below _ (T5.setTop (mkF m 34 #[.val (.ref ao), .val (.long qc), .second, .val (.int (1 : Int32))] [(.int (1 : Int32))]))
    have lt_132 : (1 : Int32).toInt = 1 := by decide
    subst hG
    obtain ⟨fs, hr, hrun, hended, hW, hsame⟩ := X5.leave (v := some (.int (nar .boolean (1 : Int32)))) (fun h => by rw [Bd.returns] at h; cases h)
    refine ⟨_, _, ?_, hrun, hended, _, _, rfl, ?_, ⟨_, rfl⟩, hW, hsame.mono (by decide) (by decide)⟩
    · exact retN X5 hx (t := .boolean) Bd.returns (by simp) (hb hby d_take_34) hr
    · show Q_take Z ao qc wst h0 n0 _ T5.heap _
      rw [e5]
      exact ⟨(1 : Int32), (wst + qc), rfl, N10, K8, F7, F6, (by omega)⟩
theorem own_n {x v : Int64} (h : x &&& (9223372036854775807 : Int64) = v) : 0 ≤ v.toInt := by
  rw [← h, Jvm.Kit.i64_mask x (9223372036854775807 : Int64) (k := 63) (by decide) (by decide)]
  exact Int.emod_nonneg _ (by decide)
theorem own_rem64 {x y : Int64} (h : 0 ≤ x.toInt) (hy : 0 < y.toInt) : 0 ≤ (x % y).toInt := by
  rw [← lrem_mod, Jvm.Kit.i64_rem_nonneg h]
  exact Int.emod_nonneg _ (by omega)
theorem pn_1 : plainName "com/example/clotho/clotho/jsonpath/BudgetTakePinLaw" = true := by first | (simp [plainName, overriddenIn]; done) | decide +kernel
theorem d_pick_0 : decode method_2_code 0 = .ok (.lload_n 0, 1) := by decide +kernel
theorem d_pick_1 : decode method_2_code 1 = .ok (.ldc2_w 9, 3) := by decide +kernel
theorem d_pick_4 : decode method_2_code 4 = .ok (.land, 1) := by decide +kernel
theorem d_pick_5 : decode method_2_code 5 = .ok (.lstore_n 3, 1) := by decide +kernel
theorem d_pick_6 : decode method_2_code 6 = .ok (.iload_n 2, 1) := by decide +kernel
theorem d_pick_7 : decode method_2_code 7 = .ok (.ifCond .eq 5, 3) := by decide +kernel
theorem d_pick_10 : decode method_2_code 10 = .ok (.lload_n 3, 1) := by decide +kernel
theorem d_pick_11 : decode method_2_code 11 = .ok (.lreturn, 1) := by decide +kernel
theorem d_pick_12 : decode method_2_code 12 = .ok (.lload_n 3, 1) := by decide +kernel
theorem d_pick_13 : decode method_2_code 13 = .ok (.ldc2_w 13, 3) := by decide +kernel
theorem d_pick_16 : decode method_2_code 16 = .ok (.lrem, 1) := by decide +kernel
theorem d_pick_17 : decode method_2_code 17 = .ok (.lreturn, 1) := by decide +kernel
theorem ef_pick (m : MethodId) (qx : Int64) (ps : Int32) : entryFrame m #[(.long qx), (.int ps)] 5 = mkF m 0 #[.val (.long qx), .second, .val (.int ps), .unset, .unset] [] := by first | (simp [entryFrame, mkF, argsToLocals, Value.category]; done) | rfl
def Q_pick (Z : State) (qx : Int64) (ps : Int32) (h0 : Heap) (n0 : Nat) (v : Option Value) (h : Heap) (L : List Loc) : Prop := ∃ rr : Int64, v = some (.long rr) ∧ Fr n0 L ∧ h = h0 ∧ 0 ≤ rr.toInt
set_option maxRecDepth 65536 in
set_option maxHeartbeats 40000000 in
theorem rm_pick (l : Launch) (Z : State) (a0 : Array Value) (hw : ∀ d ∈ tables_1, d.before a0 Z = true) (ws : List Jvm.Cond) (qx : Int64) (ps : Int32) (h0 : Heap) (n0 : Nat) (Z0 : n0 ≤ h0.size)  :
    MetFree l (⟨"com/example/clotho/clotho/jsonpath/BudgetTakePinLaw", "pick", "(JI)J"⟩ : MethodName) (head1 (Jvm.Cond.code (⟨"com/example/clotho/clotho/jsonpath/BudgetTakePinLaw", "pick", "(JI)J"⟩ : MethodName) method_2_code 5 (some .long) :: ws) ({ frames := 0, cells := 0, slots := 0, locals := 0 } : Room)) (fun a U => a = #[(.long qx), (.int ps)] ∧ Z.Warmed39 U.vm ∧ U.heap = h0) (fun _ _ _ _ _ => True) (fun _ U o U' => ∃ v L, o = .returned v ∧ Q_pick Z qx ps h0 n0 v U'.heap L ∧ FrameEnd U o U' L ({ frames := 0, cells := 0, slots := 0, locals := 0 } : Room).cells ({ frames := 0, cells := 0, slots := 0, locals := 0 } : Room).slots) := by
  refine MetFree.of_bodySF (plainFor_of_name pn_1) hisR ?_
  intro p e s m args below meth c s₁ Bd hml0 hP hK
  obtain ⟨rfl, hZ, hh⟩ := hP
  have hx := Bd.exec
  have hby := Bd.bytes
  have hml : c.maxLocals = 5 := hml0
  have hown : s.vm.findClass "com/example/clotho/clotho/jsonpath/BudgetTakePinLaw" = some m.cls := findClass_of_methodNamed Bd.named
  have hnm := (name_of_methodNamed Bd.named Bd.method).1
  have X0 : Stand p l e ({ frames := 0, cells := 0, slots := 0, locals := 0 } : Room) s m #[(.long qx), (.int ps)] below meth c s₁ [] 0 0 := Stand.of_body Bd
  have e0 : s₁.heap = h0 := by rw [← hh, Bd.state]; rfl
  have N0 := Fr.nil n0
  have K0 : Keep h0 h0 [] := Keep.refl h0 []
  show Go p.tables e below _ (s₁.setTop (entryFrame m #[(.long qx), (.int ps)] 5))
  refine Go.start ?_
  intro G hG
  refine Go.st (fun t k => castTop (ef_pick m qx ps) k) ?_
  show Go p.tables e below _ (s₁.setTop (mkF m 0 #[.val (.long qx), .second, .val (.int ps), .unset, .unset] []))
  refine Go.st (fun _ k => XS.lloadN X0.here hx rfl (hb hby d_pick_0) rfl k) ?_
  show Go p.tables e below _ (s₁.setTop (mkF m 1 #[.val (.long qx), .second, .val (.int ps), .unset, .unset] [(.long qx)]))
  refine Go.st (fun _ k => X0.ldc2Long hx hown (mvT hZ (hw _ (List.mem_of_getElem? (i := 4) rfl))) (g := (mkF m 1 #[.val (.long qx), .second, .val (.int ps), .unset, .unset] [(.long qx)])) rfl (hb hby d_pick_1) _ k) ?_
  show Go p.tables e below _ (s₁.setTop (mkF m 4 #[.val (.long qx), .second, .val (.int ps), .unset, .unset] [(.long (9223372036854775807 : Int64)), (.long qx)]))
  refine Go.st (fun _ k => XS.land X0.here hx rfl (hb hby d_pick_4) rfl k) ?_
  show Go p.tables e below _ (s₁.setTop (mkF m 5 #[.val (.long qx), .second, .val (.int ps), .unset, .unset] [(.long (qx &&& (9223372036854775807 : Int64)))]))
  refine Go.st (fun _ k => XS.lstoreN X0.here hx rfl (hb hby d_pick_5) rfl (l' := #[.val (.long qx), .second, .val (.int ps), .val (.long (qx &&& (9223372036854775807 : Int64))), .second]) rfl k) ?_
  show Go p.tables e below _ (s₁.setTop (mkF m 6 #[.val (.long qx), .second, .val (.int ps), .val (.long (qx &&& (9223372036854775807 : Int64))), .second] []))
  generalize hqv5 : (qx &&& (9223372036854775807 : Int64)) = v5
  show Go p.tables e below _ (s₁.setTop (mkF m 6 #[.val (.long qx), .second, .val (.int ps), .val (.long v5), .second] []))
  refine Go.st (fun _ k => XS.iloadN X0.here hx rfl (hb hby d_pick_6) rfl k) ?_
  show Go p.tables e below _ (s₁.setTop (mkF m 7 #[.val (.long qx), .second, .val (.int ps), .val (.long v5), .second] [(.int ps)]))
  by_cases hc7 : ps = (0 : Int32)
  · skip
    refine Go.st (fun _ k => XS.ifYes X0.here hx rfl (pc0 := 7) (pc' := 12) rfl (hb hby d_pick_7) rfl (Jvm.Free.XT.i0_eq_t hc7) (by decide) (by decide) k) ?_
    show Go p.tables e below _ (s₁.setTop (mkF m 12 #[.val (.long qx), .second, .val (.int ps), .val (.long v5), .second] []))
    refine Go.st (fun _ k => XS.lloadN X0.here hx rfl (hb hby d_pick_12) rfl k) ?_
    show Go p.tables e below _ (s₁.setTop (mkF m 13 #[.val (.long qx), .second, .val (.int ps), .val (.long v5), .second] [(.long v5)]))
    refine Go.st (fun _ k => X0.ldc2Long hx hown (mvT hZ (hw _ (List.mem_of_getElem? (i := 5) rfl))) (g := (mkF m 13 #[.val (.long qx), .second, .val (.int ps), .val (.long v5), .second] [(.long v5)])) rfl (hb hby d_pick_13) _ k) ?_
    show Go p.tables e below _ (s₁.setTop (mkF m 16 #[.val (.long qx), .second, .val (.int ps), .val (.long v5), .second] [(.long (10000002 : Int64)), (.long v5)]))
    refine Go.st (fun _ k => XS.lrem X0.here hx rfl (hb hby d_pick_16) rfl (by decide) (own_lrem k)) ?_
    show Go p.tables e below _ (s₁.setTop (mkF m 17 #[.val (.long qx), .second, .val (.int ps), .val (.long v5), .second] [(.long (v5 % (10000002 : Int64)))]))
    have lt_1000000264 : (10000002 : Int64).toInt = 10000002 := by decide
    subst hG
    obtain ⟨fs, hr, hrun, hended, hW, hsame⟩ := X0.leave (v := some (.long (v5 % (10000002 : Int64)))) (fun h => by rw [Bd.returns] at h; cases h)
    refine ⟨_, _, ?_, hrun, hended, _, _, rfl, ?_, ⟨_, rfl⟩, hW, hsame.mono (by decide) (by decide)⟩
    · exact retOut X0 hx Bd.returns rfl (Or.inr (Or.inl ⟨rfl, rfl, _, rfl⟩)) (hb hby d_pick_17) hr
    · show Q_pick Z qx ps h0 n0 _ s₁.heap _
      rw [e0]
      exact ⟨(v5 % (10000002 : Int64)), rfl, N0, rfl, (by first | exact own_rem64 (own_n hqv5) (by decide) | exact own_n hqv5)⟩
  · skip
    refine Go.st (fun _ k => XS.ifNo X0.here hx rfl (hb hby d_pick_7) rfl (Jvm.Free.XT.i0_eq_f hc7) k) ?_
    show Go p.tables e below _ (s₁.setTop (mkF m 10 #[.val (.long qx), .second, .val (.int ps), .val (.long v5), .second] []))
    refine Go.st (fun _ k => XS.lloadN X0.here hx rfl (hb hby d_pick_10) rfl k) ?_
    show Go p.tables e below _ (s₁.setTop (mkF m 11 #[.val (.long qx), .second, .val (.int ps), .val (.long v5), .second] [(.long v5)]))
    subst hG
    obtain ⟨fs, hr, hrun, hended, hW, hsame⟩ := X0.leave (v := some (.long v5)) (fun h => by rw [Bd.returns] at h; cases h)
    refine ⟨_, _, ?_, hrun, hended, _, _, rfl, ?_, ⟨_, rfl⟩, hW, hsame.mono (by decide) (by decide)⟩
    · exact retOut X0 hx Bd.returns rfl (Or.inr (Or.inl ⟨rfl, rfl, _, rfl⟩)) (hb hby d_pick_11) hr
    · show Q_pick Z qx ps h0 n0 _ s₁.heap _
      rw [e0]
      exact ⟨v5, rfl, N0, rfl, (by first | exact own_rem64 (own_n hqv5) (by decide) | exact own_n hqv5)⟩
theorem d_fits_0 : decode method_3_code 0 = .ok (.lload_n 2, 1) := by decide +kernel
theorem d_fits_1 : decode method_3_code 1 = .ok (.ldc2_w 15, 3) := by decide +kernel
theorem d_fits_4 : decode method_3_code 4 = .ok (.lcmp, 1) := by decide +kernel
theorem d_fits_5 : decode method_3_code 5 = .ok (.ifCond .gt 17, 3) := by decide +kernel
theorem d_fits_8 : decode method_3_code 8 = .ok (.lload_n 0, 1) := by decide +kernel
theorem d_fits_9 : decode method_3_code 9 = .ok (.lload_n 2, 1) := by decide +kernel
theorem d_fits_10 : decode method_3_code 10 = .ok (.ladd, 1) := by decide +kernel
theorem d_fits_11 : decode method_3_code 11 = .ok (.ldc2_w 15, 3) := by decide +kernel
theorem d_fits_14 : decode method_3_code 14 = .ok (.lcmp, 1) := by decide +kernel
theorem d_fits_15 : decode method_3_code 15 = .ok (.ifCond .gt 7, 3) := by decide +kernel
theorem d_fits_18 : decode method_3_code 18 = .ok (.iconst 1, 1) := by decide +kernel
theorem d_fits_19 : decode method_3_code 19 = .ok (.goto 4, 3) := by decide +kernel
theorem d_fits_22 : decode method_3_code 22 = .ok (.iconst 0, 1) := by decide +kernel
theorem d_fits_23 : decode method_3_code 23 = .ok (.ireturn, 1) := by decide +kernel
theorem ef_fits (m : MethodId) (qu : Int64) (qc : Int64) : entryFrame m #[(.long qu), (.long qc)] 4 = mkF m 0 #[.val (.long qu), .second, .val (.long qc), .second] [] := by first | (simp [entryFrame, mkF, argsToLocals, Value.category]; done) | rfl
def Q_fits (Z : State) (qu : Int64) (qc : Int64) (h0 : Heap) (n0 : Nat) (v : Option Value) (h : Heap) (L : List Loc) : Prop := ∃ rr : Int32, v = some (.int rr) ∧ Fr n0 L ∧ h = h0 ∧ (rr.toInt = 1 ∧ qu.toInt + qc.toInt ≤ 10000000 ∨ rr.toInt = 0 ∧ 10000000 < qu.toInt + qc.toInt)
set_option maxRecDepth 65536 in
set_option maxHeartbeats 40000000 in
theorem rm_fits (l : Launch) (Z : State) (a0 : Array Value) (hw : ∀ d ∈ tables_1, d.before a0 Z = true) (ws : List Jvm.Cond) (qu : Int64) (qc : Int64) (h0 : Heap) (n0 : Nat) (Z0 : n0 ≤ h0.size) (hst : 0 ≤ qu.toInt ∧ qu.toInt ≤ 10000000) (hqc : 0 ≤ qc.toInt) :
    MetFree l (⟨"com/example/clotho/clotho/jsonpath/BudgetTakePinLaw", "fits", "(JJ)Z"⟩ : MethodName) (head1 (Jvm.Cond.code (⟨"com/example/clotho/clotho/jsonpath/BudgetTakePinLaw", "fits", "(JJ)Z"⟩ : MethodName) method_3_code 4 (some .boolean) :: ws) ({ frames := 0, cells := 0, slots := 0, locals := 0 } : Room)) (fun a U => a = #[(.long qu), (.long qc)] ∧ Z.Warmed39 U.vm ∧ U.heap = h0) (fun _ _ _ _ _ => True) (fun _ U o U' => ∃ v L, o = .returned v ∧ Q_fits Z qu qc h0 n0 v U'.heap L ∧ FrameEnd U o U' L ({ frames := 0, cells := 0, slots := 0, locals := 0 } : Room).cells ({ frames := 0, cells := 0, slots := 0, locals := 0 } : Room).slots) := by
  refine MetFree.of_bodySF (plainFor_of_name pn_1) hisR ?_
  intro p e s m args below meth c s₁ Bd hml0 hP hK
  obtain ⟨rfl, hZ, hh⟩ := hP
  have hx := Bd.exec
  have hby := Bd.bytes
  have hml : c.maxLocals = 4 := hml0
  have hown : s.vm.findClass "com/example/clotho/clotho/jsonpath/BudgetTakePinLaw" = some m.cls := findClass_of_methodNamed Bd.named
  have hnm := (name_of_methodNamed Bd.named Bd.method).1
  have X0 : Stand p l e ({ frames := 0, cells := 0, slots := 0, locals := 0 } : Room) s m #[(.long qu), (.long qc)] below meth c s₁ [] 0 0 := Stand.of_body Bd
  have e0 : s₁.heap = h0 := by rw [← hh, Bd.state]; rfl
  have N0 := Fr.nil n0
  have K0 : Keep h0 h0 [] := Keep.refl h0 []
  show Go p.tables e below _ (s₁.setTop (entryFrame m #[(.long qu), (.long qc)] 4))
  refine Go.start ?_
  intro G hG
  refine Go.st (fun t k => castTop (ef_fits m qu qc) k) ?_
  have had := i64_addc qu qc
  show Go p.tables e below _ (s₁.setTop (mkF m 0 #[.val (.long qu), .second, .val (.long qc), .second] []))
  refine Go.st (fun _ k => XS.lloadN X0.here hx rfl (hb hby d_fits_0) rfl k) ?_
  show Go p.tables e below _ (s₁.setTop (mkF m 1 #[.val (.long qu), .second, .val (.long qc), .second] [(.long qc)]))
  refine Go.st (fun _ k => X0.ldc2Long hx hown (mvT hZ (hw _ (List.mem_of_getElem? (i := 18) rfl))) (g := (mkF m 1 #[.val (.long qu), .second, .val (.long qc), .second] [(.long qc)])) rfl (hb hby d_fits_1) _ k) ?_
  show Go p.tables e below _ (s₁.setTop (mkF m 4 #[.val (.long qu), .second, .val (.long qc), .second] [(.long (10000000 : Int64)), (.long qc)]))
  refine Go.st (fun _ k => Jvm.Free.XT.lcmp X0.here hx rfl (hb hby d_fits_4) rfl k) ?_
  show Go p.tables e below _ (s₁.setTop (mkF m 5 #[.val (.long qu), .second, .val (.long qc), .second] [(.int (Jvm.Free.XT.cmpL qc (10000000 : Int64)))]))
  by_cases hc5 : (10000000 : Int64) < qc
  · skip
    have lt_1000000064 : (10000000 : Int64).toInt = 10000000 := by decide
    have hi5 : ((10000000 : Int64)).toInt < (qc).toInt := Int64.lt_iff_toInt_lt.mp hc5
    refine Go.st (fun _ k => XS.ifYes X0.here hx rfl (pc0 := 5) (pc' := 22) rfl (hb hby d_fits_5) rfl (Jvm.Free.XT.ll_gt_t hc5) (by decide) (by decide) k) ?_
    show Go p.tables e below _ (s₁.setTop (mkF m 22 #[.val (.long qu), .second, .val (.long qc), .second] []))
    refine Go.st (fun _ k => XS.iconst X0.here hx rfl (hb hby d_fits_22) k) ?_
    show Go p.tables e below _ (s₁.setTop (mkF m 23 #[.val (.long qu), .second, .val (.long qc), .second] [(.int (0 : Int32))]))
    have lt_032 : (0 : Int32).toInt = 0 := by decide
    subst hG
    obtain ⟨fs, hr, hrun, hended, hW, hsame⟩ := X0.leave (v := some (.int (nar .boolean (0 : Int32)))) (fun h => by rw [Bd.returns] at h; cases h)
    refine ⟨_, _, ?_, hrun, hended, _, _, rfl, ?_, ⟨_, rfl⟩, hW, hsame.mono (by decide) (by decide)⟩
    · exact retN X0 hx (t := .boolean) Bd.returns (by simp) (hb hby d_fits_23) hr
    · show Q_fits Z qu qc h0 n0 _ s₁.heap _
      rw [e0]
      exact ⟨(0 : Int32), rfl, N0, rfl, (by omega)⟩
  · skip
    have lt_1000000064 : (10000000 : Int64).toInt = 10000000 := by decide
    have hi5 : ¬ (((10000000 : Int64)).toInt < (qc).toInt) := fun z => hc5 (Int64.lt_iff_toInt_lt.mpr z)
    refine Go.st (fun _ k => XS.ifNo X0.here hx rfl (hb hby d_fits_5) rfl (Jvm.Free.XT.ll_gt_f hc5) k) ?_
    show Go p.tables e below _ (s₁.setTop (mkF m 8 #[.val (.long qu), .second, .val (.long qc), .second] []))
    refine Go.st (fun _ k => XS.lloadN X0.here hx rfl (hb hby d_fits_8) rfl k) ?_
    show Go p.tables e below _ (s₁.setTop (mkF m 9 #[.val (.long qu), .second, .val (.long qc), .second] [(.long qu)]))
    refine Go.st (fun _ k => XS.lloadN X0.here hx rfl (hb hby d_fits_9) rfl k) ?_
    show Go p.tables e below _ (s₁.setTop (mkF m 10 #[.val (.long qu), .second, .val (.long qc), .second] [(.long qc), (.long qu)]))
    refine Go.st (fun _ k => XS.ladd X0.here hx rfl (hb hby d_fits_10) rfl k) ?_
    show Go p.tables e below _ (s₁.setTop (mkF m 11 #[.val (.long qu), .second, .val (.long qc), .second] [(.long (qu + qc))]))
    refine Go.st (fun _ k => X0.ldc2Long hx hown (mvT hZ (hw _ (List.mem_of_getElem? (i := 18) rfl))) (g := (mkF m 11 #[.val (.long qu), .second, .val (.long qc), .second] [(.long (qu + qc))])) rfl (hb hby d_fits_11) _ k) ?_
    show Go p.tables e below _ (s₁.setTop (mkF m 14 #[.val (.long qu), .second, .val (.long qc), .second] [(.long (10000000 : Int64)), (.long (qu + qc))]))
    refine Go.st (fun _ k => Jvm.Free.XT.lcmp X0.here hx rfl (hb hby d_fits_14) rfl k) ?_
    show Go p.tables e below _ (s₁.setTop (mkF m 15 #[.val (.long qu), .second, .val (.long qc), .second] [(.int (Jvm.Free.XT.cmpL (qu + qc) (10000000 : Int64)))]))
    by_cases hc15 : (10000000 : Int64) < (qu + qc)
    · skip
      have hi15 : ((10000000 : Int64)).toInt < ((qu + qc)).toInt := Int64.lt_iff_toInt_lt.mp hc15
      refine Go.st (fun _ k => XS.ifYes X0.here hx rfl (pc0 := 15) (pc' := 22) rfl (hb hby d_fits_15) rfl (Jvm.Free.XT.ll_gt_t hc15) (by decide) (by decide) k) ?_
      show Go p.tables e below _ (s₁.setTop (mkF m 22 #[.val (.long qu), .second, .val (.long qc), .second] []))
      refine Go.st (fun _ k => XS.iconst X0.here hx rfl (hb hby d_fits_22) k) ?_
      show Go p.tables e below _ (s₁.setTop (mkF m 23 #[.val (.long qu), .second, .val (.long qc), .second] [(.int (0 : Int32))]))
      have lt_032 : (0 : Int32).toInt = 0 := by decide
      subst hG
      obtain ⟨fs, hr, hrun, hended, hW, hsame⟩ := X0.leave (v := some (.int (nar .boolean (0 : Int32)))) (fun h => by rw [Bd.returns] at h; cases h)
      refine ⟨_, _, ?_, hrun, hended, _, _, rfl, ?_, ⟨_, rfl⟩, hW, hsame.mono (by decide) (by decide)⟩
      · exact retN X0 hx (t := .boolean) Bd.returns (by simp) (hb hby d_fits_23) hr
      · show Q_fits Z qu qc h0 n0 _ s₁.heap _
        rw [e0]
        exact ⟨(0 : Int32), rfl, N0, rfl, (by omega)⟩
    · skip
      have hi15 : ¬ (((10000000 : Int64)).toInt < ((qu + qc)).toInt) := fun z => hc15 (Int64.lt_iff_toInt_lt.mpr z)
      refine Go.st (fun _ k => XS.ifNo X0.here hx rfl (hb hby d_fits_15) rfl (Jvm.Free.XT.ll_gt_f hc15) k) ?_
      show Go p.tables e below _ (s₁.setTop (mkF m 18 #[.val (.long qu), .second, .val (.long qc), .second] []))
      refine Go.st (fun _ k => XS.iconst X0.here hx rfl (hb hby d_fits_18) k) ?_
      show Go p.tables e below _ (s₁.setTop (mkF m 19 #[.val (.long qu), .second, .val (.long qc), .second] [(.int (1 : Int32))]))
      refine Go.st (fun _ k => XS.goto X0.here hx rfl (pc0 := 19) (pc' := 23) rfl (hb hby d_fits_19) (by decide) (by decide) k) ?_
      show Go p.tables e below _ (s₁.setTop (mkF m 23 #[.val (.long qu), .second, .val (.long qc), .second] [(.int (1 : Int32))]))
      have lt_132 : (1 : Int32).toInt = 1 := by decide
      subst hG
      obtain ⟨fs, hr, hrun, hended, hW, hsame⟩ := X0.leave (v := some (.int (nar .boolean (1 : Int32)))) (fun h => by rw [Bd.returns] at h; cases h)
      refine ⟨_, _, ?_, hrun, hended, _, _, rfl, ?_, ⟨_, rfl⟩, hW, hsame.mono (by decide) (by decide)⟩
      · exact retN X0 hx (t := .boolean) Bd.returns (by simp) (hb hby d_fits_23) hr
      · show Q_fits Z qu qc h0 n0 _ s₁.heap _
        rw [e0]
        exact ⟨(1 : Int32), rfl, N0, rfl, (by omega)⟩
theorem pd_0 : parseMethodDescriptor "(JI)J" = some ⟨[.long, .int], some .long⟩ := by decide +kernel
theorem pd_1 : parseMethodDescriptor "()V" = some ⟨[], none⟩ := by decide +kernel
theorem pd_2 : parseMethodDescriptor "(JJ)Z" = some ⟨[.long, .long], some .boolean⟩ := by decide +kernel
theorem pd_3 : parseMethodDescriptor "(J)Z" = some ⟨[.long], some .boolean⟩ := by decide +kernel
theorem pd_4 : parseMethodDescriptor "()Z" = some ⟨[], some .boolean⟩ := by decide +kernel
theorem ef_law (m : MethodId) (qx : Int64) (qy : Int64) (pm : Int32) : entryFrame m #[(.long qx), (.long qy), (.int pm)] maxLocals = mkF m 0 #[.val (.long qx), .second, .val (.long qy), .second, .val (.int pm), .unset, .unset, .unset, .unset, .unset, .unset, .unset, .unset, .unset, .unset, .unset] [] := by first | (simp [entryFrame, mkF, argsToLocals, Value.category, maxLocals]; done) | rfl
def Q_law (Z : State) (qx : Int64) (qy : Int64) (pm : Int32) (h0 : Heap) (n0 : Nat) (v : Option Value) (h : Heap) (L : List Loc) : Prop := v = some (.int (1 : Int32)) ∧ Fr n0 L ∧ Keep h0 h []
set_option maxRecDepth 65536 in
set_option maxHeartbeats 40000000 in
theorem rm_law (l : Launch) (Z : State) (a0 : Array Value) (hw : ∀ d ∈ tables_1, d.before a0 Z = true) (ws : List Jvm.Cond) (qx : Int64) (qy : Int64) (pm : Int32) (h0 : Heap) (n0 : Nat) (Z0 : n0 ≤ h0.size)  :
    MetFree l x (head1 (Jvm.Cond.code x code maxLocals ret :: ws) room_1) (fun a U => a = #[(.long qx), (.long qy), (.int pm)] ∧ Z.Warmed39 U.vm ∧ U.heap = h0) (fun _ _ _ _ _ => True) (fun _ U o U' => ∃ v L, o = .returned v ∧ Q_law Z qx qy pm h0 n0 v U'.heap L ∧ FrameEnd U o U' L room_1.cells room_1.slots) := by
  refine MetFree.of_bodySF (plainFor_of_name pn_1) hisR ?_
  intro p e s m args below meth c s₁ Bd hml0 hP hK
  obtain ⟨rfl, hZ, hh⟩ := hP
  have hx := Bd.exec
  have hby := Bd.bytes
  have hml : c.maxLocals = 16 := hml0
  have hown : s.vm.findClass "com/example/clotho/clotho/jsonpath/BudgetTakePinLaw" = some m.cls := findClass_of_methodNamed Bd.named
  have hnm := (name_of_methodNamed Bd.named Bd.method).1
  have X0 : Stand p l e room_1 s m #[(.long qx), (.long qy), (.int pm)] below meth c s₁ [] 0 0 := Stand.of_body Bd
  have e0 : s₁.heap = h0 := by rw [← hh, Bd.state]; rfl
  have N0 := Fr.nil n0
  have K0 : Keep h0 h0 [] := Keep.refl h0 []
  show Go p.tables e below _ (s₁.setTop (entryFrame m #[(.long qx), (.long qy), (.int pm)] maxLocals))
  refine Go.start ?_
  intro G hG
  refine Go.st (fun t k => castTop (ef_law m qx qy pm) k) ?_
  have lt_064 : (0 : Int64).toInt = 0 := by decide
  have lt_164 : (1 : Int64).toInt = 1 := by decide
  have lt_132 : (1 : Int32).toInt = 1 := by decide
  show Go p.tables e below _ (s₁.setTop (mkF m 0 #[.val (.long qx), .second, .val (.long qy), .second, .val (.int pm), .unset, .unset, .unset, .unset, .unset, .unset, .unset, .unset, .unset, .unset, .unset] []))
  refine Go.st (fun _ k => XS.lloadN X0.here hx rfl (hb hby at_0) rfl k) ?_
  show Go p.tables e below _ (s₁.setTop (mkF m 1 #[.val (.long qx), .second, .val (.long qy), .second, .val (.int pm), .unset, .unset, .unset, .unset, .unset, .unset, .unset, .unset, .unset, .unset, .unset] [(.long qx)]))
  refine Go.st (fun _ k => XS.iload X0.here hx rfl (hb hby at_1) rfl k) ?_
  show Go p.tables e below _ (s₁.setTop (mkF m 3 #[.val (.long qx), .second, .val (.long qy), .second, .val (.int pm), .unset, .unset, .unset, .unset, .unset, .unset, .unset, .unset, .unset, .unset, .unset] [(.int pm), (.long qx)]))
  refine Go.st (fun _ k => XS.iconst X0.here hx rfl (hb hby at_3) k) ?_
  show Go p.tables e below _ (s₁.setTop (mkF m 4 #[.val (.long qx), .second, .val (.long qy), .second, .val (.int pm), .unset, .unset, .unset, .unset, .unset, .unset, .unset, .unset, .unset, .unset, .unset] [(.int (1 : Int32)), (.int pm), (.long qx)]))
  refine Go.st (fun _ k => XS.iand X0.here hx rfl (hb hby at_4) rfl k) ?_
  show Go p.tables e below _ (s₁.setTop (mkF m 5 #[.val (.long qx), .second, .val (.long qy), .second, .val (.int pm), .unset, .unset, .unset, .unset, .unset, .unset, .unset, .unset, .unset, .unset, .unset] [(.int (pm &&& (1 : Int32))), (.long qx)]))
  generalize hqa5 : (pm &&& (1 : Int32)) = a5
  have lt_132 : (1 : Int32).toInt = 1 := by decide
  have hi_a5 := Jvm.Kit.i32_mask pm (1 : Int32) (k := 1) (by decide) (by decide)
  rw [hqa5] at hi_a5
  obtain ⟨_, _, ⟨T1, L1, k1, n1⟩, -, X1, ⟨Lc1, hQ1, l1, y1, z1⟩, st1⟩ := Jvm.LawKit.callS X0 hx (y := (⟨"com/example/clotho/clotho/jsonpath/BudgetTakePinLaw", "pick", "(JI)J"⟩ : MethodName)) hown (mvT hZ (hw _ (List.mem_of_getElem? (i := 0) rfl))) (mvT hZ (hw _ (List.mem_of_getElem? (i := 1) rfl))) (mvT hZ (hw _ (List.mem_of_getElem? (i := 2) rfl))) (mvT hZ (hw _ (List.mem_of_getElem? (i := 3) rfl))) (by decide) (backOf (W := 0) (rm_pick l Z a0 hw [] qx a5 h0 n0 Z0 ) hZ (hw _ (List.mem_of_getElem? (i := 3) rfl)) (hw _ (List.mem_of_getElem? (i := 2) rfl)) (by decide) (by decide)) (g := (mkF m 5 #[.val (.long qx), .second, .val (.long qy), .second, .val (.int pm), .unset, .unset, .unset, .unset, .unset, .unset, .unset, .unset, .unset, .unset, .unset] [(.int a5), (.long qx)])) rfl (by rw [hml]; rfl) (argsL := [(.long qx), (.int a5)]) (rest := []) (lenOf pd_0 rfl) rfl (by show 2 * 0 + _ ≤ _; exact Nat.le_of_eq rfl) (hb hby at_5) (fun _ _ => ⟨rfl, e0, (by decide : 0 + 0 ≤ _), (by decide : 0 + 0 ≤ _)⟩)
  dsimp only [Pt.U, Pt.locs, Pt.cells, Pt.slots] at X1 l1 y1 z1 st1 hQ1
  subst l1 y1 z1
  obtain ⟨x1_rr, rfl, N1q, e1, pr1_rel⟩ := hQ1
  have N1 := Fr.app N0 N1q
  refine Go.st st1 ?_
  show Go p.tables e below _ (T1.setTop (mkF m 8 #[.val (.long qx), .second, .val (.long qy), .second, .val (.int pm), .unset, .unset, .unset, .unset, .unset, .unset, .unset, .unset, .unset, .unset, .unset] [(.long x1_rr)]))
  refine Go.st (fun _ k => XS.lstore X1.here hx rfl (hb hby at_8) rfl (l' := #[.val (.long qx), .second, .val (.long qy), .second, .val (.int pm), .val (.long x1_rr), .second, .unset, .unset, .unset, .unset, .unset, .unset, .unset, .unset, .unset]) rfl k) ?_
  show Go p.tables e below _ (T1.setTop (mkF m 10 #[.val (.long qx), .second, .val (.long qy), .second, .val (.int pm), .val (.long x1_rr), .second, .unset, .unset, .unset, .unset, .unset, .unset, .unset, .unset, .unset] []))
  show Go p.tables e below _ (T1.setTop (mkF m 10 #[.val (.long qx), .second, .val (.long qy), .second, .val (.int pm), .val (.long x1_rr), .second, .unset, .unset, .unset, .unset, .unset, .unset, .unset, .unset, .unset] []))
  refine Go.st (fun _ k => XS.lloadN X1.here hx rfl (hb hby at_10) rfl k) ?_
  show Go p.tables e below _ (T1.setTop (mkF m 11 #[.val (.long qx), .second, .val (.long qy), .second, .val (.int pm), .val (.long x1_rr), .second, .unset, .unset, .unset, .unset, .unset, .unset, .unset, .unset, .unset] [(.long qy)]))
  refine Go.st (fun _ k => XS.iload X1.here hx rfl (hb hby at_11) rfl k) ?_
  show Go p.tables e below _ (T1.setTop (mkF m 13 #[.val (.long qx), .second, .val (.long qy), .second, .val (.int pm), .val (.long x1_rr), .second, .unset, .unset, .unset, .unset, .unset, .unset, .unset, .unset, .unset] [(.int pm), (.long qy)]))
  refine Go.st (fun _ k => XS.iconst X1.here hx rfl (hb hby at_13) k) ?_
  show Go p.tables e below _ (T1.setTop (mkF m 14 #[.val (.long qx), .second, .val (.long qy), .second, .val (.int pm), .val (.long x1_rr), .second, .unset, .unset, .unset, .unset, .unset, .unset, .unset, .unset, .unset] [(.int (1 : Int32)), (.int pm), (.long qy)]))
  refine Go.st (fun _ k => XS.iushr X1.here hx rfl (hb hby at_14) rfl k) ?_
  show Go p.tables e below _ (T1.setTop (mkF m 15 #[.val (.long qx), .second, .val (.long qy), .second, .val (.int pm), .val (.long x1_rr), .second, .unset, .unset, .unset, .unset, .unset, .unset, .unset, .unset, .unset] [(.int ((pm.toUInt32 >>> ((1 : Int32) &&& 31).toUInt32).toInt32)), (.long qy)]))
  refine Go.st (fun _ k => XS.iconst X1.here hx rfl (hb hby at_15) k) ?_
  show Go p.tables e below _ (T1.setTop (mkF m 16 #[.val (.long qx), .second, .val (.long qy), .second, .val (.int pm), .val (.long x1_rr), .second, .unset, .unset, .unset, .unset, .unset, .unset, .unset, .unset, .unset] [(.int (1 : Int32)), (.int ((pm.toUInt32 >>> ((1 : Int32) &&& 31).toUInt32).toInt32)), (.long qy)]))
  refine Go.st (fun _ k => XS.iand X1.here hx rfl (hb hby at_16) rfl k) ?_
  show Go p.tables e below _ (T1.setTop (mkF m 17 #[.val (.long qx), .second, .val (.long qy), .second, .val (.int pm), .val (.long x1_rr), .second, .unset, .unset, .unset, .unset, .unset, .unset, .unset, .unset, .unset] [(.int (((pm.toUInt32 >>> ((1 : Int32) &&& 31).toUInt32).toInt32) &&& (1 : Int32))), (.long qy)]))
  generalize hqa17 : (((pm.toUInt32 >>> ((1 : Int32) &&& 31).toUInt32).toInt32) &&& (1 : Int32)) = a17
  have hi_a17 := Jvm.Kit.i32_mask ((pm.toUInt32 >>> ((1 : Int32) &&& 31).toUInt32).toInt32) (1 : Int32) (k := 1) (by decide) (by decide)
  rw [hqa17] at hi_a17
  obtain ⟨_, _, ⟨T2, L2, k2, n2⟩, -, X2, ⟨Lc2, hQ2, l2, y2, z2⟩, st2⟩ := Jvm.LawKit.callS X1 hx (y := (⟨"com/example/clotho/clotho/jsonpath/BudgetTakePinLaw", "pick", "(JI)J"⟩ : MethodName)) hown (mvT hZ (hw _ (List.mem_of_getElem? (i := 0) rfl))) (mvT hZ (hw _ (List.mem_of_getElem? (i := 1) rfl))) (mvT hZ (hw _ (List.mem_of_getElem? (i := 2) rfl))) (mvT hZ (hw _ (List.mem_of_getElem? (i := 3) rfl))) (by decide) (backOf (W := 0) (rm_pick l Z a0 hw [] qy a17 h0 n0 Z0 ) hZ (hw _ (List.mem_of_getElem? (i := 3) rfl)) (hw _ (List.mem_of_getElem? (i := 2) rfl)) (by decide) (by decide)) (g := (mkF m 17 #[.val (.long qx), .second, .val (.long qy), .second, .val (.int pm), .val (.long x1_rr), .second, .unset, .unset, .unset, .unset, .unset, .unset, .unset, .unset, .unset] [(.int a17), (.long qy)])) rfl (by rw [hml]; rfl) (argsL := [(.long qy), (.int a17)]) (rest := []) (lenOf pd_0 rfl) rfl (by show 2 * 0 + _ ≤ _; exact Nat.le_of_eq rfl) (hb hby at_17) (fun _ _ => ⟨rfl, e1, (by decide : 0 + 0 ≤ _), (by decide : 0 + 0 ≤ _)⟩)
  dsimp only [Pt.U, Pt.locs, Pt.cells, Pt.slots] at X2 l2 y2 z2 st2 hQ2
  subst l2 y2 z2
  obtain ⟨x2_rr, rfl, N2q, e2, pr2_rel⟩ := hQ2
  have N2 := Fr.app N1 N2q
  refine Go.st st2 ?_
  show Go p.tables e below _ (T2.setTop (mkF m 20 #[.val (.long qx), .second, .val (.long qy), .second, .val (.int pm), .val (.long x1_rr), .second, .unset, .unset, .unset, .unset, .unset, .unset, .unset, .unset, .unset] [(.long x2_rr)]))
  refine Go.st (fun _ k => XS.lstore X2.here hx rfl (hb hby at_20) rfl (l' := #[.val (.long qx), .second, .val (.long qy), .second, .val (.int pm), .val (.long x1_rr), .second, .val (.long x2_rr), .second, .unset, .unset, .unset, .unset, .unset, .unset, .unset]) rfl k) ?_
  show Go p.tables e below _ (T2.setTop (mkF m 22 #[.val (.long qx), .second, .val (.long qy), .second, .val (.int pm), .val (.long x1_rr), .second, .val (.long x2_rr), .second, .unset, .unset, .unset, .unset, .unset, .unset, .unset] []))
  show Go p.tables e below _ (T2.setTop (mkF m 22 #[.val (.long qx), .second, .val (.long qy), .second, .val (.int pm), .val (.long x1_rr), .second, .val (.long x2_rr), .second, .unset, .unset, .unset, .unset, .unset, .unset, .unset] []))
  obtain ⟨T3, h3, X3, e3, E3, A3, D3, -, st3⟩ := newO X2 hx hZ hown (hw _ (List.mem_of_getElem? (i := 6) rfl)) (hw _ (List.mem_of_getElem? (i := 7) rfl)) (hw _ (List.mem_of_getElem? (i := 8) rfl)) e2 (g := (mkF m 22 #[.val (.long qx), .second, .val (.long qy), .second, .val (.int pm), .val (.long x1_rr), .second, .val (.long x2_rr), .second, .unset, .unset, .unset, .unset, .unset, .unset, .unset] [])) rfl (hb hby at_22) (by decide) (by decide)
  obtain ⟨b3, g3⟩ : ∃ z, z = h0.size := ⟨_, rfl⟩
  rw [← g3] at A3 D3 st3
  refine Go.st st3 ?_
  have ge4 : n0 ≤ b3 := Nat.le_trans Z0 (Nat.le_of_eq g3.symm)
  have sz5 : h0.size ≤ b3 := Nat.le_trans K0.1 (Nat.le_of_eq g3.symm)
  have Z6 : n0 ≤ h3.size := Nat.le_trans Z0 E3.1
  have K7 : Keep h0 h3 [] := K0.ext E3
  have F8 : Fld Z h3 b3 "com/example/clotho/clotho/jsonpath/Budget" "steps" "J" (.long (0 : Int64)) := D3 (Or.inl (hw _ (List.mem_of_getElem? (i := 26) rfl))) (ty := .long) (by decide)
  show Go p.tables e below _ (T3.setTop (mkF m 25 #[.val (.long qx), .second, .val (.long qy), .second, .val (.int pm), .val (.long x1_rr), .second, .val (.long x2_rr), .second, .unset, .unset, .unset, .unset, .unset, .unset, .unset] [(.ref b3)]))
  refine Go.st (fun _ k => XS.dup X3.here hx rfl (hb hby at_25) rfl rfl k) ?_
  show Go p.tables e below _ (T3.setTop (mkF m 26 #[.val (.long qx), .second, .val (.long qy), .second, .val (.int pm), .val (.long x1_rr), .second, .val (.long x2_rr), .second, .unset, .unset, .unset, .unset, .unset, .unset, .unset] [(.ref b3), (.ref b3)]))
  obtain ⟨_, _, ⟨T9, L9, k9, n9⟩, -, X9, ⟨Lc9, hQ9, l9, y9, z9⟩, st9⟩ := X3.specialBack hx (y := (⟨"com/example/clotho/clotho/jsonpath/Budget", "<init>", "()V"⟩ : MethodName)) rfl hown (mvT hZ (hw _ (List.mem_of_getElem? (i := 9) rfl))) (mvT hZ (hw _ (List.mem_of_getElem? (i := 10) rfl))) (mvT hZ (hw _ (List.mem_of_getElem? (i := 11) rfl))) (by decide) (backOf (W := 1) (rm_binit l Z a0 hw [] b3 h3 n0 Z6 ) hZ (hw _ (List.mem_of_getElem? (i := 11) rfl)) (hw _ (List.mem_of_getElem? (i := 8) rfl)) (by decide) (by decide)) (g := (mkF m 26 #[.val (.long qx), .second, .val (.long qy), .second, .val (.int pm), .val (.long x1_rr), .second, .val (.long x2_rr), .second, .unset, .unset, .unset, .unset, .unset, .unset, .unset] [(.ref b3), (.ref b3)])) rfl (by rw [hml]; rfl) (Steps.refl _) (a := b3) (argsL := []) (rest := [(.ref b3)]) (lenOf pd_1 rfl) rfl (by show 2 * 0 + _ ≤ _; exact Nat.le_of_eq rfl) (hb hby at_26) (fun _ _ => ⟨rfl, e3, (by decide : 1 + 0 ≤ _), (by decide : 1 + 0 ≤ _)⟩)
  dsimp only [Pt.U, Pt.locs, Pt.cells, Pt.slots] at X9 l9 y9 z9 st9 hQ9
  subst l9 y9 z9
  obtain ⟨rfl, N9q, e9⟩ := hQ9
  have N9 := Fr.app N2 N9q
  refine Go.st (fun _ k => st9.trans k) ?_
  show Go p.tables e below _ (T9.setTop (mkF m 29 #[.val (.long qx), .second, .val (.long qy), .second, .val (.int pm), .val (.long x1_rr), .second, .val (.long x2_rr), .second, .unset, .unset, .unset, .unset, .unset, .unset, .unset] [(.ref b3)]))
  refine Go.st (fun _ k => XS.astore X9.here hx rfl (hb hby at_29) rfl rfl (l' := #[.val (.long qx), .second, .val (.long qy), .second, .val (.int pm), .val (.long x1_rr), .second, .val (.long x2_rr), .second, .val (.ref b3), .unset, .unset, .unset, .unset, .unset, .unset]) rfl k) ?_
  show Go p.tables e below _ (T9.setTop (mkF m 31 #[.val (.long qx), .second, .val (.long qy), .second, .val (.int pm), .val (.long x1_rr), .second, .val (.long x2_rr), .second, .val (.ref b3), .unset, .unset, .unset, .unset, .unset, .unset] []))
  show Go p.tables e below _ (T9.setTop (mkF m 31 #[.val (.long qx), .second, .val (.long qy), .second, .val (.int pm), .val (.long x1_rr), .second, .val (.long x2_rr), .second, .val (.ref b3), .unset, .unset, .unset, .unset, .unset, .unset] []))
  refine Go.st (fun _ k => XS.lconst X9.here hx rfl (hb hby at_31) k) ?_
  show Go p.tables e below _ (T9.setTop (mkF m 32 #[.val (.long qx), .second, .val (.long qy), .second, .val (.int pm), .val (.long x1_rr), .second, .val (.long x2_rr), .second, .val (.ref b3), .unset, .unset, .unset, .unset, .unset, .unset] [(.long (0 : Int64))]))
  refine Go.st (fun _ k => XS.lstore X9.here hx rfl (hb hby at_32) rfl (l' := #[.val (.long qx), .second, .val (.long qy), .second, .val (.int pm), .val (.long x1_rr), .second, .val (.long x2_rr), .second, .val (.ref b3), .val (.long (0 : Int64)), .second, .unset, .unset, .unset, .unset]) rfl k) ?_
  show Go p.tables e below _ (T9.setTop (mkF m 34 #[.val (.long qx), .second, .val (.long qy), .second, .val (.int pm), .val (.long x1_rr), .second, .val (.long x2_rr), .second, .val (.ref b3), .val (.long (0 : Int64)), .second, .unset, .unset, .unset, .unset] []))
  show Go p.tables e below _ (T9.setTop (mkF m 34 #[.val (.long qx), .second, .val (.long qy), .second, .val (.int pm), .val (.long x1_rr), .second, .val (.long x2_rr), .second, .val (.ref b3), .val (.long (0 : Int64)), .second, .unset, .unset, .unset, .unset] []))
  refine Go.st (fun _ k => XS.lload X9.here hx rfl (hb hby at_34) rfl k) ?_
  show Go p.tables e below _ (T9.setTop (mkF m 36 #[.val (.long qx), .second, .val (.long qy), .second, .val (.int pm), .val (.long x1_rr), .second, .val (.long x2_rr), .second, .val (.ref b3), .val (.long (0 : Int64)), .second, .unset, .unset, .unset, .unset] [(.long (0 : Int64))]))
  refine Go.st (fun _ k => XS.lload X9.here hx rfl (hb hby at_36) rfl k) ?_
  show Go p.tables e below _ (T9.setTop (mkF m 38 #[.val (.long qx), .second, .val (.long qy), .second, .val (.int pm), .val (.long x1_rr), .second, .val (.long x2_rr), .second, .val (.ref b3), .val (.long (0 : Int64)), .second, .unset, .unset, .unset, .unset] [(.long x1_rr), (.long (0 : Int64))]))
  obtain ⟨_, _, ⟨T10, L10, k10, n10⟩, -, X10, ⟨Lc10, hQ10, l10, y10, z10⟩, st10⟩ := Jvm.LawKit.callS X9 hx (y := (⟨"com/example/clotho/clotho/jsonpath/BudgetTakePinLaw", "fits", "(JJ)Z"⟩ : MethodName)) hown (mvT hZ (hw _ (List.mem_of_getElem? (i := 15) rfl))) (mvT hZ (hw _ (List.mem_of_getElem? (i := 16) rfl))) (mvT hZ (hw _ (List.mem_of_getElem? (i := 2) rfl))) (mvT hZ (hw _ (List.mem_of_getElem? (i := 17) rfl))) (by decide) (backOf (W := 0) (rm_fits l Z a0 hw [] (0 : Int64) x1_rr h3 n0 Z6 (by show 0 ≤ (0 : Int64).toInt ∧ (0 : Int64).toInt ≤ 10000000; exact by omega) (by show 0 ≤ x1_rr.toInt; exact by omega)) hZ (hw _ (List.mem_of_getElem? (i := 17) rfl)) (hw _ (List.mem_of_getElem? (i := 2) rfl)) (by decide) (by decide)) (g := (mkF m 38 #[.val (.long qx), .second, .val (.long qy), .second, .val (.int pm), .val (.long x1_rr), .second, .val (.long x2_rr), .second, .val (.ref b3), .val (.long (0 : Int64)), .second, .unset, .unset, .unset, .unset] [(.long x1_rr), (.long (0 : Int64))])) rfl (by rw [hml]; rfl) (argsL := [(.long (0 : Int64)), (.long x1_rr)]) (rest := []) (lenOf pd_2 rfl) rfl (by show 2 * 0 + _ ≤ _; exact Nat.le_of_eq rfl) (hb hby at_38) (fun _ _ => ⟨rfl, e9, (by decide : 1 + 0 ≤ _), (by decide : 1 + 0 ≤ _)⟩)
  dsimp only [Pt.U, Pt.locs, Pt.cells, Pt.slots] at X10 l10 y10 z10 st10 hQ10
  subst l10 y10 z10
  obtain ⟨x10_rr, rfl, N10q, e10, pr10_rel⟩ := hQ10
  have N10 := Fr.app N9 N10q
  refine Go.st st10 ?_
  show Go p.tables e below _ (T10.setTop (mkF m 41 #[.val (.long qx), .second, .val (.long qy), .second, .val (.int pm), .val (.long x1_rr), .second, .val (.long x2_rr), .second, .val (.ref b3), .val (.long (0 : Int64)), .second, .unset, .unset, .unset, .unset] [(.int x10_rr)]))
  refine Go.st (fun _ k => XS.istore X10.here hx rfl (hb hby at_41) rfl (l' := #[.val (.long qx), .second, .val (.long qy), .second, .val (.int pm), .val (.long x1_rr), .second, .val (.long x2_rr), .second, .val (.ref b3), .val (.long (0 : Int64)), .second, .val (.int x10_rr), .unset, .unset, .unset]) rfl k) ?_
  show Go p.tables e below _ (T10.setTop (mkF m 43 #[.val (.long qx), .second, .val (.long qy), .second, .val (.int pm), .val (.long x1_rr), .second, .val (.long x2_rr), .second, .val (.ref b3), .val (.long (0 : Int64)), .second, .val (.int x10_rr), .unset, .unset, .unset] []))
  show Go p.tables e below _ (T10.setTop (mkF m 43 #[.val (.long qx), .second, .val (.long qy), .second, .val (.int pm), .val (.long x1_rr), .second, .val (.long x2_rr), .second, .val (.ref b3), .val (.long (0 : Int64)), .second, .val (.int x10_rr), .unset, .unset, .unset] []))
  refine Go.st (fun _ k => XS.aload X10.here hx rfl (hb hby at_43) rfl rfl k) ?_
  show Go p.tables e below _ (T10.setTop (mkF m 45 #[.val (.long qx), .second, .val (.long qy), .second, .val (.int pm), .val (.long x1_rr), .second, .val (.long x2_rr), .second, .val (.ref b3), .val (.long (0 : Int64)), .second, .val (.int x10_rr), .unset, .unset, .unset] [(.ref b3)]))
  refine Go.st (fun _ k => XS.lload X10.here hx rfl (hb hby at_45) rfl k) ?_
  show Go p.tables e below _ (T10.setTop (mkF m 47 #[.val (.long qx), .second, .val (.long qy), .second, .val (.int pm), .val (.long x1_rr), .second, .val (.long x2_rr), .second, .val (.ref b3), .val (.long (0 : Int64)), .second, .val (.int x10_rr), .unset, .unset, .unset] [(.long x1_rr), (.ref b3)]))
  obtain ⟨cq11, kq11, q11a, q11b, q11c⟩ := isOf hZ e10 A3
  obtain ⟨_, _, ⟨T11, L11, k11, n11⟩, -, X11, ⟨Lc11, hQ11, l11, y11, z11⟩, st11⟩ := X10.virtualBack hx (y := (⟨"com/example/clotho/clotho/jsonpath/Budget", "take", "(J)Z"⟩ : MethodName)) (z := (⟨"com/example/clotho/clotho/jsonpath/Budget", "take", "(J)Z"⟩ : MethodName)) hown (mvT hZ (hw _ (List.mem_of_getElem? (i := 19) rfl))) (mvT hZ (hw _ (List.mem_of_getElem? (i := 20) rfl))) (notFace_of_selects (args := #[]) (mvT hZ (hw _ (List.mem_of_getElem? (i := 22) rfl)))) (mvT hZ (hw _ (List.mem_of_getElem? (i := 22) rfl))) (mvT hZ (hw _ (List.mem_of_getElem? (i := 21) rfl))) (by decide) (backOf (W := 0) (rm_take l Z a0 hw [] b3 x1_rr (0 : Int64) h3 n0 Z6 F8 A3 ge4 (by show 0 ≤ (0 : Int64).toInt ∧ (0 : Int64).toInt ≤ 10000000; exact by omega) (by show 0 ≤ x1_rr.toInt; exact by omega)) hZ (hw _ (List.mem_of_getElem? (i := 23) rfl)) (hw _ (List.mem_of_getElem? (i := 8) rfl)) (by decide) (by decide)) q11a q11c (g := (mkF m 47 #[.val (.long qx), .second, .val (.long qy), .second, .val (.int pm), .val (.long x1_rr), .second, .val (.long x2_rr), .second, .val (.ref b3), .val (.long (0 : Int64)), .second, .val (.int x10_rr), .unset, .unset, .unset] [(.long x1_rr), (.ref b3)])) rfl (by rw [hml]; rfl) (Steps.refl _) (argsL := [(.long x1_rr)]) (rest := []) (lenOf pd_3 rfl) rfl (by show 2 * 0 + _ ≤ _; exact Nat.le_of_eq rfl) (hb hby at_47) (fun _ _ => ⟨rfl, e10, (by decide : 1 + 0 ≤ _), (by decide : 1 + 0 ≤ _)⟩)
  dsimp only [Pt.U, Pt.locs, Pt.cells, Pt.slots] at X11 l11 y11 z11 st11 hQ11
  subst l11 y11 z11
  obtain ⟨x11_rr, x11_wn, rfl, N11q, K11q, Fq11_0, Fq11_1, pr11_rel⟩ := hQ11
  have N11 := Fr.app N10 N11q
  refine Go.st (fun _ k => st11.trans k) ?_
  have Z12 : n0 ≤ T11.heap.size := Nat.le_trans Z6 K11q.1
  have K13 : Keep h0 T11.heap [] := K7.trans K11q (fun z hz => (List.mem_cons.mp hz).elim (fun q => by rw [q]; exact Or.inr sz5) (fun hz => absurd hz List.not_mem_nil))
  have F14 : Exa Z T11.heap b3 "com/example/clotho/clotho/jsonpath/Budget" := A3.keep K11q
  show Go p.tables e below _ (T11.setTop (mkF m 50 #[.val (.long qx), .second, .val (.long qy), .second, .val (.int pm), .val (.long x1_rr), .second, .val (.long x2_rr), .second, .val (.ref b3), .val (.long (0 : Int64)), .second, .val (.int x10_rr), .unset, .unset, .unset] [(.int x11_rr)]))
  refine Go.st (fun _ k => XS.iload X11.here hx rfl (hb hby at_50) rfl k) ?_
  show Go p.tables e below _ (T11.setTop (mkF m 52 #[.val (.long qx), .second, .val (.long qy), .second, .val (.int pm), .val (.long x1_rr), .second, .val (.long x2_rr), .second, .val (.ref b3), .val (.long (0 : Int64)), .second, .val (.int x10_rr), .unset, .unset, .unset] [(.int x10_rr), (.int x11_rr)]))
  have hc52 : x11_rr = x10_rr := own_eq32 (by omega)
  have hi52 : (x11_rr).toInt = (x10_rr).toInt := Int32.toInt_inj.symm.mp hc52
  refine Go.st (fun _ k => XS.icmpYes X11.here hx rfl (pc0 := 52) (pc' := 57) rfl (hb hby at_52) rfl (Jvm.Free.XT.ii_eq_t hc52) (by decide) (by decide) k) ?_
  show Go p.tables e below _ (T11.setTop (mkF m 57 #[.val (.long qx), .second, .val (.long qy), .second, .val (.int pm), .val (.long x1_rr), .second, .val (.long x2_rr), .second, .val (.ref b3), .val (.long (0 : Int64)), .second, .val (.int x10_rr), .unset, .unset, .unset] []))
  refine Go.st (fun _ k => XS.iload X11.here hx rfl (hb hby at_57) rfl k) ?_
  show Go p.tables e below _ (T11.setTop (mkF m 59 #[.val (.long qx), .second, .val (.long qy), .second, .val (.int pm), .val (.long x1_rr), .second, .val (.long x2_rr), .second, .val (.ref b3), .val (.long (0 : Int64)), .second, .val (.int x10_rr), .unset, .unset, .unset] [(.int x10_rr)]))
  by_cases hc59 : x10_rr = (0 : Int32)
  · skip
    have lt_032 : (0 : Int32).toInt = 0 := by decide
    have hi59 : (x10_rr).toInt = ((0 : Int32)).toInt := Int32.toInt_inj.symm.mp hc59
    refine Go.st (fun _ k => XS.ifYes X11.here hx rfl (pc0 := 59) (pc' := 69) rfl (hb hby at_59) rfl (Jvm.Free.XT.i0_eq_t hc59) (by decide) (by decide) k) ?_
    show Go p.tables e below _ (T11.setTop (mkF m 69 #[.val (.long qx), .second, .val (.long qy), .second, .val (.int pm), .val (.long x1_rr), .second, .val (.long x2_rr), .second, .val (.ref b3), .val (.long (0 : Int64)), .second, .val (.int x10_rr), .unset, .unset, .unset] []))
    refine Go.st (fun _ k => XS.aload X11.here hx rfl (hb hby at_69) rfl rfl k) ?_
    show Go p.tables e below _ (T11.setTop (mkF m 71 #[.val (.long qx), .second, .val (.long qy), .second, .val (.int pm), .val (.long x1_rr), .second, .val (.long x2_rr), .second, .val (.ref b3), .val (.long (0 : Int64)), .second, .val (.int x10_rr), .unset, .unset, .unset] [(.ref b3)]))
    obtain ⟨cq15, kq15, q15a, q15b, q15c⟩ := isOf hZ (rfl : T11.heap = T11.heap) Fq11_0
    obtain ⟨_, _, ⟨T15, L15, k15, n15⟩, -, X15, ⟨Lc15, hQ15, l15, y15, z15⟩, st15⟩ := X11.virtualBack hx (y := (⟨"com/example/clotho/clotho/jsonpath/Budget", "isTouched", "()Z"⟩ : MethodName)) (z := (⟨"com/example/clotho/clotho/jsonpath/Budget", "isTouched", "()Z"⟩ : MethodName)) hown (mvT hZ (hw _ (List.mem_of_getElem? (i := 27) rfl))) (mvT hZ (hw _ (List.mem_of_getElem? (i := 28) rfl))) (notFace_of_selects (args := #[]) (mvT hZ (hw _ (List.mem_of_getElem? (i := 30) rfl)))) (mvT hZ (hw _ (List.mem_of_getElem? (i := 30) rfl))) (mvT hZ (hw _ (List.mem_of_getElem? (i := 29) rfl))) (by decide) (backOf (W := 0) (rm_touched l Z a0 hw [] b3 x11_wn T11.heap n0 Z12 Fq11_1) hZ (hw _ (List.mem_of_getElem? (i := 31) rfl)) (hw _ (List.mem_of_getElem? (i := 8) rfl)) (by decide) (by decide)) q15a q15c (g := (mkF m 71 #[.val (.long qx), .second, .val (.long qy), .second, .val (.int pm), .val (.long x1_rr), .second, .val (.long x2_rr), .second, .val (.ref b3), .val (.long (0 : Int64)), .second, .val (.int x10_rr), .unset, .unset, .unset] [(.ref b3)])) rfl (by rw [hml]; rfl) (Steps.refl _) (argsL := []) (rest := []) (lenOf pd_4 rfl) rfl (by show 2 * 0 + _ ≤ _; exact Nat.le_of_eq rfl) (hb hby at_71) (fun _ _ => ⟨rfl, (rfl : T11.heap = T11.heap), (by decide : 1 + 0 ≤ _), (by decide : 1 + 0 ≤ _)⟩)
    dsimp only [Pt.U, Pt.locs, Pt.cells, Pt.slots] at X15 l15 y15 z15 st15 hQ15
    subst l15 y15 z15
    obtain ⟨x15_rr, rfl, N15q, e15, pr15_rel⟩ := hQ15
    have N15 := Fr.app N11 N15q
    refine Go.st (fun _ k => st15.trans k) ?_
    show Go p.tables e below _ (T15.setTop (mkF m 74 #[.val (.long qx), .second, .val (.long qy), .second, .val (.int pm), .val (.long x1_rr), .second, .val (.long x2_rr), .second, .val (.ref b3), .val (.long (0 : Int64)), .second, .val (.int x10_rr), .unset, .unset, .unset] [(.int x15_rr)]))
    refine Go.st (fun _ k => XS.lload X15.here hx rfl (hb hby at_74) rfl k) ?_
    show Go p.tables e below _ (T15.setTop (mkF m 76 #[.val (.long qx), .second, .val (.long qy), .second, .val (.int pm), .val (.long x1_rr), .second, .val (.long x2_rr), .second, .val (.ref b3), .val (.long (0 : Int64)), .second, .val (.int x10_rr), .unset, .unset, .unset] [(.long (0 : Int64)), (.int x15_rr)]))
    refine Go.st (fun _ k => XS.lconst X15.here hx rfl (hb hby at_76) k) ?_
    show Go p.tables e below _ (T15.setTop (mkF m 77 #[.val (.long qx), .second, .val (.long qy), .second, .val (.int pm), .val (.long x1_rr), .second, .val (.long x2_rr), .second, .val (.ref b3), .val (.long (0 : Int64)), .second, .val (.int x10_rr), .unset, .unset, .unset] [(.long (0 : Int64)), (.long (0 : Int64)), (.int x15_rr)]))
    refine Go.st (fun _ k => Jvm.Free.XT.lcmp X15.here hx rfl (hb hby at_77) rfl k) ?_
    show Go p.tables e below _ (T15.setTop (mkF m 78 #[.val (.long qx), .second, .val (.long qy), .second, .val (.int pm), .val (.long x1_rr), .second, .val (.long x2_rr), .second, .val (.ref b3), .val (.long (0 : Int64)), .second, .val (.int x10_rr), .unset, .unset, .unset] [(.int (Jvm.Free.XT.cmpL (0 : Int64) (0 : Int64))), (.int x15_rr)]))
    have hl16 : ¬ ((0 : Int64) < (0 : Int64)) := by decide
    refine Go.st (fun _ k => XS.ifYes X15.here hx rfl (pc0 := 78) (pc' := 85) rfl (hb hby at_78) rfl (Jvm.Free.XT.ll_le_t hl16) (by decide) (by decide) k) ?_
    show Go p.tables e below _ (T15.setTop (mkF m 85 #[.val (.long qx), .second, .val (.long qy), .second, .val (.int pm), .val (.long x1_rr), .second, .val (.long x2_rr), .second, .val (.ref b3), .val (.long (0 : Int64)), .second, .val (.int x10_rr), .unset, .unset, .unset] [(.int x15_rr)]))
    refine Go.st (fun _ k => XS.iconst X15.here hx rfl (hb hby at_85) k) ?_
    show Go p.tables e below _ (T15.setTop (mkF m 86 #[.val (.long qx), .second, .val (.long qy), .second, .val (.int pm), .val (.long x1_rr), .second, .val (.long x2_rr), .second, .val (.ref b3), .val (.long (0 : Int64)), .second, .val (.int x10_rr), .unset, .unset, .unset] [(.int (0 : Int32)), (.int x15_rr)]))
    have hc86 : x15_rr = (0 : Int32) := own_eq32 (by omega)
    have hi86 : (x15_rr).toInt = ((0 : Int32)).toInt := Int32.toInt_inj.symm.mp hc86
    refine Go.st (fun _ k => XS.icmpYes X15.here hx rfl (pc0 := 86) (pc' := 91) rfl (hb hby at_86) rfl (Jvm.Free.XT.ii_eq_t hc86) (by decide) (by decide) k) ?_
    show Go p.tables e below _ (T15.setTop (mkF m 91 #[.val (.long qx), .second, .val (.long qy), .second, .val (.int pm), .val (.long x1_rr), .second, .val (.long x2_rr), .second, .val (.ref b3), .val (.long (0 : Int64)), .second, .val (.int x10_rr), .unset, .unset, .unset] []))
    refine Go.st (fun _ k => XS.lload X15.here hx rfl (hb hby at_91) rfl k) ?_
    show Go p.tables e below _ (T15.setTop (mkF m 93 #[.val (.long qx), .second, .val (.long qy), .second, .val (.int pm), .val (.long x1_rr), .second, .val (.long x2_rr), .second, .val (.ref b3), .val (.long (0 : Int64)), .second, .val (.int x10_rr), .unset, .unset, .unset] [(.long (0 : Int64))]))
    refine Go.st (fun _ k => XS.lload X15.here hx rfl (hb hby at_93) rfl k) ?_
    show Go p.tables e below _ (T15.setTop (mkF m 95 #[.val (.long qx), .second, .val (.long qy), .second, .val (.int pm), .val (.long x1_rr), .second, .val (.long x2_rr), .second, .val (.ref b3), .val (.long (0 : Int64)), .second, .val (.int x10_rr), .unset, .unset, .unset] [(.long x2_rr), (.long (0 : Int64))]))
    obtain ⟨_, _, ⟨T17, L17, k17, n17⟩, -, X17, ⟨Lc17, hQ17, l17, y17, z17⟩, st17⟩ := Jvm.LawKit.callS X15 hx (y := (⟨"com/example/clotho/clotho/jsonpath/BudgetTakePinLaw", "fits", "(JJ)Z"⟩ : MethodName)) hown (mvT hZ (hw _ (List.mem_of_getElem? (i := 15) rfl))) (mvT hZ (hw _ (List.mem_of_getElem? (i := 16) rfl))) (mvT hZ (hw _ (List.mem_of_getElem? (i := 2) rfl))) (mvT hZ (hw _ (List.mem_of_getElem? (i := 17) rfl))) (by decide) (backOf (W := 0) (rm_fits l Z a0 hw [] (0 : Int64) x2_rr T11.heap n0 Z12 (by show 0 ≤ (0 : Int64).toInt ∧ (0 : Int64).toInt ≤ 10000000; exact by omega) (by show 0 ≤ x2_rr.toInt; exact by omega)) hZ (hw _ (List.mem_of_getElem? (i := 17) rfl)) (hw _ (List.mem_of_getElem? (i := 2) rfl)) (by decide) (by decide)) (g := (mkF m 95 #[.val (.long qx), .second, .val (.long qy), .second, .val (.int pm), .val (.long x1_rr), .second, .val (.long x2_rr), .second, .val (.ref b3), .val (.long (0 : Int64)), .second, .val (.int x10_rr), .unset, .unset, .unset] [(.long x2_rr), (.long (0 : Int64))])) rfl (by rw [hml]; rfl) (argsL := [(.long (0 : Int64)), (.long x2_rr)]) (rest := []) (lenOf pd_2 rfl) rfl (by show 2 * 0 + _ ≤ _; exact Nat.le_of_eq rfl) (hb hby at_95) (fun _ _ => ⟨rfl, e15, (by decide : 1 + 0 ≤ _), (by decide : 1 + 0 ≤ _)⟩)
    dsimp only [Pt.U, Pt.locs, Pt.cells, Pt.slots] at X17 l17 y17 z17 st17 hQ17
    subst l17 y17 z17
    obtain ⟨x17_rr, rfl, N17q, e17, pr17_rel⟩ := hQ17
    have N17 := Fr.app N15 N17q
    refine Go.st st17 ?_
    show Go p.tables e below _ (T17.setTop (mkF m 98 #[.val (.long qx), .second, .val (.long qy), .second, .val (.int pm), .val (.long x1_rr), .second, .val (.long x2_rr), .second, .val (.ref b3), .val (.long (0 : Int64)), .second, .val (.int x10_rr), .unset, .unset, .unset] [(.int x17_rr)]))
    refine Go.st (fun _ k => XS.istore X17.here hx rfl (hb hby at_98) rfl (l' := #[.val (.long qx), .second, .val (.long qy), .second, .val (.int pm), .val (.long x1_rr), .second, .val (.long x2_rr), .second, .val (.ref b3), .val (.long (0 : Int64)), .second, .val (.int x10_rr), .val (.int x17_rr), .unset, .unset]) rfl k) ?_
    show Go p.tables e below _ (T17.setTop (mkF m 100 #[.val (.long qx), .second, .val (.long qy), .second, .val (.int pm), .val (.long x1_rr), .second, .val (.long x2_rr), .second, .val (.ref b3), .val (.long (0 : Int64)), .second, .val (.int x10_rr), .val (.int x17_rr), .unset, .unset] []))
    show Go p.tables e below _ (T17.setTop (mkF m 100 #[.val (.long qx), .second, .val (.long qy), .second, .val (.int pm), .val (.long x1_rr), .second, .val (.long x2_rr), .second, .val (.ref b3), .val (.long (0 : Int64)), .second, .val (.int x10_rr), .val (.int x17_rr), .unset, .unset] []))
    refine Go.st (fun _ k => XS.aload X17.here hx rfl (hb hby at_100) rfl rfl k) ?_
    show Go p.tables e below _ (T17.setTop (mkF m 102 #[.val (.long qx), .second, .val (.long qy), .second, .val (.int pm), .val (.long x1_rr), .second, .val (.long x2_rr), .second, .val (.ref b3), .val (.long (0 : Int64)), .second, .val (.int x10_rr), .val (.int x17_rr), .unset, .unset] [(.ref b3)]))
    refine Go.st (fun _ k => XS.lload X17.here hx rfl (hb hby at_102) rfl k) ?_
    show Go p.tables e below _ (T17.setTop (mkF m 104 #[.val (.long qx), .second, .val (.long qy), .second, .val (.int pm), .val (.long x1_rr), .second, .val (.long x2_rr), .second, .val (.ref b3), .val (.long (0 : Int64)), .second, .val (.int x10_rr), .val (.int x17_rr), .unset, .unset] [(.long x2_rr), (.ref b3)]))
    obtain ⟨cq18, kq18, q18a, q18b, q18c⟩ := isOf hZ e17 Fq11_0
    obtain ⟨_, _, ⟨T18, L18, k18, n18⟩, -, X18, ⟨Lc18, hQ18, l18, y18, z18⟩, st18⟩ := X17.virtualBack hx (y := (⟨"com/example/clotho/clotho/jsonpath/Budget", "take", "(J)Z"⟩ : MethodName)) (z := (⟨"com/example/clotho/clotho/jsonpath/Budget", "take", "(J)Z"⟩ : MethodName)) hown (mvT hZ (hw _ (List.mem_of_getElem? (i := 19) rfl))) (mvT hZ (hw _ (List.mem_of_getElem? (i := 20) rfl))) (notFace_of_selects (args := #[]) (mvT hZ (hw _ (List.mem_of_getElem? (i := 22) rfl)))) (mvT hZ (hw _ (List.mem_of_getElem? (i := 22) rfl))) (mvT hZ (hw _ (List.mem_of_getElem? (i := 21) rfl))) (by decide) (backOf (W := 0) (rm_take l Z a0 hw [] b3 x2_rr x11_wn T11.heap n0 Z12 Fq11_1 Fq11_0 ge4 (by show 0 ≤ x11_wn.toInt ∧ x11_wn.toInt ≤ 10000000; exact by omega) (by show 0 ≤ x2_rr.toInt; exact by omega)) hZ (hw _ (List.mem_of_getElem? (i := 23) rfl)) (hw _ (List.mem_of_getElem? (i := 8) rfl)) (by decide) (by decide)) q18a q18c (g := (mkF m 104 #[.val (.long qx), .second, .val (.long qy), .second, .val (.int pm), .val (.long x1_rr), .second, .val (.long x2_rr), .second, .val (.ref b3), .val (.long (0 : Int64)), .second, .val (.int x10_rr), .val (.int x17_rr), .unset, .unset] [(.long x2_rr), (.ref b3)])) rfl (by rw [hml]; rfl) (Steps.refl _) (argsL := [(.long x2_rr)]) (rest := []) (lenOf pd_3 rfl) rfl (by show 2 * 0 + _ ≤ _; exact Nat.le_of_eq rfl) (hb hby at_104) (fun _ _ => ⟨rfl, e17, (by decide : 1 + 0 ≤ _), (by decide : 1 + 0 ≤ _)⟩)
    dsimp only [Pt.U, Pt.locs, Pt.cells, Pt.slots] at X18 l18 y18 z18 st18 hQ18
    subst l18 y18 z18
    obtain ⟨x18_rr, x18_wn, rfl, N18q, K18q, Fq18_0, Fq18_1, pr18_rel⟩ := hQ18
    have N18 := Fr.app N17 N18q
    refine Go.st (fun _ k => st18.trans k) ?_
    have Z19 : n0 ≤ T18.heap.size := Nat.le_trans Z12 K18q.1
    have K20 : Keep h0 T18.heap [] := K13.trans K18q (fun z hz => (List.mem_cons.mp hz).elim (fun q => by rw [q]; exact Or.inr sz5) (fun hz => absurd hz List.not_mem_nil))
    have F21 : Exa Z T18.heap b3 "com/example/clotho/clotho/jsonpath/Budget" := Fq11_0.keep K18q
    show Go p.tables e below _ (T18.setTop (mkF m 107 #[.val (.long qx), .second, .val (.long qy), .second, .val (.int pm), .val (.long x1_rr), .second, .val (.long x2_rr), .second, .val (.ref b3), .val (.long (0 : Int64)), .second, .val (.int x10_rr), .val (.int x17_rr), .unset, .unset] [(.int x18_rr)]))
    refine Go.st (fun _ k => XS.iload X18.here hx rfl (hb hby at_107) rfl k) ?_
    show Go p.tables e below _ (T18.setTop (mkF m 109 #[.val (.long qx), .second, .val (.long qy), .second, .val (.int pm), .val (.long x1_rr), .second, .val (.long x2_rr), .second, .val (.ref b3), .val (.long (0 : Int64)), .second, .val (.int x10_rr), .val (.int x17_rr), .unset, .unset] [(.int x17_rr), (.int x18_rr)]))
    have hc109 : x18_rr = x17_rr := own_eq32 (by omega)
    have hi109 : (x18_rr).toInt = (x17_rr).toInt := Int32.toInt_inj.symm.mp hc109
    refine Go.st (fun _ k => XS.icmpYes X18.here hx rfl (pc0 := 109) (pc' := 114) rfl (hb hby at_109) rfl (Jvm.Free.XT.ii_eq_t hc109) (by decide) (by decide) k) ?_
    show Go p.tables e below _ (T18.setTop (mkF m 114 #[.val (.long qx), .second, .val (.long qy), .second, .val (.int pm), .val (.long x1_rr), .second, .val (.long x2_rr), .second, .val (.ref b3), .val (.long (0 : Int64)), .second, .val (.int x10_rr), .val (.int x17_rr), .unset, .unset] []))
    refine Go.st (fun _ k => XS.iload X18.here hx rfl (hb hby at_114) rfl k) ?_
    show Go p.tables e below _ (T18.setTop (mkF m 116 #[.val (.long qx), .second, .val (.long qy), .second, .val (.int pm), .val (.long x1_rr), .second, .val (.long x2_rr), .second, .val (.ref b3), .val (.long (0 : Int64)), .second, .val (.int x10_rr), .val (.int x17_rr), .unset, .unset] [(.int x17_rr)]))
    by_cases hc116 : x17_rr = (0 : Int32)
    · skip
      have hi116 : (x17_rr).toInt = ((0 : Int32)).toInt := Int32.toInt_inj.symm.mp hc116
      refine Go.st (fun _ k => XS.ifYes X18.here hx rfl (pc0 := 116) (pc' := 126) rfl (hb hby at_116) rfl (Jvm.Free.XT.i0_eq_t hc116) (by decide) (by decide) k) ?_
      show Go p.tables e below _ (T18.setTop (mkF m 126 #[.val (.long qx), .second, .val (.long qy), .second, .val (.int pm), .val (.long x1_rr), .second, .val (.long x2_rr), .second, .val (.ref b3), .val (.long (0 : Int64)), .second, .val (.int x10_rr), .val (.int x17_rr), .unset, .unset] []))
      refine Go.st (fun _ k => XS.aload X18.here hx rfl (hb hby at_126) rfl rfl k) ?_
      show Go p.tables e below _ (T18.setTop (mkF m 128 #[.val (.long qx), .second, .val (.long qy), .second, .val (.int pm), .val (.long x1_rr), .second, .val (.long x2_rr), .second, .val (.ref b3), .val (.long (0 : Int64)), .second, .val (.int x10_rr), .val (.int x17_rr), .unset, .unset] [(.ref b3)]))
      obtain ⟨cq22, kq22, q22a, q22b, q22c⟩ := isOf hZ (rfl : T18.heap = T18.heap) Fq18_0
      obtain ⟨_, _, ⟨T22, L22, k22, n22⟩, -, X22, ⟨Lc22, hQ22, l22, y22, z22⟩, st22⟩ := X18.virtualBack hx (y := (⟨"com/example/clotho/clotho/jsonpath/Budget", "isTouched", "()Z"⟩ : MethodName)) (z := (⟨"com/example/clotho/clotho/jsonpath/Budget", "isTouched", "()Z"⟩ : MethodName)) hown (mvT hZ (hw _ (List.mem_of_getElem? (i := 27) rfl))) (mvT hZ (hw _ (List.mem_of_getElem? (i := 28) rfl))) (notFace_of_selects (args := #[]) (mvT hZ (hw _ (List.mem_of_getElem? (i := 30) rfl)))) (mvT hZ (hw _ (List.mem_of_getElem? (i := 30) rfl))) (mvT hZ (hw _ (List.mem_of_getElem? (i := 29) rfl))) (by decide) (backOf (W := 0) (rm_touched l Z a0 hw [] b3 x18_wn T18.heap n0 Z19 Fq18_1) hZ (hw _ (List.mem_of_getElem? (i := 31) rfl)) (hw _ (List.mem_of_getElem? (i := 8) rfl)) (by decide) (by decide)) q22a q22c (g := (mkF m 128 #[.val (.long qx), .second, .val (.long qy), .second, .val (.int pm), .val (.long x1_rr), .second, .val (.long x2_rr), .second, .val (.ref b3), .val (.long (0 : Int64)), .second, .val (.int x10_rr), .val (.int x17_rr), .unset, .unset] [(.ref b3)])) rfl (by rw [hml]; rfl) (Steps.refl _) (argsL := []) (rest := []) (lenOf pd_4 rfl) rfl (by show 2 * 0 + _ ≤ _; exact Nat.le_of_eq rfl) (hb hby at_128) (fun _ _ => ⟨rfl, (rfl : T18.heap = T18.heap), (by decide : 1 + 0 ≤ _), (by decide : 1 + 0 ≤ _)⟩)
      dsimp only [Pt.U, Pt.locs, Pt.cells, Pt.slots] at X22 l22 y22 z22 st22 hQ22
      subst l22 y22 z22
      obtain ⟨x22_rr, rfl, N22q, e22, pr22_rel⟩ := hQ22
      have N22 := Fr.app N18 N22q
      refine Go.st (fun _ k => st22.trans k) ?_
      show Go p.tables e below _ (T22.setTop (mkF m 131 #[.val (.long qx), .second, .val (.long qy), .second, .val (.int pm), .val (.long x1_rr), .second, .val (.long x2_rr), .second, .val (.ref b3), .val (.long (0 : Int64)), .second, .val (.int x10_rr), .val (.int x17_rr), .unset, .unset] [(.int x22_rr)]))
      refine Go.st (fun _ k => XS.lload X22.here hx rfl (hb hby at_131) rfl k) ?_
      show Go p.tables e below _ (T22.setTop (mkF m 133 #[.val (.long qx), .second, .val (.long qy), .second, .val (.int pm), .val (.long x1_rr), .second, .val (.long x2_rr), .second, .val (.ref b3), .val (.long (0 : Int64)), .second, .val (.int x10_rr), .val (.int x17_rr), .unset, .unset] [(.long (0 : Int64)), (.int x22_rr)]))
      refine Go.st (fun _ k => XS.lconst X22.here hx rfl (hb hby at_133) k) ?_
      show Go p.tables e below _ (T22.setTop (mkF m 134 #[.val (.long qx), .second, .val (.long qy), .second, .val (.int pm), .val (.long x1_rr), .second, .val (.long x2_rr), .second, .val (.ref b3), .val (.long (0 : Int64)), .second, .val (.int x10_rr), .val (.int x17_rr), .unset, .unset] [(.long (0 : Int64)), (.long (0 : Int64)), (.int x22_rr)]))
      refine Go.st (fun _ k => Jvm.Free.XT.lcmp X22.here hx rfl (hb hby at_134) rfl k) ?_
      show Go p.tables e below _ (T22.setTop (mkF m 135 #[.val (.long qx), .second, .val (.long qy), .second, .val (.int pm), .val (.long x1_rr), .second, .val (.long x2_rr), .second, .val (.ref b3), .val (.long (0 : Int64)), .second, .val (.int x10_rr), .val (.int x17_rr), .unset, .unset] [(.int (Jvm.Free.XT.cmpL (0 : Int64) (0 : Int64))), (.int x22_rr)]))
      have hl23 : ¬ ((0 : Int64) < (0 : Int64)) := by decide
      refine Go.st (fun _ k => XS.ifYes X22.here hx rfl (pc0 := 135) (pc' := 142) rfl (hb hby at_135) rfl (Jvm.Free.XT.ll_le_t hl23) (by decide) (by decide) k) ?_
      show Go p.tables e below _ (T22.setTop (mkF m 142 #[.val (.long qx), .second, .val (.long qy), .second, .val (.int pm), .val (.long x1_rr), .second, .val (.long x2_rr), .second, .val (.ref b3), .val (.long (0 : Int64)), .second, .val (.int x10_rr), .val (.int x17_rr), .unset, .unset] [(.int x22_rr)]))
      refine Go.st (fun _ k => XS.iconst X22.here hx rfl (hb hby at_142) k) ?_
      show Go p.tables e below _ (T22.setTop (mkF m 143 #[.val (.long qx), .second, .val (.long qy), .second, .val (.int pm), .val (.long x1_rr), .second, .val (.long x2_rr), .second, .val (.ref b3), .val (.long (0 : Int64)), .second, .val (.int x10_rr), .val (.int x17_rr), .unset, .unset] [(.int (0 : Int32)), (.int x22_rr)]))
      have hc143 : x22_rr = (0 : Int32) := own_eq32 (by omega)
      have hi143 : (x22_rr).toInt = ((0 : Int32)).toInt := Int32.toInt_inj.symm.mp hc143
      refine Go.st (fun _ k => XS.icmpYes X22.here hx rfl (pc0 := 143) (pc' := 148) rfl (hb hby at_143) rfl (Jvm.Free.XT.ii_eq_t hc143) (by decide) (by decide) k) ?_
      show Go p.tables e below _ (T22.setTop (mkF m 148 #[.val (.long qx), .second, .val (.long qy), .second, .val (.int pm), .val (.long x1_rr), .second, .val (.long x2_rr), .second, .val (.ref b3), .val (.long (0 : Int64)), .second, .val (.int x10_rr), .val (.int x17_rr), .unset, .unset] []))
      refine Go.st (fun _ k => X22.ldc2Long hx hown (mvT hZ (hw _ (List.mem_of_getElem? (i := 18) rfl))) (g := (mkF m 148 #[.val (.long qx), .second, .val (.long qy), .second, .val (.int pm), .val (.long x1_rr), .second, .val (.long x2_rr), .second, .val (.ref b3), .val (.long (0 : Int64)), .second, .val (.int x10_rr), .val (.int x17_rr), .unset, .unset] [])) rfl (hb hby at_148) _ k) ?_
      show Go p.tables e below _ (T22.setTop (mkF m 151 #[.val (.long qx), .second, .val (.long qy), .second, .val (.int pm), .val (.long x1_rr), .second, .val (.long x2_rr), .second, .val (.ref b3), .val (.long (0 : Int64)), .second, .val (.int x10_rr), .val (.int x17_rr), .unset, .unset] [(.long (10000000 : Int64))]))
      refine Go.st (fun _ k => XS.lload X22.here hx rfl (hb hby at_151) rfl k) ?_
      show Go p.tables e below _ (T22.setTop (mkF m 153 #[.val (.long qx), .second, .val (.long qy), .second, .val (.int pm), .val (.long x1_rr), .second, .val (.long x2_rr), .second, .val (.ref b3), .val (.long (0 : Int64)), .second, .val (.int x10_rr), .val (.int x17_rr), .unset, .unset] [(.long (0 : Int64)), (.long (10000000 : Int64))]))
      refine Go.st (fun _ k => XS.lsub X22.here hx rfl (hb hby at_153) rfl k) ?_
      show Go p.tables e below _ (T22.setTop (mkF m 154 #[.val (.long qx), .second, .val (.long qy), .second, .val (.int pm), .val (.long x1_rr), .second, .val (.long x2_rr), .second, .val (.ref b3), .val (.long (0 : Int64)), .second, .val (.int x10_rr), .val (.int x17_rr), .unset, .unset] [(.long ((10000000 : Int64) - (0 : Int64)))]))
      refine Go.st (fun _ k => XS.lstore X22.here hx rfl (hb hby at_154) rfl (l' := #[.val (.long qx), .second, .val (.long qy), .second, .val (.int pm), .val (.long x1_rr), .second, .val (.long x2_rr), .second, .val (.ref b3), .val (.long (0 : Int64)), .second, .val (.int x10_rr), .val (.int x17_rr), .val (.long ((10000000 : Int64) - (0 : Int64))), .second]) rfl k) ?_
      show Go p.tables e below _ (T22.setTop (mkF m 156 #[.val (.long qx), .second, .val (.long qy), .second, .val (.int pm), .val (.long x1_rr), .second, .val (.long x2_rr), .second, .val (.ref b3), .val (.long (0 : Int64)), .second, .val (.int x10_rr), .val (.int x17_rr), .val (.long ((10000000 : Int64) - (0 : Int64))), .second] []))
      generalize hqv154 : ((10000000 : Int64) - (0 : Int64)) = v154
      have lt_1000000064 : (10000000 : Int64).toInt = 10000000 := by decide
      have lt_064 : (0 : Int64).toInt = 0 := by decide
      have hi_v154 := i64_subc (10000000 : Int64) (0 : Int64)
      rw [hqv154] at hi_v154
      show Go p.tables e below _ (T22.setTop (mkF m 156 #[.val (.long qx), .second, .val (.long qy), .second, .val (.int pm), .val (.long x1_rr), .second, .val (.long x2_rr), .second, .val (.ref b3), .val (.long (0 : Int64)), .second, .val (.int x10_rr), .val (.int x17_rr), .val (.long v154), .second] []))
      refine Go.st (fun _ k => XS.aload X22.here hx rfl (hb hby at_156) rfl rfl k) ?_
      show Go p.tables e below _ (T22.setTop (mkF m 158 #[.val (.long qx), .second, .val (.long qy), .second, .val (.int pm), .val (.long x1_rr), .second, .val (.long x2_rr), .second, .val (.ref b3), .val (.long (0 : Int64)), .second, .val (.int x10_rr), .val (.int x17_rr), .val (.long v154), .second] [(.ref b3)]))
      refine Go.st (fun _ k => XS.lload X22.here hx rfl (hb hby at_158) rfl k) ?_
      show Go p.tables e below _ (T22.setTop (mkF m 160 #[.val (.long qx), .second, .val (.long qy), .second, .val (.int pm), .val (.long x1_rr), .second, .val (.long x2_rr), .second, .val (.ref b3), .val (.long (0 : Int64)), .second, .val (.int x10_rr), .val (.int x17_rr), .val (.long v154), .second] [(.long v154), (.ref b3)]))
      refine Go.st (fun _ k => XS.lconst X22.here hx rfl (hb hby at_160) k) ?_
      show Go p.tables e below _ (T22.setTop (mkF m 161 #[.val (.long qx), .second, .val (.long qy), .second, .val (.int pm), .val (.long x1_rr), .second, .val (.long x2_rr), .second, .val (.ref b3), .val (.long (0 : Int64)), .second, .val (.int x10_rr), .val (.int x17_rr), .val (.long v154), .second] [(.long (1 : Int64)), (.long v154), (.ref b3)]))
      refine Go.st (fun _ k => XS.ladd X22.here hx rfl (hb hby at_161) rfl k) ?_
      show Go p.tables e below _ (T22.setTop (mkF m 162 #[.val (.long qx), .second, .val (.long qy), .second, .val (.int pm), .val (.long x1_rr), .second, .val (.long x2_rr), .second, .val (.ref b3), .val (.long (0 : Int64)), .second, .val (.int x10_rr), .val (.int x17_rr), .val (.long v154), .second] [(.long (v154 + (1 : Int64))), (.ref b3)]))
      generalize hqa162 : (v154 + (1 : Int64)) = a162
      have lt_164 : (1 : Int64).toInt = 1 := by decide
      have hi_a162 := i64_addc v154 (1 : Int64)
      rw [hqa162] at hi_a162
      obtain ⟨cq24, kq24, q24a, q24b, q24c⟩ := isOf hZ e22 Fq18_0
      obtain ⟨_, _, ⟨T24, L24, k24, n24⟩, -, X24, ⟨Lc24, hQ24, l24, y24, z24⟩, st24⟩ := X22.virtualBack hx (y := (⟨"com/example/clotho/clotho/jsonpath/Budget", "take", "(J)Z"⟩ : MethodName)) (z := (⟨"com/example/clotho/clotho/jsonpath/Budget", "take", "(J)Z"⟩ : MethodName)) hown (mvT hZ (hw _ (List.mem_of_getElem? (i := 19) rfl))) (mvT hZ (hw _ (List.mem_of_getElem? (i := 20) rfl))) (notFace_of_selects (args := #[]) (mvT hZ (hw _ (List.mem_of_getElem? (i := 22) rfl)))) (mvT hZ (hw _ (List.mem_of_getElem? (i := 22) rfl))) (mvT hZ (hw _ (List.mem_of_getElem? (i := 21) rfl))) (by decide) (backOf (W := 0) (rm_take l Z a0 hw [] b3 a162 x18_wn T18.heap n0 Z19 Fq18_1 Fq18_0 ge4 (by show 0 ≤ x18_wn.toInt ∧ x18_wn.toInt ≤ 10000000; exact by omega) (by show 0 ≤ a162.toInt; exact by omega)) hZ (hw _ (List.mem_of_getElem? (i := 23) rfl)) (hw _ (List.mem_of_getElem? (i := 8) rfl)) (by decide) (by decide)) q24a q24c (g := (mkF m 162 #[.val (.long qx), .second, .val (.long qy), .second, .val (.int pm), .val (.long x1_rr), .second, .val (.long x2_rr), .second, .val (.ref b3), .val (.long (0 : Int64)), .second, .val (.int x10_rr), .val (.int x17_rr), .val (.long v154), .second] [(.long a162), (.ref b3)])) rfl (by rw [hml]; rfl) (Steps.refl _) (argsL := [(.long a162)]) (rest := []) (lenOf pd_3 rfl) rfl (by show 2 * 0 + _ ≤ _; exact Nat.le_of_eq rfl) (hb hby at_162) (fun _ _ => ⟨rfl, e22, (by decide : 1 + 0 ≤ _), (by decide : 1 + 0 ≤ _)⟩)
      dsimp only [Pt.U, Pt.locs, Pt.cells, Pt.slots] at X24 l24 y24 z24 st24 hQ24
      subst l24 y24 z24
      obtain ⟨x24_rr, x24_wn, rfl, N24q, K24q, Fq24_0, Fq24_1, pr24_rel⟩ := hQ24
      have N24 := Fr.app N22 N24q
      refine Go.st (fun _ k => st24.trans k) ?_
      have Z25 : n0 ≤ T24.heap.size := Nat.le_trans Z19 K24q.1
      have K26 : Keep h0 T24.heap [] := K20.trans K24q (fun z hz => (List.mem_cons.mp hz).elim (fun q => by rw [q]; exact Or.inr sz5) (fun hz => absurd hz List.not_mem_nil))
      have F27 : Exa Z T24.heap b3 "com/example/clotho/clotho/jsonpath/Budget" := Fq18_0.keep K24q
      show Go p.tables e below _ (T24.setTop (mkF m 165 #[.val (.long qx), .second, .val (.long qy), .second, .val (.int pm), .val (.long x1_rr), .second, .val (.long x2_rr), .second, .val (.ref b3), .val (.long (0 : Int64)), .second, .val (.int x10_rr), .val (.int x17_rr), .val (.long v154), .second] [(.int x24_rr)]))
      have hc165 : x24_rr = (0 : Int32) := own_eq32 (by omega)
      have hi165 : (x24_rr).toInt = ((0 : Int32)).toInt := Int32.toInt_inj.symm.mp hc165
      refine Go.st (fun _ k => XS.ifYes X24.here hx rfl (pc0 := 165) (pc' := 170) rfl (hb hby at_165) rfl (Jvm.Free.XT.i0_eq_t hc165) (by decide) (by decide) k) ?_
      show Go p.tables e below _ (T24.setTop (mkF m 170 #[.val (.long qx), .second, .val (.long qy), .second, .val (.int pm), .val (.long x1_rr), .second, .val (.long x2_rr), .second, .val (.ref b3), .val (.long (0 : Int64)), .second, .val (.int x10_rr), .val (.int x17_rr), .val (.long v154), .second] []))
      refine Go.st (fun _ k => XS.aload X24.here hx rfl (hb hby at_170) rfl rfl k) ?_
      show Go p.tables e below _ (T24.setTop (mkF m 172 #[.val (.long qx), .second, .val (.long qy), .second, .val (.int pm), .val (.long x1_rr), .second, .val (.long x2_rr), .second, .val (.ref b3), .val (.long (0 : Int64)), .second, .val (.int x10_rr), .val (.int x17_rr), .val (.long v154), .second] [(.ref b3)]))
      refine Go.st (fun _ k => XS.lload X24.here hx rfl (hb hby at_172) rfl k) ?_
      show Go p.tables e below _ (T24.setTop (mkF m 174 #[.val (.long qx), .second, .val (.long qy), .second, .val (.int pm), .val (.long x1_rr), .second, .val (.long x2_rr), .second, .val (.ref b3), .val (.long (0 : Int64)), .second, .val (.int x10_rr), .val (.int x17_rr), .val (.long v154), .second] [(.long v154), (.ref b3)]))
      obtain ⟨cq28, kq28, q28a, q28b, q28c⟩ := isOf hZ (rfl : T24.heap = T24.heap) Fq24_0
      obtain ⟨_, _, ⟨T28, L28, k28, n28⟩, -, X28, ⟨Lc28, hQ28, l28, y28, z28⟩, st28⟩ := X24.virtualBack hx (y := (⟨"com/example/clotho/clotho/jsonpath/Budget", "take", "(J)Z"⟩ : MethodName)) (z := (⟨"com/example/clotho/clotho/jsonpath/Budget", "take", "(J)Z"⟩ : MethodName)) hown (mvT hZ (hw _ (List.mem_of_getElem? (i := 19) rfl))) (mvT hZ (hw _ (List.mem_of_getElem? (i := 20) rfl))) (notFace_of_selects (args := #[]) (mvT hZ (hw _ (List.mem_of_getElem? (i := 22) rfl)))) (mvT hZ (hw _ (List.mem_of_getElem? (i := 22) rfl))) (mvT hZ (hw _ (List.mem_of_getElem? (i := 21) rfl))) (by decide) (backOf (W := 0) (rm_take l Z a0 hw [] b3 v154 x24_wn T24.heap n0 Z25 Fq24_1 Fq24_0 ge4 (by show 0 ≤ x24_wn.toInt ∧ x24_wn.toInt ≤ 10000000; exact by omega) (by show 0 ≤ v154.toInt; exact by omega)) hZ (hw _ (List.mem_of_getElem? (i := 23) rfl)) (hw _ (List.mem_of_getElem? (i := 8) rfl)) (by decide) (by decide)) q28a q28c (g := (mkF m 174 #[.val (.long qx), .second, .val (.long qy), .second, .val (.int pm), .val (.long x1_rr), .second, .val (.long x2_rr), .second, .val (.ref b3), .val (.long (0 : Int64)), .second, .val (.int x10_rr), .val (.int x17_rr), .val (.long v154), .second] [(.long v154), (.ref b3)])) rfl (by rw [hml]; rfl) (Steps.refl _) (argsL := [(.long v154)]) (rest := []) (lenOf pd_3 rfl) rfl (by show 2 * 0 + _ ≤ _; exact Nat.le_of_eq rfl) (hb hby at_174) (fun _ _ => ⟨rfl, (rfl : T24.heap = T24.heap), (by decide : 1 + 0 ≤ _), (by decide : 1 + 0 ≤ _)⟩)
      dsimp only [Pt.U, Pt.locs, Pt.cells, Pt.slots] at X28 l28 y28 z28 st28 hQ28
      subst l28 y28 z28
      obtain ⟨x28_rr, x28_wn, rfl, N28q, K28q, Fq28_0, Fq28_1, pr28_rel⟩ := hQ28
      have N28 := Fr.app N24 N28q
      refine Go.st (fun _ k => st28.trans k) ?_
      have Z29 : n0 ≤ T28.heap.size := Nat.le_trans Z25 K28q.1
      have K30 : Keep h0 T28.heap [] := K26.trans K28q (fun z hz => (List.mem_cons.mp hz).elim (fun q => by rw [q]; exact Or.inr sz5) (fun hz => absurd hz List.not_mem_nil))
      have F31 : Exa Z T28.heap b3 "com/example/clotho/clotho/jsonpath/Budget" := Fq24_0.keep K28q
      show Go p.tables e below _ (T28.setTop (mkF m 177 #[.val (.long qx), .second, .val (.long qy), .second, .val (.int pm), .val (.long x1_rr), .second, .val (.long x2_rr), .second, .val (.ref b3), .val (.long (0 : Int64)), .second, .val (.int x10_rr), .val (.int x17_rr), .val (.long v154), .second] [(.int x28_rr)]))
      have hc177 : ¬ (x28_rr = (0 : Int32)) := own_ne32 (by omega)
      have hi177 : ¬ ((x28_rr).toInt = ((0 : Int32)).toInt) := fun z => hc177 (Int32.toInt_inj.symm.mpr z)
      refine Go.st (fun _ k => XS.ifYes X28.here hx rfl (pc0 := 177) (pc' := 182) rfl (hb hby at_177) rfl (Jvm.Free.XT.i0_ne_t hc177) (by decide) (by decide) k) ?_
      show Go p.tables e below _ (T28.setTop (mkF m 182 #[.val (.long qx), .second, .val (.long qy), .second, .val (.int pm), .val (.long x1_rr), .second, .val (.long x2_rr), .second, .val (.ref b3), .val (.long (0 : Int64)), .second, .val (.int x10_rr), .val (.int x17_rr), .val (.long v154), .second] []))
      refine Go.st (fun _ k => XS.aload X28.here hx rfl (hb hby at_182) rfl rfl k) ?_
      show Go p.tables e below _ (T28.setTop (mkF m 184 #[.val (.long qx), .second, .val (.long qy), .second, .val (.int pm), .val (.long x1_rr), .second, .val (.long x2_rr), .second, .val (.ref b3), .val (.long (0 : Int64)), .second, .val (.int x10_rr), .val (.int x17_rr), .val (.long v154), .second] [(.ref b3)]))
      refine Go.st (fun _ k => XS.lconst X28.here hx rfl (hb hby at_184) k) ?_
      show Go p.tables e below _ (T28.setTop (mkF m 185 #[.val (.long qx), .second, .val (.long qy), .second, .val (.int pm), .val (.long x1_rr), .second, .val (.long x2_rr), .second, .val (.ref b3), .val (.long (0 : Int64)), .second, .val (.int x10_rr), .val (.int x17_rr), .val (.long v154), .second] [(.long (1 : Int64)), (.ref b3)]))
      obtain ⟨cq32, kq32, q32a, q32b, q32c⟩ := isOf hZ (rfl : T28.heap = T28.heap) Fq28_0
      obtain ⟨_, _, ⟨T32, L32, k32, n32⟩, -, X32, ⟨Lc32, hQ32, l32, y32, z32⟩, st32⟩ := X28.virtualBack hx (y := (⟨"com/example/clotho/clotho/jsonpath/Budget", "take", "(J)Z"⟩ : MethodName)) (z := (⟨"com/example/clotho/clotho/jsonpath/Budget", "take", "(J)Z"⟩ : MethodName)) hown (mvT hZ (hw _ (List.mem_of_getElem? (i := 19) rfl))) (mvT hZ (hw _ (List.mem_of_getElem? (i := 20) rfl))) (notFace_of_selects (args := #[]) (mvT hZ (hw _ (List.mem_of_getElem? (i := 22) rfl)))) (mvT hZ (hw _ (List.mem_of_getElem? (i := 22) rfl))) (mvT hZ (hw _ (List.mem_of_getElem? (i := 21) rfl))) (by decide) (backOf (W := 0) (rm_take l Z a0 hw [] b3 (1 : Int64) x28_wn T28.heap n0 Z29 Fq28_1 Fq28_0 ge4 (by show 0 ≤ x28_wn.toInt ∧ x28_wn.toInt ≤ 10000000; exact by omega) (by show 0 ≤ (1 : Int64).toInt; exact by omega)) hZ (hw _ (List.mem_of_getElem? (i := 23) rfl)) (hw _ (List.mem_of_getElem? (i := 8) rfl)) (by decide) (by decide)) q32a q32c (g := (mkF m 185 #[.val (.long qx), .second, .val (.long qy), .second, .val (.int pm), .val (.long x1_rr), .second, .val (.long x2_rr), .second, .val (.ref b3), .val (.long (0 : Int64)), .second, .val (.int x10_rr), .val (.int x17_rr), .val (.long v154), .second] [(.long (1 : Int64)), (.ref b3)])) rfl (by rw [hml]; rfl) (Steps.refl _) (argsL := [(.long (1 : Int64))]) (rest := []) (lenOf pd_3 rfl) rfl (by show 2 * 0 + _ ≤ _; exact Nat.le_of_eq rfl) (hb hby at_185) (fun _ _ => ⟨rfl, (rfl : T28.heap = T28.heap), (by decide : 1 + 0 ≤ _), (by decide : 1 + 0 ≤ _)⟩)
      dsimp only [Pt.U, Pt.locs, Pt.cells, Pt.slots] at X32 l32 y32 z32 st32 hQ32
      subst l32 y32 z32
      obtain ⟨x32_rr, x32_wn, rfl, N32q, K32q, Fq32_0, Fq32_1, pr32_rel⟩ := hQ32
      have N32 := Fr.app N28 N32q
      refine Go.st (fun _ k => st32.trans k) ?_
      have Z33 : n0 ≤ T32.heap.size := Nat.le_trans Z29 K32q.1
      have K34 : Keep h0 T32.heap [] := K30.trans K32q (fun z hz => (List.mem_cons.mp hz).elim (fun q => by rw [q]; exact Or.inr sz5) (fun hz => absurd hz List.not_mem_nil))
      have F35 : Exa Z T32.heap b3 "com/example/clotho/clotho/jsonpath/Budget" := Fq28_0.keep K32q
      show Go p.tables e below _ (T32.setTop (mkF m 188 #[.val (.long qx), .second, .val (.long qy), .second, .val (.int pm), .val (.long x1_rr), .second, .val (.long x2_rr), .second, .val (.ref b3), .val (.long (0 : Int64)), .second, .val (.int x10_rr), .val (.int x17_rr), .val (.long v154), .second] [(.int x32_rr)]))
      have hc188 : x32_rr = (0 : Int32) := own_eq32 (by omega)
      have hi188 : (x32_rr).toInt = ((0 : Int32)).toInt := Int32.toInt_inj.symm.mp hc188
      refine Go.st (fun _ k => XS.ifYes X32.here hx rfl (pc0 := 188) (pc' := 193) rfl (hb hby at_188) rfl (Jvm.Free.XT.i0_eq_t hc188) (by decide) (by decide) k) ?_
      show Go p.tables e below _ (T32.setTop (mkF m 193 #[.val (.long qx), .second, .val (.long qy), .second, .val (.int pm), .val (.long x1_rr), .second, .val (.long x2_rr), .second, .val (.ref b3), .val (.long (0 : Int64)), .second, .val (.int x10_rr), .val (.int x17_rr), .val (.long v154), .second] []))
      refine Go.st (fun _ k => XS.aload X32.here hx rfl (hb hby at_193) rfl rfl k) ?_
      show Go p.tables e below _ (T32.setTop (mkF m 195 #[.val (.long qx), .second, .val (.long qy), .second, .val (.int pm), .val (.long x1_rr), .second, .val (.long x2_rr), .second, .val (.ref b3), .val (.long (0 : Int64)), .second, .val (.int x10_rr), .val (.int x17_rr), .val (.long v154), .second] [(.ref b3)]))
      refine Go.st (fun _ k => XS.lconst X32.here hx rfl (hb hby at_195) k) ?_
      show Go p.tables e below _ (T32.setTop (mkF m 196 #[.val (.long qx), .second, .val (.long qy), .second, .val (.int pm), .val (.long x1_rr), .second, .val (.long x2_rr), .second, .val (.ref b3), .val (.long (0 : Int64)), .second, .val (.int x10_rr), .val (.int x17_rr), .val (.long v154), .second] [(.long (0 : Int64)), (.ref b3)]))
      obtain ⟨cq36, kq36, q36a, q36b, q36c⟩ := isOf hZ (rfl : T32.heap = T32.heap) Fq32_0
      obtain ⟨_, _, ⟨T36, L36, k36, n36⟩, -, X36, ⟨Lc36, hQ36, l36, y36, z36⟩, st36⟩ := X32.virtualBack hx (y := (⟨"com/example/clotho/clotho/jsonpath/Budget", "take", "(J)Z"⟩ : MethodName)) (z := (⟨"com/example/clotho/clotho/jsonpath/Budget", "take", "(J)Z"⟩ : MethodName)) hown (mvT hZ (hw _ (List.mem_of_getElem? (i := 19) rfl))) (mvT hZ (hw _ (List.mem_of_getElem? (i := 20) rfl))) (notFace_of_selects (args := #[]) (mvT hZ (hw _ (List.mem_of_getElem? (i := 22) rfl)))) (mvT hZ (hw _ (List.mem_of_getElem? (i := 22) rfl))) (mvT hZ (hw _ (List.mem_of_getElem? (i := 21) rfl))) (by decide) (backOf (W := 0) (rm_take l Z a0 hw [] b3 (0 : Int64) x32_wn T32.heap n0 Z33 Fq32_1 Fq32_0 ge4 (by show 0 ≤ x32_wn.toInt ∧ x32_wn.toInt ≤ 10000000; exact by omega) (by show 0 ≤ (0 : Int64).toInt; exact by omega)) hZ (hw _ (List.mem_of_getElem? (i := 23) rfl)) (hw _ (List.mem_of_getElem? (i := 8) rfl)) (by decide) (by decide)) q36a q36c (g := (mkF m 196 #[.val (.long qx), .second, .val (.long qy), .second, .val (.int pm), .val (.long x1_rr), .second, .val (.long x2_rr), .second, .val (.ref b3), .val (.long (0 : Int64)), .second, .val (.int x10_rr), .val (.int x17_rr), .val (.long v154), .second] [(.long (0 : Int64)), (.ref b3)])) rfl (by rw [hml]; rfl) (Steps.refl _) (argsL := [(.long (0 : Int64))]) (rest := []) (lenOf pd_3 rfl) rfl (by show 2 * 0 + _ ≤ _; exact Nat.le_of_eq rfl) (hb hby at_196) (fun _ _ => ⟨rfl, (rfl : T32.heap = T32.heap), (by decide : 1 + 0 ≤ _), (by decide : 1 + 0 ≤ _)⟩)
      dsimp only [Pt.U, Pt.locs, Pt.cells, Pt.slots] at X36 l36 y36 z36 st36 hQ36
      subst l36 y36 z36
      obtain ⟨x36_rr, x36_wn, rfl, N36q, K36q, Fq36_0, Fq36_1, pr36_rel⟩ := hQ36
      have N36 := Fr.app N32 N36q
      refine Go.st (fun _ k => st36.trans k) ?_
      have Z37 : n0 ≤ T36.heap.size := Nat.le_trans Z33 K36q.1
      have K38 : Keep h0 T36.heap [] := K34.trans K36q (fun z hz => (List.mem_cons.mp hz).elim (fun q => by rw [q]; exact Or.inr sz5) (fun hz => absurd hz List.not_mem_nil))
      have F39 : Exa Z T36.heap b3 "com/example/clotho/clotho/jsonpath/Budget" := Fq32_0.keep K36q
      show Go p.tables e below _ (T36.setTop (mkF m 199 #[.val (.long qx), .second, .val (.long qy), .second, .val (.int pm), .val (.long x1_rr), .second, .val (.long x2_rr), .second, .val (.ref b3), .val (.long (0 : Int64)), .second, .val (.int x10_rr), .val (.int x17_rr), .val (.long v154), .second] [(.int x36_rr)]))
      have hc199 : ¬ (x36_rr = (0 : Int32)) := own_ne32 (by omega)
      have hi199 : ¬ ((x36_rr).toInt = ((0 : Int32)).toInt) := fun z => hc199 (Int32.toInt_inj.symm.mpr z)
      refine Go.st (fun _ k => XS.ifYes X36.here hx rfl (pc0 := 199) (pc' := 204) rfl (hb hby at_199) rfl (Jvm.Free.XT.i0_ne_t hc199) (by decide) (by decide) k) ?_
      show Go p.tables e below _ (T36.setTop (mkF m 204 #[.val (.long qx), .second, .val (.long qy), .second, .val (.int pm), .val (.long x1_rr), .second, .val (.long x2_rr), .second, .val (.ref b3), .val (.long (0 : Int64)), .second, .val (.int x10_rr), .val (.int x17_rr), .val (.long v154), .second] []))
      refine Go.st (fun _ k => XS.aload X36.here hx rfl (hb hby at_204) rfl rfl k) ?_
      show Go p.tables e below _ (T36.setTop (mkF m 206 #[.val (.long qx), .second, .val (.long qy), .second, .val (.int pm), .val (.long x1_rr), .second, .val (.long x2_rr), .second, .val (.ref b3), .val (.long (0 : Int64)), .second, .val (.int x10_rr), .val (.int x17_rr), .val (.long v154), .second] [(.ref b3)]))
      obtain ⟨cq40, kq40, q40a, q40b, q40c⟩ := isOf hZ (rfl : T36.heap = T36.heap) Fq36_0
      obtain ⟨_, _, ⟨T40, L40, k40, n40⟩, -, X40, ⟨Lc40, hQ40, l40, y40, z40⟩, st40⟩ := X36.virtualBack hx (y := (⟨"com/example/clotho/clotho/jsonpath/Budget", "isTouched", "()Z"⟩ : MethodName)) (z := (⟨"com/example/clotho/clotho/jsonpath/Budget", "isTouched", "()Z"⟩ : MethodName)) hown (mvT hZ (hw _ (List.mem_of_getElem? (i := 27) rfl))) (mvT hZ (hw _ (List.mem_of_getElem? (i := 28) rfl))) (notFace_of_selects (args := #[]) (mvT hZ (hw _ (List.mem_of_getElem? (i := 30) rfl)))) (mvT hZ (hw _ (List.mem_of_getElem? (i := 30) rfl))) (mvT hZ (hw _ (List.mem_of_getElem? (i := 29) rfl))) (by decide) (backOf (W := 0) (rm_touched l Z a0 hw [] b3 x36_wn T36.heap n0 Z37 Fq36_1) hZ (hw _ (List.mem_of_getElem? (i := 31) rfl)) (hw _ (List.mem_of_getElem? (i := 8) rfl)) (by decide) (by decide)) q40a q40c (g := (mkF m 206 #[.val (.long qx), .second, .val (.long qy), .second, .val (.int pm), .val (.long x1_rr), .second, .val (.long x2_rr), .second, .val (.ref b3), .val (.long (0 : Int64)), .second, .val (.int x10_rr), .val (.int x17_rr), .val (.long v154), .second] [(.ref b3)])) rfl (by rw [hml]; rfl) (Steps.refl _) (argsL := []) (rest := []) (lenOf pd_4 rfl) rfl (by show 2 * 0 + _ ≤ _; exact Nat.le_of_eq rfl) (hb hby at_206) (fun _ _ => ⟨rfl, (rfl : T36.heap = T36.heap), (by decide : 1 + 0 ≤ _), (by decide : 1 + 0 ≤ _)⟩)
      dsimp only [Pt.U, Pt.locs, Pt.cells, Pt.slots] at X40 l40 y40 z40 st40 hQ40
      subst l40 y40 z40
      obtain ⟨x40_rr, rfl, N40q, e40, pr40_rel⟩ := hQ40
      have N40 := Fr.app N36 N40q
      refine Go.st (fun _ k => st40.trans k) ?_
      show Go p.tables e below _ (T40.setTop (mkF m 209 #[.val (.long qx), .second, .val (.long qy), .second, .val (.int pm), .val (.long x1_rr), .second, .val (.long x2_rr), .second, .val (.ref b3), .val (.long (0 : Int64)), .second, .val (.int x10_rr), .val (.int x17_rr), .val (.long v154), .second] [(.int x40_rr)]))
      subst hG
      obtain ⟨fs, hr, hrun, hended, hW, hsame⟩ := X40.leave (v := some (.int (nar .boolean x40_rr))) (fun h => by rw [Bd.returns] at h; cases h)
      refine ⟨_, _, ?_, hrun, hended, _, _, rfl, ?_, ⟨_, rfl⟩, hW, hsame.mono (by decide) (by decide)⟩
      · exact retN X40 hx (t := .boolean) Bd.returns (by simp) (hb hby at_209) hr
      · show Q_law Z qx qy pm h0 n0 _ T40.heap _
        rw [e40]
        exact ⟨(by rw [show x40_rr = (1 : Int32) from own_eq32 (by omega)]; rfl), N40, K38⟩
    · skip
      have hi116 : ¬ ((x17_rr).toInt = ((0 : Int32)).toInt) := fun z => hc116 (Int32.toInt_inj.symm.mpr z)
      refine Go.st (fun _ k => XS.ifNo X18.here hx rfl (hb hby at_116) rfl (Jvm.Free.XT.i0_eq_f hc116) k) ?_
      show Go p.tables e below _ (T18.setTop (mkF m 119 #[.val (.long qx), .second, .val (.long qy), .second, .val (.int pm), .val (.long x1_rr), .second, .val (.long x2_rr), .second, .val (.ref b3), .val (.long (0 : Int64)), .second, .val (.int x10_rr), .val (.int x17_rr), .unset, .unset] []))
      refine Go.st (fun _ k => XS.lload X18.here hx rfl (hb hby at_119) rfl k) ?_
      show Go p.tables e below _ (T18.setTop (mkF m 121 #[.val (.long qx), .second, .val (.long qy), .second, .val (.int pm), .val (.long x1_rr), .second, .val (.long x2_rr), .second, .val (.ref b3), .val (.long (0 : Int64)), .second, .val (.int x10_rr), .val (.int x17_rr), .unset, .unset] [(.long (0 : Int64))]))
      refine Go.st (fun _ k => XS.lload X18.here hx rfl (hb hby at_121) rfl k) ?_
      show Go p.tables e below _ (T18.setTop (mkF m 123 #[.val (.long qx), .second, .val (.long qy), .second, .val (.int pm), .val (.long x1_rr), .second, .val (.long x2_rr), .second, .val (.ref b3), .val (.long (0 : Int64)), .second, .val (.int x10_rr), .val (.int x17_rr), .unset, .unset] [(.long x2_rr), (.long (0 : Int64))]))
      refine Go.st (fun _ k => XS.ladd X18.here hx rfl (hb hby at_123) rfl k) ?_
      show Go p.tables e below _ (T18.setTop (mkF m 124 #[.val (.long qx), .second, .val (.long qy), .second, .val (.int pm), .val (.long x1_rr), .second, .val (.long x2_rr), .second, .val (.ref b3), .val (.long (0 : Int64)), .second, .val (.int x10_rr), .val (.int x17_rr), .unset, .unset] [(.long ((0 : Int64) + x2_rr))]))
      refine Go.st (fun _ k => XS.lstore X18.here hx rfl (hb hby at_124) rfl (l' := #[.val (.long qx), .second, .val (.long qy), .second, .val (.int pm), .val (.long x1_rr), .second, .val (.long x2_rr), .second, .val (.ref b3), .val (.long ((0 : Int64) + x2_rr)), .second, .val (.int x10_rr), .val (.int x17_rr), .unset, .unset]) rfl k) ?_
      show Go p.tables e below _ (T18.setTop (mkF m 126 #[.val (.long qx), .second, .val (.long qy), .second, .val (.int pm), .val (.long x1_rr), .second, .val (.long x2_rr), .second, .val (.ref b3), .val (.long ((0 : Int64) + x2_rr)), .second, .val (.int x10_rr), .val (.int x17_rr), .unset, .unset] []))
      generalize hqv124 : ((0 : Int64) + x2_rr) = v124
      have lt_064 : (0 : Int64).toInt = 0 := by decide
      have hi_v124 := i64_addc (0 : Int64) x2_rr
      rw [hqv124] at hi_v124
      show Go p.tables e below _ (T18.setTop (mkF m 126 #[.val (.long qx), .second, .val (.long qy), .second, .val (.int pm), .val (.long x1_rr), .second, .val (.long x2_rr), .second, .val (.ref b3), .val (.long v124), .second, .val (.int x10_rr), .val (.int x17_rr), .unset, .unset] []))
      refine Go.st (fun _ k => XS.aload X18.here hx rfl (hb hby at_126) rfl rfl k) ?_
      show Go p.tables e below _ (T18.setTop (mkF m 128 #[.val (.long qx), .second, .val (.long qy), .second, .val (.int pm), .val (.long x1_rr), .second, .val (.long x2_rr), .second, .val (.ref b3), .val (.long v124), .second, .val (.int x10_rr), .val (.int x17_rr), .unset, .unset] [(.ref b3)]))
      obtain ⟨cq41, kq41, q41a, q41b, q41c⟩ := isOf hZ (rfl : T18.heap = T18.heap) Fq18_0
      obtain ⟨_, _, ⟨T41, L41, k41, n41⟩, -, X41, ⟨Lc41, hQ41, l41, y41, z41⟩, st41⟩ := X18.virtualBack hx (y := (⟨"com/example/clotho/clotho/jsonpath/Budget", "isTouched", "()Z"⟩ : MethodName)) (z := (⟨"com/example/clotho/clotho/jsonpath/Budget", "isTouched", "()Z"⟩ : MethodName)) hown (mvT hZ (hw _ (List.mem_of_getElem? (i := 27) rfl))) (mvT hZ (hw _ (List.mem_of_getElem? (i := 28) rfl))) (notFace_of_selects (args := #[]) (mvT hZ (hw _ (List.mem_of_getElem? (i := 30) rfl)))) (mvT hZ (hw _ (List.mem_of_getElem? (i := 30) rfl))) (mvT hZ (hw _ (List.mem_of_getElem? (i := 29) rfl))) (by decide) (backOf (W := 0) (rm_touched l Z a0 hw [] b3 x18_wn T18.heap n0 Z19 Fq18_1) hZ (hw _ (List.mem_of_getElem? (i := 31) rfl)) (hw _ (List.mem_of_getElem? (i := 8) rfl)) (by decide) (by decide)) q41a q41c (g := (mkF m 128 #[.val (.long qx), .second, .val (.long qy), .second, .val (.int pm), .val (.long x1_rr), .second, .val (.long x2_rr), .second, .val (.ref b3), .val (.long v124), .second, .val (.int x10_rr), .val (.int x17_rr), .unset, .unset] [(.ref b3)])) rfl (by rw [hml]; rfl) (Steps.refl _) (argsL := []) (rest := []) (lenOf pd_4 rfl) rfl (by show 2 * 0 + _ ≤ _; exact Nat.le_of_eq rfl) (hb hby at_128) (fun _ _ => ⟨rfl, (rfl : T18.heap = T18.heap), (by decide : 1 + 0 ≤ _), (by decide : 1 + 0 ≤ _)⟩)
      dsimp only [Pt.U, Pt.locs, Pt.cells, Pt.slots] at X41 l41 y41 z41 st41 hQ41
      subst l41 y41 z41
      obtain ⟨x41_rr, rfl, N41q, e41, pr41_rel⟩ := hQ41
      have N41 := Fr.app N18 N41q
      refine Go.st (fun _ k => st41.trans k) ?_
      show Go p.tables e below _ (T41.setTop (mkF m 131 #[.val (.long qx), .second, .val (.long qy), .second, .val (.int pm), .val (.long x1_rr), .second, .val (.long x2_rr), .second, .val (.ref b3), .val (.long v124), .second, .val (.int x10_rr), .val (.int x17_rr), .unset, .unset] [(.int x41_rr)]))
      refine Go.st (fun _ k => XS.lload X41.here hx rfl (hb hby at_131) rfl k) ?_
      show Go p.tables e below _ (T41.setTop (mkF m 133 #[.val (.long qx), .second, .val (.long qy), .second, .val (.int pm), .val (.long x1_rr), .second, .val (.long x2_rr), .second, .val (.ref b3), .val (.long v124), .second, .val (.int x10_rr), .val (.int x17_rr), .unset, .unset] [(.long v124), (.int x41_rr)]))
      refine Go.st (fun _ k => XS.lconst X41.here hx rfl (hb hby at_133) k) ?_
      show Go p.tables e below _ (T41.setTop (mkF m 134 #[.val (.long qx), .second, .val (.long qy), .second, .val (.int pm), .val (.long x1_rr), .second, .val (.long x2_rr), .second, .val (.ref b3), .val (.long v124), .second, .val (.int x10_rr), .val (.int x17_rr), .unset, .unset] [(.long (0 : Int64)), (.long v124), (.int x41_rr)]))
      refine Go.st (fun _ k => Jvm.Free.XT.lcmp X41.here hx rfl (hb hby at_134) rfl k) ?_
      show Go p.tables e below _ (T41.setTop (mkF m 135 #[.val (.long qx), .second, .val (.long qy), .second, .val (.int pm), .val (.long x1_rr), .second, .val (.long x2_rr), .second, .val (.ref b3), .val (.long v124), .second, .val (.int x10_rr), .val (.int x17_rr), .unset, .unset] [(.int (Jvm.Free.XT.cmpL v124 (0 : Int64))), (.int x41_rr)]))
      by_cases hc135 : (0 : Int64) < v124
      · skip
        have hi135 : ((0 : Int64)).toInt < (v124).toInt := Int64.lt_iff_toInt_lt.mp hc135
        refine Go.st (fun _ k => XS.ifNo X41.here hx rfl (hb hby at_135) rfl (Jvm.Free.XT.ll_le_f hc135) k) ?_
        show Go p.tables e below _ (T41.setTop (mkF m 138 #[.val (.long qx), .second, .val (.long qy), .second, .val (.int pm), .val (.long x1_rr), .second, .val (.long x2_rr), .second, .val (.ref b3), .val (.long v124), .second, .val (.int x10_rr), .val (.int x17_rr), .unset, .unset] [(.int x41_rr)]))
        refine Go.st (fun _ k => XS.iconst X41.here hx rfl (hb hby at_138) k) ?_
        show Go p.tables e below _ (T41.setTop (mkF m 139 #[.val (.long qx), .second, .val (.long qy), .second, .val (.int pm), .val (.long x1_rr), .second, .val (.long x2_rr), .second, .val (.ref b3), .val (.long v124), .second, .val (.int x10_rr), .val (.int x17_rr), .unset, .unset] [(.int (1 : Int32)), (.int x41_rr)]))
        refine Go.st (fun _ k => XS.goto X41.here hx rfl (pc0 := 139) (pc' := 143) rfl (hb hby at_139) (by decide) (by decide) k) ?_
        show Go p.tables e below _ (T41.setTop (mkF m 143 #[.val (.long qx), .second, .val (.long qy), .second, .val (.int pm), .val (.long x1_rr), .second, .val (.long x2_rr), .second, .val (.ref b3), .val (.long v124), .second, .val (.int x10_rr), .val (.int x17_rr), .unset, .unset] [(.int (1 : Int32)), (.int x41_rr)]))
        have hc143 : x41_rr = (1 : Int32) := own_eq32 (by omega)
        have hi143 : (x41_rr).toInt = ((1 : Int32)).toInt := Int32.toInt_inj.symm.mp hc143
        refine Go.st (fun _ k => XS.icmpYes X41.here hx rfl (pc0 := 143) (pc' := 148) rfl (hb hby at_143) rfl (Jvm.Free.XT.ii_eq_t hc143) (by decide) (by decide) k) ?_
        show Go p.tables e below _ (T41.setTop (mkF m 148 #[.val (.long qx), .second, .val (.long qy), .second, .val (.int pm), .val (.long x1_rr), .second, .val (.long x2_rr), .second, .val (.ref b3), .val (.long v124), .second, .val (.int x10_rr), .val (.int x17_rr), .unset, .unset] []))
        refine Go.st (fun _ k => X41.ldc2Long hx hown (mvT hZ (hw _ (List.mem_of_getElem? (i := 18) rfl))) (g := (mkF m 148 #[.val (.long qx), .second, .val (.long qy), .second, .val (.int pm), .val (.long x1_rr), .second, .val (.long x2_rr), .second, .val (.ref b3), .val (.long v124), .second, .val (.int x10_rr), .val (.int x17_rr), .unset, .unset] [])) rfl (hb hby at_148) _ k) ?_
        show Go p.tables e below _ (T41.setTop (mkF m 151 #[.val (.long qx), .second, .val (.long qy), .second, .val (.int pm), .val (.long x1_rr), .second, .val (.long x2_rr), .second, .val (.ref b3), .val (.long v124), .second, .val (.int x10_rr), .val (.int x17_rr), .unset, .unset] [(.long (10000000 : Int64))]))
        refine Go.st (fun _ k => XS.lload X41.here hx rfl (hb hby at_151) rfl k) ?_
        show Go p.tables e below _ (T41.setTop (mkF m 153 #[.val (.long qx), .second, .val (.long qy), .second, .val (.int pm), .val (.long x1_rr), .second, .val (.long x2_rr), .second, .val (.ref b3), .val (.long v124), .second, .val (.int x10_rr), .val (.int x17_rr), .unset, .unset] [(.long v124), (.long (10000000 : Int64))]))
        refine Go.st (fun _ k => XS.lsub X41.here hx rfl (hb hby at_153) rfl k) ?_
        show Go p.tables e below _ (T41.setTop (mkF m 154 #[.val (.long qx), .second, .val (.long qy), .second, .val (.int pm), .val (.long x1_rr), .second, .val (.long x2_rr), .second, .val (.ref b3), .val (.long v124), .second, .val (.int x10_rr), .val (.int x17_rr), .unset, .unset] [(.long ((10000000 : Int64) - v124))]))
        refine Go.st (fun _ k => XS.lstore X41.here hx rfl (hb hby at_154) rfl (l' := #[.val (.long qx), .second, .val (.long qy), .second, .val (.int pm), .val (.long x1_rr), .second, .val (.long x2_rr), .second, .val (.ref b3), .val (.long v124), .second, .val (.int x10_rr), .val (.int x17_rr), .val (.long ((10000000 : Int64) - v124)), .second]) rfl k) ?_
        show Go p.tables e below _ (T41.setTop (mkF m 156 #[.val (.long qx), .second, .val (.long qy), .second, .val (.int pm), .val (.long x1_rr), .second, .val (.long x2_rr), .second, .val (.ref b3), .val (.long v124), .second, .val (.int x10_rr), .val (.int x17_rr), .val (.long ((10000000 : Int64) - v124)), .second] []))
        generalize hqv154 : ((10000000 : Int64) - v124) = v154
        have lt_1000000064 : (10000000 : Int64).toInt = 10000000 := by decide
        have hi_v154 := i64_subc (10000000 : Int64) v124
        rw [hqv154] at hi_v154
        show Go p.tables e below _ (T41.setTop (mkF m 156 #[.val (.long qx), .second, .val (.long qy), .second, .val (.int pm), .val (.long x1_rr), .second, .val (.long x2_rr), .second, .val (.ref b3), .val (.long v124), .second, .val (.int x10_rr), .val (.int x17_rr), .val (.long v154), .second] []))
        refine Go.st (fun _ k => XS.aload X41.here hx rfl (hb hby at_156) rfl rfl k) ?_
        show Go p.tables e below _ (T41.setTop (mkF m 158 #[.val (.long qx), .second, .val (.long qy), .second, .val (.int pm), .val (.long x1_rr), .second, .val (.long x2_rr), .second, .val (.ref b3), .val (.long v124), .second, .val (.int x10_rr), .val (.int x17_rr), .val (.long v154), .second] [(.ref b3)]))
        refine Go.st (fun _ k => XS.lload X41.here hx rfl (hb hby at_158) rfl k) ?_
        show Go p.tables e below _ (T41.setTop (mkF m 160 #[.val (.long qx), .second, .val (.long qy), .second, .val (.int pm), .val (.long x1_rr), .second, .val (.long x2_rr), .second, .val (.ref b3), .val (.long v124), .second, .val (.int x10_rr), .val (.int x17_rr), .val (.long v154), .second] [(.long v154), (.ref b3)]))
        refine Go.st (fun _ k => XS.lconst X41.here hx rfl (hb hby at_160) k) ?_
        show Go p.tables e below _ (T41.setTop (mkF m 161 #[.val (.long qx), .second, .val (.long qy), .second, .val (.int pm), .val (.long x1_rr), .second, .val (.long x2_rr), .second, .val (.ref b3), .val (.long v124), .second, .val (.int x10_rr), .val (.int x17_rr), .val (.long v154), .second] [(.long (1 : Int64)), (.long v154), (.ref b3)]))
        refine Go.st (fun _ k => XS.ladd X41.here hx rfl (hb hby at_161) rfl k) ?_
        show Go p.tables e below _ (T41.setTop (mkF m 162 #[.val (.long qx), .second, .val (.long qy), .second, .val (.int pm), .val (.long x1_rr), .second, .val (.long x2_rr), .second, .val (.ref b3), .val (.long v124), .second, .val (.int x10_rr), .val (.int x17_rr), .val (.long v154), .second] [(.long (v154 + (1 : Int64))), (.ref b3)]))
        generalize hqa162 : (v154 + (1 : Int64)) = a162
        have lt_164 : (1 : Int64).toInt = 1 := by decide
        have hi_a162 := i64_addc v154 (1 : Int64)
        rw [hqa162] at hi_a162
        obtain ⟨cq42, kq42, q42a, q42b, q42c⟩ := isOf hZ e41 Fq18_0
        obtain ⟨_, _, ⟨T42, L42, k42, n42⟩, -, X42, ⟨Lc42, hQ42, l42, y42, z42⟩, st42⟩ := X41.virtualBack hx (y := (⟨"com/example/clotho/clotho/jsonpath/Budget", "take", "(J)Z"⟩ : MethodName)) (z := (⟨"com/example/clotho/clotho/jsonpath/Budget", "take", "(J)Z"⟩ : MethodName)) hown (mvT hZ (hw _ (List.mem_of_getElem? (i := 19) rfl))) (mvT hZ (hw _ (List.mem_of_getElem? (i := 20) rfl))) (notFace_of_selects (args := #[]) (mvT hZ (hw _ (List.mem_of_getElem? (i := 22) rfl)))) (mvT hZ (hw _ (List.mem_of_getElem? (i := 22) rfl))) (mvT hZ (hw _ (List.mem_of_getElem? (i := 21) rfl))) (by decide) (backOf (W := 0) (rm_take l Z a0 hw [] b3 a162 x18_wn T18.heap n0 Z19 Fq18_1 Fq18_0 ge4 (by show 0 ≤ x18_wn.toInt ∧ x18_wn.toInt ≤ 10000000; exact by omega) (by show 0 ≤ a162.toInt; exact by omega)) hZ (hw _ (List.mem_of_getElem? (i := 23) rfl)) (hw _ (List.mem_of_getElem? (i := 8) rfl)) (by decide) (by decide)) q42a q42c (g := (mkF m 162 #[.val (.long qx), .second, .val (.long qy), .second, .val (.int pm), .val (.long x1_rr), .second, .val (.long x2_rr), .second, .val (.ref b3), .val (.long v124), .second, .val (.int x10_rr), .val (.int x17_rr), .val (.long v154), .second] [(.long a162), (.ref b3)])) rfl (by rw [hml]; rfl) (Steps.refl _) (argsL := [(.long a162)]) (rest := []) (lenOf pd_3 rfl) rfl (by show 2 * 0 + _ ≤ _; exact Nat.le_of_eq rfl) (hb hby at_162) (fun _ _ => ⟨rfl, e41, (by decide : 1 + 0 ≤ _), (by decide : 1 + 0 ≤ _)⟩)
        dsimp only [Pt.U, Pt.locs, Pt.cells, Pt.slots] at X42 l42 y42 z42 st42 hQ42
        subst l42 y42 z42
        obtain ⟨x42_rr, x42_wn, rfl, N42q, K42q, Fq42_0, Fq42_1, pr42_rel⟩ := hQ42
        have N42 := Fr.app N41 N42q
        refine Go.st (fun _ k => st42.trans k) ?_
        have Z43 : n0 ≤ T42.heap.size := Nat.le_trans Z19 K42q.1
        have K44 : Keep h0 T42.heap [] := K20.trans K42q (fun z hz => (List.mem_cons.mp hz).elim (fun q => by rw [q]; exact Or.inr sz5) (fun hz => absurd hz List.not_mem_nil))
        have F45 : Exa Z T42.heap b3 "com/example/clotho/clotho/jsonpath/Budget" := Fq18_0.keep K42q
        show Go p.tables e below _ (T42.setTop (mkF m 165 #[.val (.long qx), .second, .val (.long qy), .second, .val (.int pm), .val (.long x1_rr), .second, .val (.long x2_rr), .second, .val (.ref b3), .val (.long v124), .second, .val (.int x10_rr), .val (.int x17_rr), .val (.long v154), .second] [(.int x42_rr)]))
        have hc165 : x42_rr = (0 : Int32) := own_eq32 (by omega)
        have hi165 : (x42_rr).toInt = ((0 : Int32)).toInt := Int32.toInt_inj.symm.mp hc165
        refine Go.st (fun _ k => XS.ifYes X42.here hx rfl (pc0 := 165) (pc' := 170) rfl (hb hby at_165) rfl (Jvm.Free.XT.i0_eq_t hc165) (by decide) (by decide) k) ?_
        show Go p.tables e below _ (T42.setTop (mkF m 170 #[.val (.long qx), .second, .val (.long qy), .second, .val (.int pm), .val (.long x1_rr), .second, .val (.long x2_rr), .second, .val (.ref b3), .val (.long v124), .second, .val (.int x10_rr), .val (.int x17_rr), .val (.long v154), .second] []))
        refine Go.st (fun _ k => XS.aload X42.here hx rfl (hb hby at_170) rfl rfl k) ?_
        show Go p.tables e below _ (T42.setTop (mkF m 172 #[.val (.long qx), .second, .val (.long qy), .second, .val (.int pm), .val (.long x1_rr), .second, .val (.long x2_rr), .second, .val (.ref b3), .val (.long v124), .second, .val (.int x10_rr), .val (.int x17_rr), .val (.long v154), .second] [(.ref b3)]))
        refine Go.st (fun _ k => XS.lload X42.here hx rfl (hb hby at_172) rfl k) ?_
        show Go p.tables e below _ (T42.setTop (mkF m 174 #[.val (.long qx), .second, .val (.long qy), .second, .val (.int pm), .val (.long x1_rr), .second, .val (.long x2_rr), .second, .val (.ref b3), .val (.long v124), .second, .val (.int x10_rr), .val (.int x17_rr), .val (.long v154), .second] [(.long v154), (.ref b3)]))
        obtain ⟨cq46, kq46, q46a, q46b, q46c⟩ := isOf hZ (rfl : T42.heap = T42.heap) Fq42_0
        obtain ⟨_, _, ⟨T46, L46, k46, n46⟩, -, X46, ⟨Lc46, hQ46, l46, y46, z46⟩, st46⟩ := X42.virtualBack hx (y := (⟨"com/example/clotho/clotho/jsonpath/Budget", "take", "(J)Z"⟩ : MethodName)) (z := (⟨"com/example/clotho/clotho/jsonpath/Budget", "take", "(J)Z"⟩ : MethodName)) hown (mvT hZ (hw _ (List.mem_of_getElem? (i := 19) rfl))) (mvT hZ (hw _ (List.mem_of_getElem? (i := 20) rfl))) (notFace_of_selects (args := #[]) (mvT hZ (hw _ (List.mem_of_getElem? (i := 22) rfl)))) (mvT hZ (hw _ (List.mem_of_getElem? (i := 22) rfl))) (mvT hZ (hw _ (List.mem_of_getElem? (i := 21) rfl))) (by decide) (backOf (W := 0) (rm_take l Z a0 hw [] b3 v154 x42_wn T42.heap n0 Z43 Fq42_1 Fq42_0 ge4 (by show 0 ≤ x42_wn.toInt ∧ x42_wn.toInt ≤ 10000000; exact by omega) (by show 0 ≤ v154.toInt; exact by omega)) hZ (hw _ (List.mem_of_getElem? (i := 23) rfl)) (hw _ (List.mem_of_getElem? (i := 8) rfl)) (by decide) (by decide)) q46a q46c (g := (mkF m 174 #[.val (.long qx), .second, .val (.long qy), .second, .val (.int pm), .val (.long x1_rr), .second, .val (.long x2_rr), .second, .val (.ref b3), .val (.long v124), .second, .val (.int x10_rr), .val (.int x17_rr), .val (.long v154), .second] [(.long v154), (.ref b3)])) rfl (by rw [hml]; rfl) (Steps.refl _) (argsL := [(.long v154)]) (rest := []) (lenOf pd_3 rfl) rfl (by show 2 * 0 + _ ≤ _; exact Nat.le_of_eq rfl) (hb hby at_174) (fun _ _ => ⟨rfl, (rfl : T42.heap = T42.heap), (by decide : 1 + 0 ≤ _), (by decide : 1 + 0 ≤ _)⟩)
        dsimp only [Pt.U, Pt.locs, Pt.cells, Pt.slots] at X46 l46 y46 z46 st46 hQ46
        subst l46 y46 z46
        obtain ⟨x46_rr, x46_wn, rfl, N46q, K46q, Fq46_0, Fq46_1, pr46_rel⟩ := hQ46
        have N46 := Fr.app N42 N46q
        refine Go.st (fun _ k => st46.trans k) ?_
        have Z47 : n0 ≤ T46.heap.size := Nat.le_trans Z43 K46q.1
        have K48 : Keep h0 T46.heap [] := K44.trans K46q (fun z hz => (List.mem_cons.mp hz).elim (fun q => by rw [q]; exact Or.inr sz5) (fun hz => absurd hz List.not_mem_nil))
        have F49 : Exa Z T46.heap b3 "com/example/clotho/clotho/jsonpath/Budget" := Fq42_0.keep K46q
        show Go p.tables e below _ (T46.setTop (mkF m 177 #[.val (.long qx), .second, .val (.long qy), .second, .val (.int pm), .val (.long x1_rr), .second, .val (.long x2_rr), .second, .val (.ref b3), .val (.long v124), .second, .val (.int x10_rr), .val (.int x17_rr), .val (.long v154), .second] [(.int x46_rr)]))
        have hc177 : ¬ (x46_rr = (0 : Int32)) := own_ne32 (by omega)
        have hi177 : ¬ ((x46_rr).toInt = ((0 : Int32)).toInt) := fun z => hc177 (Int32.toInt_inj.symm.mpr z)
        refine Go.st (fun _ k => XS.ifYes X46.here hx rfl (pc0 := 177) (pc' := 182) rfl (hb hby at_177) rfl (Jvm.Free.XT.i0_ne_t hc177) (by decide) (by decide) k) ?_
        show Go p.tables e below _ (T46.setTop (mkF m 182 #[.val (.long qx), .second, .val (.long qy), .second, .val (.int pm), .val (.long x1_rr), .second, .val (.long x2_rr), .second, .val (.ref b3), .val (.long v124), .second, .val (.int x10_rr), .val (.int x17_rr), .val (.long v154), .second] []))
        refine Go.st (fun _ k => XS.aload X46.here hx rfl (hb hby at_182) rfl rfl k) ?_
        show Go p.tables e below _ (T46.setTop (mkF m 184 #[.val (.long qx), .second, .val (.long qy), .second, .val (.int pm), .val (.long x1_rr), .second, .val (.long x2_rr), .second, .val (.ref b3), .val (.long v124), .second, .val (.int x10_rr), .val (.int x17_rr), .val (.long v154), .second] [(.ref b3)]))
        refine Go.st (fun _ k => XS.lconst X46.here hx rfl (hb hby at_184) k) ?_
        show Go p.tables e below _ (T46.setTop (mkF m 185 #[.val (.long qx), .second, .val (.long qy), .second, .val (.int pm), .val (.long x1_rr), .second, .val (.long x2_rr), .second, .val (.ref b3), .val (.long v124), .second, .val (.int x10_rr), .val (.int x17_rr), .val (.long v154), .second] [(.long (1 : Int64)), (.ref b3)]))
        obtain ⟨cq50, kq50, q50a, q50b, q50c⟩ := isOf hZ (rfl : T46.heap = T46.heap) Fq46_0
        obtain ⟨_, _, ⟨T50, L50, k50, n50⟩, -, X50, ⟨Lc50, hQ50, l50, y50, z50⟩, st50⟩ := X46.virtualBack hx (y := (⟨"com/example/clotho/clotho/jsonpath/Budget", "take", "(J)Z"⟩ : MethodName)) (z := (⟨"com/example/clotho/clotho/jsonpath/Budget", "take", "(J)Z"⟩ : MethodName)) hown (mvT hZ (hw _ (List.mem_of_getElem? (i := 19) rfl))) (mvT hZ (hw _ (List.mem_of_getElem? (i := 20) rfl))) (notFace_of_selects (args := #[]) (mvT hZ (hw _ (List.mem_of_getElem? (i := 22) rfl)))) (mvT hZ (hw _ (List.mem_of_getElem? (i := 22) rfl))) (mvT hZ (hw _ (List.mem_of_getElem? (i := 21) rfl))) (by decide) (backOf (W := 0) (rm_take l Z a0 hw [] b3 (1 : Int64) x46_wn T46.heap n0 Z47 Fq46_1 Fq46_0 ge4 (by show 0 ≤ x46_wn.toInt ∧ x46_wn.toInt ≤ 10000000; exact by omega) (by show 0 ≤ (1 : Int64).toInt; exact by omega)) hZ (hw _ (List.mem_of_getElem? (i := 23) rfl)) (hw _ (List.mem_of_getElem? (i := 8) rfl)) (by decide) (by decide)) q50a q50c (g := (mkF m 185 #[.val (.long qx), .second, .val (.long qy), .second, .val (.int pm), .val (.long x1_rr), .second, .val (.long x2_rr), .second, .val (.ref b3), .val (.long v124), .second, .val (.int x10_rr), .val (.int x17_rr), .val (.long v154), .second] [(.long (1 : Int64)), (.ref b3)])) rfl (by rw [hml]; rfl) (Steps.refl _) (argsL := [(.long (1 : Int64))]) (rest := []) (lenOf pd_3 rfl) rfl (by show 2 * 0 + _ ≤ _; exact Nat.le_of_eq rfl) (hb hby at_185) (fun _ _ => ⟨rfl, (rfl : T46.heap = T46.heap), (by decide : 1 + 0 ≤ _), (by decide : 1 + 0 ≤ _)⟩)
        dsimp only [Pt.U, Pt.locs, Pt.cells, Pt.slots] at X50 l50 y50 z50 st50 hQ50
        subst l50 y50 z50
        obtain ⟨x50_rr, x50_wn, rfl, N50q, K50q, Fq50_0, Fq50_1, pr50_rel⟩ := hQ50
        have N50 := Fr.app N46 N50q
        refine Go.st (fun _ k => st50.trans k) ?_
        have Z51 : n0 ≤ T50.heap.size := Nat.le_trans Z47 K50q.1
        have K52 : Keep h0 T50.heap [] := K48.trans K50q (fun z hz => (List.mem_cons.mp hz).elim (fun q => by rw [q]; exact Or.inr sz5) (fun hz => absurd hz List.not_mem_nil))
        have F53 : Exa Z T50.heap b3 "com/example/clotho/clotho/jsonpath/Budget" := Fq46_0.keep K50q
        show Go p.tables e below _ (T50.setTop (mkF m 188 #[.val (.long qx), .second, .val (.long qy), .second, .val (.int pm), .val (.long x1_rr), .second, .val (.long x2_rr), .second, .val (.ref b3), .val (.long v124), .second, .val (.int x10_rr), .val (.int x17_rr), .val (.long v154), .second] [(.int x50_rr)]))
        have hc188 : x50_rr = (0 : Int32) := own_eq32 (by omega)
        have hi188 : (x50_rr).toInt = ((0 : Int32)).toInt := Int32.toInt_inj.symm.mp hc188
        refine Go.st (fun _ k => XS.ifYes X50.here hx rfl (pc0 := 188) (pc' := 193) rfl (hb hby at_188) rfl (Jvm.Free.XT.i0_eq_t hc188) (by decide) (by decide) k) ?_
        show Go p.tables e below _ (T50.setTop (mkF m 193 #[.val (.long qx), .second, .val (.long qy), .second, .val (.int pm), .val (.long x1_rr), .second, .val (.long x2_rr), .second, .val (.ref b3), .val (.long v124), .second, .val (.int x10_rr), .val (.int x17_rr), .val (.long v154), .second] []))
        refine Go.st (fun _ k => XS.aload X50.here hx rfl (hb hby at_193) rfl rfl k) ?_
        show Go p.tables e below _ (T50.setTop (mkF m 195 #[.val (.long qx), .second, .val (.long qy), .second, .val (.int pm), .val (.long x1_rr), .second, .val (.long x2_rr), .second, .val (.ref b3), .val (.long v124), .second, .val (.int x10_rr), .val (.int x17_rr), .val (.long v154), .second] [(.ref b3)]))
        refine Go.st (fun _ k => XS.lconst X50.here hx rfl (hb hby at_195) k) ?_
        show Go p.tables e below _ (T50.setTop (mkF m 196 #[.val (.long qx), .second, .val (.long qy), .second, .val (.int pm), .val (.long x1_rr), .second, .val (.long x2_rr), .second, .val (.ref b3), .val (.long v124), .second, .val (.int x10_rr), .val (.int x17_rr), .val (.long v154), .second] [(.long (0 : Int64)), (.ref b3)]))
        obtain ⟨cq54, kq54, q54a, q54b, q54c⟩ := isOf hZ (rfl : T50.heap = T50.heap) Fq50_0
        obtain ⟨_, _, ⟨T54, L54, k54, n54⟩, -, X54, ⟨Lc54, hQ54, l54, y54, z54⟩, st54⟩ := X50.virtualBack hx (y := (⟨"com/example/clotho/clotho/jsonpath/Budget", "take", "(J)Z"⟩ : MethodName)) (z := (⟨"com/example/clotho/clotho/jsonpath/Budget", "take", "(J)Z"⟩ : MethodName)) hown (mvT hZ (hw _ (List.mem_of_getElem? (i := 19) rfl))) (mvT hZ (hw _ (List.mem_of_getElem? (i := 20) rfl))) (notFace_of_selects (args := #[]) (mvT hZ (hw _ (List.mem_of_getElem? (i := 22) rfl)))) (mvT hZ (hw _ (List.mem_of_getElem? (i := 22) rfl))) (mvT hZ (hw _ (List.mem_of_getElem? (i := 21) rfl))) (by decide) (backOf (W := 0) (rm_take l Z a0 hw [] b3 (0 : Int64) x50_wn T50.heap n0 Z51 Fq50_1 Fq50_0 ge4 (by show 0 ≤ x50_wn.toInt ∧ x50_wn.toInt ≤ 10000000; exact by omega) (by show 0 ≤ (0 : Int64).toInt; exact by omega)) hZ (hw _ (List.mem_of_getElem? (i := 23) rfl)) (hw _ (List.mem_of_getElem? (i := 8) rfl)) (by decide) (by decide)) q54a q54c (g := (mkF m 196 #[.val (.long qx), .second, .val (.long qy), .second, .val (.int pm), .val (.long x1_rr), .second, .val (.long x2_rr), .second, .val (.ref b3), .val (.long v124), .second, .val (.int x10_rr), .val (.int x17_rr), .val (.long v154), .second] [(.long (0 : Int64)), (.ref b3)])) rfl (by rw [hml]; rfl) (Steps.refl _) (argsL := [(.long (0 : Int64))]) (rest := []) (lenOf pd_3 rfl) rfl (by show 2 * 0 + _ ≤ _; exact Nat.le_of_eq rfl) (hb hby at_196) (fun _ _ => ⟨rfl, (rfl : T50.heap = T50.heap), (by decide : 1 + 0 ≤ _), (by decide : 1 + 0 ≤ _)⟩)
        dsimp only [Pt.U, Pt.locs, Pt.cells, Pt.slots] at X54 l54 y54 z54 st54 hQ54
        subst l54 y54 z54
        obtain ⟨x54_rr, x54_wn, rfl, N54q, K54q, Fq54_0, Fq54_1, pr54_rel⟩ := hQ54
        have N54 := Fr.app N50 N54q
        refine Go.st (fun _ k => st54.trans k) ?_
        have Z55 : n0 ≤ T54.heap.size := Nat.le_trans Z51 K54q.1
        have K56 : Keep h0 T54.heap [] := K52.trans K54q (fun z hz => (List.mem_cons.mp hz).elim (fun q => by rw [q]; exact Or.inr sz5) (fun hz => absurd hz List.not_mem_nil))
        have F57 : Exa Z T54.heap b3 "com/example/clotho/clotho/jsonpath/Budget" := Fq50_0.keep K54q
        show Go p.tables e below _ (T54.setTop (mkF m 199 #[.val (.long qx), .second, .val (.long qy), .second, .val (.int pm), .val (.long x1_rr), .second, .val (.long x2_rr), .second, .val (.ref b3), .val (.long v124), .second, .val (.int x10_rr), .val (.int x17_rr), .val (.long v154), .second] [(.int x54_rr)]))
        have hc199 : ¬ (x54_rr = (0 : Int32)) := own_ne32 (by omega)
        have hi199 : ¬ ((x54_rr).toInt = ((0 : Int32)).toInt) := fun z => hc199 (Int32.toInt_inj.symm.mpr z)
        refine Go.st (fun _ k => XS.ifYes X54.here hx rfl (pc0 := 199) (pc' := 204) rfl (hb hby at_199) rfl (Jvm.Free.XT.i0_ne_t hc199) (by decide) (by decide) k) ?_
        show Go p.tables e below _ (T54.setTop (mkF m 204 #[.val (.long qx), .second, .val (.long qy), .second, .val (.int pm), .val (.long x1_rr), .second, .val (.long x2_rr), .second, .val (.ref b3), .val (.long v124), .second, .val (.int x10_rr), .val (.int x17_rr), .val (.long v154), .second] []))
        refine Go.st (fun _ k => XS.aload X54.here hx rfl (hb hby at_204) rfl rfl k) ?_
        show Go p.tables e below _ (T54.setTop (mkF m 206 #[.val (.long qx), .second, .val (.long qy), .second, .val (.int pm), .val (.long x1_rr), .second, .val (.long x2_rr), .second, .val (.ref b3), .val (.long v124), .second, .val (.int x10_rr), .val (.int x17_rr), .val (.long v154), .second] [(.ref b3)]))
        obtain ⟨cq58, kq58, q58a, q58b, q58c⟩ := isOf hZ (rfl : T54.heap = T54.heap) Fq54_0
        obtain ⟨_, _, ⟨T58, L58, k58, n58⟩, -, X58, ⟨Lc58, hQ58, l58, y58, z58⟩, st58⟩ := X54.virtualBack hx (y := (⟨"com/example/clotho/clotho/jsonpath/Budget", "isTouched", "()Z"⟩ : MethodName)) (z := (⟨"com/example/clotho/clotho/jsonpath/Budget", "isTouched", "()Z"⟩ : MethodName)) hown (mvT hZ (hw _ (List.mem_of_getElem? (i := 27) rfl))) (mvT hZ (hw _ (List.mem_of_getElem? (i := 28) rfl))) (notFace_of_selects (args := #[]) (mvT hZ (hw _ (List.mem_of_getElem? (i := 30) rfl)))) (mvT hZ (hw _ (List.mem_of_getElem? (i := 30) rfl))) (mvT hZ (hw _ (List.mem_of_getElem? (i := 29) rfl))) (by decide) (backOf (W := 0) (rm_touched l Z a0 hw [] b3 x54_wn T54.heap n0 Z55 Fq54_1) hZ (hw _ (List.mem_of_getElem? (i := 31) rfl)) (hw _ (List.mem_of_getElem? (i := 8) rfl)) (by decide) (by decide)) q58a q58c (g := (mkF m 206 #[.val (.long qx), .second, .val (.long qy), .second, .val (.int pm), .val (.long x1_rr), .second, .val (.long x2_rr), .second, .val (.ref b3), .val (.long v124), .second, .val (.int x10_rr), .val (.int x17_rr), .val (.long v154), .second] [(.ref b3)])) rfl (by rw [hml]; rfl) (Steps.refl _) (argsL := []) (rest := []) (lenOf pd_4 rfl) rfl (by show 2 * 0 + _ ≤ _; exact Nat.le_of_eq rfl) (hb hby at_206) (fun _ _ => ⟨rfl, (rfl : T54.heap = T54.heap), (by decide : 1 + 0 ≤ _), (by decide : 1 + 0 ≤ _)⟩)
        dsimp only [Pt.U, Pt.locs, Pt.cells, Pt.slots] at X58 l58 y58 z58 st58 hQ58
        subst l58 y58 z58
        obtain ⟨x58_rr, rfl, N58q, e58, pr58_rel⟩ := hQ58
        have N58 := Fr.app N54 N58q
        refine Go.st (fun _ k => st58.trans k) ?_
        show Go p.tables e below _ (T58.setTop (mkF m 209 #[.val (.long qx), .second, .val (.long qy), .second, .val (.int pm), .val (.long x1_rr), .second, .val (.long x2_rr), .second, .val (.ref b3), .val (.long v124), .second, .val (.int x10_rr), .val (.int x17_rr), .val (.long v154), .second] [(.int x58_rr)]))
        subst hG
        obtain ⟨fs, hr, hrun, hended, hW, hsame⟩ := X58.leave (v := some (.int (nar .boolean x58_rr))) (fun h => by rw [Bd.returns] at h; cases h)
        refine ⟨_, _, ?_, hrun, hended, _, _, rfl, ?_, ⟨_, rfl⟩, hW, hsame.mono (by decide) (by decide)⟩
        · exact retN X58 hx (t := .boolean) Bd.returns (by simp) (hb hby at_209) hr
        · show Q_law Z qx qy pm h0 n0 _ T58.heap _
          rw [e58]
          exact ⟨(by rw [show x58_rr = (1 : Int32) from own_eq32 (by omega)]; rfl), N58, K56⟩
      · skip
        have hi135 : ¬ (((0 : Int64)).toInt < (v124).toInt) := fun z => hc135 (Int64.lt_iff_toInt_lt.mpr z)
        refine Go.st (fun _ k => XS.ifYes X41.here hx rfl (pc0 := 135) (pc' := 142) rfl (hb hby at_135) rfl (Jvm.Free.XT.ll_le_t hc135) (by decide) (by decide) k) ?_
        show Go p.tables e below _ (T41.setTop (mkF m 142 #[.val (.long qx), .second, .val (.long qy), .second, .val (.int pm), .val (.long x1_rr), .second, .val (.long x2_rr), .second, .val (.ref b3), .val (.long v124), .second, .val (.int x10_rr), .val (.int x17_rr), .unset, .unset] [(.int x41_rr)]))
        refine Go.st (fun _ k => XS.iconst X41.here hx rfl (hb hby at_142) k) ?_
        show Go p.tables e below _ (T41.setTop (mkF m 143 #[.val (.long qx), .second, .val (.long qy), .second, .val (.int pm), .val (.long x1_rr), .second, .val (.long x2_rr), .second, .val (.ref b3), .val (.long v124), .second, .val (.int x10_rr), .val (.int x17_rr), .unset, .unset] [(.int (0 : Int32)), (.int x41_rr)]))
        have hc143 : x41_rr = (0 : Int32) := own_eq32 (by omega)
        have hi143 : (x41_rr).toInt = ((0 : Int32)).toInt := Int32.toInt_inj.symm.mp hc143
        refine Go.st (fun _ k => XS.icmpYes X41.here hx rfl (pc0 := 143) (pc' := 148) rfl (hb hby at_143) rfl (Jvm.Free.XT.ii_eq_t hc143) (by decide) (by decide) k) ?_
        show Go p.tables e below _ (T41.setTop (mkF m 148 #[.val (.long qx), .second, .val (.long qy), .second, .val (.int pm), .val (.long x1_rr), .second, .val (.long x2_rr), .second, .val (.ref b3), .val (.long v124), .second, .val (.int x10_rr), .val (.int x17_rr), .unset, .unset] []))
        refine Go.st (fun _ k => X41.ldc2Long hx hown (mvT hZ (hw _ (List.mem_of_getElem? (i := 18) rfl))) (g := (mkF m 148 #[.val (.long qx), .second, .val (.long qy), .second, .val (.int pm), .val (.long x1_rr), .second, .val (.long x2_rr), .second, .val (.ref b3), .val (.long v124), .second, .val (.int x10_rr), .val (.int x17_rr), .unset, .unset] [])) rfl (hb hby at_148) _ k) ?_
        show Go p.tables e below _ (T41.setTop (mkF m 151 #[.val (.long qx), .second, .val (.long qy), .second, .val (.int pm), .val (.long x1_rr), .second, .val (.long x2_rr), .second, .val (.ref b3), .val (.long v124), .second, .val (.int x10_rr), .val (.int x17_rr), .unset, .unset] [(.long (10000000 : Int64))]))
        refine Go.st (fun _ k => XS.lload X41.here hx rfl (hb hby at_151) rfl k) ?_
        show Go p.tables e below _ (T41.setTop (mkF m 153 #[.val (.long qx), .second, .val (.long qy), .second, .val (.int pm), .val (.long x1_rr), .second, .val (.long x2_rr), .second, .val (.ref b3), .val (.long v124), .second, .val (.int x10_rr), .val (.int x17_rr), .unset, .unset] [(.long v124), (.long (10000000 : Int64))]))
        refine Go.st (fun _ k => XS.lsub X41.here hx rfl (hb hby at_153) rfl k) ?_
        show Go p.tables e below _ (T41.setTop (mkF m 154 #[.val (.long qx), .second, .val (.long qy), .second, .val (.int pm), .val (.long x1_rr), .second, .val (.long x2_rr), .second, .val (.ref b3), .val (.long v124), .second, .val (.int x10_rr), .val (.int x17_rr), .unset, .unset] [(.long ((10000000 : Int64) - v124))]))
        refine Go.st (fun _ k => XS.lstore X41.here hx rfl (hb hby at_154) rfl (l' := #[.val (.long qx), .second, .val (.long qy), .second, .val (.int pm), .val (.long x1_rr), .second, .val (.long x2_rr), .second, .val (.ref b3), .val (.long v124), .second, .val (.int x10_rr), .val (.int x17_rr), .val (.long ((10000000 : Int64) - v124)), .second]) rfl k) ?_
        show Go p.tables e below _ (T41.setTop (mkF m 156 #[.val (.long qx), .second, .val (.long qy), .second, .val (.int pm), .val (.long x1_rr), .second, .val (.long x2_rr), .second, .val (.ref b3), .val (.long v124), .second, .val (.int x10_rr), .val (.int x17_rr), .val (.long ((10000000 : Int64) - v124)), .second] []))
        generalize hqv154 : ((10000000 : Int64) - v124) = v154
        have lt_1000000064 : (10000000 : Int64).toInt = 10000000 := by decide
        have hi_v154 := i64_subc (10000000 : Int64) v124
        rw [hqv154] at hi_v154
        show Go p.tables e below _ (T41.setTop (mkF m 156 #[.val (.long qx), .second, .val (.long qy), .second, .val (.int pm), .val (.long x1_rr), .second, .val (.long x2_rr), .second, .val (.ref b3), .val (.long v124), .second, .val (.int x10_rr), .val (.int x17_rr), .val (.long v154), .second] []))
        refine Go.st (fun _ k => XS.aload X41.here hx rfl (hb hby at_156) rfl rfl k) ?_
        show Go p.tables e below _ (T41.setTop (mkF m 158 #[.val (.long qx), .second, .val (.long qy), .second, .val (.int pm), .val (.long x1_rr), .second, .val (.long x2_rr), .second, .val (.ref b3), .val (.long v124), .second, .val (.int x10_rr), .val (.int x17_rr), .val (.long v154), .second] [(.ref b3)]))
        refine Go.st (fun _ k => XS.lload X41.here hx rfl (hb hby at_158) rfl k) ?_
        show Go p.tables e below _ (T41.setTop (mkF m 160 #[.val (.long qx), .second, .val (.long qy), .second, .val (.int pm), .val (.long x1_rr), .second, .val (.long x2_rr), .second, .val (.ref b3), .val (.long v124), .second, .val (.int x10_rr), .val (.int x17_rr), .val (.long v154), .second] [(.long v154), (.ref b3)]))
        refine Go.st (fun _ k => XS.lconst X41.here hx rfl (hb hby at_160) k) ?_
        show Go p.tables e below _ (T41.setTop (mkF m 161 #[.val (.long qx), .second, .val (.long qy), .second, .val (.int pm), .val (.long x1_rr), .second, .val (.long x2_rr), .second, .val (.ref b3), .val (.long v124), .second, .val (.int x10_rr), .val (.int x17_rr), .val (.long v154), .second] [(.long (1 : Int64)), (.long v154), (.ref b3)]))
        refine Go.st (fun _ k => XS.ladd X41.here hx rfl (hb hby at_161) rfl k) ?_
        show Go p.tables e below _ (T41.setTop (mkF m 162 #[.val (.long qx), .second, .val (.long qy), .second, .val (.int pm), .val (.long x1_rr), .second, .val (.long x2_rr), .second, .val (.ref b3), .val (.long v124), .second, .val (.int x10_rr), .val (.int x17_rr), .val (.long v154), .second] [(.long (v154 + (1 : Int64))), (.ref b3)]))
        generalize hqa162 : (v154 + (1 : Int64)) = a162
        have lt_164 : (1 : Int64).toInt = 1 := by decide
        have hi_a162 := i64_addc v154 (1 : Int64)
        rw [hqa162] at hi_a162
        obtain ⟨cq59, kq59, q59a, q59b, q59c⟩ := isOf hZ e41 Fq18_0
        obtain ⟨_, _, ⟨T59, L59, k59, n59⟩, -, X59, ⟨Lc59, hQ59, l59, y59, z59⟩, st59⟩ := X41.virtualBack hx (y := (⟨"com/example/clotho/clotho/jsonpath/Budget", "take", "(J)Z"⟩ : MethodName)) (z := (⟨"com/example/clotho/clotho/jsonpath/Budget", "take", "(J)Z"⟩ : MethodName)) hown (mvT hZ (hw _ (List.mem_of_getElem? (i := 19) rfl))) (mvT hZ (hw _ (List.mem_of_getElem? (i := 20) rfl))) (notFace_of_selects (args := #[]) (mvT hZ (hw _ (List.mem_of_getElem? (i := 22) rfl)))) (mvT hZ (hw _ (List.mem_of_getElem? (i := 22) rfl))) (mvT hZ (hw _ (List.mem_of_getElem? (i := 21) rfl))) (by decide) (backOf (W := 0) (rm_take l Z a0 hw [] b3 a162 x18_wn T18.heap n0 Z19 Fq18_1 Fq18_0 ge4 (by show 0 ≤ x18_wn.toInt ∧ x18_wn.toInt ≤ 10000000; exact by omega) (by show 0 ≤ a162.toInt; exact by omega)) hZ (hw _ (List.mem_of_getElem? (i := 23) rfl)) (hw _ (List.mem_of_getElem? (i := 8) rfl)) (by decide) (by decide)) q59a q59c (g := (mkF m 162 #[.val (.long qx), .second, .val (.long qy), .second, .val (.int pm), .val (.long x1_rr), .second, .val (.long x2_rr), .second, .val (.ref b3), .val (.long v124), .second, .val (.int x10_rr), .val (.int x17_rr), .val (.long v154), .second] [(.long a162), (.ref b3)])) rfl (by rw [hml]; rfl) (Steps.refl _) (argsL := [(.long a162)]) (rest := []) (lenOf pd_3 rfl) rfl (by show 2 * 0 + _ ≤ _; exact Nat.le_of_eq rfl) (hb hby at_162) (fun _ _ => ⟨rfl, e41, (by decide : 1 + 0 ≤ _), (by decide : 1 + 0 ≤ _)⟩)
        dsimp only [Pt.U, Pt.locs, Pt.cells, Pt.slots] at X59 l59 y59 z59 st59 hQ59
        subst l59 y59 z59
        obtain ⟨x59_rr, x59_wn, rfl, N59q, K59q, Fq59_0, Fq59_1, pr59_rel⟩ := hQ59
        have N59 := Fr.app N41 N59q
        refine Go.st (fun _ k => st59.trans k) ?_
        have Z60 : n0 ≤ T59.heap.size := Nat.le_trans Z19 K59q.1
        have K61 : Keep h0 T59.heap [] := K20.trans K59q (fun z hz => (List.mem_cons.mp hz).elim (fun q => by rw [q]; exact Or.inr sz5) (fun hz => absurd hz List.not_mem_nil))
        have F62 : Exa Z T59.heap b3 "com/example/clotho/clotho/jsonpath/Budget" := Fq18_0.keep K59q
        show Go p.tables e below _ (T59.setTop (mkF m 165 #[.val (.long qx), .second, .val (.long qy), .second, .val (.int pm), .val (.long x1_rr), .second, .val (.long x2_rr), .second, .val (.ref b3), .val (.long v124), .second, .val (.int x10_rr), .val (.int x17_rr), .val (.long v154), .second] [(.int x59_rr)]))
        have hc165 : x59_rr = (0 : Int32) := own_eq32 (by omega)
        have hi165 : (x59_rr).toInt = ((0 : Int32)).toInt := Int32.toInt_inj.symm.mp hc165
        refine Go.st (fun _ k => XS.ifYes X59.here hx rfl (pc0 := 165) (pc' := 170) rfl (hb hby at_165) rfl (Jvm.Free.XT.i0_eq_t hc165) (by decide) (by decide) k) ?_
        show Go p.tables e below _ (T59.setTop (mkF m 170 #[.val (.long qx), .second, .val (.long qy), .second, .val (.int pm), .val (.long x1_rr), .second, .val (.long x2_rr), .second, .val (.ref b3), .val (.long v124), .second, .val (.int x10_rr), .val (.int x17_rr), .val (.long v154), .second] []))
        refine Go.st (fun _ k => XS.aload X59.here hx rfl (hb hby at_170) rfl rfl k) ?_
        show Go p.tables e below _ (T59.setTop (mkF m 172 #[.val (.long qx), .second, .val (.long qy), .second, .val (.int pm), .val (.long x1_rr), .second, .val (.long x2_rr), .second, .val (.ref b3), .val (.long v124), .second, .val (.int x10_rr), .val (.int x17_rr), .val (.long v154), .second] [(.ref b3)]))
        refine Go.st (fun _ k => XS.lload X59.here hx rfl (hb hby at_172) rfl k) ?_
        show Go p.tables e below _ (T59.setTop (mkF m 174 #[.val (.long qx), .second, .val (.long qy), .second, .val (.int pm), .val (.long x1_rr), .second, .val (.long x2_rr), .second, .val (.ref b3), .val (.long v124), .second, .val (.int x10_rr), .val (.int x17_rr), .val (.long v154), .second] [(.long v154), (.ref b3)]))
        obtain ⟨cq63, kq63, q63a, q63b, q63c⟩ := isOf hZ (rfl : T59.heap = T59.heap) Fq59_0
        obtain ⟨_, _, ⟨T63, L63, k63, n63⟩, -, X63, ⟨Lc63, hQ63, l63, y63, z63⟩, st63⟩ := X59.virtualBack hx (y := (⟨"com/example/clotho/clotho/jsonpath/Budget", "take", "(J)Z"⟩ : MethodName)) (z := (⟨"com/example/clotho/clotho/jsonpath/Budget", "take", "(J)Z"⟩ : MethodName)) hown (mvT hZ (hw _ (List.mem_of_getElem? (i := 19) rfl))) (mvT hZ (hw _ (List.mem_of_getElem? (i := 20) rfl))) (notFace_of_selects (args := #[]) (mvT hZ (hw _ (List.mem_of_getElem? (i := 22) rfl)))) (mvT hZ (hw _ (List.mem_of_getElem? (i := 22) rfl))) (mvT hZ (hw _ (List.mem_of_getElem? (i := 21) rfl))) (by decide) (backOf (W := 0) (rm_take l Z a0 hw [] b3 v154 x59_wn T59.heap n0 Z60 Fq59_1 Fq59_0 ge4 (by show 0 ≤ x59_wn.toInt ∧ x59_wn.toInt ≤ 10000000; exact by omega) (by show 0 ≤ v154.toInt; exact by omega)) hZ (hw _ (List.mem_of_getElem? (i := 23) rfl)) (hw _ (List.mem_of_getElem? (i := 8) rfl)) (by decide) (by decide)) q63a q63c (g := (mkF m 174 #[.val (.long qx), .second, .val (.long qy), .second, .val (.int pm), .val (.long x1_rr), .second, .val (.long x2_rr), .second, .val (.ref b3), .val (.long v124), .second, .val (.int x10_rr), .val (.int x17_rr), .val (.long v154), .second] [(.long v154), (.ref b3)])) rfl (by rw [hml]; rfl) (Steps.refl _) (argsL := [(.long v154)]) (rest := []) (lenOf pd_3 rfl) rfl (by show 2 * 0 + _ ≤ _; exact Nat.le_of_eq rfl) (hb hby at_174) (fun _ _ => ⟨rfl, (rfl : T59.heap = T59.heap), (by decide : 1 + 0 ≤ _), (by decide : 1 + 0 ≤ _)⟩)
        dsimp only [Pt.U, Pt.locs, Pt.cells, Pt.slots] at X63 l63 y63 z63 st63 hQ63
        subst l63 y63 z63
        obtain ⟨x63_rr, x63_wn, rfl, N63q, K63q, Fq63_0, Fq63_1, pr63_rel⟩ := hQ63
        have N63 := Fr.app N59 N63q
        refine Go.st (fun _ k => st63.trans k) ?_
        have Z64 : n0 ≤ T63.heap.size := Nat.le_trans Z60 K63q.1
        have K65 : Keep h0 T63.heap [] := K61.trans K63q (fun z hz => (List.mem_cons.mp hz).elim (fun q => by rw [q]; exact Or.inr sz5) (fun hz => absurd hz List.not_mem_nil))
        have F66 : Exa Z T63.heap b3 "com/example/clotho/clotho/jsonpath/Budget" := Fq59_0.keep K63q
        show Go p.tables e below _ (T63.setTop (mkF m 177 #[.val (.long qx), .second, .val (.long qy), .second, .val (.int pm), .val (.long x1_rr), .second, .val (.long x2_rr), .second, .val (.ref b3), .val (.long v124), .second, .val (.int x10_rr), .val (.int x17_rr), .val (.long v154), .second] [(.int x63_rr)]))
        have hc177 : ¬ (x63_rr = (0 : Int32)) := own_ne32 (by omega)
        have hi177 : ¬ ((x63_rr).toInt = ((0 : Int32)).toInt) := fun z => hc177 (Int32.toInt_inj.symm.mpr z)
        refine Go.st (fun _ k => XS.ifYes X63.here hx rfl (pc0 := 177) (pc' := 182) rfl (hb hby at_177) rfl (Jvm.Free.XT.i0_ne_t hc177) (by decide) (by decide) k) ?_
        show Go p.tables e below _ (T63.setTop (mkF m 182 #[.val (.long qx), .second, .val (.long qy), .second, .val (.int pm), .val (.long x1_rr), .second, .val (.long x2_rr), .second, .val (.ref b3), .val (.long v124), .second, .val (.int x10_rr), .val (.int x17_rr), .val (.long v154), .second] []))
        refine Go.st (fun _ k => XS.aload X63.here hx rfl (hb hby at_182) rfl rfl k) ?_
        show Go p.tables e below _ (T63.setTop (mkF m 184 #[.val (.long qx), .second, .val (.long qy), .second, .val (.int pm), .val (.long x1_rr), .second, .val (.long x2_rr), .second, .val (.ref b3), .val (.long v124), .second, .val (.int x10_rr), .val (.int x17_rr), .val (.long v154), .second] [(.ref b3)]))
        refine Go.st (fun _ k => XS.lconst X63.here hx rfl (hb hby at_184) k) ?_
        show Go p.tables e below _ (T63.setTop (mkF m 185 #[.val (.long qx), .second, .val (.long qy), .second, .val (.int pm), .val (.long x1_rr), .second, .val (.long x2_rr), .second, .val (.ref b3), .val (.long v124), .second, .val (.int x10_rr), .val (.int x17_rr), .val (.long v154), .second] [(.long (1 : Int64)), (.ref b3)]))
        obtain ⟨cq67, kq67, q67a, q67b, q67c⟩ := isOf hZ (rfl : T63.heap = T63.heap) Fq63_0
        obtain ⟨_, _, ⟨T67, L67, k67, n67⟩, -, X67, ⟨Lc67, hQ67, l67, y67, z67⟩, st67⟩ := X63.virtualBack hx (y := (⟨"com/example/clotho/clotho/jsonpath/Budget", "take", "(J)Z"⟩ : MethodName)) (z := (⟨"com/example/clotho/clotho/jsonpath/Budget", "take", "(J)Z"⟩ : MethodName)) hown (mvT hZ (hw _ (List.mem_of_getElem? (i := 19) rfl))) (mvT hZ (hw _ (List.mem_of_getElem? (i := 20) rfl))) (notFace_of_selects (args := #[]) (mvT hZ (hw _ (List.mem_of_getElem? (i := 22) rfl)))) (mvT hZ (hw _ (List.mem_of_getElem? (i := 22) rfl))) (mvT hZ (hw _ (List.mem_of_getElem? (i := 21) rfl))) (by decide) (backOf (W := 0) (rm_take l Z a0 hw [] b3 (1 : Int64) x63_wn T63.heap n0 Z64 Fq63_1 Fq63_0 ge4 (by show 0 ≤ x63_wn.toInt ∧ x63_wn.toInt ≤ 10000000; exact by omega) (by show 0 ≤ (1 : Int64).toInt; exact by omega)) hZ (hw _ (List.mem_of_getElem? (i := 23) rfl)) (hw _ (List.mem_of_getElem? (i := 8) rfl)) (by decide) (by decide)) q67a q67c (g := (mkF m 185 #[.val (.long qx), .second, .val (.long qy), .second, .val (.int pm), .val (.long x1_rr), .second, .val (.long x2_rr), .second, .val (.ref b3), .val (.long v124), .second, .val (.int x10_rr), .val (.int x17_rr), .val (.long v154), .second] [(.long (1 : Int64)), (.ref b3)])) rfl (by rw [hml]; rfl) (Steps.refl _) (argsL := [(.long (1 : Int64))]) (rest := []) (lenOf pd_3 rfl) rfl (by show 2 * 0 + _ ≤ _; exact Nat.le_of_eq rfl) (hb hby at_185) (fun _ _ => ⟨rfl, (rfl : T63.heap = T63.heap), (by decide : 1 + 0 ≤ _), (by decide : 1 + 0 ≤ _)⟩)
        dsimp only [Pt.U, Pt.locs, Pt.cells, Pt.slots] at X67 l67 y67 z67 st67 hQ67
        subst l67 y67 z67
        obtain ⟨x67_rr, x67_wn, rfl, N67q, K67q, Fq67_0, Fq67_1, pr67_rel⟩ := hQ67
        have N67 := Fr.app N63 N67q
        refine Go.st (fun _ k => st67.trans k) ?_
        have Z68 : n0 ≤ T67.heap.size := Nat.le_trans Z64 K67q.1
        have K69 : Keep h0 T67.heap [] := K65.trans K67q (fun z hz => (List.mem_cons.mp hz).elim (fun q => by rw [q]; exact Or.inr sz5) (fun hz => absurd hz List.not_mem_nil))
        have F70 : Exa Z T67.heap b3 "com/example/clotho/clotho/jsonpath/Budget" := Fq63_0.keep K67q
        show Go p.tables e below _ (T67.setTop (mkF m 188 #[.val (.long qx), .second, .val (.long qy), .second, .val (.int pm), .val (.long x1_rr), .second, .val (.long x2_rr), .second, .val (.ref b3), .val (.long v124), .second, .val (.int x10_rr), .val (.int x17_rr), .val (.long v154), .second] [(.int x67_rr)]))
        have hc188 : x67_rr = (0 : Int32) := own_eq32 (by omega)
        have hi188 : (x67_rr).toInt = ((0 : Int32)).toInt := Int32.toInt_inj.symm.mp hc188
        refine Go.st (fun _ k => XS.ifYes X67.here hx rfl (pc0 := 188) (pc' := 193) rfl (hb hby at_188) rfl (Jvm.Free.XT.i0_eq_t hc188) (by decide) (by decide) k) ?_
        show Go p.tables e below _ (T67.setTop (mkF m 193 #[.val (.long qx), .second, .val (.long qy), .second, .val (.int pm), .val (.long x1_rr), .second, .val (.long x2_rr), .second, .val (.ref b3), .val (.long v124), .second, .val (.int x10_rr), .val (.int x17_rr), .val (.long v154), .second] []))
        refine Go.st (fun _ k => XS.aload X67.here hx rfl (hb hby at_193) rfl rfl k) ?_
        show Go p.tables e below _ (T67.setTop (mkF m 195 #[.val (.long qx), .second, .val (.long qy), .second, .val (.int pm), .val (.long x1_rr), .second, .val (.long x2_rr), .second, .val (.ref b3), .val (.long v124), .second, .val (.int x10_rr), .val (.int x17_rr), .val (.long v154), .second] [(.ref b3)]))
        refine Go.st (fun _ k => XS.lconst X67.here hx rfl (hb hby at_195) k) ?_
        show Go p.tables e below _ (T67.setTop (mkF m 196 #[.val (.long qx), .second, .val (.long qy), .second, .val (.int pm), .val (.long x1_rr), .second, .val (.long x2_rr), .second, .val (.ref b3), .val (.long v124), .second, .val (.int x10_rr), .val (.int x17_rr), .val (.long v154), .second] [(.long (0 : Int64)), (.ref b3)]))
        obtain ⟨cq71, kq71, q71a, q71b, q71c⟩ := isOf hZ (rfl : T67.heap = T67.heap) Fq67_0
        obtain ⟨_, _, ⟨T71, L71, k71, n71⟩, -, X71, ⟨Lc71, hQ71, l71, y71, z71⟩, st71⟩ := X67.virtualBack hx (y := (⟨"com/example/clotho/clotho/jsonpath/Budget", "take", "(J)Z"⟩ : MethodName)) (z := (⟨"com/example/clotho/clotho/jsonpath/Budget", "take", "(J)Z"⟩ : MethodName)) hown (mvT hZ (hw _ (List.mem_of_getElem? (i := 19) rfl))) (mvT hZ (hw _ (List.mem_of_getElem? (i := 20) rfl))) (notFace_of_selects (args := #[]) (mvT hZ (hw _ (List.mem_of_getElem? (i := 22) rfl)))) (mvT hZ (hw _ (List.mem_of_getElem? (i := 22) rfl))) (mvT hZ (hw _ (List.mem_of_getElem? (i := 21) rfl))) (by decide) (backOf (W := 0) (rm_take l Z a0 hw [] b3 (0 : Int64) x67_wn T67.heap n0 Z68 Fq67_1 Fq67_0 ge4 (by show 0 ≤ x67_wn.toInt ∧ x67_wn.toInt ≤ 10000000; exact by omega) (by show 0 ≤ (0 : Int64).toInt; exact by omega)) hZ (hw _ (List.mem_of_getElem? (i := 23) rfl)) (hw _ (List.mem_of_getElem? (i := 8) rfl)) (by decide) (by decide)) q71a q71c (g := (mkF m 196 #[.val (.long qx), .second, .val (.long qy), .second, .val (.int pm), .val (.long x1_rr), .second, .val (.long x2_rr), .second, .val (.ref b3), .val (.long v124), .second, .val (.int x10_rr), .val (.int x17_rr), .val (.long v154), .second] [(.long (0 : Int64)), (.ref b3)])) rfl (by rw [hml]; rfl) (Steps.refl _) (argsL := [(.long (0 : Int64))]) (rest := []) (lenOf pd_3 rfl) rfl (by show 2 * 0 + _ ≤ _; exact Nat.le_of_eq rfl) (hb hby at_196) (fun _ _ => ⟨rfl, (rfl : T67.heap = T67.heap), (by decide : 1 + 0 ≤ _), (by decide : 1 + 0 ≤ _)⟩)
        dsimp only [Pt.U, Pt.locs, Pt.cells, Pt.slots] at X71 l71 y71 z71 st71 hQ71
        subst l71 y71 z71
        obtain ⟨x71_rr, x71_wn, rfl, N71q, K71q, Fq71_0, Fq71_1, pr71_rel⟩ := hQ71
        have N71 := Fr.app N67 N71q
        refine Go.st (fun _ k => st71.trans k) ?_
        have Z72 : n0 ≤ T71.heap.size := Nat.le_trans Z68 K71q.1
        have K73 : Keep h0 T71.heap [] := K69.trans K71q (fun z hz => (List.mem_cons.mp hz).elim (fun q => by rw [q]; exact Or.inr sz5) (fun hz => absurd hz List.not_mem_nil))
        have F74 : Exa Z T71.heap b3 "com/example/clotho/clotho/jsonpath/Budget" := Fq67_0.keep K71q
        show Go p.tables e below _ (T71.setTop (mkF m 199 #[.val (.long qx), .second, .val (.long qy), .second, .val (.int pm), .val (.long x1_rr), .second, .val (.long x2_rr), .second, .val (.ref b3), .val (.long v124), .second, .val (.int x10_rr), .val (.int x17_rr), .val (.long v154), .second] [(.int x71_rr)]))
        have hc199 : ¬ (x71_rr = (0 : Int32)) := own_ne32 (by omega)
        have hi199 : ¬ ((x71_rr).toInt = ((0 : Int32)).toInt) := fun z => hc199 (Int32.toInt_inj.symm.mpr z)
        refine Go.st (fun _ k => XS.ifYes X71.here hx rfl (pc0 := 199) (pc' := 204) rfl (hb hby at_199) rfl (Jvm.Free.XT.i0_ne_t hc199) (by decide) (by decide) k) ?_
        show Go p.tables e below _ (T71.setTop (mkF m 204 #[.val (.long qx), .second, .val (.long qy), .second, .val (.int pm), .val (.long x1_rr), .second, .val (.long x2_rr), .second, .val (.ref b3), .val (.long v124), .second, .val (.int x10_rr), .val (.int x17_rr), .val (.long v154), .second] []))
        refine Go.st (fun _ k => XS.aload X71.here hx rfl (hb hby at_204) rfl rfl k) ?_
        show Go p.tables e below _ (T71.setTop (mkF m 206 #[.val (.long qx), .second, .val (.long qy), .second, .val (.int pm), .val (.long x1_rr), .second, .val (.long x2_rr), .second, .val (.ref b3), .val (.long v124), .second, .val (.int x10_rr), .val (.int x17_rr), .val (.long v154), .second] [(.ref b3)]))
        obtain ⟨cq75, kq75, q75a, q75b, q75c⟩ := isOf hZ (rfl : T71.heap = T71.heap) Fq71_0
        obtain ⟨_, _, ⟨T75, L75, k75, n75⟩, -, X75, ⟨Lc75, hQ75, l75, y75, z75⟩, st75⟩ := X71.virtualBack hx (y := (⟨"com/example/clotho/clotho/jsonpath/Budget", "isTouched", "()Z"⟩ : MethodName)) (z := (⟨"com/example/clotho/clotho/jsonpath/Budget", "isTouched", "()Z"⟩ : MethodName)) hown (mvT hZ (hw _ (List.mem_of_getElem? (i := 27) rfl))) (mvT hZ (hw _ (List.mem_of_getElem? (i := 28) rfl))) (notFace_of_selects (args := #[]) (mvT hZ (hw _ (List.mem_of_getElem? (i := 30) rfl)))) (mvT hZ (hw _ (List.mem_of_getElem? (i := 30) rfl))) (mvT hZ (hw _ (List.mem_of_getElem? (i := 29) rfl))) (by decide) (backOf (W := 0) (rm_touched l Z a0 hw [] b3 x71_wn T71.heap n0 Z72 Fq71_1) hZ (hw _ (List.mem_of_getElem? (i := 31) rfl)) (hw _ (List.mem_of_getElem? (i := 8) rfl)) (by decide) (by decide)) q75a q75c (g := (mkF m 206 #[.val (.long qx), .second, .val (.long qy), .second, .val (.int pm), .val (.long x1_rr), .second, .val (.long x2_rr), .second, .val (.ref b3), .val (.long v124), .second, .val (.int x10_rr), .val (.int x17_rr), .val (.long v154), .second] [(.ref b3)])) rfl (by rw [hml]; rfl) (Steps.refl _) (argsL := []) (rest := []) (lenOf pd_4 rfl) rfl (by show 2 * 0 + _ ≤ _; exact Nat.le_of_eq rfl) (hb hby at_206) (fun _ _ => ⟨rfl, (rfl : T71.heap = T71.heap), (by decide : 1 + 0 ≤ _), (by decide : 1 + 0 ≤ _)⟩)
        dsimp only [Pt.U, Pt.locs, Pt.cells, Pt.slots] at X75 l75 y75 z75 st75 hQ75
        subst l75 y75 z75
        obtain ⟨x75_rr, rfl, N75q, e75, pr75_rel⟩ := hQ75
        have N75 := Fr.app N71 N75q
        refine Go.st (fun _ k => st75.trans k) ?_
        show Go p.tables e below _ (T75.setTop (mkF m 209 #[.val (.long qx), .second, .val (.long qy), .second, .val (.int pm), .val (.long x1_rr), .second, .val (.long x2_rr), .second, .val (.ref b3), .val (.long v124), .second, .val (.int x10_rr), .val (.int x17_rr), .val (.long v154), .second] [(.int x75_rr)]))
        subst hG
        obtain ⟨fs, hr, hrun, hended, hW, hsame⟩ := X75.leave (v := some (.int (nar .boolean x75_rr))) (fun h => by rw [Bd.returns] at h; cases h)
        refine ⟨_, _, ?_, hrun, hended, _, _, rfl, ?_, ⟨_, rfl⟩, hW, hsame.mono (by decide) (by decide)⟩
        · exact retN X75 hx (t := .boolean) Bd.returns (by simp) (hb hby at_209) hr
        · show Q_law Z qx qy pm h0 n0 _ T75.heap _
          rw [e75]
          exact ⟨(by rw [show x75_rr = (1 : Int32) from own_eq32 (by omega)]; rfl), N75, K73⟩
  · skip
    have lt_032 : (0 : Int32).toInt = 0 := by decide
    have hi59 : ¬ ((x10_rr).toInt = ((0 : Int32)).toInt) := fun z => hc59 (Int32.toInt_inj.symm.mpr z)
    refine Go.st (fun _ k => XS.ifNo X11.here hx rfl (hb hby at_59) rfl (Jvm.Free.XT.i0_eq_f hc59) k) ?_
    show Go p.tables e below _ (T11.setTop (mkF m 62 #[.val (.long qx), .second, .val (.long qy), .second, .val (.int pm), .val (.long x1_rr), .second, .val (.long x2_rr), .second, .val (.ref b3), .val (.long (0 : Int64)), .second, .val (.int x10_rr), .unset, .unset, .unset] []))
    refine Go.st (fun _ k => XS.lload X11.here hx rfl (hb hby at_62) rfl k) ?_
    show Go p.tables e below _ (T11.setTop (mkF m 64 #[.val (.long qx), .second, .val (.long qy), .second, .val (.int pm), .val (.long x1_rr), .second, .val (.long x2_rr), .second, .val (.ref b3), .val (.long (0 : Int64)), .second, .val (.int x10_rr), .unset, .unset, .unset] [(.long (0 : Int64))]))
    refine Go.st (fun _ k => XS.lload X11.here hx rfl (hb hby at_64) rfl k) ?_
    show Go p.tables e below _ (T11.setTop (mkF m 66 #[.val (.long qx), .second, .val (.long qy), .second, .val (.int pm), .val (.long x1_rr), .second, .val (.long x2_rr), .second, .val (.ref b3), .val (.long (0 : Int64)), .second, .val (.int x10_rr), .unset, .unset, .unset] [(.long x1_rr), (.long (0 : Int64))]))
    refine Go.st (fun _ k => XS.ladd X11.here hx rfl (hb hby at_66) rfl k) ?_
    show Go p.tables e below _ (T11.setTop (mkF m 67 #[.val (.long qx), .second, .val (.long qy), .second, .val (.int pm), .val (.long x1_rr), .second, .val (.long x2_rr), .second, .val (.ref b3), .val (.long (0 : Int64)), .second, .val (.int x10_rr), .unset, .unset, .unset] [(.long ((0 : Int64) + x1_rr))]))
    refine Go.st (fun _ k => XS.lstore X11.here hx rfl (hb hby at_67) rfl (l' := #[.val (.long qx), .second, .val (.long qy), .second, .val (.int pm), .val (.long x1_rr), .second, .val (.long x2_rr), .second, .val (.ref b3), .val (.long ((0 : Int64) + x1_rr)), .second, .val (.int x10_rr), .unset, .unset, .unset]) rfl k) ?_
    show Go p.tables e below _ (T11.setTop (mkF m 69 #[.val (.long qx), .second, .val (.long qy), .second, .val (.int pm), .val (.long x1_rr), .second, .val (.long x2_rr), .second, .val (.ref b3), .val (.long ((0 : Int64) + x1_rr)), .second, .val (.int x10_rr), .unset, .unset, .unset] []))
    generalize hqv67 : ((0 : Int64) + x1_rr) = v67
    have lt_064 : (0 : Int64).toInt = 0 := by decide
    have hi_v67 := i64_addc (0 : Int64) x1_rr
    rw [hqv67] at hi_v67
    show Go p.tables e below _ (T11.setTop (mkF m 69 #[.val (.long qx), .second, .val (.long qy), .second, .val (.int pm), .val (.long x1_rr), .second, .val (.long x2_rr), .second, .val (.ref b3), .val (.long v67), .second, .val (.int x10_rr), .unset, .unset, .unset] []))
    refine Go.st (fun _ k => XS.aload X11.here hx rfl (hb hby at_69) rfl rfl k) ?_
    show Go p.tables e below _ (T11.setTop (mkF m 71 #[.val (.long qx), .second, .val (.long qy), .second, .val (.int pm), .val (.long x1_rr), .second, .val (.long x2_rr), .second, .val (.ref b3), .val (.long v67), .second, .val (.int x10_rr), .unset, .unset, .unset] [(.ref b3)]))
    obtain ⟨cq76, kq76, q76a, q76b, q76c⟩ := isOf hZ (rfl : T11.heap = T11.heap) Fq11_0
    obtain ⟨_, _, ⟨T76, L76, k76, n76⟩, -, X76, ⟨Lc76, hQ76, l76, y76, z76⟩, st76⟩ := X11.virtualBack hx (y := (⟨"com/example/clotho/clotho/jsonpath/Budget", "isTouched", "()Z"⟩ : MethodName)) (z := (⟨"com/example/clotho/clotho/jsonpath/Budget", "isTouched", "()Z"⟩ : MethodName)) hown (mvT hZ (hw _ (List.mem_of_getElem? (i := 27) rfl))) (mvT hZ (hw _ (List.mem_of_getElem? (i := 28) rfl))) (notFace_of_selects (args := #[]) (mvT hZ (hw _ (List.mem_of_getElem? (i := 30) rfl)))) (mvT hZ (hw _ (List.mem_of_getElem? (i := 30) rfl))) (mvT hZ (hw _ (List.mem_of_getElem? (i := 29) rfl))) (by decide) (backOf (W := 0) (rm_touched l Z a0 hw [] b3 x11_wn T11.heap n0 Z12 Fq11_1) hZ (hw _ (List.mem_of_getElem? (i := 31) rfl)) (hw _ (List.mem_of_getElem? (i := 8) rfl)) (by decide) (by decide)) q76a q76c (g := (mkF m 71 #[.val (.long qx), .second, .val (.long qy), .second, .val (.int pm), .val (.long x1_rr), .second, .val (.long x2_rr), .second, .val (.ref b3), .val (.long v67), .second, .val (.int x10_rr), .unset, .unset, .unset] [(.ref b3)])) rfl (by rw [hml]; rfl) (Steps.refl _) (argsL := []) (rest := []) (lenOf pd_4 rfl) rfl (by show 2 * 0 + _ ≤ _; exact Nat.le_of_eq rfl) (hb hby at_71) (fun _ _ => ⟨rfl, (rfl : T11.heap = T11.heap), (by decide : 1 + 0 ≤ _), (by decide : 1 + 0 ≤ _)⟩)
    dsimp only [Pt.U, Pt.locs, Pt.cells, Pt.slots] at X76 l76 y76 z76 st76 hQ76
    subst l76 y76 z76
    obtain ⟨x76_rr, rfl, N76q, e76, pr76_rel⟩ := hQ76
    have N76 := Fr.app N11 N76q
    refine Go.st (fun _ k => st76.trans k) ?_
    show Go p.tables e below _ (T76.setTop (mkF m 74 #[.val (.long qx), .second, .val (.long qy), .second, .val (.int pm), .val (.long x1_rr), .second, .val (.long x2_rr), .second, .val (.ref b3), .val (.long v67), .second, .val (.int x10_rr), .unset, .unset, .unset] [(.int x76_rr)]))
    refine Go.st (fun _ k => XS.lload X76.here hx rfl (hb hby at_74) rfl k) ?_
    show Go p.tables e below _ (T76.setTop (mkF m 76 #[.val (.long qx), .second, .val (.long qy), .second, .val (.int pm), .val (.long x1_rr), .second, .val (.long x2_rr), .second, .val (.ref b3), .val (.long v67), .second, .val (.int x10_rr), .unset, .unset, .unset] [(.long v67), (.int x76_rr)]))
    refine Go.st (fun _ k => XS.lconst X76.here hx rfl (hb hby at_76) k) ?_
    show Go p.tables e below _ (T76.setTop (mkF m 77 #[.val (.long qx), .second, .val (.long qy), .second, .val (.int pm), .val (.long x1_rr), .second, .val (.long x2_rr), .second, .val (.ref b3), .val (.long v67), .second, .val (.int x10_rr), .unset, .unset, .unset] [(.long (0 : Int64)), (.long v67), (.int x76_rr)]))
    refine Go.st (fun _ k => Jvm.Free.XT.lcmp X76.here hx rfl (hb hby at_77) rfl k) ?_
    show Go p.tables e below _ (T76.setTop (mkF m 78 #[.val (.long qx), .second, .val (.long qy), .second, .val (.int pm), .val (.long x1_rr), .second, .val (.long x2_rr), .second, .val (.ref b3), .val (.long v67), .second, .val (.int x10_rr), .unset, .unset, .unset] [(.int (Jvm.Free.XT.cmpL v67 (0 : Int64))), (.int x76_rr)]))
    by_cases hc78 : (0 : Int64) < v67
    · skip
      have hi78 : ((0 : Int64)).toInt < (v67).toInt := Int64.lt_iff_toInt_lt.mp hc78
      refine Go.st (fun _ k => XS.ifNo X76.here hx rfl (hb hby at_78) rfl (Jvm.Free.XT.ll_le_f hc78) k) ?_
      show Go p.tables e below _ (T76.setTop (mkF m 81 #[.val (.long qx), .second, .val (.long qy), .second, .val (.int pm), .val (.long x1_rr), .second, .val (.long x2_rr), .second, .val (.ref b3), .val (.long v67), .second, .val (.int x10_rr), .unset, .unset, .unset] [(.int x76_rr)]))
      refine Go.st (fun _ k => XS.iconst X76.here hx rfl (hb hby at_81) k) ?_
      show Go p.tables e below _ (T76.setTop (mkF m 82 #[.val (.long qx), .second, .val (.long qy), .second, .val (.int pm), .val (.long x1_rr), .second, .val (.long x2_rr), .second, .val (.ref b3), .val (.long v67), .second, .val (.int x10_rr), .unset, .unset, .unset] [(.int (1 : Int32)), (.int x76_rr)]))
      refine Go.st (fun _ k => XS.goto X76.here hx rfl (pc0 := 82) (pc' := 86) rfl (hb hby at_82) (by decide) (by decide) k) ?_
      show Go p.tables e below _ (T76.setTop (mkF m 86 #[.val (.long qx), .second, .val (.long qy), .second, .val (.int pm), .val (.long x1_rr), .second, .val (.long x2_rr), .second, .val (.ref b3), .val (.long v67), .second, .val (.int x10_rr), .unset, .unset, .unset] [(.int (1 : Int32)), (.int x76_rr)]))
      have hc86 : x76_rr = (1 : Int32) := own_eq32 (by omega)
      have hi86 : (x76_rr).toInt = ((1 : Int32)).toInt := Int32.toInt_inj.symm.mp hc86
      refine Go.st (fun _ k => XS.icmpYes X76.here hx rfl (pc0 := 86) (pc' := 91) rfl (hb hby at_86) rfl (Jvm.Free.XT.ii_eq_t hc86) (by decide) (by decide) k) ?_
      show Go p.tables e below _ (T76.setTop (mkF m 91 #[.val (.long qx), .second, .val (.long qy), .second, .val (.int pm), .val (.long x1_rr), .second, .val (.long x2_rr), .second, .val (.ref b3), .val (.long v67), .second, .val (.int x10_rr), .unset, .unset, .unset] []))
      refine Go.st (fun _ k => XS.lload X76.here hx rfl (hb hby at_91) rfl k) ?_
      show Go p.tables e below _ (T76.setTop (mkF m 93 #[.val (.long qx), .second, .val (.long qy), .second, .val (.int pm), .val (.long x1_rr), .second, .val (.long x2_rr), .second, .val (.ref b3), .val (.long v67), .second, .val (.int x10_rr), .unset, .unset, .unset] [(.long v67)]))
      refine Go.st (fun _ k => XS.lload X76.here hx rfl (hb hby at_93) rfl k) ?_
      show Go p.tables e below _ (T76.setTop (mkF m 95 #[.val (.long qx), .second, .val (.long qy), .second, .val (.int pm), .val (.long x1_rr), .second, .val (.long x2_rr), .second, .val (.ref b3), .val (.long v67), .second, .val (.int x10_rr), .unset, .unset, .unset] [(.long x2_rr), (.long v67)]))
      obtain ⟨_, _, ⟨T77, L77, k77, n77⟩, -, X77, ⟨Lc77, hQ77, l77, y77, z77⟩, st77⟩ := Jvm.LawKit.callS X76 hx (y := (⟨"com/example/clotho/clotho/jsonpath/BudgetTakePinLaw", "fits", "(JJ)Z"⟩ : MethodName)) hown (mvT hZ (hw _ (List.mem_of_getElem? (i := 15) rfl))) (mvT hZ (hw _ (List.mem_of_getElem? (i := 16) rfl))) (mvT hZ (hw _ (List.mem_of_getElem? (i := 2) rfl))) (mvT hZ (hw _ (List.mem_of_getElem? (i := 17) rfl))) (by decide) (backOf (W := 0) (rm_fits l Z a0 hw [] v67 x2_rr T11.heap n0 Z12 (by show 0 ≤ v67.toInt ∧ v67.toInt ≤ 10000000; exact by omega) (by show 0 ≤ x2_rr.toInt; exact by omega)) hZ (hw _ (List.mem_of_getElem? (i := 17) rfl)) (hw _ (List.mem_of_getElem? (i := 2) rfl)) (by decide) (by decide)) (g := (mkF m 95 #[.val (.long qx), .second, .val (.long qy), .second, .val (.int pm), .val (.long x1_rr), .second, .val (.long x2_rr), .second, .val (.ref b3), .val (.long v67), .second, .val (.int x10_rr), .unset, .unset, .unset] [(.long x2_rr), (.long v67)])) rfl (by rw [hml]; rfl) (argsL := [(.long v67), (.long x2_rr)]) (rest := []) (lenOf pd_2 rfl) rfl (by show 2 * 0 + _ ≤ _; exact Nat.le_of_eq rfl) (hb hby at_95) (fun _ _ => ⟨rfl, e76, (by decide : 1 + 0 ≤ _), (by decide : 1 + 0 ≤ _)⟩)
      dsimp only [Pt.U, Pt.locs, Pt.cells, Pt.slots] at X77 l77 y77 z77 st77 hQ77
      subst l77 y77 z77
      obtain ⟨x77_rr, rfl, N77q, e77, pr77_rel⟩ := hQ77
      have N77 := Fr.app N76 N77q
      refine Go.st st77 ?_
      show Go p.tables e below _ (T77.setTop (mkF m 98 #[.val (.long qx), .second, .val (.long qy), .second, .val (.int pm), .val (.long x1_rr), .second, .val (.long x2_rr), .second, .val (.ref b3), .val (.long v67), .second, .val (.int x10_rr), .unset, .unset, .unset] [(.int x77_rr)]))
      refine Go.st (fun _ k => XS.istore X77.here hx rfl (hb hby at_98) rfl (l' := #[.val (.long qx), .second, .val (.long qy), .second, .val (.int pm), .val (.long x1_rr), .second, .val (.long x2_rr), .second, .val (.ref b3), .val (.long v67), .second, .val (.int x10_rr), .val (.int x77_rr), .unset, .unset]) rfl k) ?_
      show Go p.tables e below _ (T77.setTop (mkF m 100 #[.val (.long qx), .second, .val (.long qy), .second, .val (.int pm), .val (.long x1_rr), .second, .val (.long x2_rr), .second, .val (.ref b3), .val (.long v67), .second, .val (.int x10_rr), .val (.int x77_rr), .unset, .unset] []))
      show Go p.tables e below _ (T77.setTop (mkF m 100 #[.val (.long qx), .second, .val (.long qy), .second, .val (.int pm), .val (.long x1_rr), .second, .val (.long x2_rr), .second, .val (.ref b3), .val (.long v67), .second, .val (.int x10_rr), .val (.int x77_rr), .unset, .unset] []))
      refine Go.st (fun _ k => XS.aload X77.here hx rfl (hb hby at_100) rfl rfl k) ?_
      show Go p.tables e below _ (T77.setTop (mkF m 102 #[.val (.long qx), .second, .val (.long qy), .second, .val (.int pm), .val (.long x1_rr), .second, .val (.long x2_rr), .second, .val (.ref b3), .val (.long v67), .second, .val (.int x10_rr), .val (.int x77_rr), .unset, .unset] [(.ref b3)]))
      refine Go.st (fun _ k => XS.lload X77.here hx rfl (hb hby at_102) rfl k) ?_
      show Go p.tables e below _ (T77.setTop (mkF m 104 #[.val (.long qx), .second, .val (.long qy), .second, .val (.int pm), .val (.long x1_rr), .second, .val (.long x2_rr), .second, .val (.ref b3), .val (.long v67), .second, .val (.int x10_rr), .val (.int x77_rr), .unset, .unset] [(.long x2_rr), (.ref b3)]))
      obtain ⟨cq78, kq78, q78a, q78b, q78c⟩ := isOf hZ e77 Fq11_0
      obtain ⟨_, _, ⟨T78, L78, k78, n78⟩, -, X78, ⟨Lc78, hQ78, l78, y78, z78⟩, st78⟩ := X77.virtualBack hx (y := (⟨"com/example/clotho/clotho/jsonpath/Budget", "take", "(J)Z"⟩ : MethodName)) (z := (⟨"com/example/clotho/clotho/jsonpath/Budget", "take", "(J)Z"⟩ : MethodName)) hown (mvT hZ (hw _ (List.mem_of_getElem? (i := 19) rfl))) (mvT hZ (hw _ (List.mem_of_getElem? (i := 20) rfl))) (notFace_of_selects (args := #[]) (mvT hZ (hw _ (List.mem_of_getElem? (i := 22) rfl)))) (mvT hZ (hw _ (List.mem_of_getElem? (i := 22) rfl))) (mvT hZ (hw _ (List.mem_of_getElem? (i := 21) rfl))) (by decide) (backOf (W := 0) (rm_take l Z a0 hw [] b3 x2_rr x11_wn T11.heap n0 Z12 Fq11_1 Fq11_0 ge4 (by show 0 ≤ x11_wn.toInt ∧ x11_wn.toInt ≤ 10000000; exact by omega) (by show 0 ≤ x2_rr.toInt; exact by omega)) hZ (hw _ (List.mem_of_getElem? (i := 23) rfl)) (hw _ (List.mem_of_getElem? (i := 8) rfl)) (by decide) (by decide)) q78a q78c (g := (mkF m 104 #[.val (.long qx), .second, .val (.long qy), .second, .val (.int pm), .val (.long x1_rr), .second, .val (.long x2_rr), .second, .val (.ref b3), .val (.long v67), .second, .val (.int x10_rr), .val (.int x77_rr), .unset, .unset] [(.long x2_rr), (.ref b3)])) rfl (by rw [hml]; rfl) (Steps.refl _) (argsL := [(.long x2_rr)]) (rest := []) (lenOf pd_3 rfl) rfl (by show 2 * 0 + _ ≤ _; exact Nat.le_of_eq rfl) (hb hby at_104) (fun _ _ => ⟨rfl, e77, (by decide : 1 + 0 ≤ _), (by decide : 1 + 0 ≤ _)⟩)
      dsimp only [Pt.U, Pt.locs, Pt.cells, Pt.slots] at X78 l78 y78 z78 st78 hQ78
      subst l78 y78 z78
      obtain ⟨x78_rr, x78_wn, rfl, N78q, K78q, Fq78_0, Fq78_1, pr78_rel⟩ := hQ78
      have N78 := Fr.app N77 N78q
      refine Go.st (fun _ k => st78.trans k) ?_
      have Z79 : n0 ≤ T78.heap.size := Nat.le_trans Z12 K78q.1
      have K80 : Keep h0 T78.heap [] := K13.trans K78q (fun z hz => (List.mem_cons.mp hz).elim (fun q => by rw [q]; exact Or.inr sz5) (fun hz => absurd hz List.not_mem_nil))
      have F81 : Exa Z T78.heap b3 "com/example/clotho/clotho/jsonpath/Budget" := Fq11_0.keep K78q
      show Go p.tables e below _ (T78.setTop (mkF m 107 #[.val (.long qx), .second, .val (.long qy), .second, .val (.int pm), .val (.long x1_rr), .second, .val (.long x2_rr), .second, .val (.ref b3), .val (.long v67), .second, .val (.int x10_rr), .val (.int x77_rr), .unset, .unset] [(.int x78_rr)]))
      refine Go.st (fun _ k => XS.iload X78.here hx rfl (hb hby at_107) rfl k) ?_
      show Go p.tables e below _ (T78.setTop (mkF m 109 #[.val (.long qx), .second, .val (.long qy), .second, .val (.int pm), .val (.long x1_rr), .second, .val (.long x2_rr), .second, .val (.ref b3), .val (.long v67), .second, .val (.int x10_rr), .val (.int x77_rr), .unset, .unset] [(.int x77_rr), (.int x78_rr)]))
      have hc109 : x78_rr = x77_rr := own_eq32 (by omega)
      have hi109 : (x78_rr).toInt = (x77_rr).toInt := Int32.toInt_inj.symm.mp hc109
      refine Go.st (fun _ k => XS.icmpYes X78.here hx rfl (pc0 := 109) (pc' := 114) rfl (hb hby at_109) rfl (Jvm.Free.XT.ii_eq_t hc109) (by decide) (by decide) k) ?_
      show Go p.tables e below _ (T78.setTop (mkF m 114 #[.val (.long qx), .second, .val (.long qy), .second, .val (.int pm), .val (.long x1_rr), .second, .val (.long x2_rr), .second, .val (.ref b3), .val (.long v67), .second, .val (.int x10_rr), .val (.int x77_rr), .unset, .unset] []))
      refine Go.st (fun _ k => XS.iload X78.here hx rfl (hb hby at_114) rfl k) ?_
      show Go p.tables e below _ (T78.setTop (mkF m 116 #[.val (.long qx), .second, .val (.long qy), .second, .val (.int pm), .val (.long x1_rr), .second, .val (.long x2_rr), .second, .val (.ref b3), .val (.long v67), .second, .val (.int x10_rr), .val (.int x77_rr), .unset, .unset] [(.int x77_rr)]))
      by_cases hc116 : x77_rr = (0 : Int32)
      · skip
        have hi116 : (x77_rr).toInt = ((0 : Int32)).toInt := Int32.toInt_inj.symm.mp hc116
        refine Go.st (fun _ k => XS.ifYes X78.here hx rfl (pc0 := 116) (pc' := 126) rfl (hb hby at_116) rfl (Jvm.Free.XT.i0_eq_t hc116) (by decide) (by decide) k) ?_
        show Go p.tables e below _ (T78.setTop (mkF m 126 #[.val (.long qx), .second, .val (.long qy), .second, .val (.int pm), .val (.long x1_rr), .second, .val (.long x2_rr), .second, .val (.ref b3), .val (.long v67), .second, .val (.int x10_rr), .val (.int x77_rr), .unset, .unset] []))
        refine Go.st (fun _ k => XS.aload X78.here hx rfl (hb hby at_126) rfl rfl k) ?_
        show Go p.tables e below _ (T78.setTop (mkF m 128 #[.val (.long qx), .second, .val (.long qy), .second, .val (.int pm), .val (.long x1_rr), .second, .val (.long x2_rr), .second, .val (.ref b3), .val (.long v67), .second, .val (.int x10_rr), .val (.int x77_rr), .unset, .unset] [(.ref b3)]))
        obtain ⟨cq82, kq82, q82a, q82b, q82c⟩ := isOf hZ (rfl : T78.heap = T78.heap) Fq78_0
        obtain ⟨_, _, ⟨T82, L82, k82, n82⟩, -, X82, ⟨Lc82, hQ82, l82, y82, z82⟩, st82⟩ := X78.virtualBack hx (y := (⟨"com/example/clotho/clotho/jsonpath/Budget", "isTouched", "()Z"⟩ : MethodName)) (z := (⟨"com/example/clotho/clotho/jsonpath/Budget", "isTouched", "()Z"⟩ : MethodName)) hown (mvT hZ (hw _ (List.mem_of_getElem? (i := 27) rfl))) (mvT hZ (hw _ (List.mem_of_getElem? (i := 28) rfl))) (notFace_of_selects (args := #[]) (mvT hZ (hw _ (List.mem_of_getElem? (i := 30) rfl)))) (mvT hZ (hw _ (List.mem_of_getElem? (i := 30) rfl))) (mvT hZ (hw _ (List.mem_of_getElem? (i := 29) rfl))) (by decide) (backOf (W := 0) (rm_touched l Z a0 hw [] b3 x78_wn T78.heap n0 Z79 Fq78_1) hZ (hw _ (List.mem_of_getElem? (i := 31) rfl)) (hw _ (List.mem_of_getElem? (i := 8) rfl)) (by decide) (by decide)) q82a q82c (g := (mkF m 128 #[.val (.long qx), .second, .val (.long qy), .second, .val (.int pm), .val (.long x1_rr), .second, .val (.long x2_rr), .second, .val (.ref b3), .val (.long v67), .second, .val (.int x10_rr), .val (.int x77_rr), .unset, .unset] [(.ref b3)])) rfl (by rw [hml]; rfl) (Steps.refl _) (argsL := []) (rest := []) (lenOf pd_4 rfl) rfl (by show 2 * 0 + _ ≤ _; exact Nat.le_of_eq rfl) (hb hby at_128) (fun _ _ => ⟨rfl, (rfl : T78.heap = T78.heap), (by decide : 1 + 0 ≤ _), (by decide : 1 + 0 ≤ _)⟩)
        dsimp only [Pt.U, Pt.locs, Pt.cells, Pt.slots] at X82 l82 y82 z82 st82 hQ82
        subst l82 y82 z82
        obtain ⟨x82_rr, rfl, N82q, e82, pr82_rel⟩ := hQ82
        have N82 := Fr.app N78 N82q
        refine Go.st (fun _ k => st82.trans k) ?_
        show Go p.tables e below _ (T82.setTop (mkF m 131 #[.val (.long qx), .second, .val (.long qy), .second, .val (.int pm), .val (.long x1_rr), .second, .val (.long x2_rr), .second, .val (.ref b3), .val (.long v67), .second, .val (.int x10_rr), .val (.int x77_rr), .unset, .unset] [(.int x82_rr)]))
        refine Go.st (fun _ k => XS.lload X82.here hx rfl (hb hby at_131) rfl k) ?_
        show Go p.tables e below _ (T82.setTop (mkF m 133 #[.val (.long qx), .second, .val (.long qy), .second, .val (.int pm), .val (.long x1_rr), .second, .val (.long x2_rr), .second, .val (.ref b3), .val (.long v67), .second, .val (.int x10_rr), .val (.int x77_rr), .unset, .unset] [(.long v67), (.int x82_rr)]))
        refine Go.st (fun _ k => XS.lconst X82.here hx rfl (hb hby at_133) k) ?_
        show Go p.tables e below _ (T82.setTop (mkF m 134 #[.val (.long qx), .second, .val (.long qy), .second, .val (.int pm), .val (.long x1_rr), .second, .val (.long x2_rr), .second, .val (.ref b3), .val (.long v67), .second, .val (.int x10_rr), .val (.int x77_rr), .unset, .unset] [(.long (0 : Int64)), (.long v67), (.int x82_rr)]))
        refine Go.st (fun _ k => Jvm.Free.XT.lcmp X82.here hx rfl (hb hby at_134) rfl k) ?_
        show Go p.tables e below _ (T82.setTop (mkF m 135 #[.val (.long qx), .second, .val (.long qy), .second, .val (.int pm), .val (.long x1_rr), .second, .val (.long x2_rr), .second, .val (.ref b3), .val (.long v67), .second, .val (.int x10_rr), .val (.int x77_rr), .unset, .unset] [(.int (Jvm.Free.XT.cmpL v67 (0 : Int64))), (.int x82_rr)]))
        by_cases hc135 : (0 : Int64) < v67
        · skip
          have hi135 : ((0 : Int64)).toInt < (v67).toInt := Int64.lt_iff_toInt_lt.mp hc135
          refine Go.st (fun _ k => XS.ifNo X82.here hx rfl (hb hby at_135) rfl (Jvm.Free.XT.ll_le_f hc135) k) ?_
          show Go p.tables e below _ (T82.setTop (mkF m 138 #[.val (.long qx), .second, .val (.long qy), .second, .val (.int pm), .val (.long x1_rr), .second, .val (.long x2_rr), .second, .val (.ref b3), .val (.long v67), .second, .val (.int x10_rr), .val (.int x77_rr), .unset, .unset] [(.int x82_rr)]))
          refine Go.st (fun _ k => XS.iconst X82.here hx rfl (hb hby at_138) k) ?_
          show Go p.tables e below _ (T82.setTop (mkF m 139 #[.val (.long qx), .second, .val (.long qy), .second, .val (.int pm), .val (.long x1_rr), .second, .val (.long x2_rr), .second, .val (.ref b3), .val (.long v67), .second, .val (.int x10_rr), .val (.int x77_rr), .unset, .unset] [(.int (1 : Int32)), (.int x82_rr)]))
          refine Go.st (fun _ k => XS.goto X82.here hx rfl (pc0 := 139) (pc' := 143) rfl (hb hby at_139) (by decide) (by decide) k) ?_
          show Go p.tables e below _ (T82.setTop (mkF m 143 #[.val (.long qx), .second, .val (.long qy), .second, .val (.int pm), .val (.long x1_rr), .second, .val (.long x2_rr), .second, .val (.ref b3), .val (.long v67), .second, .val (.int x10_rr), .val (.int x77_rr), .unset, .unset] [(.int (1 : Int32)), (.int x82_rr)]))
          have hc143 : x82_rr = (1 : Int32) := own_eq32 (by omega)
          have hi143 : (x82_rr).toInt = ((1 : Int32)).toInt := Int32.toInt_inj.symm.mp hc143
          refine Go.st (fun _ k => XS.icmpYes X82.here hx rfl (pc0 := 143) (pc' := 148) rfl (hb hby at_143) rfl (Jvm.Free.XT.ii_eq_t hc143) (by decide) (by decide) k) ?_
          show Go p.tables e below _ (T82.setTop (mkF m 148 #[.val (.long qx), .second, .val (.long qy), .second, .val (.int pm), .val (.long x1_rr), .second, .val (.long x2_rr), .second, .val (.ref b3), .val (.long v67), .second, .val (.int x10_rr), .val (.int x77_rr), .unset, .unset] []))
          refine Go.st (fun _ k => X82.ldc2Long hx hown (mvT hZ (hw _ (List.mem_of_getElem? (i := 18) rfl))) (g := (mkF m 148 #[.val (.long qx), .second, .val (.long qy), .second, .val (.int pm), .val (.long x1_rr), .second, .val (.long x2_rr), .second, .val (.ref b3), .val (.long v67), .second, .val (.int x10_rr), .val (.int x77_rr), .unset, .unset] [])) rfl (hb hby at_148) _ k) ?_
          show Go p.tables e below _ (T82.setTop (mkF m 151 #[.val (.long qx), .second, .val (.long qy), .second, .val (.int pm), .val (.long x1_rr), .second, .val (.long x2_rr), .second, .val (.ref b3), .val (.long v67), .second, .val (.int x10_rr), .val (.int x77_rr), .unset, .unset] [(.long (10000000 : Int64))]))
          refine Go.st (fun _ k => XS.lload X82.here hx rfl (hb hby at_151) rfl k) ?_
          show Go p.tables e below _ (T82.setTop (mkF m 153 #[.val (.long qx), .second, .val (.long qy), .second, .val (.int pm), .val (.long x1_rr), .second, .val (.long x2_rr), .second, .val (.ref b3), .val (.long v67), .second, .val (.int x10_rr), .val (.int x77_rr), .unset, .unset] [(.long v67), (.long (10000000 : Int64))]))
          refine Go.st (fun _ k => XS.lsub X82.here hx rfl (hb hby at_153) rfl k) ?_
          show Go p.tables e below _ (T82.setTop (mkF m 154 #[.val (.long qx), .second, .val (.long qy), .second, .val (.int pm), .val (.long x1_rr), .second, .val (.long x2_rr), .second, .val (.ref b3), .val (.long v67), .second, .val (.int x10_rr), .val (.int x77_rr), .unset, .unset] [(.long ((10000000 : Int64) - v67))]))
          refine Go.st (fun _ k => XS.lstore X82.here hx rfl (hb hby at_154) rfl (l' := #[.val (.long qx), .second, .val (.long qy), .second, .val (.int pm), .val (.long x1_rr), .second, .val (.long x2_rr), .second, .val (.ref b3), .val (.long v67), .second, .val (.int x10_rr), .val (.int x77_rr), .val (.long ((10000000 : Int64) - v67)), .second]) rfl k) ?_
          show Go p.tables e below _ (T82.setTop (mkF m 156 #[.val (.long qx), .second, .val (.long qy), .second, .val (.int pm), .val (.long x1_rr), .second, .val (.long x2_rr), .second, .val (.ref b3), .val (.long v67), .second, .val (.int x10_rr), .val (.int x77_rr), .val (.long ((10000000 : Int64) - v67)), .second] []))
          generalize hqv154 : ((10000000 : Int64) - v67) = v154
          have lt_1000000064 : (10000000 : Int64).toInt = 10000000 := by decide
          have hi_v154 := i64_subc (10000000 : Int64) v67
          rw [hqv154] at hi_v154
          show Go p.tables e below _ (T82.setTop (mkF m 156 #[.val (.long qx), .second, .val (.long qy), .second, .val (.int pm), .val (.long x1_rr), .second, .val (.long x2_rr), .second, .val (.ref b3), .val (.long v67), .second, .val (.int x10_rr), .val (.int x77_rr), .val (.long v154), .second] []))
          refine Go.st (fun _ k => XS.aload X82.here hx rfl (hb hby at_156) rfl rfl k) ?_
          show Go p.tables e below _ (T82.setTop (mkF m 158 #[.val (.long qx), .second, .val (.long qy), .second, .val (.int pm), .val (.long x1_rr), .second, .val (.long x2_rr), .second, .val (.ref b3), .val (.long v67), .second, .val (.int x10_rr), .val (.int x77_rr), .val (.long v154), .second] [(.ref b3)]))
          refine Go.st (fun _ k => XS.lload X82.here hx rfl (hb hby at_158) rfl k) ?_
          show Go p.tables e below _ (T82.setTop (mkF m 160 #[.val (.long qx), .second, .val (.long qy), .second, .val (.int pm), .val (.long x1_rr), .second, .val (.long x2_rr), .second, .val (.ref b3), .val (.long v67), .second, .val (.int x10_rr), .val (.int x77_rr), .val (.long v154), .second] [(.long v154), (.ref b3)]))
          refine Go.st (fun _ k => XS.lconst X82.here hx rfl (hb hby at_160) k) ?_
          show Go p.tables e below _ (T82.setTop (mkF m 161 #[.val (.long qx), .second, .val (.long qy), .second, .val (.int pm), .val (.long x1_rr), .second, .val (.long x2_rr), .second, .val (.ref b3), .val (.long v67), .second, .val (.int x10_rr), .val (.int x77_rr), .val (.long v154), .second] [(.long (1 : Int64)), (.long v154), (.ref b3)]))
          refine Go.st (fun _ k => XS.ladd X82.here hx rfl (hb hby at_161) rfl k) ?_
          show Go p.tables e below _ (T82.setTop (mkF m 162 #[.val (.long qx), .second, .val (.long qy), .second, .val (.int pm), .val (.long x1_rr), .second, .val (.long x2_rr), .second, .val (.ref b3), .val (.long v67), .second, .val (.int x10_rr), .val (.int x77_rr), .val (.long v154), .second] [(.long (v154 + (1 : Int64))), (.ref b3)]))
          generalize hqa162 : (v154 + (1 : Int64)) = a162
          have lt_164 : (1 : Int64).toInt = 1 := by decide
          have hi_a162 := i64_addc v154 (1 : Int64)
          rw [hqa162] at hi_a162
          obtain ⟨cq83, kq83, q83a, q83b, q83c⟩ := isOf hZ e82 Fq78_0
          obtain ⟨_, _, ⟨T83, L83, k83, n83⟩, -, X83, ⟨Lc83, hQ83, l83, y83, z83⟩, st83⟩ := X82.virtualBack hx (y := (⟨"com/example/clotho/clotho/jsonpath/Budget", "take", "(J)Z"⟩ : MethodName)) (z := (⟨"com/example/clotho/clotho/jsonpath/Budget", "take", "(J)Z"⟩ : MethodName)) hown (mvT hZ (hw _ (List.mem_of_getElem? (i := 19) rfl))) (mvT hZ (hw _ (List.mem_of_getElem? (i := 20) rfl))) (notFace_of_selects (args := #[]) (mvT hZ (hw _ (List.mem_of_getElem? (i := 22) rfl)))) (mvT hZ (hw _ (List.mem_of_getElem? (i := 22) rfl))) (mvT hZ (hw _ (List.mem_of_getElem? (i := 21) rfl))) (by decide) (backOf (W := 0) (rm_take l Z a0 hw [] b3 a162 x78_wn T78.heap n0 Z79 Fq78_1 Fq78_0 ge4 (by show 0 ≤ x78_wn.toInt ∧ x78_wn.toInt ≤ 10000000; exact by omega) (by show 0 ≤ a162.toInt; exact by omega)) hZ (hw _ (List.mem_of_getElem? (i := 23) rfl)) (hw _ (List.mem_of_getElem? (i := 8) rfl)) (by decide) (by decide)) q83a q83c (g := (mkF m 162 #[.val (.long qx), .second, .val (.long qy), .second, .val (.int pm), .val (.long x1_rr), .second, .val (.long x2_rr), .second, .val (.ref b3), .val (.long v67), .second, .val (.int x10_rr), .val (.int x77_rr), .val (.long v154), .second] [(.long a162), (.ref b3)])) rfl (by rw [hml]; rfl) (Steps.refl _) (argsL := [(.long a162)]) (rest := []) (lenOf pd_3 rfl) rfl (by show 2 * 0 + _ ≤ _; exact Nat.le_of_eq rfl) (hb hby at_162) (fun _ _ => ⟨rfl, e82, (by decide : 1 + 0 ≤ _), (by decide : 1 + 0 ≤ _)⟩)
          dsimp only [Pt.U, Pt.locs, Pt.cells, Pt.slots] at X83 l83 y83 z83 st83 hQ83
          subst l83 y83 z83
          obtain ⟨x83_rr, x83_wn, rfl, N83q, K83q, Fq83_0, Fq83_1, pr83_rel⟩ := hQ83
          have N83 := Fr.app N82 N83q
          refine Go.st (fun _ k => st83.trans k) ?_
          have Z84 : n0 ≤ T83.heap.size := Nat.le_trans Z79 K83q.1
          have K85 : Keep h0 T83.heap [] := K80.trans K83q (fun z hz => (List.mem_cons.mp hz).elim (fun q => by rw [q]; exact Or.inr sz5) (fun hz => absurd hz List.not_mem_nil))
          have F86 : Exa Z T83.heap b3 "com/example/clotho/clotho/jsonpath/Budget" := Fq78_0.keep K83q
          show Go p.tables e below _ (T83.setTop (mkF m 165 #[.val (.long qx), .second, .val (.long qy), .second, .val (.int pm), .val (.long x1_rr), .second, .val (.long x2_rr), .second, .val (.ref b3), .val (.long v67), .second, .val (.int x10_rr), .val (.int x77_rr), .val (.long v154), .second] [(.int x83_rr)]))
          have hc165 : x83_rr = (0 : Int32) := own_eq32 (by omega)
          have hi165 : (x83_rr).toInt = ((0 : Int32)).toInt := Int32.toInt_inj.symm.mp hc165
          refine Go.st (fun _ k => XS.ifYes X83.here hx rfl (pc0 := 165) (pc' := 170) rfl (hb hby at_165) rfl (Jvm.Free.XT.i0_eq_t hc165) (by decide) (by decide) k) ?_
          show Go p.tables e below _ (T83.setTop (mkF m 170 #[.val (.long qx), .second, .val (.long qy), .second, .val (.int pm), .val (.long x1_rr), .second, .val (.long x2_rr), .second, .val (.ref b3), .val (.long v67), .second, .val (.int x10_rr), .val (.int x77_rr), .val (.long v154), .second] []))
          refine Go.st (fun _ k => XS.aload X83.here hx rfl (hb hby at_170) rfl rfl k) ?_
          show Go p.tables e below _ (T83.setTop (mkF m 172 #[.val (.long qx), .second, .val (.long qy), .second, .val (.int pm), .val (.long x1_rr), .second, .val (.long x2_rr), .second, .val (.ref b3), .val (.long v67), .second, .val (.int x10_rr), .val (.int x77_rr), .val (.long v154), .second] [(.ref b3)]))
          refine Go.st (fun _ k => XS.lload X83.here hx rfl (hb hby at_172) rfl k) ?_
          show Go p.tables e below _ (T83.setTop (mkF m 174 #[.val (.long qx), .second, .val (.long qy), .second, .val (.int pm), .val (.long x1_rr), .second, .val (.long x2_rr), .second, .val (.ref b3), .val (.long v67), .second, .val (.int x10_rr), .val (.int x77_rr), .val (.long v154), .second] [(.long v154), (.ref b3)]))
          obtain ⟨cq87, kq87, q87a, q87b, q87c⟩ := isOf hZ (rfl : T83.heap = T83.heap) Fq83_0
          obtain ⟨_, _, ⟨T87, L87, k87, n87⟩, -, X87, ⟨Lc87, hQ87, l87, y87, z87⟩, st87⟩ := X83.virtualBack hx (y := (⟨"com/example/clotho/clotho/jsonpath/Budget", "take", "(J)Z"⟩ : MethodName)) (z := (⟨"com/example/clotho/clotho/jsonpath/Budget", "take", "(J)Z"⟩ : MethodName)) hown (mvT hZ (hw _ (List.mem_of_getElem? (i := 19) rfl))) (mvT hZ (hw _ (List.mem_of_getElem? (i := 20) rfl))) (notFace_of_selects (args := #[]) (mvT hZ (hw _ (List.mem_of_getElem? (i := 22) rfl)))) (mvT hZ (hw _ (List.mem_of_getElem? (i := 22) rfl))) (mvT hZ (hw _ (List.mem_of_getElem? (i := 21) rfl))) (by decide) (backOf (W := 0) (rm_take l Z a0 hw [] b3 v154 x83_wn T83.heap n0 Z84 Fq83_1 Fq83_0 ge4 (by show 0 ≤ x83_wn.toInt ∧ x83_wn.toInt ≤ 10000000; exact by omega) (by show 0 ≤ v154.toInt; exact by omega)) hZ (hw _ (List.mem_of_getElem? (i := 23) rfl)) (hw _ (List.mem_of_getElem? (i := 8) rfl)) (by decide) (by decide)) q87a q87c (g := (mkF m 174 #[.val (.long qx), .second, .val (.long qy), .second, .val (.int pm), .val (.long x1_rr), .second, .val (.long x2_rr), .second, .val (.ref b3), .val (.long v67), .second, .val (.int x10_rr), .val (.int x77_rr), .val (.long v154), .second] [(.long v154), (.ref b3)])) rfl (by rw [hml]; rfl) (Steps.refl _) (argsL := [(.long v154)]) (rest := []) (lenOf pd_3 rfl) rfl (by show 2 * 0 + _ ≤ _; exact Nat.le_of_eq rfl) (hb hby at_174) (fun _ _ => ⟨rfl, (rfl : T83.heap = T83.heap), (by decide : 1 + 0 ≤ _), (by decide : 1 + 0 ≤ _)⟩)
          dsimp only [Pt.U, Pt.locs, Pt.cells, Pt.slots] at X87 l87 y87 z87 st87 hQ87
          subst l87 y87 z87
          obtain ⟨x87_rr, x87_wn, rfl, N87q, K87q, Fq87_0, Fq87_1, pr87_rel⟩ := hQ87
          have N87 := Fr.app N83 N87q
          refine Go.st (fun _ k => st87.trans k) ?_
          have Z88 : n0 ≤ T87.heap.size := Nat.le_trans Z84 K87q.1
          have K89 : Keep h0 T87.heap [] := K85.trans K87q (fun z hz => (List.mem_cons.mp hz).elim (fun q => by rw [q]; exact Or.inr sz5) (fun hz => absurd hz List.not_mem_nil))
          have F90 : Exa Z T87.heap b3 "com/example/clotho/clotho/jsonpath/Budget" := Fq83_0.keep K87q
          show Go p.tables e below _ (T87.setTop (mkF m 177 #[.val (.long qx), .second, .val (.long qy), .second, .val (.int pm), .val (.long x1_rr), .second, .val (.long x2_rr), .second, .val (.ref b3), .val (.long v67), .second, .val (.int x10_rr), .val (.int x77_rr), .val (.long v154), .second] [(.int x87_rr)]))
          have hc177 : ¬ (x87_rr = (0 : Int32)) := own_ne32 (by omega)
          have hi177 : ¬ ((x87_rr).toInt = ((0 : Int32)).toInt) := fun z => hc177 (Int32.toInt_inj.symm.mpr z)
          refine Go.st (fun _ k => XS.ifYes X87.here hx rfl (pc0 := 177) (pc' := 182) rfl (hb hby at_177) rfl (Jvm.Free.XT.i0_ne_t hc177) (by decide) (by decide) k) ?_
          show Go p.tables e below _ (T87.setTop (mkF m 182 #[.val (.long qx), .second, .val (.long qy), .second, .val (.int pm), .val (.long x1_rr), .second, .val (.long x2_rr), .second, .val (.ref b3), .val (.long v67), .second, .val (.int x10_rr), .val (.int x77_rr), .val (.long v154), .second] []))
          refine Go.st (fun _ k => XS.aload X87.here hx rfl (hb hby at_182) rfl rfl k) ?_
          show Go p.tables e below _ (T87.setTop (mkF m 184 #[.val (.long qx), .second, .val (.long qy), .second, .val (.int pm), .val (.long x1_rr), .second, .val (.long x2_rr), .second, .val (.ref b3), .val (.long v67), .second, .val (.int x10_rr), .val (.int x77_rr), .val (.long v154), .second] [(.ref b3)]))
          refine Go.st (fun _ k => XS.lconst X87.here hx rfl (hb hby at_184) k) ?_
          show Go p.tables e below _ (T87.setTop (mkF m 185 #[.val (.long qx), .second, .val (.long qy), .second, .val (.int pm), .val (.long x1_rr), .second, .val (.long x2_rr), .second, .val (.ref b3), .val (.long v67), .second, .val (.int x10_rr), .val (.int x77_rr), .val (.long v154), .second] [(.long (1 : Int64)), (.ref b3)]))
          obtain ⟨cq91, kq91, q91a, q91b, q91c⟩ := isOf hZ (rfl : T87.heap = T87.heap) Fq87_0
          obtain ⟨_, _, ⟨T91, L91, k91, n91⟩, -, X91, ⟨Lc91, hQ91, l91, y91, z91⟩, st91⟩ := X87.virtualBack hx (y := (⟨"com/example/clotho/clotho/jsonpath/Budget", "take", "(J)Z"⟩ : MethodName)) (z := (⟨"com/example/clotho/clotho/jsonpath/Budget", "take", "(J)Z"⟩ : MethodName)) hown (mvT hZ (hw _ (List.mem_of_getElem? (i := 19) rfl))) (mvT hZ (hw _ (List.mem_of_getElem? (i := 20) rfl))) (notFace_of_selects (args := #[]) (mvT hZ (hw _ (List.mem_of_getElem? (i := 22) rfl)))) (mvT hZ (hw _ (List.mem_of_getElem? (i := 22) rfl))) (mvT hZ (hw _ (List.mem_of_getElem? (i := 21) rfl))) (by decide) (backOf (W := 0) (rm_take l Z a0 hw [] b3 (1 : Int64) x87_wn T87.heap n0 Z88 Fq87_1 Fq87_0 ge4 (by show 0 ≤ x87_wn.toInt ∧ x87_wn.toInt ≤ 10000000; exact by omega) (by show 0 ≤ (1 : Int64).toInt; exact by omega)) hZ (hw _ (List.mem_of_getElem? (i := 23) rfl)) (hw _ (List.mem_of_getElem? (i := 8) rfl)) (by decide) (by decide)) q91a q91c (g := (mkF m 185 #[.val (.long qx), .second, .val (.long qy), .second, .val (.int pm), .val (.long x1_rr), .second, .val (.long x2_rr), .second, .val (.ref b3), .val (.long v67), .second, .val (.int x10_rr), .val (.int x77_rr), .val (.long v154), .second] [(.long (1 : Int64)), (.ref b3)])) rfl (by rw [hml]; rfl) (Steps.refl _) (argsL := [(.long (1 : Int64))]) (rest := []) (lenOf pd_3 rfl) rfl (by show 2 * 0 + _ ≤ _; exact Nat.le_of_eq rfl) (hb hby at_185) (fun _ _ => ⟨rfl, (rfl : T87.heap = T87.heap), (by decide : 1 + 0 ≤ _), (by decide : 1 + 0 ≤ _)⟩)
          dsimp only [Pt.U, Pt.locs, Pt.cells, Pt.slots] at X91 l91 y91 z91 st91 hQ91
          subst l91 y91 z91
          obtain ⟨x91_rr, x91_wn, rfl, N91q, K91q, Fq91_0, Fq91_1, pr91_rel⟩ := hQ91
          have N91 := Fr.app N87 N91q
          refine Go.st (fun _ k => st91.trans k) ?_
          have Z92 : n0 ≤ T91.heap.size := Nat.le_trans Z88 K91q.1
          have K93 : Keep h0 T91.heap [] := K89.trans K91q (fun z hz => (List.mem_cons.mp hz).elim (fun q => by rw [q]; exact Or.inr sz5) (fun hz => absurd hz List.not_mem_nil))
          have F94 : Exa Z T91.heap b3 "com/example/clotho/clotho/jsonpath/Budget" := Fq87_0.keep K91q
          show Go p.tables e below _ (T91.setTop (mkF m 188 #[.val (.long qx), .second, .val (.long qy), .second, .val (.int pm), .val (.long x1_rr), .second, .val (.long x2_rr), .second, .val (.ref b3), .val (.long v67), .second, .val (.int x10_rr), .val (.int x77_rr), .val (.long v154), .second] [(.int x91_rr)]))
          have hc188 : x91_rr = (0 : Int32) := own_eq32 (by omega)
          have hi188 : (x91_rr).toInt = ((0 : Int32)).toInt := Int32.toInt_inj.symm.mp hc188
          refine Go.st (fun _ k => XS.ifYes X91.here hx rfl (pc0 := 188) (pc' := 193) rfl (hb hby at_188) rfl (Jvm.Free.XT.i0_eq_t hc188) (by decide) (by decide) k) ?_
          show Go p.tables e below _ (T91.setTop (mkF m 193 #[.val (.long qx), .second, .val (.long qy), .second, .val (.int pm), .val (.long x1_rr), .second, .val (.long x2_rr), .second, .val (.ref b3), .val (.long v67), .second, .val (.int x10_rr), .val (.int x77_rr), .val (.long v154), .second] []))
          refine Go.st (fun _ k => XS.aload X91.here hx rfl (hb hby at_193) rfl rfl k) ?_
          show Go p.tables e below _ (T91.setTop (mkF m 195 #[.val (.long qx), .second, .val (.long qy), .second, .val (.int pm), .val (.long x1_rr), .second, .val (.long x2_rr), .second, .val (.ref b3), .val (.long v67), .second, .val (.int x10_rr), .val (.int x77_rr), .val (.long v154), .second] [(.ref b3)]))
          refine Go.st (fun _ k => XS.lconst X91.here hx rfl (hb hby at_195) k) ?_
          show Go p.tables e below _ (T91.setTop (mkF m 196 #[.val (.long qx), .second, .val (.long qy), .second, .val (.int pm), .val (.long x1_rr), .second, .val (.long x2_rr), .second, .val (.ref b3), .val (.long v67), .second, .val (.int x10_rr), .val (.int x77_rr), .val (.long v154), .second] [(.long (0 : Int64)), (.ref b3)]))
          obtain ⟨cq95, kq95, q95a, q95b, q95c⟩ := isOf hZ (rfl : T91.heap = T91.heap) Fq91_0
          obtain ⟨_, _, ⟨T95, L95, k95, n95⟩, -, X95, ⟨Lc95, hQ95, l95, y95, z95⟩, st95⟩ := X91.virtualBack hx (y := (⟨"com/example/clotho/clotho/jsonpath/Budget", "take", "(J)Z"⟩ : MethodName)) (z := (⟨"com/example/clotho/clotho/jsonpath/Budget", "take", "(J)Z"⟩ : MethodName)) hown (mvT hZ (hw _ (List.mem_of_getElem? (i := 19) rfl))) (mvT hZ (hw _ (List.mem_of_getElem? (i := 20) rfl))) (notFace_of_selects (args := #[]) (mvT hZ (hw _ (List.mem_of_getElem? (i := 22) rfl)))) (mvT hZ (hw _ (List.mem_of_getElem? (i := 22) rfl))) (mvT hZ (hw _ (List.mem_of_getElem? (i := 21) rfl))) (by decide) (backOf (W := 0) (rm_take l Z a0 hw [] b3 (0 : Int64) x91_wn T91.heap n0 Z92 Fq91_1 Fq91_0 ge4 (by show 0 ≤ x91_wn.toInt ∧ x91_wn.toInt ≤ 10000000; exact by omega) (by show 0 ≤ (0 : Int64).toInt; exact by omega)) hZ (hw _ (List.mem_of_getElem? (i := 23) rfl)) (hw _ (List.mem_of_getElem? (i := 8) rfl)) (by decide) (by decide)) q95a q95c (g := (mkF m 196 #[.val (.long qx), .second, .val (.long qy), .second, .val (.int pm), .val (.long x1_rr), .second, .val (.long x2_rr), .second, .val (.ref b3), .val (.long v67), .second, .val (.int x10_rr), .val (.int x77_rr), .val (.long v154), .second] [(.long (0 : Int64)), (.ref b3)])) rfl (by rw [hml]; rfl) (Steps.refl _) (argsL := [(.long (0 : Int64))]) (rest := []) (lenOf pd_3 rfl) rfl (by show 2 * 0 + _ ≤ _; exact Nat.le_of_eq rfl) (hb hby at_196) (fun _ _ => ⟨rfl, (rfl : T91.heap = T91.heap), (by decide : 1 + 0 ≤ _), (by decide : 1 + 0 ≤ _)⟩)
          dsimp only [Pt.U, Pt.locs, Pt.cells, Pt.slots] at X95 l95 y95 z95 st95 hQ95
          subst l95 y95 z95
          obtain ⟨x95_rr, x95_wn, rfl, N95q, K95q, Fq95_0, Fq95_1, pr95_rel⟩ := hQ95
          have N95 := Fr.app N91 N95q
          refine Go.st (fun _ k => st95.trans k) ?_
          have Z96 : n0 ≤ T95.heap.size := Nat.le_trans Z92 K95q.1
          have K97 : Keep h0 T95.heap [] := K93.trans K95q (fun z hz => (List.mem_cons.mp hz).elim (fun q => by rw [q]; exact Or.inr sz5) (fun hz => absurd hz List.not_mem_nil))
          have F98 : Exa Z T95.heap b3 "com/example/clotho/clotho/jsonpath/Budget" := Fq91_0.keep K95q
          show Go p.tables e below _ (T95.setTop (mkF m 199 #[.val (.long qx), .second, .val (.long qy), .second, .val (.int pm), .val (.long x1_rr), .second, .val (.long x2_rr), .second, .val (.ref b3), .val (.long v67), .second, .val (.int x10_rr), .val (.int x77_rr), .val (.long v154), .second] [(.int x95_rr)]))
          have hc199 : ¬ (x95_rr = (0 : Int32)) := own_ne32 (by omega)
          have hi199 : ¬ ((x95_rr).toInt = ((0 : Int32)).toInt) := fun z => hc199 (Int32.toInt_inj.symm.mpr z)
          refine Go.st (fun _ k => XS.ifYes X95.here hx rfl (pc0 := 199) (pc' := 204) rfl (hb hby at_199) rfl (Jvm.Free.XT.i0_ne_t hc199) (by decide) (by decide) k) ?_
          show Go p.tables e below _ (T95.setTop (mkF m 204 #[.val (.long qx), .second, .val (.long qy), .second, .val (.int pm), .val (.long x1_rr), .second, .val (.long x2_rr), .second, .val (.ref b3), .val (.long v67), .second, .val (.int x10_rr), .val (.int x77_rr), .val (.long v154), .second] []))
          refine Go.st (fun _ k => XS.aload X95.here hx rfl (hb hby at_204) rfl rfl k) ?_
          show Go p.tables e below _ (T95.setTop (mkF m 206 #[.val (.long qx), .second, .val (.long qy), .second, .val (.int pm), .val (.long x1_rr), .second, .val (.long x2_rr), .second, .val (.ref b3), .val (.long v67), .second, .val (.int x10_rr), .val (.int x77_rr), .val (.long v154), .second] [(.ref b3)]))
          obtain ⟨cq99, kq99, q99a, q99b, q99c⟩ := isOf hZ (rfl : T95.heap = T95.heap) Fq95_0
          obtain ⟨_, _, ⟨T99, L99, k99, n99⟩, -, X99, ⟨Lc99, hQ99, l99, y99, z99⟩, st99⟩ := X95.virtualBack hx (y := (⟨"com/example/clotho/clotho/jsonpath/Budget", "isTouched", "()Z"⟩ : MethodName)) (z := (⟨"com/example/clotho/clotho/jsonpath/Budget", "isTouched", "()Z"⟩ : MethodName)) hown (mvT hZ (hw _ (List.mem_of_getElem? (i := 27) rfl))) (mvT hZ (hw _ (List.mem_of_getElem? (i := 28) rfl))) (notFace_of_selects (args := #[]) (mvT hZ (hw _ (List.mem_of_getElem? (i := 30) rfl)))) (mvT hZ (hw _ (List.mem_of_getElem? (i := 30) rfl))) (mvT hZ (hw _ (List.mem_of_getElem? (i := 29) rfl))) (by decide) (backOf (W := 0) (rm_touched l Z a0 hw [] b3 x95_wn T95.heap n0 Z96 Fq95_1) hZ (hw _ (List.mem_of_getElem? (i := 31) rfl)) (hw _ (List.mem_of_getElem? (i := 8) rfl)) (by decide) (by decide)) q99a q99c (g := (mkF m 206 #[.val (.long qx), .second, .val (.long qy), .second, .val (.int pm), .val (.long x1_rr), .second, .val (.long x2_rr), .second, .val (.ref b3), .val (.long v67), .second, .val (.int x10_rr), .val (.int x77_rr), .val (.long v154), .second] [(.ref b3)])) rfl (by rw [hml]; rfl) (Steps.refl _) (argsL := []) (rest := []) (lenOf pd_4 rfl) rfl (by show 2 * 0 + _ ≤ _; exact Nat.le_of_eq rfl) (hb hby at_206) (fun _ _ => ⟨rfl, (rfl : T95.heap = T95.heap), (by decide : 1 + 0 ≤ _), (by decide : 1 + 0 ≤ _)⟩)
          dsimp only [Pt.U, Pt.locs, Pt.cells, Pt.slots] at X99 l99 y99 z99 st99 hQ99
          subst l99 y99 z99
          obtain ⟨x99_rr, rfl, N99q, e99, pr99_rel⟩ := hQ99
          have N99 := Fr.app N95 N99q
          refine Go.st (fun _ k => st99.trans k) ?_
          show Go p.tables e below _ (T99.setTop (mkF m 209 #[.val (.long qx), .second, .val (.long qy), .second, .val (.int pm), .val (.long x1_rr), .second, .val (.long x2_rr), .second, .val (.ref b3), .val (.long v67), .second, .val (.int x10_rr), .val (.int x77_rr), .val (.long v154), .second] [(.int x99_rr)]))
          subst hG
          obtain ⟨fs, hr, hrun, hended, hW, hsame⟩ := X99.leave (v := some (.int (nar .boolean x99_rr))) (fun h => by rw [Bd.returns] at h; cases h)
          refine ⟨_, _, ?_, hrun, hended, _, _, rfl, ?_, ⟨_, rfl⟩, hW, hsame.mono (by decide) (by decide)⟩
          · exact retN X99 hx (t := .boolean) Bd.returns (by simp) (hb hby at_209) hr
          · show Q_law Z qx qy pm h0 n0 _ T99.heap _
            rw [e99]
            exact ⟨(by rw [show x99_rr = (1 : Int32) from own_eq32 (by omega)]; rfl), N99, K97⟩
        · skip
          have hi135 : ¬ (((0 : Int64)).toInt < (v67).toInt) := fun z => hc135 (Int64.lt_iff_toInt_lt.mpr z)
          refine Go.st (fun _ k => XS.ifYes X82.here hx rfl (pc0 := 135) (pc' := 142) rfl (hb hby at_135) rfl (Jvm.Free.XT.ll_le_t hc135) (by decide) (by decide) k) ?_
          show Go p.tables e below _ (T82.setTop (mkF m 142 #[.val (.long qx), .second, .val (.long qy), .second, .val (.int pm), .val (.long x1_rr), .second, .val (.long x2_rr), .second, .val (.ref b3), .val (.long v67), .second, .val (.int x10_rr), .val (.int x77_rr), .unset, .unset] [(.int x82_rr)]))
          refine Go.st (fun _ k => XS.iconst X82.here hx rfl (hb hby at_142) k) ?_
          show Go p.tables e below _ (T82.setTop (mkF m 143 #[.val (.long qx), .second, .val (.long qy), .second, .val (.int pm), .val (.long x1_rr), .second, .val (.long x2_rr), .second, .val (.ref b3), .val (.long v67), .second, .val (.int x10_rr), .val (.int x77_rr), .unset, .unset] [(.int (0 : Int32)), (.int x82_rr)]))
          have hc143 : x82_rr = (0 : Int32) := own_eq32 (by omega)
          have hi143 : (x82_rr).toInt = ((0 : Int32)).toInt := Int32.toInt_inj.symm.mp hc143
          refine Go.st (fun _ k => XS.icmpYes X82.here hx rfl (pc0 := 143) (pc' := 148) rfl (hb hby at_143) rfl (Jvm.Free.XT.ii_eq_t hc143) (by decide) (by decide) k) ?_
          show Go p.tables e below _ (T82.setTop (mkF m 148 #[.val (.long qx), .second, .val (.long qy), .second, .val (.int pm), .val (.long x1_rr), .second, .val (.long x2_rr), .second, .val (.ref b3), .val (.long v67), .second, .val (.int x10_rr), .val (.int x77_rr), .unset, .unset] []))
          refine Go.st (fun _ k => X82.ldc2Long hx hown (mvT hZ (hw _ (List.mem_of_getElem? (i := 18) rfl))) (g := (mkF m 148 #[.val (.long qx), .second, .val (.long qy), .second, .val (.int pm), .val (.long x1_rr), .second, .val (.long x2_rr), .second, .val (.ref b3), .val (.long v67), .second, .val (.int x10_rr), .val (.int x77_rr), .unset, .unset] [])) rfl (hb hby at_148) _ k) ?_
          show Go p.tables e below _ (T82.setTop (mkF m 151 #[.val (.long qx), .second, .val (.long qy), .second, .val (.int pm), .val (.long x1_rr), .second, .val (.long x2_rr), .second, .val (.ref b3), .val (.long v67), .second, .val (.int x10_rr), .val (.int x77_rr), .unset, .unset] [(.long (10000000 : Int64))]))
          refine Go.st (fun _ k => XS.lload X82.here hx rfl (hb hby at_151) rfl k) ?_
          show Go p.tables e below _ (T82.setTop (mkF m 153 #[.val (.long qx), .second, .val (.long qy), .second, .val (.int pm), .val (.long x1_rr), .second, .val (.long x2_rr), .second, .val (.ref b3), .val (.long v67), .second, .val (.int x10_rr), .val (.int x77_rr), .unset, .unset] [(.long v67), (.long (10000000 : Int64))]))
          refine Go.st (fun _ k => XS.lsub X82.here hx rfl (hb hby at_153) rfl k) ?_
          show Go p.tables e below _ (T82.setTop (mkF m 154 #[.val (.long qx), .second, .val (.long qy), .second, .val (.int pm), .val (.long x1_rr), .second, .val (.long x2_rr), .second, .val (.ref b3), .val (.long v67), .second, .val (.int x10_rr), .val (.int x77_rr), .unset, .unset] [(.long ((10000000 : Int64) - v67))]))
          refine Go.st (fun _ k => XS.lstore X82.here hx rfl (hb hby at_154) rfl (l' := #[.val (.long qx), .second, .val (.long qy), .second, .val (.int pm), .val (.long x1_rr), .second, .val (.long x2_rr), .second, .val (.ref b3), .val (.long v67), .second, .val (.int x10_rr), .val (.int x77_rr), .val (.long ((10000000 : Int64) - v67)), .second]) rfl k) ?_
          show Go p.tables e below _ (T82.setTop (mkF m 156 #[.val (.long qx), .second, .val (.long qy), .second, .val (.int pm), .val (.long x1_rr), .second, .val (.long x2_rr), .second, .val (.ref b3), .val (.long v67), .second, .val (.int x10_rr), .val (.int x77_rr), .val (.long ((10000000 : Int64) - v67)), .second] []))
          generalize hqv154 : ((10000000 : Int64) - v67) = v154
          have lt_1000000064 : (10000000 : Int64).toInt = 10000000 := by decide
          have hi_v154 := i64_subc (10000000 : Int64) v67
          rw [hqv154] at hi_v154
          show Go p.tables e below _ (T82.setTop (mkF m 156 #[.val (.long qx), .second, .val (.long qy), .second, .val (.int pm), .val (.long x1_rr), .second, .val (.long x2_rr), .second, .val (.ref b3), .val (.long v67), .second, .val (.int x10_rr), .val (.int x77_rr), .val (.long v154), .second] []))
          refine Go.st (fun _ k => XS.aload X82.here hx rfl (hb hby at_156) rfl rfl k) ?_
          show Go p.tables e below _ (T82.setTop (mkF m 158 #[.val (.long qx), .second, .val (.long qy), .second, .val (.int pm), .val (.long x1_rr), .second, .val (.long x2_rr), .second, .val (.ref b3), .val (.long v67), .second, .val (.int x10_rr), .val (.int x77_rr), .val (.long v154), .second] [(.ref b3)]))
          refine Go.st (fun _ k => XS.lload X82.here hx rfl (hb hby at_158) rfl k) ?_
          show Go p.tables e below _ (T82.setTop (mkF m 160 #[.val (.long qx), .second, .val (.long qy), .second, .val (.int pm), .val (.long x1_rr), .second, .val (.long x2_rr), .second, .val (.ref b3), .val (.long v67), .second, .val (.int x10_rr), .val (.int x77_rr), .val (.long v154), .second] [(.long v154), (.ref b3)]))
          refine Go.st (fun _ k => XS.lconst X82.here hx rfl (hb hby at_160) k) ?_
          show Go p.tables e below _ (T82.setTop (mkF m 161 #[.val (.long qx), .second, .val (.long qy), .second, .val (.int pm), .val (.long x1_rr), .second, .val (.long x2_rr), .second, .val (.ref b3), .val (.long v67), .second, .val (.int x10_rr), .val (.int x77_rr), .val (.long v154), .second] [(.long (1 : Int64)), (.long v154), (.ref b3)]))
          refine Go.st (fun _ k => XS.ladd X82.here hx rfl (hb hby at_161) rfl k) ?_
          show Go p.tables e below _ (T82.setTop (mkF m 162 #[.val (.long qx), .second, .val (.long qy), .second, .val (.int pm), .val (.long x1_rr), .second, .val (.long x2_rr), .second, .val (.ref b3), .val (.long v67), .second, .val (.int x10_rr), .val (.int x77_rr), .val (.long v154), .second] [(.long (v154 + (1 : Int64))), (.ref b3)]))
          generalize hqa162 : (v154 + (1 : Int64)) = a162
          have lt_164 : (1 : Int64).toInt = 1 := by decide
          have hi_a162 := i64_addc v154 (1 : Int64)
          rw [hqa162] at hi_a162
          obtain ⟨cq100, kq100, q100a, q100b, q100c⟩ := isOf hZ e82 Fq78_0
          obtain ⟨_, _, ⟨T100, L100, k100, n100⟩, -, X100, ⟨Lc100, hQ100, l100, y100, z100⟩, st100⟩ := X82.virtualBack hx (y := (⟨"com/example/clotho/clotho/jsonpath/Budget", "take", "(J)Z"⟩ : MethodName)) (z := (⟨"com/example/clotho/clotho/jsonpath/Budget", "take", "(J)Z"⟩ : MethodName)) hown (mvT hZ (hw _ (List.mem_of_getElem? (i := 19) rfl))) (mvT hZ (hw _ (List.mem_of_getElem? (i := 20) rfl))) (notFace_of_selects (args := #[]) (mvT hZ (hw _ (List.mem_of_getElem? (i := 22) rfl)))) (mvT hZ (hw _ (List.mem_of_getElem? (i := 22) rfl))) (mvT hZ (hw _ (List.mem_of_getElem? (i := 21) rfl))) (by decide) (backOf (W := 0) (rm_take l Z a0 hw [] b3 a162 x78_wn T78.heap n0 Z79 Fq78_1 Fq78_0 ge4 (by show 0 ≤ x78_wn.toInt ∧ x78_wn.toInt ≤ 10000000; exact by omega) (by show 0 ≤ a162.toInt; exact by omega)) hZ (hw _ (List.mem_of_getElem? (i := 23) rfl)) (hw _ (List.mem_of_getElem? (i := 8) rfl)) (by decide) (by decide)) q100a q100c (g := (mkF m 162 #[.val (.long qx), .second, .val (.long qy), .second, .val (.int pm), .val (.long x1_rr), .second, .val (.long x2_rr), .second, .val (.ref b3), .val (.long v67), .second, .val (.int x10_rr), .val (.int x77_rr), .val (.long v154), .second] [(.long a162), (.ref b3)])) rfl (by rw [hml]; rfl) (Steps.refl _) (argsL := [(.long a162)]) (rest := []) (lenOf pd_3 rfl) rfl (by show 2 * 0 + _ ≤ _; exact Nat.le_of_eq rfl) (hb hby at_162) (fun _ _ => ⟨rfl, e82, (by decide : 1 + 0 ≤ _), (by decide : 1 + 0 ≤ _)⟩)
          dsimp only [Pt.U, Pt.locs, Pt.cells, Pt.slots] at X100 l100 y100 z100 st100 hQ100
          subst l100 y100 z100
          obtain ⟨x100_rr, x100_wn, rfl, N100q, K100q, Fq100_0, Fq100_1, pr100_rel⟩ := hQ100
          have N100 := Fr.app N82 N100q
          refine Go.st (fun _ k => st100.trans k) ?_
          have Z101 : n0 ≤ T100.heap.size := Nat.le_trans Z79 K100q.1
          have K102 : Keep h0 T100.heap [] := K80.trans K100q (fun z hz => (List.mem_cons.mp hz).elim (fun q => by rw [q]; exact Or.inr sz5) (fun hz => absurd hz List.not_mem_nil))
          have F103 : Exa Z T100.heap b3 "com/example/clotho/clotho/jsonpath/Budget" := Fq78_0.keep K100q
          show Go p.tables e below _ (T100.setTop (mkF m 165 #[.val (.long qx), .second, .val (.long qy), .second, .val (.int pm), .val (.long x1_rr), .second, .val (.long x2_rr), .second, .val (.ref b3), .val (.long v67), .second, .val (.int x10_rr), .val (.int x77_rr), .val (.long v154), .second] [(.int x100_rr)]))
          have hc165 : x100_rr = (0 : Int32) := own_eq32 (by omega)
          have hi165 : (x100_rr).toInt = ((0 : Int32)).toInt := Int32.toInt_inj.symm.mp hc165
          refine Go.st (fun _ k => XS.ifYes X100.here hx rfl (pc0 := 165) (pc' := 170) rfl (hb hby at_165) rfl (Jvm.Free.XT.i0_eq_t hc165) (by decide) (by decide) k) ?_
          show Go p.tables e below _ (T100.setTop (mkF m 170 #[.val (.long qx), .second, .val (.long qy), .second, .val (.int pm), .val (.long x1_rr), .second, .val (.long x2_rr), .second, .val (.ref b3), .val (.long v67), .second, .val (.int x10_rr), .val (.int x77_rr), .val (.long v154), .second] []))
          refine Go.st (fun _ k => XS.aload X100.here hx rfl (hb hby at_170) rfl rfl k) ?_
          show Go p.tables e below _ (T100.setTop (mkF m 172 #[.val (.long qx), .second, .val (.long qy), .second, .val (.int pm), .val (.long x1_rr), .second, .val (.long x2_rr), .second, .val (.ref b3), .val (.long v67), .second, .val (.int x10_rr), .val (.int x77_rr), .val (.long v154), .second] [(.ref b3)]))
          refine Go.st (fun _ k => XS.lload X100.here hx rfl (hb hby at_172) rfl k) ?_
          show Go p.tables e below _ (T100.setTop (mkF m 174 #[.val (.long qx), .second, .val (.long qy), .second, .val (.int pm), .val (.long x1_rr), .second, .val (.long x2_rr), .second, .val (.ref b3), .val (.long v67), .second, .val (.int x10_rr), .val (.int x77_rr), .val (.long v154), .second] [(.long v154), (.ref b3)]))
          obtain ⟨cq104, kq104, q104a, q104b, q104c⟩ := isOf hZ (rfl : T100.heap = T100.heap) Fq100_0
          obtain ⟨_, _, ⟨T104, L104, k104, n104⟩, -, X104, ⟨Lc104, hQ104, l104, y104, z104⟩, st104⟩ := X100.virtualBack hx (y := (⟨"com/example/clotho/clotho/jsonpath/Budget", "take", "(J)Z"⟩ : MethodName)) (z := (⟨"com/example/clotho/clotho/jsonpath/Budget", "take", "(J)Z"⟩ : MethodName)) hown (mvT hZ (hw _ (List.mem_of_getElem? (i := 19) rfl))) (mvT hZ (hw _ (List.mem_of_getElem? (i := 20) rfl))) (notFace_of_selects (args := #[]) (mvT hZ (hw _ (List.mem_of_getElem? (i := 22) rfl)))) (mvT hZ (hw _ (List.mem_of_getElem? (i := 22) rfl))) (mvT hZ (hw _ (List.mem_of_getElem? (i := 21) rfl))) (by decide) (backOf (W := 0) (rm_take l Z a0 hw [] b3 v154 x100_wn T100.heap n0 Z101 Fq100_1 Fq100_0 ge4 (by show 0 ≤ x100_wn.toInt ∧ x100_wn.toInt ≤ 10000000; exact by omega) (by show 0 ≤ v154.toInt; exact by omega)) hZ (hw _ (List.mem_of_getElem? (i := 23) rfl)) (hw _ (List.mem_of_getElem? (i := 8) rfl)) (by decide) (by decide)) q104a q104c (g := (mkF m 174 #[.val (.long qx), .second, .val (.long qy), .second, .val (.int pm), .val (.long x1_rr), .second, .val (.long x2_rr), .second, .val (.ref b3), .val (.long v67), .second, .val (.int x10_rr), .val (.int x77_rr), .val (.long v154), .second] [(.long v154), (.ref b3)])) rfl (by rw [hml]; rfl) (Steps.refl _) (argsL := [(.long v154)]) (rest := []) (lenOf pd_3 rfl) rfl (by show 2 * 0 + _ ≤ _; exact Nat.le_of_eq rfl) (hb hby at_174) (fun _ _ => ⟨rfl, (rfl : T100.heap = T100.heap), (by decide : 1 + 0 ≤ _), (by decide : 1 + 0 ≤ _)⟩)
          dsimp only [Pt.U, Pt.locs, Pt.cells, Pt.slots] at X104 l104 y104 z104 st104 hQ104
          subst l104 y104 z104
          obtain ⟨x104_rr, x104_wn, rfl, N104q, K104q, Fq104_0, Fq104_1, pr104_rel⟩ := hQ104
          have N104 := Fr.app N100 N104q
          refine Go.st (fun _ k => st104.trans k) ?_
          have Z105 : n0 ≤ T104.heap.size := Nat.le_trans Z101 K104q.1
          have K106 : Keep h0 T104.heap [] := K102.trans K104q (fun z hz => (List.mem_cons.mp hz).elim (fun q => by rw [q]; exact Or.inr sz5) (fun hz => absurd hz List.not_mem_nil))
          have F107 : Exa Z T104.heap b3 "com/example/clotho/clotho/jsonpath/Budget" := Fq100_0.keep K104q
          show Go p.tables e below _ (T104.setTop (mkF m 177 #[.val (.long qx), .second, .val (.long qy), .second, .val (.int pm), .val (.long x1_rr), .second, .val (.long x2_rr), .second, .val (.ref b3), .val (.long v67), .second, .val (.int x10_rr), .val (.int x77_rr), .val (.long v154), .second] [(.int x104_rr)]))
          have hc177 : ¬ (x104_rr = (0 : Int32)) := own_ne32 (by omega)
          have hi177 : ¬ ((x104_rr).toInt = ((0 : Int32)).toInt) := fun z => hc177 (Int32.toInt_inj.symm.mpr z)
          refine Go.st (fun _ k => XS.ifYes X104.here hx rfl (pc0 := 177) (pc' := 182) rfl (hb hby at_177) rfl (Jvm.Free.XT.i0_ne_t hc177) (by decide) (by decide) k) ?_
          show Go p.tables e below _ (T104.setTop (mkF m 182 #[.val (.long qx), .second, .val (.long qy), .second, .val (.int pm), .val (.long x1_rr), .second, .val (.long x2_rr), .second, .val (.ref b3), .val (.long v67), .second, .val (.int x10_rr), .val (.int x77_rr), .val (.long v154), .second] []))
          refine Go.st (fun _ k => XS.aload X104.here hx rfl (hb hby at_182) rfl rfl k) ?_
          show Go p.tables e below _ (T104.setTop (mkF m 184 #[.val (.long qx), .second, .val (.long qy), .second, .val (.int pm), .val (.long x1_rr), .second, .val (.long x2_rr), .second, .val (.ref b3), .val (.long v67), .second, .val (.int x10_rr), .val (.int x77_rr), .val (.long v154), .second] [(.ref b3)]))
          refine Go.st (fun _ k => XS.lconst X104.here hx rfl (hb hby at_184) k) ?_
          show Go p.tables e below _ (T104.setTop (mkF m 185 #[.val (.long qx), .second, .val (.long qy), .second, .val (.int pm), .val (.long x1_rr), .second, .val (.long x2_rr), .second, .val (.ref b3), .val (.long v67), .second, .val (.int x10_rr), .val (.int x77_rr), .val (.long v154), .second] [(.long (1 : Int64)), (.ref b3)]))
          obtain ⟨cq108, kq108, q108a, q108b, q108c⟩ := isOf hZ (rfl : T104.heap = T104.heap) Fq104_0
          obtain ⟨_, _, ⟨T108, L108, k108, n108⟩, -, X108, ⟨Lc108, hQ108, l108, y108, z108⟩, st108⟩ := X104.virtualBack hx (y := (⟨"com/example/clotho/clotho/jsonpath/Budget", "take", "(J)Z"⟩ : MethodName)) (z := (⟨"com/example/clotho/clotho/jsonpath/Budget", "take", "(J)Z"⟩ : MethodName)) hown (mvT hZ (hw _ (List.mem_of_getElem? (i := 19) rfl))) (mvT hZ (hw _ (List.mem_of_getElem? (i := 20) rfl))) (notFace_of_selects (args := #[]) (mvT hZ (hw _ (List.mem_of_getElem? (i := 22) rfl)))) (mvT hZ (hw _ (List.mem_of_getElem? (i := 22) rfl))) (mvT hZ (hw _ (List.mem_of_getElem? (i := 21) rfl))) (by decide) (backOf (W := 0) (rm_take l Z a0 hw [] b3 (1 : Int64) x104_wn T104.heap n0 Z105 Fq104_1 Fq104_0 ge4 (by show 0 ≤ x104_wn.toInt ∧ x104_wn.toInt ≤ 10000000; exact by omega) (by show 0 ≤ (1 : Int64).toInt; exact by omega)) hZ (hw _ (List.mem_of_getElem? (i := 23) rfl)) (hw _ (List.mem_of_getElem? (i := 8) rfl)) (by decide) (by decide)) q108a q108c (g := (mkF m 185 #[.val (.long qx), .second, .val (.long qy), .second, .val (.int pm), .val (.long x1_rr), .second, .val (.long x2_rr), .second, .val (.ref b3), .val (.long v67), .second, .val (.int x10_rr), .val (.int x77_rr), .val (.long v154), .second] [(.long (1 : Int64)), (.ref b3)])) rfl (by rw [hml]; rfl) (Steps.refl _) (argsL := [(.long (1 : Int64))]) (rest := []) (lenOf pd_3 rfl) rfl (by show 2 * 0 + _ ≤ _; exact Nat.le_of_eq rfl) (hb hby at_185) (fun _ _ => ⟨rfl, (rfl : T104.heap = T104.heap), (by decide : 1 + 0 ≤ _), (by decide : 1 + 0 ≤ _)⟩)
          dsimp only [Pt.U, Pt.locs, Pt.cells, Pt.slots] at X108 l108 y108 z108 st108 hQ108
          subst l108 y108 z108
          obtain ⟨x108_rr, x108_wn, rfl, N108q, K108q, Fq108_0, Fq108_1, pr108_rel⟩ := hQ108
          have N108 := Fr.app N104 N108q
          refine Go.st (fun _ k => st108.trans k) ?_
          have Z109 : n0 ≤ T108.heap.size := Nat.le_trans Z105 K108q.1
          have K110 : Keep h0 T108.heap [] := K106.trans K108q (fun z hz => (List.mem_cons.mp hz).elim (fun q => by rw [q]; exact Or.inr sz5) (fun hz => absurd hz List.not_mem_nil))
          have F111 : Exa Z T108.heap b3 "com/example/clotho/clotho/jsonpath/Budget" := Fq104_0.keep K108q
          show Go p.tables e below _ (T108.setTop (mkF m 188 #[.val (.long qx), .second, .val (.long qy), .second, .val (.int pm), .val (.long x1_rr), .second, .val (.long x2_rr), .second, .val (.ref b3), .val (.long v67), .second, .val (.int x10_rr), .val (.int x77_rr), .val (.long v154), .second] [(.int x108_rr)]))
          have hc188 : x108_rr = (0 : Int32) := own_eq32 (by omega)
          have hi188 : (x108_rr).toInt = ((0 : Int32)).toInt := Int32.toInt_inj.symm.mp hc188
          refine Go.st (fun _ k => XS.ifYes X108.here hx rfl (pc0 := 188) (pc' := 193) rfl (hb hby at_188) rfl (Jvm.Free.XT.i0_eq_t hc188) (by decide) (by decide) k) ?_
          show Go p.tables e below _ (T108.setTop (mkF m 193 #[.val (.long qx), .second, .val (.long qy), .second, .val (.int pm), .val (.long x1_rr), .second, .val (.long x2_rr), .second, .val (.ref b3), .val (.long v67), .second, .val (.int x10_rr), .val (.int x77_rr), .val (.long v154), .second] []))
          refine Go.st (fun _ k => XS.aload X108.here hx rfl (hb hby at_193) rfl rfl k) ?_
          show Go p.tables e below _ (T108.setTop (mkF m 195 #[.val (.long qx), .second, .val (.long qy), .second, .val (.int pm), .val (.long x1_rr), .second, .val (.long x2_rr), .second, .val (.ref b3), .val (.long v67), .second, .val (.int x10_rr), .val (.int x77_rr), .val (.long v154), .second] [(.ref b3)]))
          refine Go.st (fun _ k => XS.lconst X108.here hx rfl (hb hby at_195) k) ?_
          show Go p.tables e below _ (T108.setTop (mkF m 196 #[.val (.long qx), .second, .val (.long qy), .second, .val (.int pm), .val (.long x1_rr), .second, .val (.long x2_rr), .second, .val (.ref b3), .val (.long v67), .second, .val (.int x10_rr), .val (.int x77_rr), .val (.long v154), .second] [(.long (0 : Int64)), (.ref b3)]))
          obtain ⟨cq112, kq112, q112a, q112b, q112c⟩ := isOf hZ (rfl : T108.heap = T108.heap) Fq108_0
          obtain ⟨_, _, ⟨T112, L112, k112, n112⟩, -, X112, ⟨Lc112, hQ112, l112, y112, z112⟩, st112⟩ := X108.virtualBack hx (y := (⟨"com/example/clotho/clotho/jsonpath/Budget", "take", "(J)Z"⟩ : MethodName)) (z := (⟨"com/example/clotho/clotho/jsonpath/Budget", "take", "(J)Z"⟩ : MethodName)) hown (mvT hZ (hw _ (List.mem_of_getElem? (i := 19) rfl))) (mvT hZ (hw _ (List.mem_of_getElem? (i := 20) rfl))) (notFace_of_selects (args := #[]) (mvT hZ (hw _ (List.mem_of_getElem? (i := 22) rfl)))) (mvT hZ (hw _ (List.mem_of_getElem? (i := 22) rfl))) (mvT hZ (hw _ (List.mem_of_getElem? (i := 21) rfl))) (by decide) (backOf (W := 0) (rm_take l Z a0 hw [] b3 (0 : Int64) x108_wn T108.heap n0 Z109 Fq108_1 Fq108_0 ge4 (by show 0 ≤ x108_wn.toInt ∧ x108_wn.toInt ≤ 10000000; exact by omega) (by show 0 ≤ (0 : Int64).toInt; exact by omega)) hZ (hw _ (List.mem_of_getElem? (i := 23) rfl)) (hw _ (List.mem_of_getElem? (i := 8) rfl)) (by decide) (by decide)) q112a q112c (g := (mkF m 196 #[.val (.long qx), .second, .val (.long qy), .second, .val (.int pm), .val (.long x1_rr), .second, .val (.long x2_rr), .second, .val (.ref b3), .val (.long v67), .second, .val (.int x10_rr), .val (.int x77_rr), .val (.long v154), .second] [(.long (0 : Int64)), (.ref b3)])) rfl (by rw [hml]; rfl) (Steps.refl _) (argsL := [(.long (0 : Int64))]) (rest := []) (lenOf pd_3 rfl) rfl (by show 2 * 0 + _ ≤ _; exact Nat.le_of_eq rfl) (hb hby at_196) (fun _ _ => ⟨rfl, (rfl : T108.heap = T108.heap), (by decide : 1 + 0 ≤ _), (by decide : 1 + 0 ≤ _)⟩)
          dsimp only [Pt.U, Pt.locs, Pt.cells, Pt.slots] at X112 l112 y112 z112 st112 hQ112
          subst l112 y112 z112
          obtain ⟨x112_rr, x112_wn, rfl, N112q, K112q, Fq112_0, Fq112_1, pr112_rel⟩ := hQ112
          have N112 := Fr.app N108 N112q
          refine Go.st (fun _ k => st112.trans k) ?_
          have Z113 : n0 ≤ T112.heap.size := Nat.le_trans Z109 K112q.1
          have K114 : Keep h0 T112.heap [] := K110.trans K112q (fun z hz => (List.mem_cons.mp hz).elim (fun q => by rw [q]; exact Or.inr sz5) (fun hz => absurd hz List.not_mem_nil))
          have F115 : Exa Z T112.heap b3 "com/example/clotho/clotho/jsonpath/Budget" := Fq108_0.keep K112q
          show Go p.tables e below _ (T112.setTop (mkF m 199 #[.val (.long qx), .second, .val (.long qy), .second, .val (.int pm), .val (.long x1_rr), .second, .val (.long x2_rr), .second, .val (.ref b3), .val (.long v67), .second, .val (.int x10_rr), .val (.int x77_rr), .val (.long v154), .second] [(.int x112_rr)]))
          have hc199 : ¬ (x112_rr = (0 : Int32)) := own_ne32 (by omega)
          have hi199 : ¬ ((x112_rr).toInt = ((0 : Int32)).toInt) := fun z => hc199 (Int32.toInt_inj.symm.mpr z)
          refine Go.st (fun _ k => XS.ifYes X112.here hx rfl (pc0 := 199) (pc' := 204) rfl (hb hby at_199) rfl (Jvm.Free.XT.i0_ne_t hc199) (by decide) (by decide) k) ?_
          show Go p.tables e below _ (T112.setTop (mkF m 204 #[.val (.long qx), .second, .val (.long qy), .second, .val (.int pm), .val (.long x1_rr), .second, .val (.long x2_rr), .second, .val (.ref b3), .val (.long v67), .second, .val (.int x10_rr), .val (.int x77_rr), .val (.long v154), .second] []))
          refine Go.st (fun _ k => XS.aload X112.here hx rfl (hb hby at_204) rfl rfl k) ?_
          show Go p.tables e below _ (T112.setTop (mkF m 206 #[.val (.long qx), .second, .val (.long qy), .second, .val (.int pm), .val (.long x1_rr), .second, .val (.long x2_rr), .second, .val (.ref b3), .val (.long v67), .second, .val (.int x10_rr), .val (.int x77_rr), .val (.long v154), .second] [(.ref b3)]))
          obtain ⟨cq116, kq116, q116a, q116b, q116c⟩ := isOf hZ (rfl : T112.heap = T112.heap) Fq112_0
          obtain ⟨_, _, ⟨T116, L116, k116, n116⟩, -, X116, ⟨Lc116, hQ116, l116, y116, z116⟩, st116⟩ := X112.virtualBack hx (y := (⟨"com/example/clotho/clotho/jsonpath/Budget", "isTouched", "()Z"⟩ : MethodName)) (z := (⟨"com/example/clotho/clotho/jsonpath/Budget", "isTouched", "()Z"⟩ : MethodName)) hown (mvT hZ (hw _ (List.mem_of_getElem? (i := 27) rfl))) (mvT hZ (hw _ (List.mem_of_getElem? (i := 28) rfl))) (notFace_of_selects (args := #[]) (mvT hZ (hw _ (List.mem_of_getElem? (i := 30) rfl)))) (mvT hZ (hw _ (List.mem_of_getElem? (i := 30) rfl))) (mvT hZ (hw _ (List.mem_of_getElem? (i := 29) rfl))) (by decide) (backOf (W := 0) (rm_touched l Z a0 hw [] b3 x112_wn T112.heap n0 Z113 Fq112_1) hZ (hw _ (List.mem_of_getElem? (i := 31) rfl)) (hw _ (List.mem_of_getElem? (i := 8) rfl)) (by decide) (by decide)) q116a q116c (g := (mkF m 206 #[.val (.long qx), .second, .val (.long qy), .second, .val (.int pm), .val (.long x1_rr), .second, .val (.long x2_rr), .second, .val (.ref b3), .val (.long v67), .second, .val (.int x10_rr), .val (.int x77_rr), .val (.long v154), .second] [(.ref b3)])) rfl (by rw [hml]; rfl) (Steps.refl _) (argsL := []) (rest := []) (lenOf pd_4 rfl) rfl (by show 2 * 0 + _ ≤ _; exact Nat.le_of_eq rfl) (hb hby at_206) (fun _ _ => ⟨rfl, (rfl : T112.heap = T112.heap), (by decide : 1 + 0 ≤ _), (by decide : 1 + 0 ≤ _)⟩)
          dsimp only [Pt.U, Pt.locs, Pt.cells, Pt.slots] at X116 l116 y116 z116 st116 hQ116
          subst l116 y116 z116
          obtain ⟨x116_rr, rfl, N116q, e116, pr116_rel⟩ := hQ116
          have N116 := Fr.app N112 N116q
          refine Go.st (fun _ k => st116.trans k) ?_
          show Go p.tables e below _ (T116.setTop (mkF m 209 #[.val (.long qx), .second, .val (.long qy), .second, .val (.int pm), .val (.long x1_rr), .second, .val (.long x2_rr), .second, .val (.ref b3), .val (.long v67), .second, .val (.int x10_rr), .val (.int x77_rr), .val (.long v154), .second] [(.int x116_rr)]))
          subst hG
          obtain ⟨fs, hr, hrun, hended, hW, hsame⟩ := X116.leave (v := some (.int (nar .boolean x116_rr))) (fun h => by rw [Bd.returns] at h; cases h)
          refine ⟨_, _, ?_, hrun, hended, _, _, rfl, ?_, ⟨_, rfl⟩, hW, hsame.mono (by decide) (by decide)⟩
          · exact retN X116 hx (t := .boolean) Bd.returns (by simp) (hb hby at_209) hr
          · show Q_law Z qx qy pm h0 n0 _ T116.heap _
            rw [e116]
            exact ⟨(by rw [show x116_rr = (1 : Int32) from own_eq32 (by omega)]; rfl), N116, K114⟩
      · skip
        have hi116 : ¬ ((x77_rr).toInt = ((0 : Int32)).toInt) := fun z => hc116 (Int32.toInt_inj.symm.mpr z)
        refine Go.st (fun _ k => XS.ifNo X78.here hx rfl (hb hby at_116) rfl (Jvm.Free.XT.i0_eq_f hc116) k) ?_
        show Go p.tables e below _ (T78.setTop (mkF m 119 #[.val (.long qx), .second, .val (.long qy), .second, .val (.int pm), .val (.long x1_rr), .second, .val (.long x2_rr), .second, .val (.ref b3), .val (.long v67), .second, .val (.int x10_rr), .val (.int x77_rr), .unset, .unset] []))
        refine Go.st (fun _ k => XS.lload X78.here hx rfl (hb hby at_119) rfl k) ?_
        show Go p.tables e below _ (T78.setTop (mkF m 121 #[.val (.long qx), .second, .val (.long qy), .second, .val (.int pm), .val (.long x1_rr), .second, .val (.long x2_rr), .second, .val (.ref b3), .val (.long v67), .second, .val (.int x10_rr), .val (.int x77_rr), .unset, .unset] [(.long v67)]))
        refine Go.st (fun _ k => XS.lload X78.here hx rfl (hb hby at_121) rfl k) ?_
        show Go p.tables e below _ (T78.setTop (mkF m 123 #[.val (.long qx), .second, .val (.long qy), .second, .val (.int pm), .val (.long x1_rr), .second, .val (.long x2_rr), .second, .val (.ref b3), .val (.long v67), .second, .val (.int x10_rr), .val (.int x77_rr), .unset, .unset] [(.long x2_rr), (.long v67)]))
        refine Go.st (fun _ k => XS.ladd X78.here hx rfl (hb hby at_123) rfl k) ?_
        show Go p.tables e below _ (T78.setTop (mkF m 124 #[.val (.long qx), .second, .val (.long qy), .second, .val (.int pm), .val (.long x1_rr), .second, .val (.long x2_rr), .second, .val (.ref b3), .val (.long v67), .second, .val (.int x10_rr), .val (.int x77_rr), .unset, .unset] [(.long (v67 + x2_rr))]))
        refine Go.st (fun _ k => XS.lstore X78.here hx rfl (hb hby at_124) rfl (l' := #[.val (.long qx), .second, .val (.long qy), .second, .val (.int pm), .val (.long x1_rr), .second, .val (.long x2_rr), .second, .val (.ref b3), .val (.long (v67 + x2_rr)), .second, .val (.int x10_rr), .val (.int x77_rr), .unset, .unset]) rfl k) ?_
        show Go p.tables e below _ (T78.setTop (mkF m 126 #[.val (.long qx), .second, .val (.long qy), .second, .val (.int pm), .val (.long x1_rr), .second, .val (.long x2_rr), .second, .val (.ref b3), .val (.long (v67 + x2_rr)), .second, .val (.int x10_rr), .val (.int x77_rr), .unset, .unset] []))
        generalize hqv124 : (v67 + x2_rr) = v124
        have hi_v124 := i64_addc v67 x2_rr
        rw [hqv124] at hi_v124
        show Go p.tables e below _ (T78.setTop (mkF m 126 #[.val (.long qx), .second, .val (.long qy), .second, .val (.int pm), .val (.long x1_rr), .second, .val (.long x2_rr), .second, .val (.ref b3), .val (.long v124), .second, .val (.int x10_rr), .val (.int x77_rr), .unset, .unset] []))
        refine Go.st (fun _ k => XS.aload X78.here hx rfl (hb hby at_126) rfl rfl k) ?_
        show Go p.tables e below _ (T78.setTop (mkF m 128 #[.val (.long qx), .second, .val (.long qy), .second, .val (.int pm), .val (.long x1_rr), .second, .val (.long x2_rr), .second, .val (.ref b3), .val (.long v124), .second, .val (.int x10_rr), .val (.int x77_rr), .unset, .unset] [(.ref b3)]))
        obtain ⟨cq117, kq117, q117a, q117b, q117c⟩ := isOf hZ (rfl : T78.heap = T78.heap) Fq78_0
        obtain ⟨_, _, ⟨T117, L117, k117, n117⟩, -, X117, ⟨Lc117, hQ117, l117, y117, z117⟩, st117⟩ := X78.virtualBack hx (y := (⟨"com/example/clotho/clotho/jsonpath/Budget", "isTouched", "()Z"⟩ : MethodName)) (z := (⟨"com/example/clotho/clotho/jsonpath/Budget", "isTouched", "()Z"⟩ : MethodName)) hown (mvT hZ (hw _ (List.mem_of_getElem? (i := 27) rfl))) (mvT hZ (hw _ (List.mem_of_getElem? (i := 28) rfl))) (notFace_of_selects (args := #[]) (mvT hZ (hw _ (List.mem_of_getElem? (i := 30) rfl)))) (mvT hZ (hw _ (List.mem_of_getElem? (i := 30) rfl))) (mvT hZ (hw _ (List.mem_of_getElem? (i := 29) rfl))) (by decide) (backOf (W := 0) (rm_touched l Z a0 hw [] b3 x78_wn T78.heap n0 Z79 Fq78_1) hZ (hw _ (List.mem_of_getElem? (i := 31) rfl)) (hw _ (List.mem_of_getElem? (i := 8) rfl)) (by decide) (by decide)) q117a q117c (g := (mkF m 128 #[.val (.long qx), .second, .val (.long qy), .second, .val (.int pm), .val (.long x1_rr), .second, .val (.long x2_rr), .second, .val (.ref b3), .val (.long v124), .second, .val (.int x10_rr), .val (.int x77_rr), .unset, .unset] [(.ref b3)])) rfl (by rw [hml]; rfl) (Steps.refl _) (argsL := []) (rest := []) (lenOf pd_4 rfl) rfl (by show 2 * 0 + _ ≤ _; exact Nat.le_of_eq rfl) (hb hby at_128) (fun _ _ => ⟨rfl, (rfl : T78.heap = T78.heap), (by decide : 1 + 0 ≤ _), (by decide : 1 + 0 ≤ _)⟩)
        dsimp only [Pt.U, Pt.locs, Pt.cells, Pt.slots] at X117 l117 y117 z117 st117 hQ117
        subst l117 y117 z117
        obtain ⟨x117_rr, rfl, N117q, e117, pr117_rel⟩ := hQ117
        have N117 := Fr.app N78 N117q
        refine Go.st (fun _ k => st117.trans k) ?_
        show Go p.tables e below _ (T117.setTop (mkF m 131 #[.val (.long qx), .second, .val (.long qy), .second, .val (.int pm), .val (.long x1_rr), .second, .val (.long x2_rr), .second, .val (.ref b3), .val (.long v124), .second, .val (.int x10_rr), .val (.int x77_rr), .unset, .unset] [(.int x117_rr)]))
        refine Go.st (fun _ k => XS.lload X117.here hx rfl (hb hby at_131) rfl k) ?_
        show Go p.tables e below _ (T117.setTop (mkF m 133 #[.val (.long qx), .second, .val (.long qy), .second, .val (.int pm), .val (.long x1_rr), .second, .val (.long x2_rr), .second, .val (.ref b3), .val (.long v124), .second, .val (.int x10_rr), .val (.int x77_rr), .unset, .unset] [(.long v124), (.int x117_rr)]))
        refine Go.st (fun _ k => XS.lconst X117.here hx rfl (hb hby at_133) k) ?_
        show Go p.tables e below _ (T117.setTop (mkF m 134 #[.val (.long qx), .second, .val (.long qy), .second, .val (.int pm), .val (.long x1_rr), .second, .val (.long x2_rr), .second, .val (.ref b3), .val (.long v124), .second, .val (.int x10_rr), .val (.int x77_rr), .unset, .unset] [(.long (0 : Int64)), (.long v124), (.int x117_rr)]))
        refine Go.st (fun _ k => Jvm.Free.XT.lcmp X117.here hx rfl (hb hby at_134) rfl k) ?_
        show Go p.tables e below _ (T117.setTop (mkF m 135 #[.val (.long qx), .second, .val (.long qy), .second, .val (.int pm), .val (.long x1_rr), .second, .val (.long x2_rr), .second, .val (.ref b3), .val (.long v124), .second, .val (.int x10_rr), .val (.int x77_rr), .unset, .unset] [(.int (Jvm.Free.XT.cmpL v124 (0 : Int64))), (.int x117_rr)]))
        by_cases hc135 : (0 : Int64) < v124
        · skip
          have hi135 : ((0 : Int64)).toInt < (v124).toInt := Int64.lt_iff_toInt_lt.mp hc135
          refine Go.st (fun _ k => XS.ifNo X117.here hx rfl (hb hby at_135) rfl (Jvm.Free.XT.ll_le_f hc135) k) ?_
          show Go p.tables e below _ (T117.setTop (mkF m 138 #[.val (.long qx), .second, .val (.long qy), .second, .val (.int pm), .val (.long x1_rr), .second, .val (.long x2_rr), .second, .val (.ref b3), .val (.long v124), .second, .val (.int x10_rr), .val (.int x77_rr), .unset, .unset] [(.int x117_rr)]))
          refine Go.st (fun _ k => XS.iconst X117.here hx rfl (hb hby at_138) k) ?_
          show Go p.tables e below _ (T117.setTop (mkF m 139 #[.val (.long qx), .second, .val (.long qy), .second, .val (.int pm), .val (.long x1_rr), .second, .val (.long x2_rr), .second, .val (.ref b3), .val (.long v124), .second, .val (.int x10_rr), .val (.int x77_rr), .unset, .unset] [(.int (1 : Int32)), (.int x117_rr)]))
          refine Go.st (fun _ k => XS.goto X117.here hx rfl (pc0 := 139) (pc' := 143) rfl (hb hby at_139) (by decide) (by decide) k) ?_
          show Go p.tables e below _ (T117.setTop (mkF m 143 #[.val (.long qx), .second, .val (.long qy), .second, .val (.int pm), .val (.long x1_rr), .second, .val (.long x2_rr), .second, .val (.ref b3), .val (.long v124), .second, .val (.int x10_rr), .val (.int x77_rr), .unset, .unset] [(.int (1 : Int32)), (.int x117_rr)]))
          have hc143 : x117_rr = (1 : Int32) := own_eq32 (by omega)
          have hi143 : (x117_rr).toInt = ((1 : Int32)).toInt := Int32.toInt_inj.symm.mp hc143
          refine Go.st (fun _ k => XS.icmpYes X117.here hx rfl (pc0 := 143) (pc' := 148) rfl (hb hby at_143) rfl (Jvm.Free.XT.ii_eq_t hc143) (by decide) (by decide) k) ?_
          show Go p.tables e below _ (T117.setTop (mkF m 148 #[.val (.long qx), .second, .val (.long qy), .second, .val (.int pm), .val (.long x1_rr), .second, .val (.long x2_rr), .second, .val (.ref b3), .val (.long v124), .second, .val (.int x10_rr), .val (.int x77_rr), .unset, .unset] []))
          refine Go.st (fun _ k => X117.ldc2Long hx hown (mvT hZ (hw _ (List.mem_of_getElem? (i := 18) rfl))) (g := (mkF m 148 #[.val (.long qx), .second, .val (.long qy), .second, .val (.int pm), .val (.long x1_rr), .second, .val (.long x2_rr), .second, .val (.ref b3), .val (.long v124), .second, .val (.int x10_rr), .val (.int x77_rr), .unset, .unset] [])) rfl (hb hby at_148) _ k) ?_
          show Go p.tables e below _ (T117.setTop (mkF m 151 #[.val (.long qx), .second, .val (.long qy), .second, .val (.int pm), .val (.long x1_rr), .second, .val (.long x2_rr), .second, .val (.ref b3), .val (.long v124), .second, .val (.int x10_rr), .val (.int x77_rr), .unset, .unset] [(.long (10000000 : Int64))]))
          refine Go.st (fun _ k => XS.lload X117.here hx rfl (hb hby at_151) rfl k) ?_
          show Go p.tables e below _ (T117.setTop (mkF m 153 #[.val (.long qx), .second, .val (.long qy), .second, .val (.int pm), .val (.long x1_rr), .second, .val (.long x2_rr), .second, .val (.ref b3), .val (.long v124), .second, .val (.int x10_rr), .val (.int x77_rr), .unset, .unset] [(.long v124), (.long (10000000 : Int64))]))
          refine Go.st (fun _ k => XS.lsub X117.here hx rfl (hb hby at_153) rfl k) ?_
          show Go p.tables e below _ (T117.setTop (mkF m 154 #[.val (.long qx), .second, .val (.long qy), .second, .val (.int pm), .val (.long x1_rr), .second, .val (.long x2_rr), .second, .val (.ref b3), .val (.long v124), .second, .val (.int x10_rr), .val (.int x77_rr), .unset, .unset] [(.long ((10000000 : Int64) - v124))]))
          refine Go.st (fun _ k => XS.lstore X117.here hx rfl (hb hby at_154) rfl (l' := #[.val (.long qx), .second, .val (.long qy), .second, .val (.int pm), .val (.long x1_rr), .second, .val (.long x2_rr), .second, .val (.ref b3), .val (.long v124), .second, .val (.int x10_rr), .val (.int x77_rr), .val (.long ((10000000 : Int64) - v124)), .second]) rfl k) ?_
          show Go p.tables e below _ (T117.setTop (mkF m 156 #[.val (.long qx), .second, .val (.long qy), .second, .val (.int pm), .val (.long x1_rr), .second, .val (.long x2_rr), .second, .val (.ref b3), .val (.long v124), .second, .val (.int x10_rr), .val (.int x77_rr), .val (.long ((10000000 : Int64) - v124)), .second] []))
          generalize hqv154 : ((10000000 : Int64) - v124) = v154
          have lt_1000000064 : (10000000 : Int64).toInt = 10000000 := by decide
          have hi_v154 := i64_subc (10000000 : Int64) v124
          rw [hqv154] at hi_v154
          show Go p.tables e below _ (T117.setTop (mkF m 156 #[.val (.long qx), .second, .val (.long qy), .second, .val (.int pm), .val (.long x1_rr), .second, .val (.long x2_rr), .second, .val (.ref b3), .val (.long v124), .second, .val (.int x10_rr), .val (.int x77_rr), .val (.long v154), .second] []))
          refine Go.st (fun _ k => XS.aload X117.here hx rfl (hb hby at_156) rfl rfl k) ?_
          show Go p.tables e below _ (T117.setTop (mkF m 158 #[.val (.long qx), .second, .val (.long qy), .second, .val (.int pm), .val (.long x1_rr), .second, .val (.long x2_rr), .second, .val (.ref b3), .val (.long v124), .second, .val (.int x10_rr), .val (.int x77_rr), .val (.long v154), .second] [(.ref b3)]))
          refine Go.st (fun _ k => XS.lload X117.here hx rfl (hb hby at_158) rfl k) ?_
          show Go p.tables e below _ (T117.setTop (mkF m 160 #[.val (.long qx), .second, .val (.long qy), .second, .val (.int pm), .val (.long x1_rr), .second, .val (.long x2_rr), .second, .val (.ref b3), .val (.long v124), .second, .val (.int x10_rr), .val (.int x77_rr), .val (.long v154), .second] [(.long v154), (.ref b3)]))
          refine Go.st (fun _ k => XS.lconst X117.here hx rfl (hb hby at_160) k) ?_
          show Go p.tables e below _ (T117.setTop (mkF m 161 #[.val (.long qx), .second, .val (.long qy), .second, .val (.int pm), .val (.long x1_rr), .second, .val (.long x2_rr), .second, .val (.ref b3), .val (.long v124), .second, .val (.int x10_rr), .val (.int x77_rr), .val (.long v154), .second] [(.long (1 : Int64)), (.long v154), (.ref b3)]))
          refine Go.st (fun _ k => XS.ladd X117.here hx rfl (hb hby at_161) rfl k) ?_
          show Go p.tables e below _ (T117.setTop (mkF m 162 #[.val (.long qx), .second, .val (.long qy), .second, .val (.int pm), .val (.long x1_rr), .second, .val (.long x2_rr), .second, .val (.ref b3), .val (.long v124), .second, .val (.int x10_rr), .val (.int x77_rr), .val (.long v154), .second] [(.long (v154 + (1 : Int64))), (.ref b3)]))
          generalize hqa162 : (v154 + (1 : Int64)) = a162
          have lt_164 : (1 : Int64).toInt = 1 := by decide
          have hi_a162 := i64_addc v154 (1 : Int64)
          rw [hqa162] at hi_a162
          obtain ⟨cq118, kq118, q118a, q118b, q118c⟩ := isOf hZ e117 Fq78_0
          obtain ⟨_, _, ⟨T118, L118, k118, n118⟩, -, X118, ⟨Lc118, hQ118, l118, y118, z118⟩, st118⟩ := X117.virtualBack hx (y := (⟨"com/example/clotho/clotho/jsonpath/Budget", "take", "(J)Z"⟩ : MethodName)) (z := (⟨"com/example/clotho/clotho/jsonpath/Budget", "take", "(J)Z"⟩ : MethodName)) hown (mvT hZ (hw _ (List.mem_of_getElem? (i := 19) rfl))) (mvT hZ (hw _ (List.mem_of_getElem? (i := 20) rfl))) (notFace_of_selects (args := #[]) (mvT hZ (hw _ (List.mem_of_getElem? (i := 22) rfl)))) (mvT hZ (hw _ (List.mem_of_getElem? (i := 22) rfl))) (mvT hZ (hw _ (List.mem_of_getElem? (i := 21) rfl))) (by decide) (backOf (W := 0) (rm_take l Z a0 hw [] b3 a162 x78_wn T78.heap n0 Z79 Fq78_1 Fq78_0 ge4 (by show 0 ≤ x78_wn.toInt ∧ x78_wn.toInt ≤ 10000000; exact by omega) (by show 0 ≤ a162.toInt; exact by omega)) hZ (hw _ (List.mem_of_getElem? (i := 23) rfl)) (hw _ (List.mem_of_getElem? (i := 8) rfl)) (by decide) (by decide)) q118a q118c (g := (mkF m 162 #[.val (.long qx), .second, .val (.long qy), .second, .val (.int pm), .val (.long x1_rr), .second, .val (.long x2_rr), .second, .val (.ref b3), .val (.long v124), .second, .val (.int x10_rr), .val (.int x77_rr), .val (.long v154), .second] [(.long a162), (.ref b3)])) rfl (by rw [hml]; rfl) (Steps.refl _) (argsL := [(.long a162)]) (rest := []) (lenOf pd_3 rfl) rfl (by show 2 * 0 + _ ≤ _; exact Nat.le_of_eq rfl) (hb hby at_162) (fun _ _ => ⟨rfl, e117, (by decide : 1 + 0 ≤ _), (by decide : 1 + 0 ≤ _)⟩)
          dsimp only [Pt.U, Pt.locs, Pt.cells, Pt.slots] at X118 l118 y118 z118 st118 hQ118
          subst l118 y118 z118
          obtain ⟨x118_rr, x118_wn, rfl, N118q, K118q, Fq118_0, Fq118_1, pr118_rel⟩ := hQ118
          have N118 := Fr.app N117 N118q
          refine Go.st (fun _ k => st118.trans k) ?_
          have Z119 : n0 ≤ T118.heap.size := Nat.le_trans Z79 K118q.1
          have K120 : Keep h0 T118.heap [] := K80.trans K118q (fun z hz => (List.mem_cons.mp hz).elim (fun q => by rw [q]; exact Or.inr sz5) (fun hz => absurd hz List.not_mem_nil))
          have F121 : Exa Z T118.heap b3 "com/example/clotho/clotho/jsonpath/Budget" := Fq78_0.keep K118q
          show Go p.tables e below _ (T118.setTop (mkF m 165 #[.val (.long qx), .second, .val (.long qy), .second, .val (.int pm), .val (.long x1_rr), .second, .val (.long x2_rr), .second, .val (.ref b3), .val (.long v124), .second, .val (.int x10_rr), .val (.int x77_rr), .val (.long v154), .second] [(.int x118_rr)]))
          have hc165 : x118_rr = (0 : Int32) := own_eq32 (by omega)
          have hi165 : (x118_rr).toInt = ((0 : Int32)).toInt := Int32.toInt_inj.symm.mp hc165
          refine Go.st (fun _ k => XS.ifYes X118.here hx rfl (pc0 := 165) (pc' := 170) rfl (hb hby at_165) rfl (Jvm.Free.XT.i0_eq_t hc165) (by decide) (by decide) k) ?_
          show Go p.tables e below _ (T118.setTop (mkF m 170 #[.val (.long qx), .second, .val (.long qy), .second, .val (.int pm), .val (.long x1_rr), .second, .val (.long x2_rr), .second, .val (.ref b3), .val (.long v124), .second, .val (.int x10_rr), .val (.int x77_rr), .val (.long v154), .second] []))
          refine Go.st (fun _ k => XS.aload X118.here hx rfl (hb hby at_170) rfl rfl k) ?_
          show Go p.tables e below _ (T118.setTop (mkF m 172 #[.val (.long qx), .second, .val (.long qy), .second, .val (.int pm), .val (.long x1_rr), .second, .val (.long x2_rr), .second, .val (.ref b3), .val (.long v124), .second, .val (.int x10_rr), .val (.int x77_rr), .val (.long v154), .second] [(.ref b3)]))
          refine Go.st (fun _ k => XS.lload X118.here hx rfl (hb hby at_172) rfl k) ?_
          show Go p.tables e below _ (T118.setTop (mkF m 174 #[.val (.long qx), .second, .val (.long qy), .second, .val (.int pm), .val (.long x1_rr), .second, .val (.long x2_rr), .second, .val (.ref b3), .val (.long v124), .second, .val (.int x10_rr), .val (.int x77_rr), .val (.long v154), .second] [(.long v154), (.ref b3)]))
          obtain ⟨cq122, kq122, q122a, q122b, q122c⟩ := isOf hZ (rfl : T118.heap = T118.heap) Fq118_0
          obtain ⟨_, _, ⟨T122, L122, k122, n122⟩, -, X122, ⟨Lc122, hQ122, l122, y122, z122⟩, st122⟩ := X118.virtualBack hx (y := (⟨"com/example/clotho/clotho/jsonpath/Budget", "take", "(J)Z"⟩ : MethodName)) (z := (⟨"com/example/clotho/clotho/jsonpath/Budget", "take", "(J)Z"⟩ : MethodName)) hown (mvT hZ (hw _ (List.mem_of_getElem? (i := 19) rfl))) (mvT hZ (hw _ (List.mem_of_getElem? (i := 20) rfl))) (notFace_of_selects (args := #[]) (mvT hZ (hw _ (List.mem_of_getElem? (i := 22) rfl)))) (mvT hZ (hw _ (List.mem_of_getElem? (i := 22) rfl))) (mvT hZ (hw _ (List.mem_of_getElem? (i := 21) rfl))) (by decide) (backOf (W := 0) (rm_take l Z a0 hw [] b3 v154 x118_wn T118.heap n0 Z119 Fq118_1 Fq118_0 ge4 (by show 0 ≤ x118_wn.toInt ∧ x118_wn.toInt ≤ 10000000; exact by omega) (by show 0 ≤ v154.toInt; exact by omega)) hZ (hw _ (List.mem_of_getElem? (i := 23) rfl)) (hw _ (List.mem_of_getElem? (i := 8) rfl)) (by decide) (by decide)) q122a q122c (g := (mkF m 174 #[.val (.long qx), .second, .val (.long qy), .second, .val (.int pm), .val (.long x1_rr), .second, .val (.long x2_rr), .second, .val (.ref b3), .val (.long v124), .second, .val (.int x10_rr), .val (.int x77_rr), .val (.long v154), .second] [(.long v154), (.ref b3)])) rfl (by rw [hml]; rfl) (Steps.refl _) (argsL := [(.long v154)]) (rest := []) (lenOf pd_3 rfl) rfl (by show 2 * 0 + _ ≤ _; exact Nat.le_of_eq rfl) (hb hby at_174) (fun _ _ => ⟨rfl, (rfl : T118.heap = T118.heap), (by decide : 1 + 0 ≤ _), (by decide : 1 + 0 ≤ _)⟩)
          dsimp only [Pt.U, Pt.locs, Pt.cells, Pt.slots] at X122 l122 y122 z122 st122 hQ122
          subst l122 y122 z122
          obtain ⟨x122_rr, x122_wn, rfl, N122q, K122q, Fq122_0, Fq122_1, pr122_rel⟩ := hQ122
          have N122 := Fr.app N118 N122q
          refine Go.st (fun _ k => st122.trans k) ?_
          have Z123 : n0 ≤ T122.heap.size := Nat.le_trans Z119 K122q.1
          have K124 : Keep h0 T122.heap [] := K120.trans K122q (fun z hz => (List.mem_cons.mp hz).elim (fun q => by rw [q]; exact Or.inr sz5) (fun hz => absurd hz List.not_mem_nil))
          have F125 : Exa Z T122.heap b3 "com/example/clotho/clotho/jsonpath/Budget" := Fq118_0.keep K122q
          show Go p.tables e below _ (T122.setTop (mkF m 177 #[.val (.long qx), .second, .val (.long qy), .second, .val (.int pm), .val (.long x1_rr), .second, .val (.long x2_rr), .second, .val (.ref b3), .val (.long v124), .second, .val (.int x10_rr), .val (.int x77_rr), .val (.long v154), .second] [(.int x122_rr)]))
          have hc177 : ¬ (x122_rr = (0 : Int32)) := own_ne32 (by omega)
          have hi177 : ¬ ((x122_rr).toInt = ((0 : Int32)).toInt) := fun z => hc177 (Int32.toInt_inj.symm.mpr z)
          refine Go.st (fun _ k => XS.ifYes X122.here hx rfl (pc0 := 177) (pc' := 182) rfl (hb hby at_177) rfl (Jvm.Free.XT.i0_ne_t hc177) (by decide) (by decide) k) ?_
          show Go p.tables e below _ (T122.setTop (mkF m 182 #[.val (.long qx), .second, .val (.long qy), .second, .val (.int pm), .val (.long x1_rr), .second, .val (.long x2_rr), .second, .val (.ref b3), .val (.long v124), .second, .val (.int x10_rr), .val (.int x77_rr), .val (.long v154), .second] []))
          refine Go.st (fun _ k => XS.aload X122.here hx rfl (hb hby at_182) rfl rfl k) ?_
          show Go p.tables e below _ (T122.setTop (mkF m 184 #[.val (.long qx), .second, .val (.long qy), .second, .val (.int pm), .val (.long x1_rr), .second, .val (.long x2_rr), .second, .val (.ref b3), .val (.long v124), .second, .val (.int x10_rr), .val (.int x77_rr), .val (.long v154), .second] [(.ref b3)]))
          refine Go.st (fun _ k => XS.lconst X122.here hx rfl (hb hby at_184) k) ?_
          show Go p.tables e below _ (T122.setTop (mkF m 185 #[.val (.long qx), .second, .val (.long qy), .second, .val (.int pm), .val (.long x1_rr), .second, .val (.long x2_rr), .second, .val (.ref b3), .val (.long v124), .second, .val (.int x10_rr), .val (.int x77_rr), .val (.long v154), .second] [(.long (1 : Int64)), (.ref b3)]))
          obtain ⟨cq126, kq126, q126a, q126b, q126c⟩ := isOf hZ (rfl : T122.heap = T122.heap) Fq122_0
          obtain ⟨_, _, ⟨T126, L126, k126, n126⟩, -, X126, ⟨Lc126, hQ126, l126, y126, z126⟩, st126⟩ := X122.virtualBack hx (y := (⟨"com/example/clotho/clotho/jsonpath/Budget", "take", "(J)Z"⟩ : MethodName)) (z := (⟨"com/example/clotho/clotho/jsonpath/Budget", "take", "(J)Z"⟩ : MethodName)) hown (mvT hZ (hw _ (List.mem_of_getElem? (i := 19) rfl))) (mvT hZ (hw _ (List.mem_of_getElem? (i := 20) rfl))) (notFace_of_selects (args := #[]) (mvT hZ (hw _ (List.mem_of_getElem? (i := 22) rfl)))) (mvT hZ (hw _ (List.mem_of_getElem? (i := 22) rfl))) (mvT hZ (hw _ (List.mem_of_getElem? (i := 21) rfl))) (by decide) (backOf (W := 0) (rm_take l Z a0 hw [] b3 (1 : Int64) x122_wn T122.heap n0 Z123 Fq122_1 Fq122_0 ge4 (by show 0 ≤ x122_wn.toInt ∧ x122_wn.toInt ≤ 10000000; exact by omega) (by show 0 ≤ (1 : Int64).toInt; exact by omega)) hZ (hw _ (List.mem_of_getElem? (i := 23) rfl)) (hw _ (List.mem_of_getElem? (i := 8) rfl)) (by decide) (by decide)) q126a q126c (g := (mkF m 185 #[.val (.long qx), .second, .val (.long qy), .second, .val (.int pm), .val (.long x1_rr), .second, .val (.long x2_rr), .second, .val (.ref b3), .val (.long v124), .second, .val (.int x10_rr), .val (.int x77_rr), .val (.long v154), .second] [(.long (1 : Int64)), (.ref b3)])) rfl (by rw [hml]; rfl) (Steps.refl _) (argsL := [(.long (1 : Int64))]) (rest := []) (lenOf pd_3 rfl) rfl (by show 2 * 0 + _ ≤ _; exact Nat.le_of_eq rfl) (hb hby at_185) (fun _ _ => ⟨rfl, (rfl : T122.heap = T122.heap), (by decide : 1 + 0 ≤ _), (by decide : 1 + 0 ≤ _)⟩)
          dsimp only [Pt.U, Pt.locs, Pt.cells, Pt.slots] at X126 l126 y126 z126 st126 hQ126
          subst l126 y126 z126
          obtain ⟨x126_rr, x126_wn, rfl, N126q, K126q, Fq126_0, Fq126_1, pr126_rel⟩ := hQ126
          have N126 := Fr.app N122 N126q
          refine Go.st (fun _ k => st126.trans k) ?_
          have Z127 : n0 ≤ T126.heap.size := Nat.le_trans Z123 K126q.1
          have K128 : Keep h0 T126.heap [] := K124.trans K126q (fun z hz => (List.mem_cons.mp hz).elim (fun q => by rw [q]; exact Or.inr sz5) (fun hz => absurd hz List.not_mem_nil))
          have F129 : Exa Z T126.heap b3 "com/example/clotho/clotho/jsonpath/Budget" := Fq122_0.keep K126q
          show Go p.tables e below _ (T126.setTop (mkF m 188 #[.val (.long qx), .second, .val (.long qy), .second, .val (.int pm), .val (.long x1_rr), .second, .val (.long x2_rr), .second, .val (.ref b3), .val (.long v124), .second, .val (.int x10_rr), .val (.int x77_rr), .val (.long v154), .second] [(.int x126_rr)]))
          have hc188 : x126_rr = (0 : Int32) := own_eq32 (by omega)
          have hi188 : (x126_rr).toInt = ((0 : Int32)).toInt := Int32.toInt_inj.symm.mp hc188
          refine Go.st (fun _ k => XS.ifYes X126.here hx rfl (pc0 := 188) (pc' := 193) rfl (hb hby at_188) rfl (Jvm.Free.XT.i0_eq_t hc188) (by decide) (by decide) k) ?_
          show Go p.tables e below _ (T126.setTop (mkF m 193 #[.val (.long qx), .second, .val (.long qy), .second, .val (.int pm), .val (.long x1_rr), .second, .val (.long x2_rr), .second, .val (.ref b3), .val (.long v124), .second, .val (.int x10_rr), .val (.int x77_rr), .val (.long v154), .second] []))
          refine Go.st (fun _ k => XS.aload X126.here hx rfl (hb hby at_193) rfl rfl k) ?_
          show Go p.tables e below _ (T126.setTop (mkF m 195 #[.val (.long qx), .second, .val (.long qy), .second, .val (.int pm), .val (.long x1_rr), .second, .val (.long x2_rr), .second, .val (.ref b3), .val (.long v124), .second, .val (.int x10_rr), .val (.int x77_rr), .val (.long v154), .second] [(.ref b3)]))
          refine Go.st (fun _ k => XS.lconst X126.here hx rfl (hb hby at_195) k) ?_
          show Go p.tables e below _ (T126.setTop (mkF m 196 #[.val (.long qx), .second, .val (.long qy), .second, .val (.int pm), .val (.long x1_rr), .second, .val (.long x2_rr), .second, .val (.ref b3), .val (.long v124), .second, .val (.int x10_rr), .val (.int x77_rr), .val (.long v154), .second] [(.long (0 : Int64)), (.ref b3)]))
          obtain ⟨cq130, kq130, q130a, q130b, q130c⟩ := isOf hZ (rfl : T126.heap = T126.heap) Fq126_0
          obtain ⟨_, _, ⟨T130, L130, k130, n130⟩, -, X130, ⟨Lc130, hQ130, l130, y130, z130⟩, st130⟩ := X126.virtualBack hx (y := (⟨"com/example/clotho/clotho/jsonpath/Budget", "take", "(J)Z"⟩ : MethodName)) (z := (⟨"com/example/clotho/clotho/jsonpath/Budget", "take", "(J)Z"⟩ : MethodName)) hown (mvT hZ (hw _ (List.mem_of_getElem? (i := 19) rfl))) (mvT hZ (hw _ (List.mem_of_getElem? (i := 20) rfl))) (notFace_of_selects (args := #[]) (mvT hZ (hw _ (List.mem_of_getElem? (i := 22) rfl)))) (mvT hZ (hw _ (List.mem_of_getElem? (i := 22) rfl))) (mvT hZ (hw _ (List.mem_of_getElem? (i := 21) rfl))) (by decide) (backOf (W := 0) (rm_take l Z a0 hw [] b3 (0 : Int64) x126_wn T126.heap n0 Z127 Fq126_1 Fq126_0 ge4 (by show 0 ≤ x126_wn.toInt ∧ x126_wn.toInt ≤ 10000000; exact by omega) (by show 0 ≤ (0 : Int64).toInt; exact by omega)) hZ (hw _ (List.mem_of_getElem? (i := 23) rfl)) (hw _ (List.mem_of_getElem? (i := 8) rfl)) (by decide) (by decide)) q130a q130c (g := (mkF m 196 #[.val (.long qx), .second, .val (.long qy), .second, .val (.int pm), .val (.long x1_rr), .second, .val (.long x2_rr), .second, .val (.ref b3), .val (.long v124), .second, .val (.int x10_rr), .val (.int x77_rr), .val (.long v154), .second] [(.long (0 : Int64)), (.ref b3)])) rfl (by rw [hml]; rfl) (Steps.refl _) (argsL := [(.long (0 : Int64))]) (rest := []) (lenOf pd_3 rfl) rfl (by show 2 * 0 + _ ≤ _; exact Nat.le_of_eq rfl) (hb hby at_196) (fun _ _ => ⟨rfl, (rfl : T126.heap = T126.heap), (by decide : 1 + 0 ≤ _), (by decide : 1 + 0 ≤ _)⟩)
          dsimp only [Pt.U, Pt.locs, Pt.cells, Pt.slots] at X130 l130 y130 z130 st130 hQ130
          subst l130 y130 z130
          obtain ⟨x130_rr, x130_wn, rfl, N130q, K130q, Fq130_0, Fq130_1, pr130_rel⟩ := hQ130
          have N130 := Fr.app N126 N130q
          refine Go.st (fun _ k => st130.trans k) ?_
          have Z131 : n0 ≤ T130.heap.size := Nat.le_trans Z127 K130q.1
          have K132 : Keep h0 T130.heap [] := K128.trans K130q (fun z hz => (List.mem_cons.mp hz).elim (fun q => by rw [q]; exact Or.inr sz5) (fun hz => absurd hz List.not_mem_nil))
          have F133 : Exa Z T130.heap b3 "com/example/clotho/clotho/jsonpath/Budget" := Fq126_0.keep K130q
          show Go p.tables e below _ (T130.setTop (mkF m 199 #[.val (.long qx), .second, .val (.long qy), .second, .val (.int pm), .val (.long x1_rr), .second, .val (.long x2_rr), .second, .val (.ref b3), .val (.long v124), .second, .val (.int x10_rr), .val (.int x77_rr), .val (.long v154), .second] [(.int x130_rr)]))
          have hc199 : ¬ (x130_rr = (0 : Int32)) := own_ne32 (by omega)
          have hi199 : ¬ ((x130_rr).toInt = ((0 : Int32)).toInt) := fun z => hc199 (Int32.toInt_inj.symm.mpr z)
          refine Go.st (fun _ k => XS.ifYes X130.here hx rfl (pc0 := 199) (pc' := 204) rfl (hb hby at_199) rfl (Jvm.Free.XT.i0_ne_t hc199) (by decide) (by decide) k) ?_
          show Go p.tables e below _ (T130.setTop (mkF m 204 #[.val (.long qx), .second, .val (.long qy), .second, .val (.int pm), .val (.long x1_rr), .second, .val (.long x2_rr), .second, .val (.ref b3), .val (.long v124), .second, .val (.int x10_rr), .val (.int x77_rr), .val (.long v154), .second] []))
          refine Go.st (fun _ k => XS.aload X130.here hx rfl (hb hby at_204) rfl rfl k) ?_
          show Go p.tables e below _ (T130.setTop (mkF m 206 #[.val (.long qx), .second, .val (.long qy), .second, .val (.int pm), .val (.long x1_rr), .second, .val (.long x2_rr), .second, .val (.ref b3), .val (.long v124), .second, .val (.int x10_rr), .val (.int x77_rr), .val (.long v154), .second] [(.ref b3)]))
          obtain ⟨cq134, kq134, q134a, q134b, q134c⟩ := isOf hZ (rfl : T130.heap = T130.heap) Fq130_0
          obtain ⟨_, _, ⟨T134, L134, k134, n134⟩, -, X134, ⟨Lc134, hQ134, l134, y134, z134⟩, st134⟩ := X130.virtualBack hx (y := (⟨"com/example/clotho/clotho/jsonpath/Budget", "isTouched", "()Z"⟩ : MethodName)) (z := (⟨"com/example/clotho/clotho/jsonpath/Budget", "isTouched", "()Z"⟩ : MethodName)) hown (mvT hZ (hw _ (List.mem_of_getElem? (i := 27) rfl))) (mvT hZ (hw _ (List.mem_of_getElem? (i := 28) rfl))) (notFace_of_selects (args := #[]) (mvT hZ (hw _ (List.mem_of_getElem? (i := 30) rfl)))) (mvT hZ (hw _ (List.mem_of_getElem? (i := 30) rfl))) (mvT hZ (hw _ (List.mem_of_getElem? (i := 29) rfl))) (by decide) (backOf (W := 0) (rm_touched l Z a0 hw [] b3 x130_wn T130.heap n0 Z131 Fq130_1) hZ (hw _ (List.mem_of_getElem? (i := 31) rfl)) (hw _ (List.mem_of_getElem? (i := 8) rfl)) (by decide) (by decide)) q134a q134c (g := (mkF m 206 #[.val (.long qx), .second, .val (.long qy), .second, .val (.int pm), .val (.long x1_rr), .second, .val (.long x2_rr), .second, .val (.ref b3), .val (.long v124), .second, .val (.int x10_rr), .val (.int x77_rr), .val (.long v154), .second] [(.ref b3)])) rfl (by rw [hml]; rfl) (Steps.refl _) (argsL := []) (rest := []) (lenOf pd_4 rfl) rfl (by show 2 * 0 + _ ≤ _; exact Nat.le_of_eq rfl) (hb hby at_206) (fun _ _ => ⟨rfl, (rfl : T130.heap = T130.heap), (by decide : 1 + 0 ≤ _), (by decide : 1 + 0 ≤ _)⟩)
          dsimp only [Pt.U, Pt.locs, Pt.cells, Pt.slots] at X134 l134 y134 z134 st134 hQ134
          subst l134 y134 z134
          obtain ⟨x134_rr, rfl, N134q, e134, pr134_rel⟩ := hQ134
          have N134 := Fr.app N130 N134q
          refine Go.st (fun _ k => st134.trans k) ?_
          show Go p.tables e below _ (T134.setTop (mkF m 209 #[.val (.long qx), .second, .val (.long qy), .second, .val (.int pm), .val (.long x1_rr), .second, .val (.long x2_rr), .second, .val (.ref b3), .val (.long v124), .second, .val (.int x10_rr), .val (.int x77_rr), .val (.long v154), .second] [(.int x134_rr)]))
          subst hG
          obtain ⟨fs, hr, hrun, hended, hW, hsame⟩ := X134.leave (v := some (.int (nar .boolean x134_rr))) (fun h => by rw [Bd.returns] at h; cases h)
          refine ⟨_, _, ?_, hrun, hended, _, _, rfl, ?_, ⟨_, rfl⟩, hW, hsame.mono (by decide) (by decide)⟩
          · exact retN X134 hx (t := .boolean) Bd.returns (by simp) (hb hby at_209) hr
          · show Q_law Z qx qy pm h0 n0 _ T134.heap _
            rw [e134]
            exact ⟨(by rw [show x134_rr = (1 : Int32) from own_eq32 (by omega)]; rfl), N134, K132⟩
        · skip
          have hi135 : ¬ (((0 : Int64)).toInt < (v124).toInt) := fun z => hc135 (Int64.lt_iff_toInt_lt.mpr z)
          refine Go.st (fun _ k => XS.ifYes X117.here hx rfl (pc0 := 135) (pc' := 142) rfl (hb hby at_135) rfl (Jvm.Free.XT.ll_le_t hc135) (by decide) (by decide) k) ?_
          show Go p.tables e below _ (T117.setTop (mkF m 142 #[.val (.long qx), .second, .val (.long qy), .second, .val (.int pm), .val (.long x1_rr), .second, .val (.long x2_rr), .second, .val (.ref b3), .val (.long v124), .second, .val (.int x10_rr), .val (.int x77_rr), .unset, .unset] [(.int x117_rr)]))
          refine Go.st (fun _ k => XS.iconst X117.here hx rfl (hb hby at_142) k) ?_
          show Go p.tables e below _ (T117.setTop (mkF m 143 #[.val (.long qx), .second, .val (.long qy), .second, .val (.int pm), .val (.long x1_rr), .second, .val (.long x2_rr), .second, .val (.ref b3), .val (.long v124), .second, .val (.int x10_rr), .val (.int x77_rr), .unset, .unset] [(.int (0 : Int32)), (.int x117_rr)]))
          have hc143 : x117_rr = (0 : Int32) := own_eq32 (by omega)
          have hi143 : (x117_rr).toInt = ((0 : Int32)).toInt := Int32.toInt_inj.symm.mp hc143
          refine Go.st (fun _ k => XS.icmpYes X117.here hx rfl (pc0 := 143) (pc' := 148) rfl (hb hby at_143) rfl (Jvm.Free.XT.ii_eq_t hc143) (by decide) (by decide) k) ?_
          show Go p.tables e below _ (T117.setTop (mkF m 148 #[.val (.long qx), .second, .val (.long qy), .second, .val (.int pm), .val (.long x1_rr), .second, .val (.long x2_rr), .second, .val (.ref b3), .val (.long v124), .second, .val (.int x10_rr), .val (.int x77_rr), .unset, .unset] []))
          refine Go.st (fun _ k => X117.ldc2Long hx hown (mvT hZ (hw _ (List.mem_of_getElem? (i := 18) rfl))) (g := (mkF m 148 #[.val (.long qx), .second, .val (.long qy), .second, .val (.int pm), .val (.long x1_rr), .second, .val (.long x2_rr), .second, .val (.ref b3), .val (.long v124), .second, .val (.int x10_rr), .val (.int x77_rr), .unset, .unset] [])) rfl (hb hby at_148) _ k) ?_
          show Go p.tables e below _ (T117.setTop (mkF m 151 #[.val (.long qx), .second, .val (.long qy), .second, .val (.int pm), .val (.long x1_rr), .second, .val (.long x2_rr), .second, .val (.ref b3), .val (.long v124), .second, .val (.int x10_rr), .val (.int x77_rr), .unset, .unset] [(.long (10000000 : Int64))]))
          refine Go.st (fun _ k => XS.lload X117.here hx rfl (hb hby at_151) rfl k) ?_
          show Go p.tables e below _ (T117.setTop (mkF m 153 #[.val (.long qx), .second, .val (.long qy), .second, .val (.int pm), .val (.long x1_rr), .second, .val (.long x2_rr), .second, .val (.ref b3), .val (.long v124), .second, .val (.int x10_rr), .val (.int x77_rr), .unset, .unset] [(.long v124), (.long (10000000 : Int64))]))
          refine Go.st (fun _ k => XS.lsub X117.here hx rfl (hb hby at_153) rfl k) ?_
          show Go p.tables e below _ (T117.setTop (mkF m 154 #[.val (.long qx), .second, .val (.long qy), .second, .val (.int pm), .val (.long x1_rr), .second, .val (.long x2_rr), .second, .val (.ref b3), .val (.long v124), .second, .val (.int x10_rr), .val (.int x77_rr), .unset, .unset] [(.long ((10000000 : Int64) - v124))]))
          refine Go.st (fun _ k => XS.lstore X117.here hx rfl (hb hby at_154) rfl (l' := #[.val (.long qx), .second, .val (.long qy), .second, .val (.int pm), .val (.long x1_rr), .second, .val (.long x2_rr), .second, .val (.ref b3), .val (.long v124), .second, .val (.int x10_rr), .val (.int x77_rr), .val (.long ((10000000 : Int64) - v124)), .second]) rfl k) ?_
          show Go p.tables e below _ (T117.setTop (mkF m 156 #[.val (.long qx), .second, .val (.long qy), .second, .val (.int pm), .val (.long x1_rr), .second, .val (.long x2_rr), .second, .val (.ref b3), .val (.long v124), .second, .val (.int x10_rr), .val (.int x77_rr), .val (.long ((10000000 : Int64) - v124)), .second] []))
          generalize hqv154 : ((10000000 : Int64) - v124) = v154
          have lt_1000000064 : (10000000 : Int64).toInt = 10000000 := by decide
          have hi_v154 := i64_subc (10000000 : Int64) v124
          rw [hqv154] at hi_v154
          show Go p.tables e below _ (T117.setTop (mkF m 156 #[.val (.long qx), .second, .val (.long qy), .second, .val (.int pm), .val (.long x1_rr), .second, .val (.long x2_rr), .second, .val (.ref b3), .val (.long v124), .second, .val (.int x10_rr), .val (.int x77_rr), .val (.long v154), .second] []))
          refine Go.st (fun _ k => XS.aload X117.here hx rfl (hb hby at_156) rfl rfl k) ?_
          show Go p.tables e below _ (T117.setTop (mkF m 158 #[.val (.long qx), .second, .val (.long qy), .second, .val (.int pm), .val (.long x1_rr), .second, .val (.long x2_rr), .second, .val (.ref b3), .val (.long v124), .second, .val (.int x10_rr), .val (.int x77_rr), .val (.long v154), .second] [(.ref b3)]))
          refine Go.st (fun _ k => XS.lload X117.here hx rfl (hb hby at_158) rfl k) ?_
          show Go p.tables e below _ (T117.setTop (mkF m 160 #[.val (.long qx), .second, .val (.long qy), .second, .val (.int pm), .val (.long x1_rr), .second, .val (.long x2_rr), .second, .val (.ref b3), .val (.long v124), .second, .val (.int x10_rr), .val (.int x77_rr), .val (.long v154), .second] [(.long v154), (.ref b3)]))
          refine Go.st (fun _ k => XS.lconst X117.here hx rfl (hb hby at_160) k) ?_
          show Go p.tables e below _ (T117.setTop (mkF m 161 #[.val (.long qx), .second, .val (.long qy), .second, .val (.int pm), .val (.long x1_rr), .second, .val (.long x2_rr), .second, .val (.ref b3), .val (.long v124), .second, .val (.int x10_rr), .val (.int x77_rr), .val (.long v154), .second] [(.long (1 : Int64)), (.long v154), (.ref b3)]))
          refine Go.st (fun _ k => XS.ladd X117.here hx rfl (hb hby at_161) rfl k) ?_
          show Go p.tables e below _ (T117.setTop (mkF m 162 #[.val (.long qx), .second, .val (.long qy), .second, .val (.int pm), .val (.long x1_rr), .second, .val (.long x2_rr), .second, .val (.ref b3), .val (.long v124), .second, .val (.int x10_rr), .val (.int x77_rr), .val (.long v154), .second] [(.long (v154 + (1 : Int64))), (.ref b3)]))
          generalize hqa162 : (v154 + (1 : Int64)) = a162
          have lt_164 : (1 : Int64).toInt = 1 := by decide
          have hi_a162 := i64_addc v154 (1 : Int64)
          rw [hqa162] at hi_a162
          obtain ⟨cq135, kq135, q135a, q135b, q135c⟩ := isOf hZ e117 Fq78_0
          obtain ⟨_, _, ⟨T135, L135, k135, n135⟩, -, X135, ⟨Lc135, hQ135, l135, y135, z135⟩, st135⟩ := X117.virtualBack hx (y := (⟨"com/example/clotho/clotho/jsonpath/Budget", "take", "(J)Z"⟩ : MethodName)) (z := (⟨"com/example/clotho/clotho/jsonpath/Budget", "take", "(J)Z"⟩ : MethodName)) hown (mvT hZ (hw _ (List.mem_of_getElem? (i := 19) rfl))) (mvT hZ (hw _ (List.mem_of_getElem? (i := 20) rfl))) (notFace_of_selects (args := #[]) (mvT hZ (hw _ (List.mem_of_getElem? (i := 22) rfl)))) (mvT hZ (hw _ (List.mem_of_getElem? (i := 22) rfl))) (mvT hZ (hw _ (List.mem_of_getElem? (i := 21) rfl))) (by decide) (backOf (W := 0) (rm_take l Z a0 hw [] b3 a162 x78_wn T78.heap n0 Z79 Fq78_1 Fq78_0 ge4 (by show 0 ≤ x78_wn.toInt ∧ x78_wn.toInt ≤ 10000000; exact by omega) (by show 0 ≤ a162.toInt; exact by omega)) hZ (hw _ (List.mem_of_getElem? (i := 23) rfl)) (hw _ (List.mem_of_getElem? (i := 8) rfl)) (by decide) (by decide)) q135a q135c (g := (mkF m 162 #[.val (.long qx), .second, .val (.long qy), .second, .val (.int pm), .val (.long x1_rr), .second, .val (.long x2_rr), .second, .val (.ref b3), .val (.long v124), .second, .val (.int x10_rr), .val (.int x77_rr), .val (.long v154), .second] [(.long a162), (.ref b3)])) rfl (by rw [hml]; rfl) (Steps.refl _) (argsL := [(.long a162)]) (rest := []) (lenOf pd_3 rfl) rfl (by show 2 * 0 + _ ≤ _; exact Nat.le_of_eq rfl) (hb hby at_162) (fun _ _ => ⟨rfl, e117, (by decide : 1 + 0 ≤ _), (by decide : 1 + 0 ≤ _)⟩)
          dsimp only [Pt.U, Pt.locs, Pt.cells, Pt.slots] at X135 l135 y135 z135 st135 hQ135
          subst l135 y135 z135
          obtain ⟨x135_rr, x135_wn, rfl, N135q, K135q, Fq135_0, Fq135_1, pr135_rel⟩ := hQ135
          have N135 := Fr.app N117 N135q
          refine Go.st (fun _ k => st135.trans k) ?_
          have Z136 : n0 ≤ T135.heap.size := Nat.le_trans Z79 K135q.1
          have K137 : Keep h0 T135.heap [] := K80.trans K135q (fun z hz => (List.mem_cons.mp hz).elim (fun q => by rw [q]; exact Or.inr sz5) (fun hz => absurd hz List.not_mem_nil))
          have F138 : Exa Z T135.heap b3 "com/example/clotho/clotho/jsonpath/Budget" := Fq78_0.keep K135q
          show Go p.tables e below _ (T135.setTop (mkF m 165 #[.val (.long qx), .second, .val (.long qy), .second, .val (.int pm), .val (.long x1_rr), .second, .val (.long x2_rr), .second, .val (.ref b3), .val (.long v124), .second, .val (.int x10_rr), .val (.int x77_rr), .val (.long v154), .second] [(.int x135_rr)]))
          have hc165 : x135_rr = (0 : Int32) := own_eq32 (by omega)
          have hi165 : (x135_rr).toInt = ((0 : Int32)).toInt := Int32.toInt_inj.symm.mp hc165
          refine Go.st (fun _ k => XS.ifYes X135.here hx rfl (pc0 := 165) (pc' := 170) rfl (hb hby at_165) rfl (Jvm.Free.XT.i0_eq_t hc165) (by decide) (by decide) k) ?_
          show Go p.tables e below _ (T135.setTop (mkF m 170 #[.val (.long qx), .second, .val (.long qy), .second, .val (.int pm), .val (.long x1_rr), .second, .val (.long x2_rr), .second, .val (.ref b3), .val (.long v124), .second, .val (.int x10_rr), .val (.int x77_rr), .val (.long v154), .second] []))
          refine Go.st (fun _ k => XS.aload X135.here hx rfl (hb hby at_170) rfl rfl k) ?_
          show Go p.tables e below _ (T135.setTop (mkF m 172 #[.val (.long qx), .second, .val (.long qy), .second, .val (.int pm), .val (.long x1_rr), .second, .val (.long x2_rr), .second, .val (.ref b3), .val (.long v124), .second, .val (.int x10_rr), .val (.int x77_rr), .val (.long v154), .second] [(.ref b3)]))
          refine Go.st (fun _ k => XS.lload X135.here hx rfl (hb hby at_172) rfl k) ?_
          show Go p.tables e below _ (T135.setTop (mkF m 174 #[.val (.long qx), .second, .val (.long qy), .second, .val (.int pm), .val (.long x1_rr), .second, .val (.long x2_rr), .second, .val (.ref b3), .val (.long v124), .second, .val (.int x10_rr), .val (.int x77_rr), .val (.long v154), .second] [(.long v154), (.ref b3)]))
          obtain ⟨cq139, kq139, q139a, q139b, q139c⟩ := isOf hZ (rfl : T135.heap = T135.heap) Fq135_0
          obtain ⟨_, _, ⟨T139, L139, k139, n139⟩, -, X139, ⟨Lc139, hQ139, l139, y139, z139⟩, st139⟩ := X135.virtualBack hx (y := (⟨"com/example/clotho/clotho/jsonpath/Budget", "take", "(J)Z"⟩ : MethodName)) (z := (⟨"com/example/clotho/clotho/jsonpath/Budget", "take", "(J)Z"⟩ : MethodName)) hown (mvT hZ (hw _ (List.mem_of_getElem? (i := 19) rfl))) (mvT hZ (hw _ (List.mem_of_getElem? (i := 20) rfl))) (notFace_of_selects (args := #[]) (mvT hZ (hw _ (List.mem_of_getElem? (i := 22) rfl)))) (mvT hZ (hw _ (List.mem_of_getElem? (i := 22) rfl))) (mvT hZ (hw _ (List.mem_of_getElem? (i := 21) rfl))) (by decide) (backOf (W := 0) (rm_take l Z a0 hw [] b3 v154 x135_wn T135.heap n0 Z136 Fq135_1 Fq135_0 ge4 (by show 0 ≤ x135_wn.toInt ∧ x135_wn.toInt ≤ 10000000; exact by omega) (by show 0 ≤ v154.toInt; exact by omega)) hZ (hw _ (List.mem_of_getElem? (i := 23) rfl)) (hw _ (List.mem_of_getElem? (i := 8) rfl)) (by decide) (by decide)) q139a q139c (g := (mkF m 174 #[.val (.long qx), .second, .val (.long qy), .second, .val (.int pm), .val (.long x1_rr), .second, .val (.long x2_rr), .second, .val (.ref b3), .val (.long v124), .second, .val (.int x10_rr), .val (.int x77_rr), .val (.long v154), .second] [(.long v154), (.ref b3)])) rfl (by rw [hml]; rfl) (Steps.refl _) (argsL := [(.long v154)]) (rest := []) (lenOf pd_3 rfl) rfl (by show 2 * 0 + _ ≤ _; exact Nat.le_of_eq rfl) (hb hby at_174) (fun _ _ => ⟨rfl, (rfl : T135.heap = T135.heap), (by decide : 1 + 0 ≤ _), (by decide : 1 + 0 ≤ _)⟩)
          dsimp only [Pt.U, Pt.locs, Pt.cells, Pt.slots] at X139 l139 y139 z139 st139 hQ139
          subst l139 y139 z139
          obtain ⟨x139_rr, x139_wn, rfl, N139q, K139q, Fq139_0, Fq139_1, pr139_rel⟩ := hQ139
          have N139 := Fr.app N135 N139q
          refine Go.st (fun _ k => st139.trans k) ?_
          have Z140 : n0 ≤ T139.heap.size := Nat.le_trans Z136 K139q.1
          have K141 : Keep h0 T139.heap [] := K137.trans K139q (fun z hz => (List.mem_cons.mp hz).elim (fun q => by rw [q]; exact Or.inr sz5) (fun hz => absurd hz List.not_mem_nil))
          have F142 : Exa Z T139.heap b3 "com/example/clotho/clotho/jsonpath/Budget" := Fq135_0.keep K139q
          show Go p.tables e below _ (T139.setTop (mkF m 177 #[.val (.long qx), .second, .val (.long qy), .second, .val (.int pm), .val (.long x1_rr), .second, .val (.long x2_rr), .second, .val (.ref b3), .val (.long v124), .second, .val (.int x10_rr), .val (.int x77_rr), .val (.long v154), .second] [(.int x139_rr)]))
          have hc177 : ¬ (x139_rr = (0 : Int32)) := own_ne32 (by omega)
          have hi177 : ¬ ((x139_rr).toInt = ((0 : Int32)).toInt) := fun z => hc177 (Int32.toInt_inj.symm.mpr z)
          refine Go.st (fun _ k => XS.ifYes X139.here hx rfl (pc0 := 177) (pc' := 182) rfl (hb hby at_177) rfl (Jvm.Free.XT.i0_ne_t hc177) (by decide) (by decide) k) ?_
          show Go p.tables e below _ (T139.setTop (mkF m 182 #[.val (.long qx), .second, .val (.long qy), .second, .val (.int pm), .val (.long x1_rr), .second, .val (.long x2_rr), .second, .val (.ref b3), .val (.long v124), .second, .val (.int x10_rr), .val (.int x77_rr), .val (.long v154), .second] []))
          refine Go.st (fun _ k => XS.aload X139.here hx rfl (hb hby at_182) rfl rfl k) ?_
          show Go p.tables e below _ (T139.setTop (mkF m 184 #[.val (.long qx), .second, .val (.long qy), .second, .val (.int pm), .val (.long x1_rr), .second, .val (.long x2_rr), .second, .val (.ref b3), .val (.long v124), .second, .val (.int x10_rr), .val (.int x77_rr), .val (.long v154), .second] [(.ref b3)]))
          refine Go.st (fun _ k => XS.lconst X139.here hx rfl (hb hby at_184) k) ?_
          show Go p.tables e below _ (T139.setTop (mkF m 185 #[.val (.long qx), .second, .val (.long qy), .second, .val (.int pm), .val (.long x1_rr), .second, .val (.long x2_rr), .second, .val (.ref b3), .val (.long v124), .second, .val (.int x10_rr), .val (.int x77_rr), .val (.long v154), .second] [(.long (1 : Int64)), (.ref b3)]))
          obtain ⟨cq143, kq143, q143a, q143b, q143c⟩ := isOf hZ (rfl : T139.heap = T139.heap) Fq139_0
          obtain ⟨_, _, ⟨T143, L143, k143, n143⟩, -, X143, ⟨Lc143, hQ143, l143, y143, z143⟩, st143⟩ := X139.virtualBack hx (y := (⟨"com/example/clotho/clotho/jsonpath/Budget", "take", "(J)Z"⟩ : MethodName)) (z := (⟨"com/example/clotho/clotho/jsonpath/Budget", "take", "(J)Z"⟩ : MethodName)) hown (mvT hZ (hw _ (List.mem_of_getElem? (i := 19) rfl))) (mvT hZ (hw _ (List.mem_of_getElem? (i := 20) rfl))) (notFace_of_selects (args := #[]) (mvT hZ (hw _ (List.mem_of_getElem? (i := 22) rfl)))) (mvT hZ (hw _ (List.mem_of_getElem? (i := 22) rfl))) (mvT hZ (hw _ (List.mem_of_getElem? (i := 21) rfl))) (by decide) (backOf (W := 0) (rm_take l Z a0 hw [] b3 (1 : Int64) x139_wn T139.heap n0 Z140 Fq139_1 Fq139_0 ge4 (by show 0 ≤ x139_wn.toInt ∧ x139_wn.toInt ≤ 10000000; exact by omega) (by show 0 ≤ (1 : Int64).toInt; exact by omega)) hZ (hw _ (List.mem_of_getElem? (i := 23) rfl)) (hw _ (List.mem_of_getElem? (i := 8) rfl)) (by decide) (by decide)) q143a q143c (g := (mkF m 185 #[.val (.long qx), .second, .val (.long qy), .second, .val (.int pm), .val (.long x1_rr), .second, .val (.long x2_rr), .second, .val (.ref b3), .val (.long v124), .second, .val (.int x10_rr), .val (.int x77_rr), .val (.long v154), .second] [(.long (1 : Int64)), (.ref b3)])) rfl (by rw [hml]; rfl) (Steps.refl _) (argsL := [(.long (1 : Int64))]) (rest := []) (lenOf pd_3 rfl) rfl (by show 2 * 0 + _ ≤ _; exact Nat.le_of_eq rfl) (hb hby at_185) (fun _ _ => ⟨rfl, (rfl : T139.heap = T139.heap), (by decide : 1 + 0 ≤ _), (by decide : 1 + 0 ≤ _)⟩)
          dsimp only [Pt.U, Pt.locs, Pt.cells, Pt.slots] at X143 l143 y143 z143 st143 hQ143
          subst l143 y143 z143
          obtain ⟨x143_rr, x143_wn, rfl, N143q, K143q, Fq143_0, Fq143_1, pr143_rel⟩ := hQ143
          have N143 := Fr.app N139 N143q
          refine Go.st (fun _ k => st143.trans k) ?_
          have Z144 : n0 ≤ T143.heap.size := Nat.le_trans Z140 K143q.1
          have K145 : Keep h0 T143.heap [] := K141.trans K143q (fun z hz => (List.mem_cons.mp hz).elim (fun q => by rw [q]; exact Or.inr sz5) (fun hz => absurd hz List.not_mem_nil))
          have F146 : Exa Z T143.heap b3 "com/example/clotho/clotho/jsonpath/Budget" := Fq139_0.keep K143q
          show Go p.tables e below _ (T143.setTop (mkF m 188 #[.val (.long qx), .second, .val (.long qy), .second, .val (.int pm), .val (.long x1_rr), .second, .val (.long x2_rr), .second, .val (.ref b3), .val (.long v124), .second, .val (.int x10_rr), .val (.int x77_rr), .val (.long v154), .second] [(.int x143_rr)]))
          have hc188 : x143_rr = (0 : Int32) := own_eq32 (by omega)
          have hi188 : (x143_rr).toInt = ((0 : Int32)).toInt := Int32.toInt_inj.symm.mp hc188
          refine Go.st (fun _ k => XS.ifYes X143.here hx rfl (pc0 := 188) (pc' := 193) rfl (hb hby at_188) rfl (Jvm.Free.XT.i0_eq_t hc188) (by decide) (by decide) k) ?_
          show Go p.tables e below _ (T143.setTop (mkF m 193 #[.val (.long qx), .second, .val (.long qy), .second, .val (.int pm), .val (.long x1_rr), .second, .val (.long x2_rr), .second, .val (.ref b3), .val (.long v124), .second, .val (.int x10_rr), .val (.int x77_rr), .val (.long v154), .second] []))
          refine Go.st (fun _ k => XS.aload X143.here hx rfl (hb hby at_193) rfl rfl k) ?_
          show Go p.tables e below _ (T143.setTop (mkF m 195 #[.val (.long qx), .second, .val (.long qy), .second, .val (.int pm), .val (.long x1_rr), .second, .val (.long x2_rr), .second, .val (.ref b3), .val (.long v124), .second, .val (.int x10_rr), .val (.int x77_rr), .val (.long v154), .second] [(.ref b3)]))
          refine Go.st (fun _ k => XS.lconst X143.here hx rfl (hb hby at_195) k) ?_
          show Go p.tables e below _ (T143.setTop (mkF m 196 #[.val (.long qx), .second, .val (.long qy), .second, .val (.int pm), .val (.long x1_rr), .second, .val (.long x2_rr), .second, .val (.ref b3), .val (.long v124), .second, .val (.int x10_rr), .val (.int x77_rr), .val (.long v154), .second] [(.long (0 : Int64)), (.ref b3)]))
          obtain ⟨cq147, kq147, q147a, q147b, q147c⟩ := isOf hZ (rfl : T143.heap = T143.heap) Fq143_0
          obtain ⟨_, _, ⟨T147, L147, k147, n147⟩, -, X147, ⟨Lc147, hQ147, l147, y147, z147⟩, st147⟩ := X143.virtualBack hx (y := (⟨"com/example/clotho/clotho/jsonpath/Budget", "take", "(J)Z"⟩ : MethodName)) (z := (⟨"com/example/clotho/clotho/jsonpath/Budget", "take", "(J)Z"⟩ : MethodName)) hown (mvT hZ (hw _ (List.mem_of_getElem? (i := 19) rfl))) (mvT hZ (hw _ (List.mem_of_getElem? (i := 20) rfl))) (notFace_of_selects (args := #[]) (mvT hZ (hw _ (List.mem_of_getElem? (i := 22) rfl)))) (mvT hZ (hw _ (List.mem_of_getElem? (i := 22) rfl))) (mvT hZ (hw _ (List.mem_of_getElem? (i := 21) rfl))) (by decide) (backOf (W := 0) (rm_take l Z a0 hw [] b3 (0 : Int64) x143_wn T143.heap n0 Z144 Fq143_1 Fq143_0 ge4 (by show 0 ≤ x143_wn.toInt ∧ x143_wn.toInt ≤ 10000000; exact by omega) (by show 0 ≤ (0 : Int64).toInt; exact by omega)) hZ (hw _ (List.mem_of_getElem? (i := 23) rfl)) (hw _ (List.mem_of_getElem? (i := 8) rfl)) (by decide) (by decide)) q147a q147c (g := (mkF m 196 #[.val (.long qx), .second, .val (.long qy), .second, .val (.int pm), .val (.long x1_rr), .second, .val (.long x2_rr), .second, .val (.ref b3), .val (.long v124), .second, .val (.int x10_rr), .val (.int x77_rr), .val (.long v154), .second] [(.long (0 : Int64)), (.ref b3)])) rfl (by rw [hml]; rfl) (Steps.refl _) (argsL := [(.long (0 : Int64))]) (rest := []) (lenOf pd_3 rfl) rfl (by show 2 * 0 + _ ≤ _; exact Nat.le_of_eq rfl) (hb hby at_196) (fun _ _ => ⟨rfl, (rfl : T143.heap = T143.heap), (by decide : 1 + 0 ≤ _), (by decide : 1 + 0 ≤ _)⟩)
          dsimp only [Pt.U, Pt.locs, Pt.cells, Pt.slots] at X147 l147 y147 z147 st147 hQ147
          subst l147 y147 z147
          obtain ⟨x147_rr, x147_wn, rfl, N147q, K147q, Fq147_0, Fq147_1, pr147_rel⟩ := hQ147
          have N147 := Fr.app N143 N147q
          refine Go.st (fun _ k => st147.trans k) ?_
          have Z148 : n0 ≤ T147.heap.size := Nat.le_trans Z144 K147q.1
          have K149 : Keep h0 T147.heap [] := K145.trans K147q (fun z hz => (List.mem_cons.mp hz).elim (fun q => by rw [q]; exact Or.inr sz5) (fun hz => absurd hz List.not_mem_nil))
          have F150 : Exa Z T147.heap b3 "com/example/clotho/clotho/jsonpath/Budget" := Fq143_0.keep K147q
          show Go p.tables e below _ (T147.setTop (mkF m 199 #[.val (.long qx), .second, .val (.long qy), .second, .val (.int pm), .val (.long x1_rr), .second, .val (.long x2_rr), .second, .val (.ref b3), .val (.long v124), .second, .val (.int x10_rr), .val (.int x77_rr), .val (.long v154), .second] [(.int x147_rr)]))
          have hc199 : ¬ (x147_rr = (0 : Int32)) := own_ne32 (by omega)
          have hi199 : ¬ ((x147_rr).toInt = ((0 : Int32)).toInt) := fun z => hc199 (Int32.toInt_inj.symm.mpr z)
          refine Go.st (fun _ k => XS.ifYes X147.here hx rfl (pc0 := 199) (pc' := 204) rfl (hb hby at_199) rfl (Jvm.Free.XT.i0_ne_t hc199) (by decide) (by decide) k) ?_
          show Go p.tables e below _ (T147.setTop (mkF m 204 #[.val (.long qx), .second, .val (.long qy), .second, .val (.int pm), .val (.long x1_rr), .second, .val (.long x2_rr), .second, .val (.ref b3), .val (.long v124), .second, .val (.int x10_rr), .val (.int x77_rr), .val (.long v154), .second] []))
          refine Go.st (fun _ k => XS.aload X147.here hx rfl (hb hby at_204) rfl rfl k) ?_
          show Go p.tables e below _ (T147.setTop (mkF m 206 #[.val (.long qx), .second, .val (.long qy), .second, .val (.int pm), .val (.long x1_rr), .second, .val (.long x2_rr), .second, .val (.ref b3), .val (.long v124), .second, .val (.int x10_rr), .val (.int x77_rr), .val (.long v154), .second] [(.ref b3)]))
          obtain ⟨cq151, kq151, q151a, q151b, q151c⟩ := isOf hZ (rfl : T147.heap = T147.heap) Fq147_0
          obtain ⟨_, _, ⟨T151, L151, k151, n151⟩, -, X151, ⟨Lc151, hQ151, l151, y151, z151⟩, st151⟩ := X147.virtualBack hx (y := (⟨"com/example/clotho/clotho/jsonpath/Budget", "isTouched", "()Z"⟩ : MethodName)) (z := (⟨"com/example/clotho/clotho/jsonpath/Budget", "isTouched", "()Z"⟩ : MethodName)) hown (mvT hZ (hw _ (List.mem_of_getElem? (i := 27) rfl))) (mvT hZ (hw _ (List.mem_of_getElem? (i := 28) rfl))) (notFace_of_selects (args := #[]) (mvT hZ (hw _ (List.mem_of_getElem? (i := 30) rfl)))) (mvT hZ (hw _ (List.mem_of_getElem? (i := 30) rfl))) (mvT hZ (hw _ (List.mem_of_getElem? (i := 29) rfl))) (by decide) (backOf (W := 0) (rm_touched l Z a0 hw [] b3 x147_wn T147.heap n0 Z148 Fq147_1) hZ (hw _ (List.mem_of_getElem? (i := 31) rfl)) (hw _ (List.mem_of_getElem? (i := 8) rfl)) (by decide) (by decide)) q151a q151c (g := (mkF m 206 #[.val (.long qx), .second, .val (.long qy), .second, .val (.int pm), .val (.long x1_rr), .second, .val (.long x2_rr), .second, .val (.ref b3), .val (.long v124), .second, .val (.int x10_rr), .val (.int x77_rr), .val (.long v154), .second] [(.ref b3)])) rfl (by rw [hml]; rfl) (Steps.refl _) (argsL := []) (rest := []) (lenOf pd_4 rfl) rfl (by show 2 * 0 + _ ≤ _; exact Nat.le_of_eq rfl) (hb hby at_206) (fun _ _ => ⟨rfl, (rfl : T147.heap = T147.heap), (by decide : 1 + 0 ≤ _), (by decide : 1 + 0 ≤ _)⟩)
          dsimp only [Pt.U, Pt.locs, Pt.cells, Pt.slots] at X151 l151 y151 z151 st151 hQ151
          subst l151 y151 z151
          obtain ⟨x151_rr, rfl, N151q, e151, pr151_rel⟩ := hQ151
          have N151 := Fr.app N147 N151q
          refine Go.st (fun _ k => st151.trans k) ?_
          show Go p.tables e below _ (T151.setTop (mkF m 209 #[.val (.long qx), .second, .val (.long qy), .second, .val (.int pm), .val (.long x1_rr), .second, .val (.long x2_rr), .second, .val (.ref b3), .val (.long v124), .second, .val (.int x10_rr), .val (.int x77_rr), .val (.long v154), .second] [(.int x151_rr)]))
          subst hG
          obtain ⟨fs, hr, hrun, hended, hW, hsame⟩ := X151.leave (v := some (.int (nar .boolean x151_rr))) (fun h => by rw [Bd.returns] at h; cases h)
          refine ⟨_, _, ?_, hrun, hended, _, _, rfl, ?_, ⟨_, rfl⟩, hW, hsame.mono (by decide) (by decide)⟩
          · exact retN X151 hx (t := .boolean) Bd.returns (by simp) (hb hby at_209) hr
          · show Q_law Z qx qy pm h0 n0 _ T151.heap _
            rw [e151]
            exact ⟨(by rw [show x151_rr = (1 : Int32) from own_eq32 (by omega)]; rfl), N151, K149⟩
    · skip
      have hi78 : ¬ (((0 : Int64)).toInt < (v67).toInt) := fun z => hc78 (Int64.lt_iff_toInt_lt.mpr z)
      refine Go.st (fun _ k => XS.ifYes X76.here hx rfl (pc0 := 78) (pc' := 85) rfl (hb hby at_78) rfl (Jvm.Free.XT.ll_le_t hc78) (by decide) (by decide) k) ?_
      show Go p.tables e below _ (T76.setTop (mkF m 85 #[.val (.long qx), .second, .val (.long qy), .second, .val (.int pm), .val (.long x1_rr), .second, .val (.long x2_rr), .second, .val (.ref b3), .val (.long v67), .second, .val (.int x10_rr), .unset, .unset, .unset] [(.int x76_rr)]))
      refine Go.st (fun _ k => XS.iconst X76.here hx rfl (hb hby at_85) k) ?_
      show Go p.tables e below _ (T76.setTop (mkF m 86 #[.val (.long qx), .second, .val (.long qy), .second, .val (.int pm), .val (.long x1_rr), .second, .val (.long x2_rr), .second, .val (.ref b3), .val (.long v67), .second, .val (.int x10_rr), .unset, .unset, .unset] [(.int (0 : Int32)), (.int x76_rr)]))
      have hc86 : x76_rr = (0 : Int32) := own_eq32 (by omega)
      have hi86 : (x76_rr).toInt = ((0 : Int32)).toInt := Int32.toInt_inj.symm.mp hc86
      refine Go.st (fun _ k => XS.icmpYes X76.here hx rfl (pc0 := 86) (pc' := 91) rfl (hb hby at_86) rfl (Jvm.Free.XT.ii_eq_t hc86) (by decide) (by decide) k) ?_
      show Go p.tables e below _ (T76.setTop (mkF m 91 #[.val (.long qx), .second, .val (.long qy), .second, .val (.int pm), .val (.long x1_rr), .second, .val (.long x2_rr), .second, .val (.ref b3), .val (.long v67), .second, .val (.int x10_rr), .unset, .unset, .unset] []))
      refine Go.st (fun _ k => XS.lload X76.here hx rfl (hb hby at_91) rfl k) ?_
      show Go p.tables e below _ (T76.setTop (mkF m 93 #[.val (.long qx), .second, .val (.long qy), .second, .val (.int pm), .val (.long x1_rr), .second, .val (.long x2_rr), .second, .val (.ref b3), .val (.long v67), .second, .val (.int x10_rr), .unset, .unset, .unset] [(.long v67)]))
      refine Go.st (fun _ k => XS.lload X76.here hx rfl (hb hby at_93) rfl k) ?_
      show Go p.tables e below _ (T76.setTop (mkF m 95 #[.val (.long qx), .second, .val (.long qy), .second, .val (.int pm), .val (.long x1_rr), .second, .val (.long x2_rr), .second, .val (.ref b3), .val (.long v67), .second, .val (.int x10_rr), .unset, .unset, .unset] [(.long x2_rr), (.long v67)]))
      obtain ⟨_, _, ⟨T152, L152, k152, n152⟩, -, X152, ⟨Lc152, hQ152, l152, y152, z152⟩, st152⟩ := Jvm.LawKit.callS X76 hx (y := (⟨"com/example/clotho/clotho/jsonpath/BudgetTakePinLaw", "fits", "(JJ)Z"⟩ : MethodName)) hown (mvT hZ (hw _ (List.mem_of_getElem? (i := 15) rfl))) (mvT hZ (hw _ (List.mem_of_getElem? (i := 16) rfl))) (mvT hZ (hw _ (List.mem_of_getElem? (i := 2) rfl))) (mvT hZ (hw _ (List.mem_of_getElem? (i := 17) rfl))) (by decide) (backOf (W := 0) (rm_fits l Z a0 hw [] v67 x2_rr T11.heap n0 Z12 (by show 0 ≤ v67.toInt ∧ v67.toInt ≤ 10000000; exact by omega) (by show 0 ≤ x2_rr.toInt; exact by omega)) hZ (hw _ (List.mem_of_getElem? (i := 17) rfl)) (hw _ (List.mem_of_getElem? (i := 2) rfl)) (by decide) (by decide)) (g := (mkF m 95 #[.val (.long qx), .second, .val (.long qy), .second, .val (.int pm), .val (.long x1_rr), .second, .val (.long x2_rr), .second, .val (.ref b3), .val (.long v67), .second, .val (.int x10_rr), .unset, .unset, .unset] [(.long x2_rr), (.long v67)])) rfl (by rw [hml]; rfl) (argsL := [(.long v67), (.long x2_rr)]) (rest := []) (lenOf pd_2 rfl) rfl (by show 2 * 0 + _ ≤ _; exact Nat.le_of_eq rfl) (hb hby at_95) (fun _ _ => ⟨rfl, e76, (by decide : 1 + 0 ≤ _), (by decide : 1 + 0 ≤ _)⟩)
      dsimp only [Pt.U, Pt.locs, Pt.cells, Pt.slots] at X152 l152 y152 z152 st152 hQ152
      subst l152 y152 z152
      obtain ⟨x152_rr, rfl, N152q, e152, pr152_rel⟩ := hQ152
      have N152 := Fr.app N76 N152q
      refine Go.st st152 ?_
      show Go p.tables e below _ (T152.setTop (mkF m 98 #[.val (.long qx), .second, .val (.long qy), .second, .val (.int pm), .val (.long x1_rr), .second, .val (.long x2_rr), .second, .val (.ref b3), .val (.long v67), .second, .val (.int x10_rr), .unset, .unset, .unset] [(.int x152_rr)]))
      refine Go.st (fun _ k => XS.istore X152.here hx rfl (hb hby at_98) rfl (l' := #[.val (.long qx), .second, .val (.long qy), .second, .val (.int pm), .val (.long x1_rr), .second, .val (.long x2_rr), .second, .val (.ref b3), .val (.long v67), .second, .val (.int x10_rr), .val (.int x152_rr), .unset, .unset]) rfl k) ?_
      show Go p.tables e below _ (T152.setTop (mkF m 100 #[.val (.long qx), .second, .val (.long qy), .second, .val (.int pm), .val (.long x1_rr), .second, .val (.long x2_rr), .second, .val (.ref b3), .val (.long v67), .second, .val (.int x10_rr), .val (.int x152_rr), .unset, .unset] []))
      show Go p.tables e below _ (T152.setTop (mkF m 100 #[.val (.long qx), .second, .val (.long qy), .second, .val (.int pm), .val (.long x1_rr), .second, .val (.long x2_rr), .second, .val (.ref b3), .val (.long v67), .second, .val (.int x10_rr), .val (.int x152_rr), .unset, .unset] []))
      refine Go.st (fun _ k => XS.aload X152.here hx rfl (hb hby at_100) rfl rfl k) ?_
      show Go p.tables e below _ (T152.setTop (mkF m 102 #[.val (.long qx), .second, .val (.long qy), .second, .val (.int pm), .val (.long x1_rr), .second, .val (.long x2_rr), .second, .val (.ref b3), .val (.long v67), .second, .val (.int x10_rr), .val (.int x152_rr), .unset, .unset] [(.ref b3)]))
      refine Go.st (fun _ k => XS.lload X152.here hx rfl (hb hby at_102) rfl k) ?_
      show Go p.tables e below _ (T152.setTop (mkF m 104 #[.val (.long qx), .second, .val (.long qy), .second, .val (.int pm), .val (.long x1_rr), .second, .val (.long x2_rr), .second, .val (.ref b3), .val (.long v67), .second, .val (.int x10_rr), .val (.int x152_rr), .unset, .unset] [(.long x2_rr), (.ref b3)]))
      obtain ⟨cq153, kq153, q153a, q153b, q153c⟩ := isOf hZ e152 Fq11_0
      obtain ⟨_, _, ⟨T153, L153, k153, n153⟩, -, X153, ⟨Lc153, hQ153, l153, y153, z153⟩, st153⟩ := X152.virtualBack hx (y := (⟨"com/example/clotho/clotho/jsonpath/Budget", "take", "(J)Z"⟩ : MethodName)) (z := (⟨"com/example/clotho/clotho/jsonpath/Budget", "take", "(J)Z"⟩ : MethodName)) hown (mvT hZ (hw _ (List.mem_of_getElem? (i := 19) rfl))) (mvT hZ (hw _ (List.mem_of_getElem? (i := 20) rfl))) (notFace_of_selects (args := #[]) (mvT hZ (hw _ (List.mem_of_getElem? (i := 22) rfl)))) (mvT hZ (hw _ (List.mem_of_getElem? (i := 22) rfl))) (mvT hZ (hw _ (List.mem_of_getElem? (i := 21) rfl))) (by decide) (backOf (W := 0) (rm_take l Z a0 hw [] b3 x2_rr x11_wn T11.heap n0 Z12 Fq11_1 Fq11_0 ge4 (by show 0 ≤ x11_wn.toInt ∧ x11_wn.toInt ≤ 10000000; exact by omega) (by show 0 ≤ x2_rr.toInt; exact by omega)) hZ (hw _ (List.mem_of_getElem? (i := 23) rfl)) (hw _ (List.mem_of_getElem? (i := 8) rfl)) (by decide) (by decide)) q153a q153c (g := (mkF m 104 #[.val (.long qx), .second, .val (.long qy), .second, .val (.int pm), .val (.long x1_rr), .second, .val (.long x2_rr), .second, .val (.ref b3), .val (.long v67), .second, .val (.int x10_rr), .val (.int x152_rr), .unset, .unset] [(.long x2_rr), (.ref b3)])) rfl (by rw [hml]; rfl) (Steps.refl _) (argsL := [(.long x2_rr)]) (rest := []) (lenOf pd_3 rfl) rfl (by show 2 * 0 + _ ≤ _; exact Nat.le_of_eq rfl) (hb hby at_104) (fun _ _ => ⟨rfl, e152, (by decide : 1 + 0 ≤ _), (by decide : 1 + 0 ≤ _)⟩)
      dsimp only [Pt.U, Pt.locs, Pt.cells, Pt.slots] at X153 l153 y153 z153 st153 hQ153
      subst l153 y153 z153
      obtain ⟨x153_rr, x153_wn, rfl, N153q, K153q, Fq153_0, Fq153_1, pr153_rel⟩ := hQ153
      have N153 := Fr.app N152 N153q
      refine Go.st (fun _ k => st153.trans k) ?_
      have Z154 : n0 ≤ T153.heap.size := Nat.le_trans Z12 K153q.1
      have K155 : Keep h0 T153.heap [] := K13.trans K153q (fun z hz => (List.mem_cons.mp hz).elim (fun q => by rw [q]; exact Or.inr sz5) (fun hz => absurd hz List.not_mem_nil))
      have F156 : Exa Z T153.heap b3 "com/example/clotho/clotho/jsonpath/Budget" := Fq11_0.keep K153q
      show Go p.tables e below _ (T153.setTop (mkF m 107 #[.val (.long qx), .second, .val (.long qy), .second, .val (.int pm), .val (.long x1_rr), .second, .val (.long x2_rr), .second, .val (.ref b3), .val (.long v67), .second, .val (.int x10_rr), .val (.int x152_rr), .unset, .unset] [(.int x153_rr)]))
      refine Go.st (fun _ k => XS.iload X153.here hx rfl (hb hby at_107) rfl k) ?_
      show Go p.tables e below _ (T153.setTop (mkF m 109 #[.val (.long qx), .second, .val (.long qy), .second, .val (.int pm), .val (.long x1_rr), .second, .val (.long x2_rr), .second, .val (.ref b3), .val (.long v67), .second, .val (.int x10_rr), .val (.int x152_rr), .unset, .unset] [(.int x152_rr), (.int x153_rr)]))
      have hc109 : x153_rr = x152_rr := own_eq32 (by omega)
      have hi109 : (x153_rr).toInt = (x152_rr).toInt := Int32.toInt_inj.symm.mp hc109
      refine Go.st (fun _ k => XS.icmpYes X153.here hx rfl (pc0 := 109) (pc' := 114) rfl (hb hby at_109) rfl (Jvm.Free.XT.ii_eq_t hc109) (by decide) (by decide) k) ?_
      show Go p.tables e below _ (T153.setTop (mkF m 114 #[.val (.long qx), .second, .val (.long qy), .second, .val (.int pm), .val (.long x1_rr), .second, .val (.long x2_rr), .second, .val (.ref b3), .val (.long v67), .second, .val (.int x10_rr), .val (.int x152_rr), .unset, .unset] []))
      refine Go.st (fun _ k => XS.iload X153.here hx rfl (hb hby at_114) rfl k) ?_
      show Go p.tables e below _ (T153.setTop (mkF m 116 #[.val (.long qx), .second, .val (.long qy), .second, .val (.int pm), .val (.long x1_rr), .second, .val (.long x2_rr), .second, .val (.ref b3), .val (.long v67), .second, .val (.int x10_rr), .val (.int x152_rr), .unset, .unset] [(.int x152_rr)]))
      by_cases hc116 : x152_rr = (0 : Int32)
      · skip
        have hi116 : (x152_rr).toInt = ((0 : Int32)).toInt := Int32.toInt_inj.symm.mp hc116
        refine Go.st (fun _ k => XS.ifYes X153.here hx rfl (pc0 := 116) (pc' := 126) rfl (hb hby at_116) rfl (Jvm.Free.XT.i0_eq_t hc116) (by decide) (by decide) k) ?_
        show Go p.tables e below _ (T153.setTop (mkF m 126 #[.val (.long qx), .second, .val (.long qy), .second, .val (.int pm), .val (.long x1_rr), .second, .val (.long x2_rr), .second, .val (.ref b3), .val (.long v67), .second, .val (.int x10_rr), .val (.int x152_rr), .unset, .unset] []))
        refine Go.st (fun _ k => XS.aload X153.here hx rfl (hb hby at_126) rfl rfl k) ?_
        show Go p.tables e below _ (T153.setTop (mkF m 128 #[.val (.long qx), .second, .val (.long qy), .second, .val (.int pm), .val (.long x1_rr), .second, .val (.long x2_rr), .second, .val (.ref b3), .val (.long v67), .second, .val (.int x10_rr), .val (.int x152_rr), .unset, .unset] [(.ref b3)]))
        obtain ⟨cq157, kq157, q157a, q157b, q157c⟩ := isOf hZ (rfl : T153.heap = T153.heap) Fq153_0
        obtain ⟨_, _, ⟨T157, L157, k157, n157⟩, -, X157, ⟨Lc157, hQ157, l157, y157, z157⟩, st157⟩ := X153.virtualBack hx (y := (⟨"com/example/clotho/clotho/jsonpath/Budget", "isTouched", "()Z"⟩ : MethodName)) (z := (⟨"com/example/clotho/clotho/jsonpath/Budget", "isTouched", "()Z"⟩ : MethodName)) hown (mvT hZ (hw _ (List.mem_of_getElem? (i := 27) rfl))) (mvT hZ (hw _ (List.mem_of_getElem? (i := 28) rfl))) (notFace_of_selects (args := #[]) (mvT hZ (hw _ (List.mem_of_getElem? (i := 30) rfl)))) (mvT hZ (hw _ (List.mem_of_getElem? (i := 30) rfl))) (mvT hZ (hw _ (List.mem_of_getElem? (i := 29) rfl))) (by decide) (backOf (W := 0) (rm_touched l Z a0 hw [] b3 x153_wn T153.heap n0 Z154 Fq153_1) hZ (hw _ (List.mem_of_getElem? (i := 31) rfl)) (hw _ (List.mem_of_getElem? (i := 8) rfl)) (by decide) (by decide)) q157a q157c (g := (mkF m 128 #[.val (.long qx), .second, .val (.long qy), .second, .val (.int pm), .val (.long x1_rr), .second, .val (.long x2_rr), .second, .val (.ref b3), .val (.long v67), .second, .val (.int x10_rr), .val (.int x152_rr), .unset, .unset] [(.ref b3)])) rfl (by rw [hml]; rfl) (Steps.refl _) (argsL := []) (rest := []) (lenOf pd_4 rfl) rfl (by show 2 * 0 + _ ≤ _; exact Nat.le_of_eq rfl) (hb hby at_128) (fun _ _ => ⟨rfl, (rfl : T153.heap = T153.heap), (by decide : 1 + 0 ≤ _), (by decide : 1 + 0 ≤ _)⟩)
        dsimp only [Pt.U, Pt.locs, Pt.cells, Pt.slots] at X157 l157 y157 z157 st157 hQ157
        subst l157 y157 z157
        obtain ⟨x157_rr, rfl, N157q, e157, pr157_rel⟩ := hQ157
        have N157 := Fr.app N153 N157q
        refine Go.st (fun _ k => st157.trans k) ?_
        show Go p.tables e below _ (T157.setTop (mkF m 131 #[.val (.long qx), .second, .val (.long qy), .second, .val (.int pm), .val (.long x1_rr), .second, .val (.long x2_rr), .second, .val (.ref b3), .val (.long v67), .second, .val (.int x10_rr), .val (.int x152_rr), .unset, .unset] [(.int x157_rr)]))
        refine Go.st (fun _ k => XS.lload X157.here hx rfl (hb hby at_131) rfl k) ?_
        show Go p.tables e below _ (T157.setTop (mkF m 133 #[.val (.long qx), .second, .val (.long qy), .second, .val (.int pm), .val (.long x1_rr), .second, .val (.long x2_rr), .second, .val (.ref b3), .val (.long v67), .second, .val (.int x10_rr), .val (.int x152_rr), .unset, .unset] [(.long v67), (.int x157_rr)]))
        refine Go.st (fun _ k => XS.lconst X157.here hx rfl (hb hby at_133) k) ?_
        show Go p.tables e below _ (T157.setTop (mkF m 134 #[.val (.long qx), .second, .val (.long qy), .second, .val (.int pm), .val (.long x1_rr), .second, .val (.long x2_rr), .second, .val (.ref b3), .val (.long v67), .second, .val (.int x10_rr), .val (.int x152_rr), .unset, .unset] [(.long (0 : Int64)), (.long v67), (.int x157_rr)]))
        refine Go.st (fun _ k => Jvm.Free.XT.lcmp X157.here hx rfl (hb hby at_134) rfl k) ?_
        show Go p.tables e below _ (T157.setTop (mkF m 135 #[.val (.long qx), .second, .val (.long qy), .second, .val (.int pm), .val (.long x1_rr), .second, .val (.long x2_rr), .second, .val (.ref b3), .val (.long v67), .second, .val (.int x10_rr), .val (.int x152_rr), .unset, .unset] [(.int (Jvm.Free.XT.cmpL v67 (0 : Int64))), (.int x157_rr)]))
        by_cases hc135 : (0 : Int64) < v67
        · skip
          have hi135 : ((0 : Int64)).toInt < (v67).toInt := Int64.lt_iff_toInt_lt.mp hc135
          refine Go.st (fun _ k => XS.ifNo X157.here hx rfl (hb hby at_135) rfl (Jvm.Free.XT.ll_le_f hc135) k) ?_
          show Go p.tables e below _ (T157.setTop (mkF m 138 #[.val (.long qx), .second, .val (.long qy), .second, .val (.int pm), .val (.long x1_rr), .second, .val (.long x2_rr), .second, .val (.ref b3), .val (.long v67), .second, .val (.int x10_rr), .val (.int x152_rr), .unset, .unset] [(.int x157_rr)]))
          refine Go.st (fun _ k => XS.iconst X157.here hx rfl (hb hby at_138) k) ?_
          show Go p.tables e below _ (T157.setTop (mkF m 139 #[.val (.long qx), .second, .val (.long qy), .second, .val (.int pm), .val (.long x1_rr), .second, .val (.long x2_rr), .second, .val (.ref b3), .val (.long v67), .second, .val (.int x10_rr), .val (.int x152_rr), .unset, .unset] [(.int (1 : Int32)), (.int x157_rr)]))
          refine Go.st (fun _ k => XS.goto X157.here hx rfl (pc0 := 139) (pc' := 143) rfl (hb hby at_139) (by decide) (by decide) k) ?_
          show Go p.tables e below _ (T157.setTop (mkF m 143 #[.val (.long qx), .second, .val (.long qy), .second, .val (.int pm), .val (.long x1_rr), .second, .val (.long x2_rr), .second, .val (.ref b3), .val (.long v67), .second, .val (.int x10_rr), .val (.int x152_rr), .unset, .unset] [(.int (1 : Int32)), (.int x157_rr)]))
          have hc143 : x157_rr = (1 : Int32) := own_eq32 (by omega)
          have hi143 : (x157_rr).toInt = ((1 : Int32)).toInt := Int32.toInt_inj.symm.mp hc143
          refine Go.st (fun _ k => XS.icmpYes X157.here hx rfl (pc0 := 143) (pc' := 148) rfl (hb hby at_143) rfl (Jvm.Free.XT.ii_eq_t hc143) (by decide) (by decide) k) ?_
          show Go p.tables e below _ (T157.setTop (mkF m 148 #[.val (.long qx), .second, .val (.long qy), .second, .val (.int pm), .val (.long x1_rr), .second, .val (.long x2_rr), .second, .val (.ref b3), .val (.long v67), .second, .val (.int x10_rr), .val (.int x152_rr), .unset, .unset] []))
          refine Go.st (fun _ k => X157.ldc2Long hx hown (mvT hZ (hw _ (List.mem_of_getElem? (i := 18) rfl))) (g := (mkF m 148 #[.val (.long qx), .second, .val (.long qy), .second, .val (.int pm), .val (.long x1_rr), .second, .val (.long x2_rr), .second, .val (.ref b3), .val (.long v67), .second, .val (.int x10_rr), .val (.int x152_rr), .unset, .unset] [])) rfl (hb hby at_148) _ k) ?_
          show Go p.tables e below _ (T157.setTop (mkF m 151 #[.val (.long qx), .second, .val (.long qy), .second, .val (.int pm), .val (.long x1_rr), .second, .val (.long x2_rr), .second, .val (.ref b3), .val (.long v67), .second, .val (.int x10_rr), .val (.int x152_rr), .unset, .unset] [(.long (10000000 : Int64))]))
          refine Go.st (fun _ k => XS.lload X157.here hx rfl (hb hby at_151) rfl k) ?_
          show Go p.tables e below _ (T157.setTop (mkF m 153 #[.val (.long qx), .second, .val (.long qy), .second, .val (.int pm), .val (.long x1_rr), .second, .val (.long x2_rr), .second, .val (.ref b3), .val (.long v67), .second, .val (.int x10_rr), .val (.int x152_rr), .unset, .unset] [(.long v67), (.long (10000000 : Int64))]))
          refine Go.st (fun _ k => XS.lsub X157.here hx rfl (hb hby at_153) rfl k) ?_
          show Go p.tables e below _ (T157.setTop (mkF m 154 #[.val (.long qx), .second, .val (.long qy), .second, .val (.int pm), .val (.long x1_rr), .second, .val (.long x2_rr), .second, .val (.ref b3), .val (.long v67), .second, .val (.int x10_rr), .val (.int x152_rr), .unset, .unset] [(.long ((10000000 : Int64) - v67))]))
          refine Go.st (fun _ k => XS.lstore X157.here hx rfl (hb hby at_154) rfl (l' := #[.val (.long qx), .second, .val (.long qy), .second, .val (.int pm), .val (.long x1_rr), .second, .val (.long x2_rr), .second, .val (.ref b3), .val (.long v67), .second, .val (.int x10_rr), .val (.int x152_rr), .val (.long ((10000000 : Int64) - v67)), .second]) rfl k) ?_
          show Go p.tables e below _ (T157.setTop (mkF m 156 #[.val (.long qx), .second, .val (.long qy), .second, .val (.int pm), .val (.long x1_rr), .second, .val (.long x2_rr), .second, .val (.ref b3), .val (.long v67), .second, .val (.int x10_rr), .val (.int x152_rr), .val (.long ((10000000 : Int64) - v67)), .second] []))
          generalize hqv154 : ((10000000 : Int64) - v67) = v154
          have lt_1000000064 : (10000000 : Int64).toInt = 10000000 := by decide
          have hi_v154 := i64_subc (10000000 : Int64) v67
          rw [hqv154] at hi_v154
          show Go p.tables e below _ (T157.setTop (mkF m 156 #[.val (.long qx), .second, .val (.long qy), .second, .val (.int pm), .val (.long x1_rr), .second, .val (.long x2_rr), .second, .val (.ref b3), .val (.long v67), .second, .val (.int x10_rr), .val (.int x152_rr), .val (.long v154), .second] []))
          refine Go.st (fun _ k => XS.aload X157.here hx rfl (hb hby at_156) rfl rfl k) ?_
          show Go p.tables e below _ (T157.setTop (mkF m 158 #[.val (.long qx), .second, .val (.long qy), .second, .val (.int pm), .val (.long x1_rr), .second, .val (.long x2_rr), .second, .val (.ref b3), .val (.long v67), .second, .val (.int x10_rr), .val (.int x152_rr), .val (.long v154), .second] [(.ref b3)]))
          refine Go.st (fun _ k => XS.lload X157.here hx rfl (hb hby at_158) rfl k) ?_
          show Go p.tables e below _ (T157.setTop (mkF m 160 #[.val (.long qx), .second, .val (.long qy), .second, .val (.int pm), .val (.long x1_rr), .second, .val (.long x2_rr), .second, .val (.ref b3), .val (.long v67), .second, .val (.int x10_rr), .val (.int x152_rr), .val (.long v154), .second] [(.long v154), (.ref b3)]))
          refine Go.st (fun _ k => XS.lconst X157.here hx rfl (hb hby at_160) k) ?_
          show Go p.tables e below _ (T157.setTop (mkF m 161 #[.val (.long qx), .second, .val (.long qy), .second, .val (.int pm), .val (.long x1_rr), .second, .val (.long x2_rr), .second, .val (.ref b3), .val (.long v67), .second, .val (.int x10_rr), .val (.int x152_rr), .val (.long v154), .second] [(.long (1 : Int64)), (.long v154), (.ref b3)]))
          refine Go.st (fun _ k => XS.ladd X157.here hx rfl (hb hby at_161) rfl k) ?_
          show Go p.tables e below _ (T157.setTop (mkF m 162 #[.val (.long qx), .second, .val (.long qy), .second, .val (.int pm), .val (.long x1_rr), .second, .val (.long x2_rr), .second, .val (.ref b3), .val (.long v67), .second, .val (.int x10_rr), .val (.int x152_rr), .val (.long v154), .second] [(.long (v154 + (1 : Int64))), (.ref b3)]))
          generalize hqa162 : (v154 + (1 : Int64)) = a162
          have lt_164 : (1 : Int64).toInt = 1 := by decide
          have hi_a162 := i64_addc v154 (1 : Int64)
          rw [hqa162] at hi_a162
          obtain ⟨cq158, kq158, q158a, q158b, q158c⟩ := isOf hZ e157 Fq153_0
          obtain ⟨_, _, ⟨T158, L158, k158, n158⟩, -, X158, ⟨Lc158, hQ158, l158, y158, z158⟩, st158⟩ := X157.virtualBack hx (y := (⟨"com/example/clotho/clotho/jsonpath/Budget", "take", "(J)Z"⟩ : MethodName)) (z := (⟨"com/example/clotho/clotho/jsonpath/Budget", "take", "(J)Z"⟩ : MethodName)) hown (mvT hZ (hw _ (List.mem_of_getElem? (i := 19) rfl))) (mvT hZ (hw _ (List.mem_of_getElem? (i := 20) rfl))) (notFace_of_selects (args := #[]) (mvT hZ (hw _ (List.mem_of_getElem? (i := 22) rfl)))) (mvT hZ (hw _ (List.mem_of_getElem? (i := 22) rfl))) (mvT hZ (hw _ (List.mem_of_getElem? (i := 21) rfl))) (by decide) (backOf (W := 0) (rm_take l Z a0 hw [] b3 a162 x153_wn T153.heap n0 Z154 Fq153_1 Fq153_0 ge4 (by show 0 ≤ x153_wn.toInt ∧ x153_wn.toInt ≤ 10000000; exact by omega) (by show 0 ≤ a162.toInt; exact by omega)) hZ (hw _ (List.mem_of_getElem? (i := 23) rfl)) (hw _ (List.mem_of_getElem? (i := 8) rfl)) (by decide) (by decide)) q158a q158c (g := (mkF m 162 #[.val (.long qx), .second, .val (.long qy), .second, .val (.int pm), .val (.long x1_rr), .second, .val (.long x2_rr), .second, .val (.ref b3), .val (.long v67), .second, .val (.int x10_rr), .val (.int x152_rr), .val (.long v154), .second] [(.long a162), (.ref b3)])) rfl (by rw [hml]; rfl) (Steps.refl _) (argsL := [(.long a162)]) (rest := []) (lenOf pd_3 rfl) rfl (by show 2 * 0 + _ ≤ _; exact Nat.le_of_eq rfl) (hb hby at_162) (fun _ _ => ⟨rfl, e157, (by decide : 1 + 0 ≤ _), (by decide : 1 + 0 ≤ _)⟩)
          dsimp only [Pt.U, Pt.locs, Pt.cells, Pt.slots] at X158 l158 y158 z158 st158 hQ158
          subst l158 y158 z158
          obtain ⟨x158_rr, x158_wn, rfl, N158q, K158q, Fq158_0, Fq158_1, pr158_rel⟩ := hQ158
          have N158 := Fr.app N157 N158q
          refine Go.st (fun _ k => st158.trans k) ?_
          have Z159 : n0 ≤ T158.heap.size := Nat.le_trans Z154 K158q.1
          have K160 : Keep h0 T158.heap [] := K155.trans K158q (fun z hz => (List.mem_cons.mp hz).elim (fun q => by rw [q]; exact Or.inr sz5) (fun hz => absurd hz List.not_mem_nil))
          have F161 : Exa Z T158.heap b3 "com/example/clotho/clotho/jsonpath/Budget" := Fq153_0.keep K158q
          show Go p.tables e below _ (T158.setTop (mkF m 165 #[.val (.long qx), .second, .val (.long qy), .second, .val (.int pm), .val (.long x1_rr), .second, .val (.long x2_rr), .second, .val (.ref b3), .val (.long v67), .second, .val (.int x10_rr), .val (.int x152_rr), .val (.long v154), .second] [(.int x158_rr)]))
          have hc165 : x158_rr = (0 : Int32) := own_eq32 (by omega)
          have hi165 : (x158_rr).toInt = ((0 : Int32)).toInt := Int32.toInt_inj.symm.mp hc165
          refine Go.st (fun _ k => XS.ifYes X158.here hx rfl (pc0 := 165) (pc' := 170) rfl (hb hby at_165) rfl (Jvm.Free.XT.i0_eq_t hc165) (by decide) (by decide) k) ?_
          show Go p.tables e below _ (T158.setTop (mkF m 170 #[.val (.long qx), .second, .val (.long qy), .second, .val (.int pm), .val (.long x1_rr), .second, .val (.long x2_rr), .second, .val (.ref b3), .val (.long v67), .second, .val (.int x10_rr), .val (.int x152_rr), .val (.long v154), .second] []))
          refine Go.st (fun _ k => XS.aload X158.here hx rfl (hb hby at_170) rfl rfl k) ?_
          show Go p.tables e below _ (T158.setTop (mkF m 172 #[.val (.long qx), .second, .val (.long qy), .second, .val (.int pm), .val (.long x1_rr), .second, .val (.long x2_rr), .second, .val (.ref b3), .val (.long v67), .second, .val (.int x10_rr), .val (.int x152_rr), .val (.long v154), .second] [(.ref b3)]))
          refine Go.st (fun _ k => XS.lload X158.here hx rfl (hb hby at_172) rfl k) ?_
          show Go p.tables e below _ (T158.setTop (mkF m 174 #[.val (.long qx), .second, .val (.long qy), .second, .val (.int pm), .val (.long x1_rr), .second, .val (.long x2_rr), .second, .val (.ref b3), .val (.long v67), .second, .val (.int x10_rr), .val (.int x152_rr), .val (.long v154), .second] [(.long v154), (.ref b3)]))
          obtain ⟨cq162, kq162, q162a, q162b, q162c⟩ := isOf hZ (rfl : T158.heap = T158.heap) Fq158_0
          obtain ⟨_, _, ⟨T162, L162, k162, n162⟩, -, X162, ⟨Lc162, hQ162, l162, y162, z162⟩, st162⟩ := X158.virtualBack hx (y := (⟨"com/example/clotho/clotho/jsonpath/Budget", "take", "(J)Z"⟩ : MethodName)) (z := (⟨"com/example/clotho/clotho/jsonpath/Budget", "take", "(J)Z"⟩ : MethodName)) hown (mvT hZ (hw _ (List.mem_of_getElem? (i := 19) rfl))) (mvT hZ (hw _ (List.mem_of_getElem? (i := 20) rfl))) (notFace_of_selects (args := #[]) (mvT hZ (hw _ (List.mem_of_getElem? (i := 22) rfl)))) (mvT hZ (hw _ (List.mem_of_getElem? (i := 22) rfl))) (mvT hZ (hw _ (List.mem_of_getElem? (i := 21) rfl))) (by decide) (backOf (W := 0) (rm_take l Z a0 hw [] b3 v154 x158_wn T158.heap n0 Z159 Fq158_1 Fq158_0 ge4 (by show 0 ≤ x158_wn.toInt ∧ x158_wn.toInt ≤ 10000000; exact by omega) (by show 0 ≤ v154.toInt; exact by omega)) hZ (hw _ (List.mem_of_getElem? (i := 23) rfl)) (hw _ (List.mem_of_getElem? (i := 8) rfl)) (by decide) (by decide)) q162a q162c (g := (mkF m 174 #[.val (.long qx), .second, .val (.long qy), .second, .val (.int pm), .val (.long x1_rr), .second, .val (.long x2_rr), .second, .val (.ref b3), .val (.long v67), .second, .val (.int x10_rr), .val (.int x152_rr), .val (.long v154), .second] [(.long v154), (.ref b3)])) rfl (by rw [hml]; rfl) (Steps.refl _) (argsL := [(.long v154)]) (rest := []) (lenOf pd_3 rfl) rfl (by show 2 * 0 + _ ≤ _; exact Nat.le_of_eq rfl) (hb hby at_174) (fun _ _ => ⟨rfl, (rfl : T158.heap = T158.heap), (by decide : 1 + 0 ≤ _), (by decide : 1 + 0 ≤ _)⟩)
          dsimp only [Pt.U, Pt.locs, Pt.cells, Pt.slots] at X162 l162 y162 z162 st162 hQ162
          subst l162 y162 z162
          obtain ⟨x162_rr, x162_wn, rfl, N162q, K162q, Fq162_0, Fq162_1, pr162_rel⟩ := hQ162
          have N162 := Fr.app N158 N162q
          refine Go.st (fun _ k => st162.trans k) ?_
          have Z163 : n0 ≤ T162.heap.size := Nat.le_trans Z159 K162q.1
          have K164 : Keep h0 T162.heap [] := K160.trans K162q (fun z hz => (List.mem_cons.mp hz).elim (fun q => by rw [q]; exact Or.inr sz5) (fun hz => absurd hz List.not_mem_nil))
          have F165 : Exa Z T162.heap b3 "com/example/clotho/clotho/jsonpath/Budget" := Fq158_0.keep K162q
          show Go p.tables e below _ (T162.setTop (mkF m 177 #[.val (.long qx), .second, .val (.long qy), .second, .val (.int pm), .val (.long x1_rr), .second, .val (.long x2_rr), .second, .val (.ref b3), .val (.long v67), .second, .val (.int x10_rr), .val (.int x152_rr), .val (.long v154), .second] [(.int x162_rr)]))
          have hc177 : ¬ (x162_rr = (0 : Int32)) := own_ne32 (by omega)
          have hi177 : ¬ ((x162_rr).toInt = ((0 : Int32)).toInt) := fun z => hc177 (Int32.toInt_inj.symm.mpr z)
          refine Go.st (fun _ k => XS.ifYes X162.here hx rfl (pc0 := 177) (pc' := 182) rfl (hb hby at_177) rfl (Jvm.Free.XT.i0_ne_t hc177) (by decide) (by decide) k) ?_
          show Go p.tables e below _ (T162.setTop (mkF m 182 #[.val (.long qx), .second, .val (.long qy), .second, .val (.int pm), .val (.long x1_rr), .second, .val (.long x2_rr), .second, .val (.ref b3), .val (.long v67), .second, .val (.int x10_rr), .val (.int x152_rr), .val (.long v154), .second] []))
          refine Go.st (fun _ k => XS.aload X162.here hx rfl (hb hby at_182) rfl rfl k) ?_
          show Go p.tables e below _ (T162.setTop (mkF m 184 #[.val (.long qx), .second, .val (.long qy), .second, .val (.int pm), .val (.long x1_rr), .second, .val (.long x2_rr), .second, .val (.ref b3), .val (.long v67), .second, .val (.int x10_rr), .val (.int x152_rr), .val (.long v154), .second] [(.ref b3)]))
          refine Go.st (fun _ k => XS.lconst X162.here hx rfl (hb hby at_184) k) ?_
          show Go p.tables e below _ (T162.setTop (mkF m 185 #[.val (.long qx), .second, .val (.long qy), .second, .val (.int pm), .val (.long x1_rr), .second, .val (.long x2_rr), .second, .val (.ref b3), .val (.long v67), .second, .val (.int x10_rr), .val (.int x152_rr), .val (.long v154), .second] [(.long (1 : Int64)), (.ref b3)]))
          obtain ⟨cq166, kq166, q166a, q166b, q166c⟩ := isOf hZ (rfl : T162.heap = T162.heap) Fq162_0
          obtain ⟨_, _, ⟨T166, L166, k166, n166⟩, -, X166, ⟨Lc166, hQ166, l166, y166, z166⟩, st166⟩ := X162.virtualBack hx (y := (⟨"com/example/clotho/clotho/jsonpath/Budget", "take", "(J)Z"⟩ : MethodName)) (z := (⟨"com/example/clotho/clotho/jsonpath/Budget", "take", "(J)Z"⟩ : MethodName)) hown (mvT hZ (hw _ (List.mem_of_getElem? (i := 19) rfl))) (mvT hZ (hw _ (List.mem_of_getElem? (i := 20) rfl))) (notFace_of_selects (args := #[]) (mvT hZ (hw _ (List.mem_of_getElem? (i := 22) rfl)))) (mvT hZ (hw _ (List.mem_of_getElem? (i := 22) rfl))) (mvT hZ (hw _ (List.mem_of_getElem? (i := 21) rfl))) (by decide) (backOf (W := 0) (rm_take l Z a0 hw [] b3 (1 : Int64) x162_wn T162.heap n0 Z163 Fq162_1 Fq162_0 ge4 (by show 0 ≤ x162_wn.toInt ∧ x162_wn.toInt ≤ 10000000; exact by omega) (by show 0 ≤ (1 : Int64).toInt; exact by omega)) hZ (hw _ (List.mem_of_getElem? (i := 23) rfl)) (hw _ (List.mem_of_getElem? (i := 8) rfl)) (by decide) (by decide)) q166a q166c (g := (mkF m 185 #[.val (.long qx), .second, .val (.long qy), .second, .val (.int pm), .val (.long x1_rr), .second, .val (.long x2_rr), .second, .val (.ref b3), .val (.long v67), .second, .val (.int x10_rr), .val (.int x152_rr), .val (.long v154), .second] [(.long (1 : Int64)), (.ref b3)])) rfl (by rw [hml]; rfl) (Steps.refl _) (argsL := [(.long (1 : Int64))]) (rest := []) (lenOf pd_3 rfl) rfl (by show 2 * 0 + _ ≤ _; exact Nat.le_of_eq rfl) (hb hby at_185) (fun _ _ => ⟨rfl, (rfl : T162.heap = T162.heap), (by decide : 1 + 0 ≤ _), (by decide : 1 + 0 ≤ _)⟩)
          dsimp only [Pt.U, Pt.locs, Pt.cells, Pt.slots] at X166 l166 y166 z166 st166 hQ166
          subst l166 y166 z166
          obtain ⟨x166_rr, x166_wn, rfl, N166q, K166q, Fq166_0, Fq166_1, pr166_rel⟩ := hQ166
          have N166 := Fr.app N162 N166q
          refine Go.st (fun _ k => st166.trans k) ?_
          have Z167 : n0 ≤ T166.heap.size := Nat.le_trans Z163 K166q.1
          have K168 : Keep h0 T166.heap [] := K164.trans K166q (fun z hz => (List.mem_cons.mp hz).elim (fun q => by rw [q]; exact Or.inr sz5) (fun hz => absurd hz List.not_mem_nil))
          have F169 : Exa Z T166.heap b3 "com/example/clotho/clotho/jsonpath/Budget" := Fq162_0.keep K166q
          show Go p.tables e below _ (T166.setTop (mkF m 188 #[.val (.long qx), .second, .val (.long qy), .second, .val (.int pm), .val (.long x1_rr), .second, .val (.long x2_rr), .second, .val (.ref b3), .val (.long v67), .second, .val (.int x10_rr), .val (.int x152_rr), .val (.long v154), .second] [(.int x166_rr)]))
          have hc188 : x166_rr = (0 : Int32) := own_eq32 (by omega)
          have hi188 : (x166_rr).toInt = ((0 : Int32)).toInt := Int32.toInt_inj.symm.mp hc188
          refine Go.st (fun _ k => XS.ifYes X166.here hx rfl (pc0 := 188) (pc' := 193) rfl (hb hby at_188) rfl (Jvm.Free.XT.i0_eq_t hc188) (by decide) (by decide) k) ?_
          show Go p.tables e below _ (T166.setTop (mkF m 193 #[.val (.long qx), .second, .val (.long qy), .second, .val (.int pm), .val (.long x1_rr), .second, .val (.long x2_rr), .second, .val (.ref b3), .val (.long v67), .second, .val (.int x10_rr), .val (.int x152_rr), .val (.long v154), .second] []))
          refine Go.st (fun _ k => XS.aload X166.here hx rfl (hb hby at_193) rfl rfl k) ?_
          show Go p.tables e below _ (T166.setTop (mkF m 195 #[.val (.long qx), .second, .val (.long qy), .second, .val (.int pm), .val (.long x1_rr), .second, .val (.long x2_rr), .second, .val (.ref b3), .val (.long v67), .second, .val (.int x10_rr), .val (.int x152_rr), .val (.long v154), .second] [(.ref b3)]))
          refine Go.st (fun _ k => XS.lconst X166.here hx rfl (hb hby at_195) k) ?_
          show Go p.tables e below _ (T166.setTop (mkF m 196 #[.val (.long qx), .second, .val (.long qy), .second, .val (.int pm), .val (.long x1_rr), .second, .val (.long x2_rr), .second, .val (.ref b3), .val (.long v67), .second, .val (.int x10_rr), .val (.int x152_rr), .val (.long v154), .second] [(.long (0 : Int64)), (.ref b3)]))
          obtain ⟨cq170, kq170, q170a, q170b, q170c⟩ := isOf hZ (rfl : T166.heap = T166.heap) Fq166_0
          obtain ⟨_, _, ⟨T170, L170, k170, n170⟩, -, X170, ⟨Lc170, hQ170, l170, y170, z170⟩, st170⟩ := X166.virtualBack hx (y := (⟨"com/example/clotho/clotho/jsonpath/Budget", "take", "(J)Z"⟩ : MethodName)) (z := (⟨"com/example/clotho/clotho/jsonpath/Budget", "take", "(J)Z"⟩ : MethodName)) hown (mvT hZ (hw _ (List.mem_of_getElem? (i := 19) rfl))) (mvT hZ (hw _ (List.mem_of_getElem? (i := 20) rfl))) (notFace_of_selects (args := #[]) (mvT hZ (hw _ (List.mem_of_getElem? (i := 22) rfl)))) (mvT hZ (hw _ (List.mem_of_getElem? (i := 22) rfl))) (mvT hZ (hw _ (List.mem_of_getElem? (i := 21) rfl))) (by decide) (backOf (W := 0) (rm_take l Z a0 hw [] b3 (0 : Int64) x166_wn T166.heap n0 Z167 Fq166_1 Fq166_0 ge4 (by show 0 ≤ x166_wn.toInt ∧ x166_wn.toInt ≤ 10000000; exact by omega) (by show 0 ≤ (0 : Int64).toInt; exact by omega)) hZ (hw _ (List.mem_of_getElem? (i := 23) rfl)) (hw _ (List.mem_of_getElem? (i := 8) rfl)) (by decide) (by decide)) q170a q170c (g := (mkF m 196 #[.val (.long qx), .second, .val (.long qy), .second, .val (.int pm), .val (.long x1_rr), .second, .val (.long x2_rr), .second, .val (.ref b3), .val (.long v67), .second, .val (.int x10_rr), .val (.int x152_rr), .val (.long v154), .second] [(.long (0 : Int64)), (.ref b3)])) rfl (by rw [hml]; rfl) (Steps.refl _) (argsL := [(.long (0 : Int64))]) (rest := []) (lenOf pd_3 rfl) rfl (by show 2 * 0 + _ ≤ _; exact Nat.le_of_eq rfl) (hb hby at_196) (fun _ _ => ⟨rfl, (rfl : T166.heap = T166.heap), (by decide : 1 + 0 ≤ _), (by decide : 1 + 0 ≤ _)⟩)
          dsimp only [Pt.U, Pt.locs, Pt.cells, Pt.slots] at X170 l170 y170 z170 st170 hQ170
          subst l170 y170 z170
          obtain ⟨x170_rr, x170_wn, rfl, N170q, K170q, Fq170_0, Fq170_1, pr170_rel⟩ := hQ170
          have N170 := Fr.app N166 N170q
          refine Go.st (fun _ k => st170.trans k) ?_
          have Z171 : n0 ≤ T170.heap.size := Nat.le_trans Z167 K170q.1
          have K172 : Keep h0 T170.heap [] := K168.trans K170q (fun z hz => (List.mem_cons.mp hz).elim (fun q => by rw [q]; exact Or.inr sz5) (fun hz => absurd hz List.not_mem_nil))
          have F173 : Exa Z T170.heap b3 "com/example/clotho/clotho/jsonpath/Budget" := Fq166_0.keep K170q
          show Go p.tables e below _ (T170.setTop (mkF m 199 #[.val (.long qx), .second, .val (.long qy), .second, .val (.int pm), .val (.long x1_rr), .second, .val (.long x2_rr), .second, .val (.ref b3), .val (.long v67), .second, .val (.int x10_rr), .val (.int x152_rr), .val (.long v154), .second] [(.int x170_rr)]))
          have hc199 : ¬ (x170_rr = (0 : Int32)) := own_ne32 (by omega)
          have hi199 : ¬ ((x170_rr).toInt = ((0 : Int32)).toInt) := fun z => hc199 (Int32.toInt_inj.symm.mpr z)
          refine Go.st (fun _ k => XS.ifYes X170.here hx rfl (pc0 := 199) (pc' := 204) rfl (hb hby at_199) rfl (Jvm.Free.XT.i0_ne_t hc199) (by decide) (by decide) k) ?_
          show Go p.tables e below _ (T170.setTop (mkF m 204 #[.val (.long qx), .second, .val (.long qy), .second, .val (.int pm), .val (.long x1_rr), .second, .val (.long x2_rr), .second, .val (.ref b3), .val (.long v67), .second, .val (.int x10_rr), .val (.int x152_rr), .val (.long v154), .second] []))
          refine Go.st (fun _ k => XS.aload X170.here hx rfl (hb hby at_204) rfl rfl k) ?_
          show Go p.tables e below _ (T170.setTop (mkF m 206 #[.val (.long qx), .second, .val (.long qy), .second, .val (.int pm), .val (.long x1_rr), .second, .val (.long x2_rr), .second, .val (.ref b3), .val (.long v67), .second, .val (.int x10_rr), .val (.int x152_rr), .val (.long v154), .second] [(.ref b3)]))
          obtain ⟨cq174, kq174, q174a, q174b, q174c⟩ := isOf hZ (rfl : T170.heap = T170.heap) Fq170_0
          obtain ⟨_, _, ⟨T174, L174, k174, n174⟩, -, X174, ⟨Lc174, hQ174, l174, y174, z174⟩, st174⟩ := X170.virtualBack hx (y := (⟨"com/example/clotho/clotho/jsonpath/Budget", "isTouched", "()Z"⟩ : MethodName)) (z := (⟨"com/example/clotho/clotho/jsonpath/Budget", "isTouched", "()Z"⟩ : MethodName)) hown (mvT hZ (hw _ (List.mem_of_getElem? (i := 27) rfl))) (mvT hZ (hw _ (List.mem_of_getElem? (i := 28) rfl))) (notFace_of_selects (args := #[]) (mvT hZ (hw _ (List.mem_of_getElem? (i := 30) rfl)))) (mvT hZ (hw _ (List.mem_of_getElem? (i := 30) rfl))) (mvT hZ (hw _ (List.mem_of_getElem? (i := 29) rfl))) (by decide) (backOf (W := 0) (rm_touched l Z a0 hw [] b3 x170_wn T170.heap n0 Z171 Fq170_1) hZ (hw _ (List.mem_of_getElem? (i := 31) rfl)) (hw _ (List.mem_of_getElem? (i := 8) rfl)) (by decide) (by decide)) q174a q174c (g := (mkF m 206 #[.val (.long qx), .second, .val (.long qy), .second, .val (.int pm), .val (.long x1_rr), .second, .val (.long x2_rr), .second, .val (.ref b3), .val (.long v67), .second, .val (.int x10_rr), .val (.int x152_rr), .val (.long v154), .second] [(.ref b3)])) rfl (by rw [hml]; rfl) (Steps.refl _) (argsL := []) (rest := []) (lenOf pd_4 rfl) rfl (by show 2 * 0 + _ ≤ _; exact Nat.le_of_eq rfl) (hb hby at_206) (fun _ _ => ⟨rfl, (rfl : T170.heap = T170.heap), (by decide : 1 + 0 ≤ _), (by decide : 1 + 0 ≤ _)⟩)
          dsimp only [Pt.U, Pt.locs, Pt.cells, Pt.slots] at X174 l174 y174 z174 st174 hQ174
          subst l174 y174 z174
          obtain ⟨x174_rr, rfl, N174q, e174, pr174_rel⟩ := hQ174
          have N174 := Fr.app N170 N174q
          refine Go.st (fun _ k => st174.trans k) ?_
          show Go p.tables e below _ (T174.setTop (mkF m 209 #[.val (.long qx), .second, .val (.long qy), .second, .val (.int pm), .val (.long x1_rr), .second, .val (.long x2_rr), .second, .val (.ref b3), .val (.long v67), .second, .val (.int x10_rr), .val (.int x152_rr), .val (.long v154), .second] [(.int x174_rr)]))
          subst hG
          obtain ⟨fs, hr, hrun, hended, hW, hsame⟩ := X174.leave (v := some (.int (nar .boolean x174_rr))) (fun h => by rw [Bd.returns] at h; cases h)
          refine ⟨_, _, ?_, hrun, hended, _, _, rfl, ?_, ⟨_, rfl⟩, hW, hsame.mono (by decide) (by decide)⟩
          · exact retN X174 hx (t := .boolean) Bd.returns (by simp) (hb hby at_209) hr
          · show Q_law Z qx qy pm h0 n0 _ T174.heap _
            rw [e174]
            exact ⟨(by rw [show x174_rr = (1 : Int32) from own_eq32 (by omega)]; rfl), N174, K172⟩
        · skip
          have hi135 : ¬ (((0 : Int64)).toInt < (v67).toInt) := fun z => hc135 (Int64.lt_iff_toInt_lt.mpr z)
          refine Go.st (fun _ k => XS.ifYes X157.here hx rfl (pc0 := 135) (pc' := 142) rfl (hb hby at_135) rfl (Jvm.Free.XT.ll_le_t hc135) (by decide) (by decide) k) ?_
          show Go p.tables e below _ (T157.setTop (mkF m 142 #[.val (.long qx), .second, .val (.long qy), .second, .val (.int pm), .val (.long x1_rr), .second, .val (.long x2_rr), .second, .val (.ref b3), .val (.long v67), .second, .val (.int x10_rr), .val (.int x152_rr), .unset, .unset] [(.int x157_rr)]))
          refine Go.st (fun _ k => XS.iconst X157.here hx rfl (hb hby at_142) k) ?_
          show Go p.tables e below _ (T157.setTop (mkF m 143 #[.val (.long qx), .second, .val (.long qy), .second, .val (.int pm), .val (.long x1_rr), .second, .val (.long x2_rr), .second, .val (.ref b3), .val (.long v67), .second, .val (.int x10_rr), .val (.int x152_rr), .unset, .unset] [(.int (0 : Int32)), (.int x157_rr)]))
          have hc143 : x157_rr = (0 : Int32) := own_eq32 (by omega)
          have hi143 : (x157_rr).toInt = ((0 : Int32)).toInt := Int32.toInt_inj.symm.mp hc143
          refine Go.st (fun _ k => XS.icmpYes X157.here hx rfl (pc0 := 143) (pc' := 148) rfl (hb hby at_143) rfl (Jvm.Free.XT.ii_eq_t hc143) (by decide) (by decide) k) ?_
          show Go p.tables e below _ (T157.setTop (mkF m 148 #[.val (.long qx), .second, .val (.long qy), .second, .val (.int pm), .val (.long x1_rr), .second, .val (.long x2_rr), .second, .val (.ref b3), .val (.long v67), .second, .val (.int x10_rr), .val (.int x152_rr), .unset, .unset] []))
          refine Go.st (fun _ k => X157.ldc2Long hx hown (mvT hZ (hw _ (List.mem_of_getElem? (i := 18) rfl))) (g := (mkF m 148 #[.val (.long qx), .second, .val (.long qy), .second, .val (.int pm), .val (.long x1_rr), .second, .val (.long x2_rr), .second, .val (.ref b3), .val (.long v67), .second, .val (.int x10_rr), .val (.int x152_rr), .unset, .unset] [])) rfl (hb hby at_148) _ k) ?_
          show Go p.tables e below _ (T157.setTop (mkF m 151 #[.val (.long qx), .second, .val (.long qy), .second, .val (.int pm), .val (.long x1_rr), .second, .val (.long x2_rr), .second, .val (.ref b3), .val (.long v67), .second, .val (.int x10_rr), .val (.int x152_rr), .unset, .unset] [(.long (10000000 : Int64))]))
          refine Go.st (fun _ k => XS.lload X157.here hx rfl (hb hby at_151) rfl k) ?_
          show Go p.tables e below _ (T157.setTop (mkF m 153 #[.val (.long qx), .second, .val (.long qy), .second, .val (.int pm), .val (.long x1_rr), .second, .val (.long x2_rr), .second, .val (.ref b3), .val (.long v67), .second, .val (.int x10_rr), .val (.int x152_rr), .unset, .unset] [(.long v67), (.long (10000000 : Int64))]))
          refine Go.st (fun _ k => XS.lsub X157.here hx rfl (hb hby at_153) rfl k) ?_
          show Go p.tables e below _ (T157.setTop (mkF m 154 #[.val (.long qx), .second, .val (.long qy), .second, .val (.int pm), .val (.long x1_rr), .second, .val (.long x2_rr), .second, .val (.ref b3), .val (.long v67), .second, .val (.int x10_rr), .val (.int x152_rr), .unset, .unset] [(.long ((10000000 : Int64) - v67))]))
          refine Go.st (fun _ k => XS.lstore X157.here hx rfl (hb hby at_154) rfl (l' := #[.val (.long qx), .second, .val (.long qy), .second, .val (.int pm), .val (.long x1_rr), .second, .val (.long x2_rr), .second, .val (.ref b3), .val (.long v67), .second, .val (.int x10_rr), .val (.int x152_rr), .val (.long ((10000000 : Int64) - v67)), .second]) rfl k) ?_
          show Go p.tables e below _ (T157.setTop (mkF m 156 #[.val (.long qx), .second, .val (.long qy), .second, .val (.int pm), .val (.long x1_rr), .second, .val (.long x2_rr), .second, .val (.ref b3), .val (.long v67), .second, .val (.int x10_rr), .val (.int x152_rr), .val (.long ((10000000 : Int64) - v67)), .second] []))
          generalize hqv154 : ((10000000 : Int64) - v67) = v154
          have lt_1000000064 : (10000000 : Int64).toInt = 10000000 := by decide
          have hi_v154 := i64_subc (10000000 : Int64) v67
          rw [hqv154] at hi_v154
          show Go p.tables e below _ (T157.setTop (mkF m 156 #[.val (.long qx), .second, .val (.long qy), .second, .val (.int pm), .val (.long x1_rr), .second, .val (.long x2_rr), .second, .val (.ref b3), .val (.long v67), .second, .val (.int x10_rr), .val (.int x152_rr), .val (.long v154), .second] []))
          refine Go.st (fun _ k => XS.aload X157.here hx rfl (hb hby at_156) rfl rfl k) ?_
          show Go p.tables e below _ (T157.setTop (mkF m 158 #[.val (.long qx), .second, .val (.long qy), .second, .val (.int pm), .val (.long x1_rr), .second, .val (.long x2_rr), .second, .val (.ref b3), .val (.long v67), .second, .val (.int x10_rr), .val (.int x152_rr), .val (.long v154), .second] [(.ref b3)]))
          refine Go.st (fun _ k => XS.lload X157.here hx rfl (hb hby at_158) rfl k) ?_
          show Go p.tables e below _ (T157.setTop (mkF m 160 #[.val (.long qx), .second, .val (.long qy), .second, .val (.int pm), .val (.long x1_rr), .second, .val (.long x2_rr), .second, .val (.ref b3), .val (.long v67), .second, .val (.int x10_rr), .val (.int x152_rr), .val (.long v154), .second] [(.long v154), (.ref b3)]))
          refine Go.st (fun _ k => XS.lconst X157.here hx rfl (hb hby at_160) k) ?_
          show Go p.tables e below _ (T157.setTop (mkF m 161 #[.val (.long qx), .second, .val (.long qy), .second, .val (.int pm), .val (.long x1_rr), .second, .val (.long x2_rr), .second, .val (.ref b3), .val (.long v67), .second, .val (.int x10_rr), .val (.int x152_rr), .val (.long v154), .second] [(.long (1 : Int64)), (.long v154), (.ref b3)]))
          refine Go.st (fun _ k => XS.ladd X157.here hx rfl (hb hby at_161) rfl k) ?_
          show Go p.tables e below _ (T157.setTop (mkF m 162 #[.val (.long qx), .second, .val (.long qy), .second, .val (.int pm), .val (.long x1_rr), .second, .val (.long x2_rr), .second, .val (.ref b3), .val (.long v67), .second, .val (.int x10_rr), .val (.int x152_rr), .val (.long v154), .second] [(.long (v154 + (1 : Int64))), (.ref b3)]))
          generalize hqa162 : (v154 + (1 : Int64)) = a162
          have lt_164 : (1 : Int64).toInt = 1 := by decide
          have hi_a162 := i64_addc v154 (1 : Int64)
          rw [hqa162] at hi_a162
          obtain ⟨cq175, kq175, q175a, q175b, q175c⟩ := isOf hZ e157 Fq153_0
          obtain ⟨_, _, ⟨T175, L175, k175, n175⟩, -, X175, ⟨Lc175, hQ175, l175, y175, z175⟩, st175⟩ := X157.virtualBack hx (y := (⟨"com/example/clotho/clotho/jsonpath/Budget", "take", "(J)Z"⟩ : MethodName)) (z := (⟨"com/example/clotho/clotho/jsonpath/Budget", "take", "(J)Z"⟩ : MethodName)) hown (mvT hZ (hw _ (List.mem_of_getElem? (i := 19) rfl))) (mvT hZ (hw _ (List.mem_of_getElem? (i := 20) rfl))) (notFace_of_selects (args := #[]) (mvT hZ (hw _ (List.mem_of_getElem? (i := 22) rfl)))) (mvT hZ (hw _ (List.mem_of_getElem? (i := 22) rfl))) (mvT hZ (hw _ (List.mem_of_getElem? (i := 21) rfl))) (by decide) (backOf (W := 0) (rm_take l Z a0 hw [] b3 a162 x153_wn T153.heap n0 Z154 Fq153_1 Fq153_0 ge4 (by show 0 ≤ x153_wn.toInt ∧ x153_wn.toInt ≤ 10000000; exact by omega) (by show 0 ≤ a162.toInt; exact by omega)) hZ (hw _ (List.mem_of_getElem? (i := 23) rfl)) (hw _ (List.mem_of_getElem? (i := 8) rfl)) (by decide) (by decide)) q175a q175c (g := (mkF m 162 #[.val (.long qx), .second, .val (.long qy), .second, .val (.int pm), .val (.long x1_rr), .second, .val (.long x2_rr), .second, .val (.ref b3), .val (.long v67), .second, .val (.int x10_rr), .val (.int x152_rr), .val (.long v154), .second] [(.long a162), (.ref b3)])) rfl (by rw [hml]; rfl) (Steps.refl _) (argsL := [(.long a162)]) (rest := []) (lenOf pd_3 rfl) rfl (by show 2 * 0 + _ ≤ _; exact Nat.le_of_eq rfl) (hb hby at_162) (fun _ _ => ⟨rfl, e157, (by decide : 1 + 0 ≤ _), (by decide : 1 + 0 ≤ _)⟩)
          dsimp only [Pt.U, Pt.locs, Pt.cells, Pt.slots] at X175 l175 y175 z175 st175 hQ175
          subst l175 y175 z175
          obtain ⟨x175_rr, x175_wn, rfl, N175q, K175q, Fq175_0, Fq175_1, pr175_rel⟩ := hQ175
          have N175 := Fr.app N157 N175q
          refine Go.st (fun _ k => st175.trans k) ?_
          have Z176 : n0 ≤ T175.heap.size := Nat.le_trans Z154 K175q.1
          have K177 : Keep h0 T175.heap [] := K155.trans K175q (fun z hz => (List.mem_cons.mp hz).elim (fun q => by rw [q]; exact Or.inr sz5) (fun hz => absurd hz List.not_mem_nil))
          have F178 : Exa Z T175.heap b3 "com/example/clotho/clotho/jsonpath/Budget" := Fq153_0.keep K175q
          show Go p.tables e below _ (T175.setTop (mkF m 165 #[.val (.long qx), .second, .val (.long qy), .second, .val (.int pm), .val (.long x1_rr), .second, .val (.long x2_rr), .second, .val (.ref b3), .val (.long v67), .second, .val (.int x10_rr), .val (.int x152_rr), .val (.long v154), .second] [(.int x175_rr)]))
          have hc165 : x175_rr = (0 : Int32) := own_eq32 (by omega)
          have hi165 : (x175_rr).toInt = ((0 : Int32)).toInt := Int32.toInt_inj.symm.mp hc165
          refine Go.st (fun _ k => XS.ifYes X175.here hx rfl (pc0 := 165) (pc' := 170) rfl (hb hby at_165) rfl (Jvm.Free.XT.i0_eq_t hc165) (by decide) (by decide) k) ?_
          show Go p.tables e below _ (T175.setTop (mkF m 170 #[.val (.long qx), .second, .val (.long qy), .second, .val (.int pm), .val (.long x1_rr), .second, .val (.long x2_rr), .second, .val (.ref b3), .val (.long v67), .second, .val (.int x10_rr), .val (.int x152_rr), .val (.long v154), .second] []))
          refine Go.st (fun _ k => XS.aload X175.here hx rfl (hb hby at_170) rfl rfl k) ?_
          show Go p.tables e below _ (T175.setTop (mkF m 172 #[.val (.long qx), .second, .val (.long qy), .second, .val (.int pm), .val (.long x1_rr), .second, .val (.long x2_rr), .second, .val (.ref b3), .val (.long v67), .second, .val (.int x10_rr), .val (.int x152_rr), .val (.long v154), .second] [(.ref b3)]))
          refine Go.st (fun _ k => XS.lload X175.here hx rfl (hb hby at_172) rfl k) ?_
          show Go p.tables e below _ (T175.setTop (mkF m 174 #[.val (.long qx), .second, .val (.long qy), .second, .val (.int pm), .val (.long x1_rr), .second, .val (.long x2_rr), .second, .val (.ref b3), .val (.long v67), .second, .val (.int x10_rr), .val (.int x152_rr), .val (.long v154), .second] [(.long v154), (.ref b3)]))
          obtain ⟨cq179, kq179, q179a, q179b, q179c⟩ := isOf hZ (rfl : T175.heap = T175.heap) Fq175_0
          obtain ⟨_, _, ⟨T179, L179, k179, n179⟩, -, X179, ⟨Lc179, hQ179, l179, y179, z179⟩, st179⟩ := X175.virtualBack hx (y := (⟨"com/example/clotho/clotho/jsonpath/Budget", "take", "(J)Z"⟩ : MethodName)) (z := (⟨"com/example/clotho/clotho/jsonpath/Budget", "take", "(J)Z"⟩ : MethodName)) hown (mvT hZ (hw _ (List.mem_of_getElem? (i := 19) rfl))) (mvT hZ (hw _ (List.mem_of_getElem? (i := 20) rfl))) (notFace_of_selects (args := #[]) (mvT hZ (hw _ (List.mem_of_getElem? (i := 22) rfl)))) (mvT hZ (hw _ (List.mem_of_getElem? (i := 22) rfl))) (mvT hZ (hw _ (List.mem_of_getElem? (i := 21) rfl))) (by decide) (backOf (W := 0) (rm_take l Z a0 hw [] b3 v154 x175_wn T175.heap n0 Z176 Fq175_1 Fq175_0 ge4 (by show 0 ≤ x175_wn.toInt ∧ x175_wn.toInt ≤ 10000000; exact by omega) (by show 0 ≤ v154.toInt; exact by omega)) hZ (hw _ (List.mem_of_getElem? (i := 23) rfl)) (hw _ (List.mem_of_getElem? (i := 8) rfl)) (by decide) (by decide)) q179a q179c (g := (mkF m 174 #[.val (.long qx), .second, .val (.long qy), .second, .val (.int pm), .val (.long x1_rr), .second, .val (.long x2_rr), .second, .val (.ref b3), .val (.long v67), .second, .val (.int x10_rr), .val (.int x152_rr), .val (.long v154), .second] [(.long v154), (.ref b3)])) rfl (by rw [hml]; rfl) (Steps.refl _) (argsL := [(.long v154)]) (rest := []) (lenOf pd_3 rfl) rfl (by show 2 * 0 + _ ≤ _; exact Nat.le_of_eq rfl) (hb hby at_174) (fun _ _ => ⟨rfl, (rfl : T175.heap = T175.heap), (by decide : 1 + 0 ≤ _), (by decide : 1 + 0 ≤ _)⟩)
          dsimp only [Pt.U, Pt.locs, Pt.cells, Pt.slots] at X179 l179 y179 z179 st179 hQ179
          subst l179 y179 z179
          obtain ⟨x179_rr, x179_wn, rfl, N179q, K179q, Fq179_0, Fq179_1, pr179_rel⟩ := hQ179
          have N179 := Fr.app N175 N179q
          refine Go.st (fun _ k => st179.trans k) ?_
          have Z180 : n0 ≤ T179.heap.size := Nat.le_trans Z176 K179q.1
          have K181 : Keep h0 T179.heap [] := K177.trans K179q (fun z hz => (List.mem_cons.mp hz).elim (fun q => by rw [q]; exact Or.inr sz5) (fun hz => absurd hz List.not_mem_nil))
          have F182 : Exa Z T179.heap b3 "com/example/clotho/clotho/jsonpath/Budget" := Fq175_0.keep K179q
          show Go p.tables e below _ (T179.setTop (mkF m 177 #[.val (.long qx), .second, .val (.long qy), .second, .val (.int pm), .val (.long x1_rr), .second, .val (.long x2_rr), .second, .val (.ref b3), .val (.long v67), .second, .val (.int x10_rr), .val (.int x152_rr), .val (.long v154), .second] [(.int x179_rr)]))
          have hc177 : ¬ (x179_rr = (0 : Int32)) := own_ne32 (by omega)
          have hi177 : ¬ ((x179_rr).toInt = ((0 : Int32)).toInt) := fun z => hc177 (Int32.toInt_inj.symm.mpr z)
          refine Go.st (fun _ k => XS.ifYes X179.here hx rfl (pc0 := 177) (pc' := 182) rfl (hb hby at_177) rfl (Jvm.Free.XT.i0_ne_t hc177) (by decide) (by decide) k) ?_
          show Go p.tables e below _ (T179.setTop (mkF m 182 #[.val (.long qx), .second, .val (.long qy), .second, .val (.int pm), .val (.long x1_rr), .second, .val (.long x2_rr), .second, .val (.ref b3), .val (.long v67), .second, .val (.int x10_rr), .val (.int x152_rr), .val (.long v154), .second] []))
          refine Go.st (fun _ k => XS.aload X179.here hx rfl (hb hby at_182) rfl rfl k) ?_
          show Go p.tables e below _ (T179.setTop (mkF m 184 #[.val (.long qx), .second, .val (.long qy), .second, .val (.int pm), .val (.long x1_rr), .second, .val (.long x2_rr), .second, .val (.ref b3), .val (.long v67), .second, .val (.int x10_rr), .val (.int x152_rr), .val (.long v154), .second] [(.ref b3)]))
          refine Go.st (fun _ k => XS.lconst X179.here hx rfl (hb hby at_184) k) ?_
          show Go p.tables e below _ (T179.setTop (mkF m 185 #[.val (.long qx), .second, .val (.long qy), .second, .val (.int pm), .val (.long x1_rr), .second, .val (.long x2_rr), .second, .val (.ref b3), .val (.long v67), .second, .val (.int x10_rr), .val (.int x152_rr), .val (.long v154), .second] [(.long (1 : Int64)), (.ref b3)]))
          obtain ⟨cq183, kq183, q183a, q183b, q183c⟩ := isOf hZ (rfl : T179.heap = T179.heap) Fq179_0
          obtain ⟨_, _, ⟨T183, L183, k183, n183⟩, -, X183, ⟨Lc183, hQ183, l183, y183, z183⟩, st183⟩ := X179.virtualBack hx (y := (⟨"com/example/clotho/clotho/jsonpath/Budget", "take", "(J)Z"⟩ : MethodName)) (z := (⟨"com/example/clotho/clotho/jsonpath/Budget", "take", "(J)Z"⟩ : MethodName)) hown (mvT hZ (hw _ (List.mem_of_getElem? (i := 19) rfl))) (mvT hZ (hw _ (List.mem_of_getElem? (i := 20) rfl))) (notFace_of_selects (args := #[]) (mvT hZ (hw _ (List.mem_of_getElem? (i := 22) rfl)))) (mvT hZ (hw _ (List.mem_of_getElem? (i := 22) rfl))) (mvT hZ (hw _ (List.mem_of_getElem? (i := 21) rfl))) (by decide) (backOf (W := 0) (rm_take l Z a0 hw [] b3 (1 : Int64) x179_wn T179.heap n0 Z180 Fq179_1 Fq179_0 ge4 (by show 0 ≤ x179_wn.toInt ∧ x179_wn.toInt ≤ 10000000; exact by omega) (by show 0 ≤ (1 : Int64).toInt; exact by omega)) hZ (hw _ (List.mem_of_getElem? (i := 23) rfl)) (hw _ (List.mem_of_getElem? (i := 8) rfl)) (by decide) (by decide)) q183a q183c (g := (mkF m 185 #[.val (.long qx), .second, .val (.long qy), .second, .val (.int pm), .val (.long x1_rr), .second, .val (.long x2_rr), .second, .val (.ref b3), .val (.long v67), .second, .val (.int x10_rr), .val (.int x152_rr), .val (.long v154), .second] [(.long (1 : Int64)), (.ref b3)])) rfl (by rw [hml]; rfl) (Steps.refl _) (argsL := [(.long (1 : Int64))]) (rest := []) (lenOf pd_3 rfl) rfl (by show 2 * 0 + _ ≤ _; exact Nat.le_of_eq rfl) (hb hby at_185) (fun _ _ => ⟨rfl, (rfl : T179.heap = T179.heap), (by decide : 1 + 0 ≤ _), (by decide : 1 + 0 ≤ _)⟩)
          dsimp only [Pt.U, Pt.locs, Pt.cells, Pt.slots] at X183 l183 y183 z183 st183 hQ183
          subst l183 y183 z183
          obtain ⟨x183_rr, x183_wn, rfl, N183q, K183q, Fq183_0, Fq183_1, pr183_rel⟩ := hQ183
          have N183 := Fr.app N179 N183q
          refine Go.st (fun _ k => st183.trans k) ?_
          have Z184 : n0 ≤ T183.heap.size := Nat.le_trans Z180 K183q.1
          have K185 : Keep h0 T183.heap [] := K181.trans K183q (fun z hz => (List.mem_cons.mp hz).elim (fun q => by rw [q]; exact Or.inr sz5) (fun hz => absurd hz List.not_mem_nil))
          have F186 : Exa Z T183.heap b3 "com/example/clotho/clotho/jsonpath/Budget" := Fq179_0.keep K183q
          show Go p.tables e below _ (T183.setTop (mkF m 188 #[.val (.long qx), .second, .val (.long qy), .second, .val (.int pm), .val (.long x1_rr), .second, .val (.long x2_rr), .second, .val (.ref b3), .val (.long v67), .second, .val (.int x10_rr), .val (.int x152_rr), .val (.long v154), .second] [(.int x183_rr)]))
          have hc188 : x183_rr = (0 : Int32) := own_eq32 (by omega)
          have hi188 : (x183_rr).toInt = ((0 : Int32)).toInt := Int32.toInt_inj.symm.mp hc188
          refine Go.st (fun _ k => XS.ifYes X183.here hx rfl (pc0 := 188) (pc' := 193) rfl (hb hby at_188) rfl (Jvm.Free.XT.i0_eq_t hc188) (by decide) (by decide) k) ?_
          show Go p.tables e below _ (T183.setTop (mkF m 193 #[.val (.long qx), .second, .val (.long qy), .second, .val (.int pm), .val (.long x1_rr), .second, .val (.long x2_rr), .second, .val (.ref b3), .val (.long v67), .second, .val (.int x10_rr), .val (.int x152_rr), .val (.long v154), .second] []))
          refine Go.st (fun _ k => XS.aload X183.here hx rfl (hb hby at_193) rfl rfl k) ?_
          show Go p.tables e below _ (T183.setTop (mkF m 195 #[.val (.long qx), .second, .val (.long qy), .second, .val (.int pm), .val (.long x1_rr), .second, .val (.long x2_rr), .second, .val (.ref b3), .val (.long v67), .second, .val (.int x10_rr), .val (.int x152_rr), .val (.long v154), .second] [(.ref b3)]))
          refine Go.st (fun _ k => XS.lconst X183.here hx rfl (hb hby at_195) k) ?_
          show Go p.tables e below _ (T183.setTop (mkF m 196 #[.val (.long qx), .second, .val (.long qy), .second, .val (.int pm), .val (.long x1_rr), .second, .val (.long x2_rr), .second, .val (.ref b3), .val (.long v67), .second, .val (.int x10_rr), .val (.int x152_rr), .val (.long v154), .second] [(.long (0 : Int64)), (.ref b3)]))
          obtain ⟨cq187, kq187, q187a, q187b, q187c⟩ := isOf hZ (rfl : T183.heap = T183.heap) Fq183_0
          obtain ⟨_, _, ⟨T187, L187, k187, n187⟩, -, X187, ⟨Lc187, hQ187, l187, y187, z187⟩, st187⟩ := X183.virtualBack hx (y := (⟨"com/example/clotho/clotho/jsonpath/Budget", "take", "(J)Z"⟩ : MethodName)) (z := (⟨"com/example/clotho/clotho/jsonpath/Budget", "take", "(J)Z"⟩ : MethodName)) hown (mvT hZ (hw _ (List.mem_of_getElem? (i := 19) rfl))) (mvT hZ (hw _ (List.mem_of_getElem? (i := 20) rfl))) (notFace_of_selects (args := #[]) (mvT hZ (hw _ (List.mem_of_getElem? (i := 22) rfl)))) (mvT hZ (hw _ (List.mem_of_getElem? (i := 22) rfl))) (mvT hZ (hw _ (List.mem_of_getElem? (i := 21) rfl))) (by decide) (backOf (W := 0) (rm_take l Z a0 hw [] b3 (0 : Int64) x183_wn T183.heap n0 Z184 Fq183_1 Fq183_0 ge4 (by show 0 ≤ x183_wn.toInt ∧ x183_wn.toInt ≤ 10000000; exact by omega) (by show 0 ≤ (0 : Int64).toInt; exact by omega)) hZ (hw _ (List.mem_of_getElem? (i := 23) rfl)) (hw _ (List.mem_of_getElem? (i := 8) rfl)) (by decide) (by decide)) q187a q187c (g := (mkF m 196 #[.val (.long qx), .second, .val (.long qy), .second, .val (.int pm), .val (.long x1_rr), .second, .val (.long x2_rr), .second, .val (.ref b3), .val (.long v67), .second, .val (.int x10_rr), .val (.int x152_rr), .val (.long v154), .second] [(.long (0 : Int64)), (.ref b3)])) rfl (by rw [hml]; rfl) (Steps.refl _) (argsL := [(.long (0 : Int64))]) (rest := []) (lenOf pd_3 rfl) rfl (by show 2 * 0 + _ ≤ _; exact Nat.le_of_eq rfl) (hb hby at_196) (fun _ _ => ⟨rfl, (rfl : T183.heap = T183.heap), (by decide : 1 + 0 ≤ _), (by decide : 1 + 0 ≤ _)⟩)
          dsimp only [Pt.U, Pt.locs, Pt.cells, Pt.slots] at X187 l187 y187 z187 st187 hQ187
          subst l187 y187 z187
          obtain ⟨x187_rr, x187_wn, rfl, N187q, K187q, Fq187_0, Fq187_1, pr187_rel⟩ := hQ187
          have N187 := Fr.app N183 N187q
          refine Go.st (fun _ k => st187.trans k) ?_
          have Z188 : n0 ≤ T187.heap.size := Nat.le_trans Z184 K187q.1
          have K189 : Keep h0 T187.heap [] := K185.trans K187q (fun z hz => (List.mem_cons.mp hz).elim (fun q => by rw [q]; exact Or.inr sz5) (fun hz => absurd hz List.not_mem_nil))
          have F190 : Exa Z T187.heap b3 "com/example/clotho/clotho/jsonpath/Budget" := Fq183_0.keep K187q
          show Go p.tables e below _ (T187.setTop (mkF m 199 #[.val (.long qx), .second, .val (.long qy), .second, .val (.int pm), .val (.long x1_rr), .second, .val (.long x2_rr), .second, .val (.ref b3), .val (.long v67), .second, .val (.int x10_rr), .val (.int x152_rr), .val (.long v154), .second] [(.int x187_rr)]))
          have hc199 : ¬ (x187_rr = (0 : Int32)) := own_ne32 (by omega)
          have hi199 : ¬ ((x187_rr).toInt = ((0 : Int32)).toInt) := fun z => hc199 (Int32.toInt_inj.symm.mpr z)
          refine Go.st (fun _ k => XS.ifYes X187.here hx rfl (pc0 := 199) (pc' := 204) rfl (hb hby at_199) rfl (Jvm.Free.XT.i0_ne_t hc199) (by decide) (by decide) k) ?_
          show Go p.tables e below _ (T187.setTop (mkF m 204 #[.val (.long qx), .second, .val (.long qy), .second, .val (.int pm), .val (.long x1_rr), .second, .val (.long x2_rr), .second, .val (.ref b3), .val (.long v67), .second, .val (.int x10_rr), .val (.int x152_rr), .val (.long v154), .second] []))
          refine Go.st (fun _ k => XS.aload X187.here hx rfl (hb hby at_204) rfl rfl k) ?_
          show Go p.tables e below _ (T187.setTop (mkF m 206 #[.val (.long qx), .second, .val (.long qy), .second, .val (.int pm), .val (.long x1_rr), .second, .val (.long x2_rr), .second, .val (.ref b3), .val (.long v67), .second, .val (.int x10_rr), .val (.int x152_rr), .val (.long v154), .second] [(.ref b3)]))
          obtain ⟨cq191, kq191, q191a, q191b, q191c⟩ := isOf hZ (rfl : T187.heap = T187.heap) Fq187_0
          obtain ⟨_, _, ⟨T191, L191, k191, n191⟩, -, X191, ⟨Lc191, hQ191, l191, y191, z191⟩, st191⟩ := X187.virtualBack hx (y := (⟨"com/example/clotho/clotho/jsonpath/Budget", "isTouched", "()Z"⟩ : MethodName)) (z := (⟨"com/example/clotho/clotho/jsonpath/Budget", "isTouched", "()Z"⟩ : MethodName)) hown (mvT hZ (hw _ (List.mem_of_getElem? (i := 27) rfl))) (mvT hZ (hw _ (List.mem_of_getElem? (i := 28) rfl))) (notFace_of_selects (args := #[]) (mvT hZ (hw _ (List.mem_of_getElem? (i := 30) rfl)))) (mvT hZ (hw _ (List.mem_of_getElem? (i := 30) rfl))) (mvT hZ (hw _ (List.mem_of_getElem? (i := 29) rfl))) (by decide) (backOf (W := 0) (rm_touched l Z a0 hw [] b3 x187_wn T187.heap n0 Z188 Fq187_1) hZ (hw _ (List.mem_of_getElem? (i := 31) rfl)) (hw _ (List.mem_of_getElem? (i := 8) rfl)) (by decide) (by decide)) q191a q191c (g := (mkF m 206 #[.val (.long qx), .second, .val (.long qy), .second, .val (.int pm), .val (.long x1_rr), .second, .val (.long x2_rr), .second, .val (.ref b3), .val (.long v67), .second, .val (.int x10_rr), .val (.int x152_rr), .val (.long v154), .second] [(.ref b3)])) rfl (by rw [hml]; rfl) (Steps.refl _) (argsL := []) (rest := []) (lenOf pd_4 rfl) rfl (by show 2 * 0 + _ ≤ _; exact Nat.le_of_eq rfl) (hb hby at_206) (fun _ _ => ⟨rfl, (rfl : T187.heap = T187.heap), (by decide : 1 + 0 ≤ _), (by decide : 1 + 0 ≤ _)⟩)
          dsimp only [Pt.U, Pt.locs, Pt.cells, Pt.slots] at X191 l191 y191 z191 st191 hQ191
          subst l191 y191 z191
          obtain ⟨x191_rr, rfl, N191q, e191, pr191_rel⟩ := hQ191
          have N191 := Fr.app N187 N191q
          refine Go.st (fun _ k => st191.trans k) ?_
          show Go p.tables e below _ (T191.setTop (mkF m 209 #[.val (.long qx), .second, .val (.long qy), .second, .val (.int pm), .val (.long x1_rr), .second, .val (.long x2_rr), .second, .val (.ref b3), .val (.long v67), .second, .val (.int x10_rr), .val (.int x152_rr), .val (.long v154), .second] [(.int x191_rr)]))
          subst hG
          obtain ⟨fs, hr, hrun, hended, hW, hsame⟩ := X191.leave (v := some (.int (nar .boolean x191_rr))) (fun h => by rw [Bd.returns] at h; cases h)
          refine ⟨_, _, ?_, hrun, hended, _, _, rfl, ?_, ⟨_, rfl⟩, hW, hsame.mono (by decide) (by decide)⟩
          · exact retN X191 hx (t := .boolean) Bd.returns (by simp) (hb hby at_209) hr
          · show Q_law Z qx qy pm h0 n0 _ T191.heap _
            rw [e191]
            exact ⟨(by rw [show x191_rr = (1 : Int32) from own_eq32 (by omega)]; rfl), N191, K189⟩
      · skip
        have hi116 : ¬ ((x152_rr).toInt = ((0 : Int32)).toInt) := fun z => hc116 (Int32.toInt_inj.symm.mpr z)
        refine Go.st (fun _ k => XS.ifNo X153.here hx rfl (hb hby at_116) rfl (Jvm.Free.XT.i0_eq_f hc116) k) ?_
        show Go p.tables e below _ (T153.setTop (mkF m 119 #[.val (.long qx), .second, .val (.long qy), .second, .val (.int pm), .val (.long x1_rr), .second, .val (.long x2_rr), .second, .val (.ref b3), .val (.long v67), .second, .val (.int x10_rr), .val (.int x152_rr), .unset, .unset] []))
        refine Go.st (fun _ k => XS.lload X153.here hx rfl (hb hby at_119) rfl k) ?_
        show Go p.tables e below _ (T153.setTop (mkF m 121 #[.val (.long qx), .second, .val (.long qy), .second, .val (.int pm), .val (.long x1_rr), .second, .val (.long x2_rr), .second, .val (.ref b3), .val (.long v67), .second, .val (.int x10_rr), .val (.int x152_rr), .unset, .unset] [(.long v67)]))
        refine Go.st (fun _ k => XS.lload X153.here hx rfl (hb hby at_121) rfl k) ?_
        show Go p.tables e below _ (T153.setTop (mkF m 123 #[.val (.long qx), .second, .val (.long qy), .second, .val (.int pm), .val (.long x1_rr), .second, .val (.long x2_rr), .second, .val (.ref b3), .val (.long v67), .second, .val (.int x10_rr), .val (.int x152_rr), .unset, .unset] [(.long x2_rr), (.long v67)]))
        refine Go.st (fun _ k => XS.ladd X153.here hx rfl (hb hby at_123) rfl k) ?_
        show Go p.tables e below _ (T153.setTop (mkF m 124 #[.val (.long qx), .second, .val (.long qy), .second, .val (.int pm), .val (.long x1_rr), .second, .val (.long x2_rr), .second, .val (.ref b3), .val (.long v67), .second, .val (.int x10_rr), .val (.int x152_rr), .unset, .unset] [(.long (v67 + x2_rr))]))
        refine Go.st (fun _ k => XS.lstore X153.here hx rfl (hb hby at_124) rfl (l' := #[.val (.long qx), .second, .val (.long qy), .second, .val (.int pm), .val (.long x1_rr), .second, .val (.long x2_rr), .second, .val (.ref b3), .val (.long (v67 + x2_rr)), .second, .val (.int x10_rr), .val (.int x152_rr), .unset, .unset]) rfl k) ?_
        show Go p.tables e below _ (T153.setTop (mkF m 126 #[.val (.long qx), .second, .val (.long qy), .second, .val (.int pm), .val (.long x1_rr), .second, .val (.long x2_rr), .second, .val (.ref b3), .val (.long (v67 + x2_rr)), .second, .val (.int x10_rr), .val (.int x152_rr), .unset, .unset] []))
        generalize hqv124 : (v67 + x2_rr) = v124
        have hi_v124 := i64_addc v67 x2_rr
        rw [hqv124] at hi_v124
        show Go p.tables e below _ (T153.setTop (mkF m 126 #[.val (.long qx), .second, .val (.long qy), .second, .val (.int pm), .val (.long x1_rr), .second, .val (.long x2_rr), .second, .val (.ref b3), .val (.long v124), .second, .val (.int x10_rr), .val (.int x152_rr), .unset, .unset] []))
        refine Go.st (fun _ k => XS.aload X153.here hx rfl (hb hby at_126) rfl rfl k) ?_
        show Go p.tables e below _ (T153.setTop (mkF m 128 #[.val (.long qx), .second, .val (.long qy), .second, .val (.int pm), .val (.long x1_rr), .second, .val (.long x2_rr), .second, .val (.ref b3), .val (.long v124), .second, .val (.int x10_rr), .val (.int x152_rr), .unset, .unset] [(.ref b3)]))
        obtain ⟨cq192, kq192, q192a, q192b, q192c⟩ := isOf hZ (rfl : T153.heap = T153.heap) Fq153_0
        obtain ⟨_, _, ⟨T192, L192, k192, n192⟩, -, X192, ⟨Lc192, hQ192, l192, y192, z192⟩, st192⟩ := X153.virtualBack hx (y := (⟨"com/example/clotho/clotho/jsonpath/Budget", "isTouched", "()Z"⟩ : MethodName)) (z := (⟨"com/example/clotho/clotho/jsonpath/Budget", "isTouched", "()Z"⟩ : MethodName)) hown (mvT hZ (hw _ (List.mem_of_getElem? (i := 27) rfl))) (mvT hZ (hw _ (List.mem_of_getElem? (i := 28) rfl))) (notFace_of_selects (args := #[]) (mvT hZ (hw _ (List.mem_of_getElem? (i := 30) rfl)))) (mvT hZ (hw _ (List.mem_of_getElem? (i := 30) rfl))) (mvT hZ (hw _ (List.mem_of_getElem? (i := 29) rfl))) (by decide) (backOf (W := 0) (rm_touched l Z a0 hw [] b3 x153_wn T153.heap n0 Z154 Fq153_1) hZ (hw _ (List.mem_of_getElem? (i := 31) rfl)) (hw _ (List.mem_of_getElem? (i := 8) rfl)) (by decide) (by decide)) q192a q192c (g := (mkF m 128 #[.val (.long qx), .second, .val (.long qy), .second, .val (.int pm), .val (.long x1_rr), .second, .val (.long x2_rr), .second, .val (.ref b3), .val (.long v124), .second, .val (.int x10_rr), .val (.int x152_rr), .unset, .unset] [(.ref b3)])) rfl (by rw [hml]; rfl) (Steps.refl _) (argsL := []) (rest := []) (lenOf pd_4 rfl) rfl (by show 2 * 0 + _ ≤ _; exact Nat.le_of_eq rfl) (hb hby at_128) (fun _ _ => ⟨rfl, (rfl : T153.heap = T153.heap), (by decide : 1 + 0 ≤ _), (by decide : 1 + 0 ≤ _)⟩)
        dsimp only [Pt.U, Pt.locs, Pt.cells, Pt.slots] at X192 l192 y192 z192 st192 hQ192
        subst l192 y192 z192
        obtain ⟨x192_rr, rfl, N192q, e192, pr192_rel⟩ := hQ192
        have N192 := Fr.app N153 N192q
        refine Go.st (fun _ k => st192.trans k) ?_
        show Go p.tables e below _ (T192.setTop (mkF m 131 #[.val (.long qx), .second, .val (.long qy), .second, .val (.int pm), .val (.long x1_rr), .second, .val (.long x2_rr), .second, .val (.ref b3), .val (.long v124), .second, .val (.int x10_rr), .val (.int x152_rr), .unset, .unset] [(.int x192_rr)]))
        refine Go.st (fun _ k => XS.lload X192.here hx rfl (hb hby at_131) rfl k) ?_
        show Go p.tables e below _ (T192.setTop (mkF m 133 #[.val (.long qx), .second, .val (.long qy), .second, .val (.int pm), .val (.long x1_rr), .second, .val (.long x2_rr), .second, .val (.ref b3), .val (.long v124), .second, .val (.int x10_rr), .val (.int x152_rr), .unset, .unset] [(.long v124), (.int x192_rr)]))
        refine Go.st (fun _ k => XS.lconst X192.here hx rfl (hb hby at_133) k) ?_
        show Go p.tables e below _ (T192.setTop (mkF m 134 #[.val (.long qx), .second, .val (.long qy), .second, .val (.int pm), .val (.long x1_rr), .second, .val (.long x2_rr), .second, .val (.ref b3), .val (.long v124), .second, .val (.int x10_rr), .val (.int x152_rr), .unset, .unset] [(.long (0 : Int64)), (.long v124), (.int x192_rr)]))
        refine Go.st (fun _ k => Jvm.Free.XT.lcmp X192.here hx rfl (hb hby at_134) rfl k) ?_
        show Go p.tables e below _ (T192.setTop (mkF m 135 #[.val (.long qx), .second, .val (.long qy), .second, .val (.int pm), .val (.long x1_rr), .second, .val (.long x2_rr), .second, .val (.ref b3), .val (.long v124), .second, .val (.int x10_rr), .val (.int x152_rr), .unset, .unset] [(.int (Jvm.Free.XT.cmpL v124 (0 : Int64))), (.int x192_rr)]))
        by_cases hc135 : (0 : Int64) < v124
        · skip
          have hi135 : ((0 : Int64)).toInt < (v124).toInt := Int64.lt_iff_toInt_lt.mp hc135
          refine Go.st (fun _ k => XS.ifNo X192.here hx rfl (hb hby at_135) rfl (Jvm.Free.XT.ll_le_f hc135) k) ?_
          show Go p.tables e below _ (T192.setTop (mkF m 138 #[.val (.long qx), .second, .val (.long qy), .second, .val (.int pm), .val (.long x1_rr), .second, .val (.long x2_rr), .second, .val (.ref b3), .val (.long v124), .second, .val (.int x10_rr), .val (.int x152_rr), .unset, .unset] [(.int x192_rr)]))
          refine Go.st (fun _ k => XS.iconst X192.here hx rfl (hb hby at_138) k) ?_
          show Go p.tables e below _ (T192.setTop (mkF m 139 #[.val (.long qx), .second, .val (.long qy), .second, .val (.int pm), .val (.long x1_rr), .second, .val (.long x2_rr), .second, .val (.ref b3), .val (.long v124), .second, .val (.int x10_rr), .val (.int x152_rr), .unset, .unset] [(.int (1 : Int32)), (.int x192_rr)]))
          refine Go.st (fun _ k => XS.goto X192.here hx rfl (pc0 := 139) (pc' := 143) rfl (hb hby at_139) (by decide) (by decide) k) ?_
          show Go p.tables e below _ (T192.setTop (mkF m 143 #[.val (.long qx), .second, .val (.long qy), .second, .val (.int pm), .val (.long x1_rr), .second, .val (.long x2_rr), .second, .val (.ref b3), .val (.long v124), .second, .val (.int x10_rr), .val (.int x152_rr), .unset, .unset] [(.int (1 : Int32)), (.int x192_rr)]))
          have hc143 : x192_rr = (1 : Int32) := own_eq32 (by omega)
          have hi143 : (x192_rr).toInt = ((1 : Int32)).toInt := Int32.toInt_inj.symm.mp hc143
          refine Go.st (fun _ k => XS.icmpYes X192.here hx rfl (pc0 := 143) (pc' := 148) rfl (hb hby at_143) rfl (Jvm.Free.XT.ii_eq_t hc143) (by decide) (by decide) k) ?_
          show Go p.tables e below _ (T192.setTop (mkF m 148 #[.val (.long qx), .second, .val (.long qy), .second, .val (.int pm), .val (.long x1_rr), .second, .val (.long x2_rr), .second, .val (.ref b3), .val (.long v124), .second, .val (.int x10_rr), .val (.int x152_rr), .unset, .unset] []))
          refine Go.st (fun _ k => X192.ldc2Long hx hown (mvT hZ (hw _ (List.mem_of_getElem? (i := 18) rfl))) (g := (mkF m 148 #[.val (.long qx), .second, .val (.long qy), .second, .val (.int pm), .val (.long x1_rr), .second, .val (.long x2_rr), .second, .val (.ref b3), .val (.long v124), .second, .val (.int x10_rr), .val (.int x152_rr), .unset, .unset] [])) rfl (hb hby at_148) _ k) ?_
          show Go p.tables e below _ (T192.setTop (mkF m 151 #[.val (.long qx), .second, .val (.long qy), .second, .val (.int pm), .val (.long x1_rr), .second, .val (.long x2_rr), .second, .val (.ref b3), .val (.long v124), .second, .val (.int x10_rr), .val (.int x152_rr), .unset, .unset] [(.long (10000000 : Int64))]))
          refine Go.st (fun _ k => XS.lload X192.here hx rfl (hb hby at_151) rfl k) ?_
          show Go p.tables e below _ (T192.setTop (mkF m 153 #[.val (.long qx), .second, .val (.long qy), .second, .val (.int pm), .val (.long x1_rr), .second, .val (.long x2_rr), .second, .val (.ref b3), .val (.long v124), .second, .val (.int x10_rr), .val (.int x152_rr), .unset, .unset] [(.long v124), (.long (10000000 : Int64))]))
          refine Go.st (fun _ k => XS.lsub X192.here hx rfl (hb hby at_153) rfl k) ?_
          show Go p.tables e below _ (T192.setTop (mkF m 154 #[.val (.long qx), .second, .val (.long qy), .second, .val (.int pm), .val (.long x1_rr), .second, .val (.long x2_rr), .second, .val (.ref b3), .val (.long v124), .second, .val (.int x10_rr), .val (.int x152_rr), .unset, .unset] [(.long ((10000000 : Int64) - v124))]))
          refine Go.st (fun _ k => XS.lstore X192.here hx rfl (hb hby at_154) rfl (l' := #[.val (.long qx), .second, .val (.long qy), .second, .val (.int pm), .val (.long x1_rr), .second, .val (.long x2_rr), .second, .val (.ref b3), .val (.long v124), .second, .val (.int x10_rr), .val (.int x152_rr), .val (.long ((10000000 : Int64) - v124)), .second]) rfl k) ?_
          show Go p.tables e below _ (T192.setTop (mkF m 156 #[.val (.long qx), .second, .val (.long qy), .second, .val (.int pm), .val (.long x1_rr), .second, .val (.long x2_rr), .second, .val (.ref b3), .val (.long v124), .second, .val (.int x10_rr), .val (.int x152_rr), .val (.long ((10000000 : Int64) - v124)), .second] []))
          generalize hqv154 : ((10000000 : Int64) - v124) = v154
          have lt_1000000064 : (10000000 : Int64).toInt = 10000000 := by decide
          have hi_v154 := i64_subc (10000000 : Int64) v124
          rw [hqv154] at hi_v154
          show Go p.tables e below _ (T192.setTop (mkF m 156 #[.val (.long qx), .second, .val (.long qy), .second, .val (.int pm), .val (.long x1_rr), .second, .val (.long x2_rr), .second, .val (.ref b3), .val (.long v124), .second, .val (.int x10_rr), .val (.int x152_rr), .val (.long v154), .second] []))
          refine Go.st (fun _ k => XS.aload X192.here hx rfl (hb hby at_156) rfl rfl k) ?_
          show Go p.tables e below _ (T192.setTop (mkF m 158 #[.val (.long qx), .second, .val (.long qy), .second, .val (.int pm), .val (.long x1_rr), .second, .val (.long x2_rr), .second, .val (.ref b3), .val (.long v124), .second, .val (.int x10_rr), .val (.int x152_rr), .val (.long v154), .second] [(.ref b3)]))
          refine Go.st (fun _ k => XS.lload X192.here hx rfl (hb hby at_158) rfl k) ?_
          show Go p.tables e below _ (T192.setTop (mkF m 160 #[.val (.long qx), .second, .val (.long qy), .second, .val (.int pm), .val (.long x1_rr), .second, .val (.long x2_rr), .second, .val (.ref b3), .val (.long v124), .second, .val (.int x10_rr), .val (.int x152_rr), .val (.long v154), .second] [(.long v154), (.ref b3)]))
          refine Go.st (fun _ k => XS.lconst X192.here hx rfl (hb hby at_160) k) ?_
          show Go p.tables e below _ (T192.setTop (mkF m 161 #[.val (.long qx), .second, .val (.long qy), .second, .val (.int pm), .val (.long x1_rr), .second, .val (.long x2_rr), .second, .val (.ref b3), .val (.long v124), .second, .val (.int x10_rr), .val (.int x152_rr), .val (.long v154), .second] [(.long (1 : Int64)), (.long v154), (.ref b3)]))
          refine Go.st (fun _ k => XS.ladd X192.here hx rfl (hb hby at_161) rfl k) ?_
          show Go p.tables e below _ (T192.setTop (mkF m 162 #[.val (.long qx), .second, .val (.long qy), .second, .val (.int pm), .val (.long x1_rr), .second, .val (.long x2_rr), .second, .val (.ref b3), .val (.long v124), .second, .val (.int x10_rr), .val (.int x152_rr), .val (.long v154), .second] [(.long (v154 + (1 : Int64))), (.ref b3)]))
          generalize hqa162 : (v154 + (1 : Int64)) = a162
          have lt_164 : (1 : Int64).toInt = 1 := by decide
          have hi_a162 := i64_addc v154 (1 : Int64)
          rw [hqa162] at hi_a162
          obtain ⟨cq193, kq193, q193a, q193b, q193c⟩ := isOf hZ e192 Fq153_0
          obtain ⟨_, _, ⟨T193, L193, k193, n193⟩, -, X193, ⟨Lc193, hQ193, l193, y193, z193⟩, st193⟩ := X192.virtualBack hx (y := (⟨"com/example/clotho/clotho/jsonpath/Budget", "take", "(J)Z"⟩ : MethodName)) (z := (⟨"com/example/clotho/clotho/jsonpath/Budget", "take", "(J)Z"⟩ : MethodName)) hown (mvT hZ (hw _ (List.mem_of_getElem? (i := 19) rfl))) (mvT hZ (hw _ (List.mem_of_getElem? (i := 20) rfl))) (notFace_of_selects (args := #[]) (mvT hZ (hw _ (List.mem_of_getElem? (i := 22) rfl)))) (mvT hZ (hw _ (List.mem_of_getElem? (i := 22) rfl))) (mvT hZ (hw _ (List.mem_of_getElem? (i := 21) rfl))) (by decide) (backOf (W := 0) (rm_take l Z a0 hw [] b3 a162 x153_wn T153.heap n0 Z154 Fq153_1 Fq153_0 ge4 (by show 0 ≤ x153_wn.toInt ∧ x153_wn.toInt ≤ 10000000; exact by omega) (by show 0 ≤ a162.toInt; exact by omega)) hZ (hw _ (List.mem_of_getElem? (i := 23) rfl)) (hw _ (List.mem_of_getElem? (i := 8) rfl)) (by decide) (by decide)) q193a q193c (g := (mkF m 162 #[.val (.long qx), .second, .val (.long qy), .second, .val (.int pm), .val (.long x1_rr), .second, .val (.long x2_rr), .second, .val (.ref b3), .val (.long v124), .second, .val (.int x10_rr), .val (.int x152_rr), .val (.long v154), .second] [(.long a162), (.ref b3)])) rfl (by rw [hml]; rfl) (Steps.refl _) (argsL := [(.long a162)]) (rest := []) (lenOf pd_3 rfl) rfl (by show 2 * 0 + _ ≤ _; exact Nat.le_of_eq rfl) (hb hby at_162) (fun _ _ => ⟨rfl, e192, (by decide : 1 + 0 ≤ _), (by decide : 1 + 0 ≤ _)⟩)
          dsimp only [Pt.U, Pt.locs, Pt.cells, Pt.slots] at X193 l193 y193 z193 st193 hQ193
          subst l193 y193 z193
          obtain ⟨x193_rr, x193_wn, rfl, N193q, K193q, Fq193_0, Fq193_1, pr193_rel⟩ := hQ193
          have N193 := Fr.app N192 N193q
          refine Go.st (fun _ k => st193.trans k) ?_
          have Z194 : n0 ≤ T193.heap.size := Nat.le_trans Z154 K193q.1
          have K195 : Keep h0 T193.heap [] := K155.trans K193q (fun z hz => (List.mem_cons.mp hz).elim (fun q => by rw [q]; exact Or.inr sz5) (fun hz => absurd hz List.not_mem_nil))
          have F196 : Exa Z T193.heap b3 "com/example/clotho/clotho/jsonpath/Budget" := Fq153_0.keep K193q
          show Go p.tables e below _ (T193.setTop (mkF m 165 #[.val (.long qx), .second, .val (.long qy), .second, .val (.int pm), .val (.long x1_rr), .second, .val (.long x2_rr), .second, .val (.ref b3), .val (.long v124), .second, .val (.int x10_rr), .val (.int x152_rr), .val (.long v154), .second] [(.int x193_rr)]))
          have hc165 : x193_rr = (0 : Int32) := own_eq32 (by omega)
          have hi165 : (x193_rr).toInt = ((0 : Int32)).toInt := Int32.toInt_inj.symm.mp hc165
          refine Go.st (fun _ k => XS.ifYes X193.here hx rfl (pc0 := 165) (pc' := 170) rfl (hb hby at_165) rfl (Jvm.Free.XT.i0_eq_t hc165) (by decide) (by decide) k) ?_
          show Go p.tables e below _ (T193.setTop (mkF m 170 #[.val (.long qx), .second, .val (.long qy), .second, .val (.int pm), .val (.long x1_rr), .second, .val (.long x2_rr), .second, .val (.ref b3), .val (.long v124), .second, .val (.int x10_rr), .val (.int x152_rr), .val (.long v154), .second] []))
          refine Go.st (fun _ k => XS.aload X193.here hx rfl (hb hby at_170) rfl rfl k) ?_
          show Go p.tables e below _ (T193.setTop (mkF m 172 #[.val (.long qx), .second, .val (.long qy), .second, .val (.int pm), .val (.long x1_rr), .second, .val (.long x2_rr), .second, .val (.ref b3), .val (.long v124), .second, .val (.int x10_rr), .val (.int x152_rr), .val (.long v154), .second] [(.ref b3)]))
          refine Go.st (fun _ k => XS.lload X193.here hx rfl (hb hby at_172) rfl k) ?_
          show Go p.tables e below _ (T193.setTop (mkF m 174 #[.val (.long qx), .second, .val (.long qy), .second, .val (.int pm), .val (.long x1_rr), .second, .val (.long x2_rr), .second, .val (.ref b3), .val (.long v124), .second, .val (.int x10_rr), .val (.int x152_rr), .val (.long v154), .second] [(.long v154), (.ref b3)]))
          obtain ⟨cq197, kq197, q197a, q197b, q197c⟩ := isOf hZ (rfl : T193.heap = T193.heap) Fq193_0
          obtain ⟨_, _, ⟨T197, L197, k197, n197⟩, -, X197, ⟨Lc197, hQ197, l197, y197, z197⟩, st197⟩ := X193.virtualBack hx (y := (⟨"com/example/clotho/clotho/jsonpath/Budget", "take", "(J)Z"⟩ : MethodName)) (z := (⟨"com/example/clotho/clotho/jsonpath/Budget", "take", "(J)Z"⟩ : MethodName)) hown (mvT hZ (hw _ (List.mem_of_getElem? (i := 19) rfl))) (mvT hZ (hw _ (List.mem_of_getElem? (i := 20) rfl))) (notFace_of_selects (args := #[]) (mvT hZ (hw _ (List.mem_of_getElem? (i := 22) rfl)))) (mvT hZ (hw _ (List.mem_of_getElem? (i := 22) rfl))) (mvT hZ (hw _ (List.mem_of_getElem? (i := 21) rfl))) (by decide) (backOf (W := 0) (rm_take l Z a0 hw [] b3 v154 x193_wn T193.heap n0 Z194 Fq193_1 Fq193_0 ge4 (by show 0 ≤ x193_wn.toInt ∧ x193_wn.toInt ≤ 10000000; exact by omega) (by show 0 ≤ v154.toInt; exact by omega)) hZ (hw _ (List.mem_of_getElem? (i := 23) rfl)) (hw _ (List.mem_of_getElem? (i := 8) rfl)) (by decide) (by decide)) q197a q197c (g := (mkF m 174 #[.val (.long qx), .second, .val (.long qy), .second, .val (.int pm), .val (.long x1_rr), .second, .val (.long x2_rr), .second, .val (.ref b3), .val (.long v124), .second, .val (.int x10_rr), .val (.int x152_rr), .val (.long v154), .second] [(.long v154), (.ref b3)])) rfl (by rw [hml]; rfl) (Steps.refl _) (argsL := [(.long v154)]) (rest := []) (lenOf pd_3 rfl) rfl (by show 2 * 0 + _ ≤ _; exact Nat.le_of_eq rfl) (hb hby at_174) (fun _ _ => ⟨rfl, (rfl : T193.heap = T193.heap), (by decide : 1 + 0 ≤ _), (by decide : 1 + 0 ≤ _)⟩)
          dsimp only [Pt.U, Pt.locs, Pt.cells, Pt.slots] at X197 l197 y197 z197 st197 hQ197
          subst l197 y197 z197
          obtain ⟨x197_rr, x197_wn, rfl, N197q, K197q, Fq197_0, Fq197_1, pr197_rel⟩ := hQ197
          have N197 := Fr.app N193 N197q
          refine Go.st (fun _ k => st197.trans k) ?_
          have Z198 : n0 ≤ T197.heap.size := Nat.le_trans Z194 K197q.1
          have K199 : Keep h0 T197.heap [] := K195.trans K197q (fun z hz => (List.mem_cons.mp hz).elim (fun q => by rw [q]; exact Or.inr sz5) (fun hz => absurd hz List.not_mem_nil))
          have F200 : Exa Z T197.heap b3 "com/example/clotho/clotho/jsonpath/Budget" := Fq193_0.keep K197q
          show Go p.tables e below _ (T197.setTop (mkF m 177 #[.val (.long qx), .second, .val (.long qy), .second, .val (.int pm), .val (.long x1_rr), .second, .val (.long x2_rr), .second, .val (.ref b3), .val (.long v124), .second, .val (.int x10_rr), .val (.int x152_rr), .val (.long v154), .second] [(.int x197_rr)]))
          have hc177 : ¬ (x197_rr = (0 : Int32)) := own_ne32 (by omega)
          have hi177 : ¬ ((x197_rr).toInt = ((0 : Int32)).toInt) := fun z => hc177 (Int32.toInt_inj.symm.mpr z)
          refine Go.st (fun _ k => XS.ifYes X197.here hx rfl (pc0 := 177) (pc' := 182) rfl (hb hby at_177) rfl (Jvm.Free.XT.i0_ne_t hc177) (by decide) (by decide) k) ?_
          show Go p.tables e below _ (T197.setTop (mkF m 182 #[.val (.long qx), .second, .val (.long qy), .second, .val (.int pm), .val (.long x1_rr), .second, .val (.long x2_rr), .second, .val (.ref b3), .val (.long v124), .second, .val (.int x10_rr), .val (.int x152_rr), .val (.long v154), .second] []))
          refine Go.st (fun _ k => XS.aload X197.here hx rfl (hb hby at_182) rfl rfl k) ?_
          show Go p.tables e below _ (T197.setTop (mkF m 184 #[.val (.long qx), .second, .val (.long qy), .second, .val (.int pm), .val (.long x1_rr), .second, .val (.long x2_rr), .second, .val (.ref b3), .val (.long v124), .second, .val (.int x10_rr), .val (.int x152_rr), .val (.long v154), .second] [(.ref b3)]))
          refine Go.st (fun _ k => XS.lconst X197.here hx rfl (hb hby at_184) k) ?_
          show Go p.tables e below _ (T197.setTop (mkF m 185 #[.val (.long qx), .second, .val (.long qy), .second, .val (.int pm), .val (.long x1_rr), .second, .val (.long x2_rr), .second, .val (.ref b3), .val (.long v124), .second, .val (.int x10_rr), .val (.int x152_rr), .val (.long v154), .second] [(.long (1 : Int64)), (.ref b3)]))
          obtain ⟨cq201, kq201, q201a, q201b, q201c⟩ := isOf hZ (rfl : T197.heap = T197.heap) Fq197_0
          obtain ⟨_, _, ⟨T201, L201, k201, n201⟩, -, X201, ⟨Lc201, hQ201, l201, y201, z201⟩, st201⟩ := X197.virtualBack hx (y := (⟨"com/example/clotho/clotho/jsonpath/Budget", "take", "(J)Z"⟩ : MethodName)) (z := (⟨"com/example/clotho/clotho/jsonpath/Budget", "take", "(J)Z"⟩ : MethodName)) hown (mvT hZ (hw _ (List.mem_of_getElem? (i := 19) rfl))) (mvT hZ (hw _ (List.mem_of_getElem? (i := 20) rfl))) (notFace_of_selects (args := #[]) (mvT hZ (hw _ (List.mem_of_getElem? (i := 22) rfl)))) (mvT hZ (hw _ (List.mem_of_getElem? (i := 22) rfl))) (mvT hZ (hw _ (List.mem_of_getElem? (i := 21) rfl))) (by decide) (backOf (W := 0) (rm_take l Z a0 hw [] b3 (1 : Int64) x197_wn T197.heap n0 Z198 Fq197_1 Fq197_0 ge4 (by show 0 ≤ x197_wn.toInt ∧ x197_wn.toInt ≤ 10000000; exact by omega) (by show 0 ≤ (1 : Int64).toInt; exact by omega)) hZ (hw _ (List.mem_of_getElem? (i := 23) rfl)) (hw _ (List.mem_of_getElem? (i := 8) rfl)) (by decide) (by decide)) q201a q201c (g := (mkF m 185 #[.val (.long qx), .second, .val (.long qy), .second, .val (.int pm), .val (.long x1_rr), .second, .val (.long x2_rr), .second, .val (.ref b3), .val (.long v124), .second, .val (.int x10_rr), .val (.int x152_rr), .val (.long v154), .second] [(.long (1 : Int64)), (.ref b3)])) rfl (by rw [hml]; rfl) (Steps.refl _) (argsL := [(.long (1 : Int64))]) (rest := []) (lenOf pd_3 rfl) rfl (by show 2 * 0 + _ ≤ _; exact Nat.le_of_eq rfl) (hb hby at_185) (fun _ _ => ⟨rfl, (rfl : T197.heap = T197.heap), (by decide : 1 + 0 ≤ _), (by decide : 1 + 0 ≤ _)⟩)
          dsimp only [Pt.U, Pt.locs, Pt.cells, Pt.slots] at X201 l201 y201 z201 st201 hQ201
          subst l201 y201 z201
          obtain ⟨x201_rr, x201_wn, rfl, N201q, K201q, Fq201_0, Fq201_1, pr201_rel⟩ := hQ201
          have N201 := Fr.app N197 N201q
          refine Go.st (fun _ k => st201.trans k) ?_
          have Z202 : n0 ≤ T201.heap.size := Nat.le_trans Z198 K201q.1
          have K203 : Keep h0 T201.heap [] := K199.trans K201q (fun z hz => (List.mem_cons.mp hz).elim (fun q => by rw [q]; exact Or.inr sz5) (fun hz => absurd hz List.not_mem_nil))
          have F204 : Exa Z T201.heap b3 "com/example/clotho/clotho/jsonpath/Budget" := Fq197_0.keep K201q
          show Go p.tables e below _ (T201.setTop (mkF m 188 #[.val (.long qx), .second, .val (.long qy), .second, .val (.int pm), .val (.long x1_rr), .second, .val (.long x2_rr), .second, .val (.ref b3), .val (.long v124), .second, .val (.int x10_rr), .val (.int x152_rr), .val (.long v154), .second] [(.int x201_rr)]))
          have hc188 : x201_rr = (0 : Int32) := own_eq32 (by omega)
          have hi188 : (x201_rr).toInt = ((0 : Int32)).toInt := Int32.toInt_inj.symm.mp hc188
          refine Go.st (fun _ k => XS.ifYes X201.here hx rfl (pc0 := 188) (pc' := 193) rfl (hb hby at_188) rfl (Jvm.Free.XT.i0_eq_t hc188) (by decide) (by decide) k) ?_
          show Go p.tables e below _ (T201.setTop (mkF m 193 #[.val (.long qx), .second, .val (.long qy), .second, .val (.int pm), .val (.long x1_rr), .second, .val (.long x2_rr), .second, .val (.ref b3), .val (.long v124), .second, .val (.int x10_rr), .val (.int x152_rr), .val (.long v154), .second] []))
          refine Go.st (fun _ k => XS.aload X201.here hx rfl (hb hby at_193) rfl rfl k) ?_
          show Go p.tables e below _ (T201.setTop (mkF m 195 #[.val (.long qx), .second, .val (.long qy), .second, .val (.int pm), .val (.long x1_rr), .second, .val (.long x2_rr), .second, .val (.ref b3), .val (.long v124), .second, .val (.int x10_rr), .val (.int x152_rr), .val (.long v154), .second] [(.ref b3)]))
          refine Go.st (fun _ k => XS.lconst X201.here hx rfl (hb hby at_195) k) ?_
          show Go p.tables e below _ (T201.setTop (mkF m 196 #[.val (.long qx), .second, .val (.long qy), .second, .val (.int pm), .val (.long x1_rr), .second, .val (.long x2_rr), .second, .val (.ref b3), .val (.long v124), .second, .val (.int x10_rr), .val (.int x152_rr), .val (.long v154), .second] [(.long (0 : Int64)), (.ref b3)]))
          obtain ⟨cq205, kq205, q205a, q205b, q205c⟩ := isOf hZ (rfl : T201.heap = T201.heap) Fq201_0
          obtain ⟨_, _, ⟨T205, L205, k205, n205⟩, -, X205, ⟨Lc205, hQ205, l205, y205, z205⟩, st205⟩ := X201.virtualBack hx (y := (⟨"com/example/clotho/clotho/jsonpath/Budget", "take", "(J)Z"⟩ : MethodName)) (z := (⟨"com/example/clotho/clotho/jsonpath/Budget", "take", "(J)Z"⟩ : MethodName)) hown (mvT hZ (hw _ (List.mem_of_getElem? (i := 19) rfl))) (mvT hZ (hw _ (List.mem_of_getElem? (i := 20) rfl))) (notFace_of_selects (args := #[]) (mvT hZ (hw _ (List.mem_of_getElem? (i := 22) rfl)))) (mvT hZ (hw _ (List.mem_of_getElem? (i := 22) rfl))) (mvT hZ (hw _ (List.mem_of_getElem? (i := 21) rfl))) (by decide) (backOf (W := 0) (rm_take l Z a0 hw [] b3 (0 : Int64) x201_wn T201.heap n0 Z202 Fq201_1 Fq201_0 ge4 (by show 0 ≤ x201_wn.toInt ∧ x201_wn.toInt ≤ 10000000; exact by omega) (by show 0 ≤ (0 : Int64).toInt; exact by omega)) hZ (hw _ (List.mem_of_getElem? (i := 23) rfl)) (hw _ (List.mem_of_getElem? (i := 8) rfl)) (by decide) (by decide)) q205a q205c (g := (mkF m 196 #[.val (.long qx), .second, .val (.long qy), .second, .val (.int pm), .val (.long x1_rr), .second, .val (.long x2_rr), .second, .val (.ref b3), .val (.long v124), .second, .val (.int x10_rr), .val (.int x152_rr), .val (.long v154), .second] [(.long (0 : Int64)), (.ref b3)])) rfl (by rw [hml]; rfl) (Steps.refl _) (argsL := [(.long (0 : Int64))]) (rest := []) (lenOf pd_3 rfl) rfl (by show 2 * 0 + _ ≤ _; exact Nat.le_of_eq rfl) (hb hby at_196) (fun _ _ => ⟨rfl, (rfl : T201.heap = T201.heap), (by decide : 1 + 0 ≤ _), (by decide : 1 + 0 ≤ _)⟩)
          dsimp only [Pt.U, Pt.locs, Pt.cells, Pt.slots] at X205 l205 y205 z205 st205 hQ205
          subst l205 y205 z205
          obtain ⟨x205_rr, x205_wn, rfl, N205q, K205q, Fq205_0, Fq205_1, pr205_rel⟩ := hQ205
          have N205 := Fr.app N201 N205q
          refine Go.st (fun _ k => st205.trans k) ?_
          have Z206 : n0 ≤ T205.heap.size := Nat.le_trans Z202 K205q.1
          have K207 : Keep h0 T205.heap [] := K203.trans K205q (fun z hz => (List.mem_cons.mp hz).elim (fun q => by rw [q]; exact Or.inr sz5) (fun hz => absurd hz List.not_mem_nil))
          have F208 : Exa Z T205.heap b3 "com/example/clotho/clotho/jsonpath/Budget" := Fq201_0.keep K205q
          show Go p.tables e below _ (T205.setTop (mkF m 199 #[.val (.long qx), .second, .val (.long qy), .second, .val (.int pm), .val (.long x1_rr), .second, .val (.long x2_rr), .second, .val (.ref b3), .val (.long v124), .second, .val (.int x10_rr), .val (.int x152_rr), .val (.long v154), .second] [(.int x205_rr)]))
          have hc199 : ¬ (x205_rr = (0 : Int32)) := own_ne32 (by omega)
          have hi199 : ¬ ((x205_rr).toInt = ((0 : Int32)).toInt) := fun z => hc199 (Int32.toInt_inj.symm.mpr z)
          refine Go.st (fun _ k => XS.ifYes X205.here hx rfl (pc0 := 199) (pc' := 204) rfl (hb hby at_199) rfl (Jvm.Free.XT.i0_ne_t hc199) (by decide) (by decide) k) ?_
          show Go p.tables e below _ (T205.setTop (mkF m 204 #[.val (.long qx), .second, .val (.long qy), .second, .val (.int pm), .val (.long x1_rr), .second, .val (.long x2_rr), .second, .val (.ref b3), .val (.long v124), .second, .val (.int x10_rr), .val (.int x152_rr), .val (.long v154), .second] []))
          refine Go.st (fun _ k => XS.aload X205.here hx rfl (hb hby at_204) rfl rfl k) ?_
          show Go p.tables e below _ (T205.setTop (mkF m 206 #[.val (.long qx), .second, .val (.long qy), .second, .val (.int pm), .val (.long x1_rr), .second, .val (.long x2_rr), .second, .val (.ref b3), .val (.long v124), .second, .val (.int x10_rr), .val (.int x152_rr), .val (.long v154), .second] [(.ref b3)]))
          obtain ⟨cq209, kq209, q209a, q209b, q209c⟩ := isOf hZ (rfl : T205.heap = T205.heap) Fq205_0
          obtain ⟨_, _, ⟨T209, L209, k209, n209⟩, -, X209, ⟨Lc209, hQ209, l209, y209, z209⟩, st209⟩ := X205.virtualBack hx (y := (⟨"com/example/clotho/clotho/jsonpath/Budget", "isTouched", "()Z"⟩ : MethodName)) (z := (⟨"com/example/clotho/clotho/jsonpath/Budget", "isTouched", "()Z"⟩ : MethodName)) hown (mvT hZ (hw _ (List.mem_of_getElem? (i := 27) rfl))) (mvT hZ (hw _ (List.mem_of_getElem? (i := 28) rfl))) (notFace_of_selects (args := #[]) (mvT hZ (hw _ (List.mem_of_getElem? (i := 30) rfl)))) (mvT hZ (hw _ (List.mem_of_getElem? (i := 30) rfl))) (mvT hZ (hw _ (List.mem_of_getElem? (i := 29) rfl))) (by decide) (backOf (W := 0) (rm_touched l Z a0 hw [] b3 x205_wn T205.heap n0 Z206 Fq205_1) hZ (hw _ (List.mem_of_getElem? (i := 31) rfl)) (hw _ (List.mem_of_getElem? (i := 8) rfl)) (by decide) (by decide)) q209a q209c (g := (mkF m 206 #[.val (.long qx), .second, .val (.long qy), .second, .val (.int pm), .val (.long x1_rr), .second, .val (.long x2_rr), .second, .val (.ref b3), .val (.long v124), .second, .val (.int x10_rr), .val (.int x152_rr), .val (.long v154), .second] [(.ref b3)])) rfl (by rw [hml]; rfl) (Steps.refl _) (argsL := []) (rest := []) (lenOf pd_4 rfl) rfl (by show 2 * 0 + _ ≤ _; exact Nat.le_of_eq rfl) (hb hby at_206) (fun _ _ => ⟨rfl, (rfl : T205.heap = T205.heap), (by decide : 1 + 0 ≤ _), (by decide : 1 + 0 ≤ _)⟩)
          dsimp only [Pt.U, Pt.locs, Pt.cells, Pt.slots] at X209 l209 y209 z209 st209 hQ209
          subst l209 y209 z209
          obtain ⟨x209_rr, rfl, N209q, e209, pr209_rel⟩ := hQ209
          have N209 := Fr.app N205 N209q
          refine Go.st (fun _ k => st209.trans k) ?_
          show Go p.tables e below _ (T209.setTop (mkF m 209 #[.val (.long qx), .second, .val (.long qy), .second, .val (.int pm), .val (.long x1_rr), .second, .val (.long x2_rr), .second, .val (.ref b3), .val (.long v124), .second, .val (.int x10_rr), .val (.int x152_rr), .val (.long v154), .second] [(.int x209_rr)]))
          subst hG
          obtain ⟨fs, hr, hrun, hended, hW, hsame⟩ := X209.leave (v := some (.int (nar .boolean x209_rr))) (fun h => by rw [Bd.returns] at h; cases h)
          refine ⟨_, _, ?_, hrun, hended, _, _, rfl, ?_, ⟨_, rfl⟩, hW, hsame.mono (by decide) (by decide)⟩
          · exact retN X209 hx (t := .boolean) Bd.returns (by simp) (hb hby at_209) hr
          · show Q_law Z qx qy pm h0 n0 _ T209.heap _
            rw [e209]
            exact ⟨(by rw [show x209_rr = (1 : Int32) from own_eq32 (by omega)]; rfl), N209, K207⟩
        · skip
          have hi135 : ¬ (((0 : Int64)).toInt < (v124).toInt) := fun z => hc135 (Int64.lt_iff_toInt_lt.mpr z)
          refine Go.st (fun _ k => XS.ifYes X192.here hx rfl (pc0 := 135) (pc' := 142) rfl (hb hby at_135) rfl (Jvm.Free.XT.ll_le_t hc135) (by decide) (by decide) k) ?_
          show Go p.tables e below _ (T192.setTop (mkF m 142 #[.val (.long qx), .second, .val (.long qy), .second, .val (.int pm), .val (.long x1_rr), .second, .val (.long x2_rr), .second, .val (.ref b3), .val (.long v124), .second, .val (.int x10_rr), .val (.int x152_rr), .unset, .unset] [(.int x192_rr)]))
          refine Go.st (fun _ k => XS.iconst X192.here hx rfl (hb hby at_142) k) ?_
          show Go p.tables e below _ (T192.setTop (mkF m 143 #[.val (.long qx), .second, .val (.long qy), .second, .val (.int pm), .val (.long x1_rr), .second, .val (.long x2_rr), .second, .val (.ref b3), .val (.long v124), .second, .val (.int x10_rr), .val (.int x152_rr), .unset, .unset] [(.int (0 : Int32)), (.int x192_rr)]))
          have hc143 : x192_rr = (0 : Int32) := own_eq32 (by omega)
          have hi143 : (x192_rr).toInt = ((0 : Int32)).toInt := Int32.toInt_inj.symm.mp hc143
          refine Go.st (fun _ k => XS.icmpYes X192.here hx rfl (pc0 := 143) (pc' := 148) rfl (hb hby at_143) rfl (Jvm.Free.XT.ii_eq_t hc143) (by decide) (by decide) k) ?_
          show Go p.tables e below _ (T192.setTop (mkF m 148 #[.val (.long qx), .second, .val (.long qy), .second, .val (.int pm), .val (.long x1_rr), .second, .val (.long x2_rr), .second, .val (.ref b3), .val (.long v124), .second, .val (.int x10_rr), .val (.int x152_rr), .unset, .unset] []))
          refine Go.st (fun _ k => X192.ldc2Long hx hown (mvT hZ (hw _ (List.mem_of_getElem? (i := 18) rfl))) (g := (mkF m 148 #[.val (.long qx), .second, .val (.long qy), .second, .val (.int pm), .val (.long x1_rr), .second, .val (.long x2_rr), .second, .val (.ref b3), .val (.long v124), .second, .val (.int x10_rr), .val (.int x152_rr), .unset, .unset] [])) rfl (hb hby at_148) _ k) ?_
          show Go p.tables e below _ (T192.setTop (mkF m 151 #[.val (.long qx), .second, .val (.long qy), .second, .val (.int pm), .val (.long x1_rr), .second, .val (.long x2_rr), .second, .val (.ref b3), .val (.long v124), .second, .val (.int x10_rr), .val (.int x152_rr), .unset, .unset] [(.long (10000000 : Int64))]))
          refine Go.st (fun _ k => XS.lload X192.here hx rfl (hb hby at_151) rfl k) ?_
          show Go p.tables e below _ (T192.setTop (mkF m 153 #[.val (.long qx), .second, .val (.long qy), .second, .val (.int pm), .val (.long x1_rr), .second, .val (.long x2_rr), .second, .val (.ref b3), .val (.long v124), .second, .val (.int x10_rr), .val (.int x152_rr), .unset, .unset] [(.long v124), (.long (10000000 : Int64))]))
          refine Go.st (fun _ k => XS.lsub X192.here hx rfl (hb hby at_153) rfl k) ?_
          show Go p.tables e below _ (T192.setTop (mkF m 154 #[.val (.long qx), .second, .val (.long qy), .second, .val (.int pm), .val (.long x1_rr), .second, .val (.long x2_rr), .second, .val (.ref b3), .val (.long v124), .second, .val (.int x10_rr), .val (.int x152_rr), .unset, .unset] [(.long ((10000000 : Int64) - v124))]))
          refine Go.st (fun _ k => XS.lstore X192.here hx rfl (hb hby at_154) rfl (l' := #[.val (.long qx), .second, .val (.long qy), .second, .val (.int pm), .val (.long x1_rr), .second, .val (.long x2_rr), .second, .val (.ref b3), .val (.long v124), .second, .val (.int x10_rr), .val (.int x152_rr), .val (.long ((10000000 : Int64) - v124)), .second]) rfl k) ?_
          show Go p.tables e below _ (T192.setTop (mkF m 156 #[.val (.long qx), .second, .val (.long qy), .second, .val (.int pm), .val (.long x1_rr), .second, .val (.long x2_rr), .second, .val (.ref b3), .val (.long v124), .second, .val (.int x10_rr), .val (.int x152_rr), .val (.long ((10000000 : Int64) - v124)), .second] []))
          generalize hqv154 : ((10000000 : Int64) - v124) = v154
          have lt_1000000064 : (10000000 : Int64).toInt = 10000000 := by decide
          have hi_v154 := i64_subc (10000000 : Int64) v124
          rw [hqv154] at hi_v154
          show Go p.tables e below _ (T192.setTop (mkF m 156 #[.val (.long qx), .second, .val (.long qy), .second, .val (.int pm), .val (.long x1_rr), .second, .val (.long x2_rr), .second, .val (.ref b3), .val (.long v124), .second, .val (.int x10_rr), .val (.int x152_rr), .val (.long v154), .second] []))
          refine Go.st (fun _ k => XS.aload X192.here hx rfl (hb hby at_156) rfl rfl k) ?_
          show Go p.tables e below _ (T192.setTop (mkF m 158 #[.val (.long qx), .second, .val (.long qy), .second, .val (.int pm), .val (.long x1_rr), .second, .val (.long x2_rr), .second, .val (.ref b3), .val (.long v124), .second, .val (.int x10_rr), .val (.int x152_rr), .val (.long v154), .second] [(.ref b3)]))
          refine Go.st (fun _ k => XS.lload X192.here hx rfl (hb hby at_158) rfl k) ?_
          show Go p.tables e below _ (T192.setTop (mkF m 160 #[.val (.long qx), .second, .val (.long qy), .second, .val (.int pm), .val (.long x1_rr), .second, .val (.long x2_rr), .second, .val (.ref b3), .val (.long v124), .second, .val (.int x10_rr), .val (.int x152_rr), .val (.long v154), .second] [(.long v154), (.ref b3)]))
          refine Go.st (fun _ k => XS.lconst X192.here hx rfl (hb hby at_160) k) ?_
          show Go p.tables e below _ (T192.setTop (mkF m 161 #[.val (.long qx), .second, .val (.long qy), .second, .val (.int pm), .val (.long x1_rr), .second, .val (.long x2_rr), .second, .val (.ref b3), .val (.long v124), .second, .val (.int x10_rr), .val (.int x152_rr), .val (.long v154), .second] [(.long (1 : Int64)), (.long v154), (.ref b3)]))
          refine Go.st (fun _ k => XS.ladd X192.here hx rfl (hb hby at_161) rfl k) ?_
          show Go p.tables e below _ (T192.setTop (mkF m 162 #[.val (.long qx), .second, .val (.long qy), .second, .val (.int pm), .val (.long x1_rr), .second, .val (.long x2_rr), .second, .val (.ref b3), .val (.long v124), .second, .val (.int x10_rr), .val (.int x152_rr), .val (.long v154), .second] [(.long (v154 + (1 : Int64))), (.ref b3)]))
          generalize hqa162 : (v154 + (1 : Int64)) = a162
          have lt_164 : (1 : Int64).toInt = 1 := by decide
          have hi_a162 := i64_addc v154 (1 : Int64)
          rw [hqa162] at hi_a162
          obtain ⟨cq210, kq210, q210a, q210b, q210c⟩ := isOf hZ e192 Fq153_0
          obtain ⟨_, _, ⟨T210, L210, k210, n210⟩, -, X210, ⟨Lc210, hQ210, l210, y210, z210⟩, st210⟩ := X192.virtualBack hx (y := (⟨"com/example/clotho/clotho/jsonpath/Budget", "take", "(J)Z"⟩ : MethodName)) (z := (⟨"com/example/clotho/clotho/jsonpath/Budget", "take", "(J)Z"⟩ : MethodName)) hown (mvT hZ (hw _ (List.mem_of_getElem? (i := 19) rfl))) (mvT hZ (hw _ (List.mem_of_getElem? (i := 20) rfl))) (notFace_of_selects (args := #[]) (mvT hZ (hw _ (List.mem_of_getElem? (i := 22) rfl)))) (mvT hZ (hw _ (List.mem_of_getElem? (i := 22) rfl))) (mvT hZ (hw _ (List.mem_of_getElem? (i := 21) rfl))) (by decide) (backOf (W := 0) (rm_take l Z a0 hw [] b3 a162 x153_wn T153.heap n0 Z154 Fq153_1 Fq153_0 ge4 (by show 0 ≤ x153_wn.toInt ∧ x153_wn.toInt ≤ 10000000; exact by omega) (by show 0 ≤ a162.toInt; exact by omega)) hZ (hw _ (List.mem_of_getElem? (i := 23) rfl)) (hw _ (List.mem_of_getElem? (i := 8) rfl)) (by decide) (by decide)) q210a q210c (g := (mkF m 162 #[.val (.long qx), .second, .val (.long qy), .second, .val (.int pm), .val (.long x1_rr), .second, .val (.long x2_rr), .second, .val (.ref b3), .val (.long v124), .second, .val (.int x10_rr), .val (.int x152_rr), .val (.long v154), .second] [(.long a162), (.ref b3)])) rfl (by rw [hml]; rfl) (Steps.refl _) (argsL := [(.long a162)]) (rest := []) (lenOf pd_3 rfl) rfl (by show 2 * 0 + _ ≤ _; exact Nat.le_of_eq rfl) (hb hby at_162) (fun _ _ => ⟨rfl, e192, (by decide : 1 + 0 ≤ _), (by decide : 1 + 0 ≤ _)⟩)
          dsimp only [Pt.U, Pt.locs, Pt.cells, Pt.slots] at X210 l210 y210 z210 st210 hQ210
          subst l210 y210 z210
          obtain ⟨x210_rr, x210_wn, rfl, N210q, K210q, Fq210_0, Fq210_1, pr210_rel⟩ := hQ210
          have N210 := Fr.app N192 N210q
          refine Go.st (fun _ k => st210.trans k) ?_
          have Z211 : n0 ≤ T210.heap.size := Nat.le_trans Z154 K210q.1
          have K212 : Keep h0 T210.heap [] := K155.trans K210q (fun z hz => (List.mem_cons.mp hz).elim (fun q => by rw [q]; exact Or.inr sz5) (fun hz => absurd hz List.not_mem_nil))
          have F213 : Exa Z T210.heap b3 "com/example/clotho/clotho/jsonpath/Budget" := Fq153_0.keep K210q
          show Go p.tables e below _ (T210.setTop (mkF m 165 #[.val (.long qx), .second, .val (.long qy), .second, .val (.int pm), .val (.long x1_rr), .second, .val (.long x2_rr), .second, .val (.ref b3), .val (.long v124), .second, .val (.int x10_rr), .val (.int x152_rr), .val (.long v154), .second] [(.int x210_rr)]))
          have hc165 : x210_rr = (0 : Int32) := own_eq32 (by omega)
          have hi165 : (x210_rr).toInt = ((0 : Int32)).toInt := Int32.toInt_inj.symm.mp hc165
          refine Go.st (fun _ k => XS.ifYes X210.here hx rfl (pc0 := 165) (pc' := 170) rfl (hb hby at_165) rfl (Jvm.Free.XT.i0_eq_t hc165) (by decide) (by decide) k) ?_
          show Go p.tables e below _ (T210.setTop (mkF m 170 #[.val (.long qx), .second, .val (.long qy), .second, .val (.int pm), .val (.long x1_rr), .second, .val (.long x2_rr), .second, .val (.ref b3), .val (.long v124), .second, .val (.int x10_rr), .val (.int x152_rr), .val (.long v154), .second] []))
          refine Go.st (fun _ k => XS.aload X210.here hx rfl (hb hby at_170) rfl rfl k) ?_
          show Go p.tables e below _ (T210.setTop (mkF m 172 #[.val (.long qx), .second, .val (.long qy), .second, .val (.int pm), .val (.long x1_rr), .second, .val (.long x2_rr), .second, .val (.ref b3), .val (.long v124), .second, .val (.int x10_rr), .val (.int x152_rr), .val (.long v154), .second] [(.ref b3)]))
          refine Go.st (fun _ k => XS.lload X210.here hx rfl (hb hby at_172) rfl k) ?_
          show Go p.tables e below _ (T210.setTop (mkF m 174 #[.val (.long qx), .second, .val (.long qy), .second, .val (.int pm), .val (.long x1_rr), .second, .val (.long x2_rr), .second, .val (.ref b3), .val (.long v124), .second, .val (.int x10_rr), .val (.int x152_rr), .val (.long v154), .second] [(.long v154), (.ref b3)]))
          obtain ⟨cq214, kq214, q214a, q214b, q214c⟩ := isOf hZ (rfl : T210.heap = T210.heap) Fq210_0
          obtain ⟨_, _, ⟨T214, L214, k214, n214⟩, -, X214, ⟨Lc214, hQ214, l214, y214, z214⟩, st214⟩ := X210.virtualBack hx (y := (⟨"com/example/clotho/clotho/jsonpath/Budget", "take", "(J)Z"⟩ : MethodName)) (z := (⟨"com/example/clotho/clotho/jsonpath/Budget", "take", "(J)Z"⟩ : MethodName)) hown (mvT hZ (hw _ (List.mem_of_getElem? (i := 19) rfl))) (mvT hZ (hw _ (List.mem_of_getElem? (i := 20) rfl))) (notFace_of_selects (args := #[]) (mvT hZ (hw _ (List.mem_of_getElem? (i := 22) rfl)))) (mvT hZ (hw _ (List.mem_of_getElem? (i := 22) rfl))) (mvT hZ (hw _ (List.mem_of_getElem? (i := 21) rfl))) (by decide) (backOf (W := 0) (rm_take l Z a0 hw [] b3 v154 x210_wn T210.heap n0 Z211 Fq210_1 Fq210_0 ge4 (by show 0 ≤ x210_wn.toInt ∧ x210_wn.toInt ≤ 10000000; exact by omega) (by show 0 ≤ v154.toInt; exact by omega)) hZ (hw _ (List.mem_of_getElem? (i := 23) rfl)) (hw _ (List.mem_of_getElem? (i := 8) rfl)) (by decide) (by decide)) q214a q214c (g := (mkF m 174 #[.val (.long qx), .second, .val (.long qy), .second, .val (.int pm), .val (.long x1_rr), .second, .val (.long x2_rr), .second, .val (.ref b3), .val (.long v124), .second, .val (.int x10_rr), .val (.int x152_rr), .val (.long v154), .second] [(.long v154), (.ref b3)])) rfl (by rw [hml]; rfl) (Steps.refl _) (argsL := [(.long v154)]) (rest := []) (lenOf pd_3 rfl) rfl (by show 2 * 0 + _ ≤ _; exact Nat.le_of_eq rfl) (hb hby at_174) (fun _ _ => ⟨rfl, (rfl : T210.heap = T210.heap), (by decide : 1 + 0 ≤ _), (by decide : 1 + 0 ≤ _)⟩)
          dsimp only [Pt.U, Pt.locs, Pt.cells, Pt.slots] at X214 l214 y214 z214 st214 hQ214
          subst l214 y214 z214
          obtain ⟨x214_rr, x214_wn, rfl, N214q, K214q, Fq214_0, Fq214_1, pr214_rel⟩ := hQ214
          have N214 := Fr.app N210 N214q
          refine Go.st (fun _ k => st214.trans k) ?_
          have Z215 : n0 ≤ T214.heap.size := Nat.le_trans Z211 K214q.1
          have K216 : Keep h0 T214.heap [] := K212.trans K214q (fun z hz => (List.mem_cons.mp hz).elim (fun q => by rw [q]; exact Or.inr sz5) (fun hz => absurd hz List.not_mem_nil))
          have F217 : Exa Z T214.heap b3 "com/example/clotho/clotho/jsonpath/Budget" := Fq210_0.keep K214q
          show Go p.tables e below _ (T214.setTop (mkF m 177 #[.val (.long qx), .second, .val (.long qy), .second, .val (.int pm), .val (.long x1_rr), .second, .val (.long x2_rr), .second, .val (.ref b3), .val (.long v124), .second, .val (.int x10_rr), .val (.int x152_rr), .val (.long v154), .second] [(.int x214_rr)]))
          have hc177 : ¬ (x214_rr = (0 : Int32)) := own_ne32 (by omega)
          have hi177 : ¬ ((x214_rr).toInt = ((0 : Int32)).toInt) := fun z => hc177 (Int32.toInt_inj.symm.mpr z)
          refine Go.st (fun _ k => XS.ifYes X214.here hx rfl (pc0 := 177) (pc' := 182) rfl (hb hby at_177) rfl (Jvm.Free.XT.i0_ne_t hc177) (by decide) (by decide) k) ?_
          show Go p.tables e below _ (T214.setTop (mkF m 182 #[.val (.long qx), .second, .val (.long qy), .second, .val (.int pm), .val (.long x1_rr), .second, .val (.long x2_rr), .second, .val (.ref b3), .val (.long v124), .second, .val (.int x10_rr), .val (.int x152_rr), .val (.long v154), .second] []))
          refine Go.st (fun _ k => XS.aload X214.here hx rfl (hb hby at_182) rfl rfl k) ?_
          show Go p.tables e below _ (T214.setTop (mkF m 184 #[.val (.long qx), .second, .val (.long qy), .second, .val (.int pm), .val (.long x1_rr), .second, .val (.long x2_rr), .second, .val (.ref b3), .val (.long v124), .second, .val (.int x10_rr), .val (.int x152_rr), .val (.long v154), .second] [(.ref b3)]))
          refine Go.st (fun _ k => XS.lconst X214.here hx rfl (hb hby at_184) k) ?_
          show Go p.tables e below _ (T214.setTop (mkF m 185 #[.val (.long qx), .second, .val (.long qy), .second, .val (.int pm), .val (.long x1_rr), .second, .val (.long x2_rr), .second, .val (.ref b3), .val (.long v124), .second, .val (.int x10_rr), .val (.int x152_rr), .val (.long v154), .second] [(.long (1 : Int64)), (.ref b3)]))
          obtain ⟨cq218, kq218, q218a, q218b, q218c⟩ := isOf hZ (rfl : T214.heap = T214.heap) Fq214_0
          obtain ⟨_, _, ⟨T218, L218, k218, n218⟩, -, X218, ⟨Lc218, hQ218, l218, y218, z218⟩, st218⟩ := X214.virtualBack hx (y := (⟨"com/example/clotho/clotho/jsonpath/Budget", "take", "(J)Z"⟩ : MethodName)) (z := (⟨"com/example/clotho/clotho/jsonpath/Budget", "take", "(J)Z"⟩ : MethodName)) hown (mvT hZ (hw _ (List.mem_of_getElem? (i := 19) rfl))) (mvT hZ (hw _ (List.mem_of_getElem? (i := 20) rfl))) (notFace_of_selects (args := #[]) (mvT hZ (hw _ (List.mem_of_getElem? (i := 22) rfl)))) (mvT hZ (hw _ (List.mem_of_getElem? (i := 22) rfl))) (mvT hZ (hw _ (List.mem_of_getElem? (i := 21) rfl))) (by decide) (backOf (W := 0) (rm_take l Z a0 hw [] b3 (1 : Int64) x214_wn T214.heap n0 Z215 Fq214_1 Fq214_0 ge4 (by show 0 ≤ x214_wn.toInt ∧ x214_wn.toInt ≤ 10000000; exact by omega) (by show 0 ≤ (1 : Int64).toInt; exact by omega)) hZ (hw _ (List.mem_of_getElem? (i := 23) rfl)) (hw _ (List.mem_of_getElem? (i := 8) rfl)) (by decide) (by decide)) q218a q218c (g := (mkF m 185 #[.val (.long qx), .second, .val (.long qy), .second, .val (.int pm), .val (.long x1_rr), .second, .val (.long x2_rr), .second, .val (.ref b3), .val (.long v124), .second, .val (.int x10_rr), .val (.int x152_rr), .val (.long v154), .second] [(.long (1 : Int64)), (.ref b3)])) rfl (by rw [hml]; rfl) (Steps.refl _) (argsL := [(.long (1 : Int64))]) (rest := []) (lenOf pd_3 rfl) rfl (by show 2 * 0 + _ ≤ _; exact Nat.le_of_eq rfl) (hb hby at_185) (fun _ _ => ⟨rfl, (rfl : T214.heap = T214.heap), (by decide : 1 + 0 ≤ _), (by decide : 1 + 0 ≤ _)⟩)
          dsimp only [Pt.U, Pt.locs, Pt.cells, Pt.slots] at X218 l218 y218 z218 st218 hQ218
          subst l218 y218 z218
          obtain ⟨x218_rr, x218_wn, rfl, N218q, K218q, Fq218_0, Fq218_1, pr218_rel⟩ := hQ218
          have N218 := Fr.app N214 N218q
          refine Go.st (fun _ k => st218.trans k) ?_
          have Z219 : n0 ≤ T218.heap.size := Nat.le_trans Z215 K218q.1
          have K220 : Keep h0 T218.heap [] := K216.trans K218q (fun z hz => (List.mem_cons.mp hz).elim (fun q => by rw [q]; exact Or.inr sz5) (fun hz => absurd hz List.not_mem_nil))
          have F221 : Exa Z T218.heap b3 "com/example/clotho/clotho/jsonpath/Budget" := Fq214_0.keep K218q
          show Go p.tables e below _ (T218.setTop (mkF m 188 #[.val (.long qx), .second, .val (.long qy), .second, .val (.int pm), .val (.long x1_rr), .second, .val (.long x2_rr), .second, .val (.ref b3), .val (.long v124), .second, .val (.int x10_rr), .val (.int x152_rr), .val (.long v154), .second] [(.int x218_rr)]))
          have hc188 : x218_rr = (0 : Int32) := own_eq32 (by omega)
          have hi188 : (x218_rr).toInt = ((0 : Int32)).toInt := Int32.toInt_inj.symm.mp hc188
          refine Go.st (fun _ k => XS.ifYes X218.here hx rfl (pc0 := 188) (pc' := 193) rfl (hb hby at_188) rfl (Jvm.Free.XT.i0_eq_t hc188) (by decide) (by decide) k) ?_
          show Go p.tables e below _ (T218.setTop (mkF m 193 #[.val (.long qx), .second, .val (.long qy), .second, .val (.int pm), .val (.long x1_rr), .second, .val (.long x2_rr), .second, .val (.ref b3), .val (.long v124), .second, .val (.int x10_rr), .val (.int x152_rr), .val (.long v154), .second] []))
          refine Go.st (fun _ k => XS.aload X218.here hx rfl (hb hby at_193) rfl rfl k) ?_
          show Go p.tables e below _ (T218.setTop (mkF m 195 #[.val (.long qx), .second, .val (.long qy), .second, .val (.int pm), .val (.long x1_rr), .second, .val (.long x2_rr), .second, .val (.ref b3), .val (.long v124), .second, .val (.int x10_rr), .val (.int x152_rr), .val (.long v154), .second] [(.ref b3)]))
          refine Go.st (fun _ k => XS.lconst X218.here hx rfl (hb hby at_195) k) ?_
          show Go p.tables e below _ (T218.setTop (mkF m 196 #[.val (.long qx), .second, .val (.long qy), .second, .val (.int pm), .val (.long x1_rr), .second, .val (.long x2_rr), .second, .val (.ref b3), .val (.long v124), .second, .val (.int x10_rr), .val (.int x152_rr), .val (.long v154), .second] [(.long (0 : Int64)), (.ref b3)]))
          obtain ⟨cq222, kq222, q222a, q222b, q222c⟩ := isOf hZ (rfl : T218.heap = T218.heap) Fq218_0
          obtain ⟨_, _, ⟨T222, L222, k222, n222⟩, -, X222, ⟨Lc222, hQ222, l222, y222, z222⟩, st222⟩ := X218.virtualBack hx (y := (⟨"com/example/clotho/clotho/jsonpath/Budget", "take", "(J)Z"⟩ : MethodName)) (z := (⟨"com/example/clotho/clotho/jsonpath/Budget", "take", "(J)Z"⟩ : MethodName)) hown (mvT hZ (hw _ (List.mem_of_getElem? (i := 19) rfl))) (mvT hZ (hw _ (List.mem_of_getElem? (i := 20) rfl))) (notFace_of_selects (args := #[]) (mvT hZ (hw _ (List.mem_of_getElem? (i := 22) rfl)))) (mvT hZ (hw _ (List.mem_of_getElem? (i := 22) rfl))) (mvT hZ (hw _ (List.mem_of_getElem? (i := 21) rfl))) (by decide) (backOf (W := 0) (rm_take l Z a0 hw [] b3 (0 : Int64) x218_wn T218.heap n0 Z219 Fq218_1 Fq218_0 ge4 (by show 0 ≤ x218_wn.toInt ∧ x218_wn.toInt ≤ 10000000; exact by omega) (by show 0 ≤ (0 : Int64).toInt; exact by omega)) hZ (hw _ (List.mem_of_getElem? (i := 23) rfl)) (hw _ (List.mem_of_getElem? (i := 8) rfl)) (by decide) (by decide)) q222a q222c (g := (mkF m 196 #[.val (.long qx), .second, .val (.long qy), .second, .val (.int pm), .val (.long x1_rr), .second, .val (.long x2_rr), .second, .val (.ref b3), .val (.long v124), .second, .val (.int x10_rr), .val (.int x152_rr), .val (.long v154), .second] [(.long (0 : Int64)), (.ref b3)])) rfl (by rw [hml]; rfl) (Steps.refl _) (argsL := [(.long (0 : Int64))]) (rest := []) (lenOf pd_3 rfl) rfl (by show 2 * 0 + _ ≤ _; exact Nat.le_of_eq rfl) (hb hby at_196) (fun _ _ => ⟨rfl, (rfl : T218.heap = T218.heap), (by decide : 1 + 0 ≤ _), (by decide : 1 + 0 ≤ _)⟩)
          dsimp only [Pt.U, Pt.locs, Pt.cells, Pt.slots] at X222 l222 y222 z222 st222 hQ222
          subst l222 y222 z222
          obtain ⟨x222_rr, x222_wn, rfl, N222q, K222q, Fq222_0, Fq222_1, pr222_rel⟩ := hQ222
          have N222 := Fr.app N218 N222q
          refine Go.st (fun _ k => st222.trans k) ?_
          have Z223 : n0 ≤ T222.heap.size := Nat.le_trans Z219 K222q.1
          have K224 : Keep h0 T222.heap [] := K220.trans K222q (fun z hz => (List.mem_cons.mp hz).elim (fun q => by rw [q]; exact Or.inr sz5) (fun hz => absurd hz List.not_mem_nil))
          have F225 : Exa Z T222.heap b3 "com/example/clotho/clotho/jsonpath/Budget" := Fq218_0.keep K222q
          show Go p.tables e below _ (T222.setTop (mkF m 199 #[.val (.long qx), .second, .val (.long qy), .second, .val (.int pm), .val (.long x1_rr), .second, .val (.long x2_rr), .second, .val (.ref b3), .val (.long v124), .second, .val (.int x10_rr), .val (.int x152_rr), .val (.long v154), .second] [(.int x222_rr)]))
          have hc199 : ¬ (x222_rr = (0 : Int32)) := own_ne32 (by omega)
          have hi199 : ¬ ((x222_rr).toInt = ((0 : Int32)).toInt) := fun z => hc199 (Int32.toInt_inj.symm.mpr z)
          refine Go.st (fun _ k => XS.ifYes X222.here hx rfl (pc0 := 199) (pc' := 204) rfl (hb hby at_199) rfl (Jvm.Free.XT.i0_ne_t hc199) (by decide) (by decide) k) ?_
          show Go p.tables e below _ (T222.setTop (mkF m 204 #[.val (.long qx), .second, .val (.long qy), .second, .val (.int pm), .val (.long x1_rr), .second, .val (.long x2_rr), .second, .val (.ref b3), .val (.long v124), .second, .val (.int x10_rr), .val (.int x152_rr), .val (.long v154), .second] []))
          refine Go.st (fun _ k => XS.aload X222.here hx rfl (hb hby at_204) rfl rfl k) ?_
          show Go p.tables e below _ (T222.setTop (mkF m 206 #[.val (.long qx), .second, .val (.long qy), .second, .val (.int pm), .val (.long x1_rr), .second, .val (.long x2_rr), .second, .val (.ref b3), .val (.long v124), .second, .val (.int x10_rr), .val (.int x152_rr), .val (.long v154), .second] [(.ref b3)]))
          obtain ⟨cq226, kq226, q226a, q226b, q226c⟩ := isOf hZ (rfl : T222.heap = T222.heap) Fq222_0
          obtain ⟨_, _, ⟨T226, L226, k226, n226⟩, -, X226, ⟨Lc226, hQ226, l226, y226, z226⟩, st226⟩ := X222.virtualBack hx (y := (⟨"com/example/clotho/clotho/jsonpath/Budget", "isTouched", "()Z"⟩ : MethodName)) (z := (⟨"com/example/clotho/clotho/jsonpath/Budget", "isTouched", "()Z"⟩ : MethodName)) hown (mvT hZ (hw _ (List.mem_of_getElem? (i := 27) rfl))) (mvT hZ (hw _ (List.mem_of_getElem? (i := 28) rfl))) (notFace_of_selects (args := #[]) (mvT hZ (hw _ (List.mem_of_getElem? (i := 30) rfl)))) (mvT hZ (hw _ (List.mem_of_getElem? (i := 30) rfl))) (mvT hZ (hw _ (List.mem_of_getElem? (i := 29) rfl))) (by decide) (backOf (W := 0) (rm_touched l Z a0 hw [] b3 x222_wn T222.heap n0 Z223 Fq222_1) hZ (hw _ (List.mem_of_getElem? (i := 31) rfl)) (hw _ (List.mem_of_getElem? (i := 8) rfl)) (by decide) (by decide)) q226a q226c (g := (mkF m 206 #[.val (.long qx), .second, .val (.long qy), .second, .val (.int pm), .val (.long x1_rr), .second, .val (.long x2_rr), .second, .val (.ref b3), .val (.long v124), .second, .val (.int x10_rr), .val (.int x152_rr), .val (.long v154), .second] [(.ref b3)])) rfl (by rw [hml]; rfl) (Steps.refl _) (argsL := []) (rest := []) (lenOf pd_4 rfl) rfl (by show 2 * 0 + _ ≤ _; exact Nat.le_of_eq rfl) (hb hby at_206) (fun _ _ => ⟨rfl, (rfl : T222.heap = T222.heap), (by decide : 1 + 0 ≤ _), (by decide : 1 + 0 ≤ _)⟩)
          dsimp only [Pt.U, Pt.locs, Pt.cells, Pt.slots] at X226 l226 y226 z226 st226 hQ226
          subst l226 y226 z226
          obtain ⟨x226_rr, rfl, N226q, e226, pr226_rel⟩ := hQ226
          have N226 := Fr.app N222 N226q
          refine Go.st (fun _ k => st226.trans k) ?_
          show Go p.tables e below _ (T226.setTop (mkF m 209 #[.val (.long qx), .second, .val (.long qy), .second, .val (.int pm), .val (.long x1_rr), .second, .val (.long x2_rr), .second, .val (.ref b3), .val (.long v124), .second, .val (.int x10_rr), .val (.int x152_rr), .val (.long v154), .second] [(.int x226_rr)]))
          subst hG
          obtain ⟨fs, hr, hrun, hended, hW, hsame⟩ := X226.leave (v := some (.int (nar .boolean x226_rr))) (fun h => by rw [Bd.returns] at h; cases h)
          refine ⟨_, _, ?_, hrun, hended, _, _, rfl, ?_, ⟨_, rfl⟩, hW, hsame.mono (by decide) (by decide)⟩
          · exact retN X226 hx (t := .boolean) Bd.returns (by simp) (hb hby at_209) hr
          · show Q_law Z qx qy pm h0 n0 _ T226.heap _
            rw [e226]
            exact ⟨(by rw [show x226_rr = (1 : Int32) from own_eq32 (by omega)]; rfl), N226, K224⟩
set_option maxRecDepth 65536 in
set_option maxHeartbeats 40000000 in
theorem comes_1 {Post : Tables → Env → Array Value → State → Outcome → State → Prop} (hpost : ∀ tb e args s v u, (limb_1_1.after args s (.returned v) u = true ∧ limb_1_2.after args s (.returned v) u = true ∧ True) → FrameEnd s (.returned v) u (Jvm.fieldLocs frame_1_writes args s ++ Jvm.arrayLocs frame_1_arrays args s ++ Jvm.staticLocs frame_1_statics s) 16 128 → Post tb e args s (.returned v) u) :
    ArmFor flags0 classFile x code maxLocals ret World_1 tables_1 room_1 Calls_1 rest_1 Pre_1 Post := by
  intro l hfl _ _ p e ha hc hk s m args below hf hA hF happ hP
  obtain ⟨hcalls, hrest, hpre⟩ := hP
  obtain ⟨-, -, -, hnamed, -, -, -, hat⟩ := (Spec.applies_iff hf).mp happ
  obtain ⟨hg, hn⟩ := and_e (Cond.before_iff.mp (show (Jvm.Cond.and given_1 narrow_1).before args s = true from hpre))
  obtain ⟨hcount, hg0⟩ := and_e hg
  obtain ⟨hv0, hg1⟩ := and_e hg0
  obtain ⟨hv1, hg2⟩ := and_e hg1
  obtain ⟨w0, w1, w2, rfl⟩ : ∃ w0 w1 w2 : Value, args = #[w0, w1, w2] := by
    have hs : args.size = 3 := by simpa [Cond.value, given_1] using hcount
    obtain ⟨L⟩ := args
    match L, hs with
    | [w0, w1, w2], _ => exact ⟨w0, w1, w2, rfl⟩
  have hw := fun d (hd : d ∈ tables_1) => atoms_spec (ws := Jvm.Cond.code x code maxLocals ret :: tables_1) hat d (List.mem_cons_of_mem _ hd)
  have hfit : Fit s := fun {y c} hc i hi => by
    obtain ⟨ha, rfl⟩ := Array.getElem?_eq_some_iff.mp hc
    have q := List.all_eq_true.mp ((Array.all_eq_true_iff_forall_mem.mp hF) _ (Array.getElem_mem ha)) i (List.mem_range.mpr hi)
    simpa [Array.getElem?_eq_getElem hi] using q
  obtain ⟨i0, ei0⟩ := isL_v hv0
  obtain rfl : w0 = (.long i0) := Option.some.inj ei0
  obtain ⟨i1, ei1⟩ := isL_v hv1
  obtain rfl : w1 = (.long i1) := Option.some.inj ei1
  obtain ⟨i2, ei2⟩ := is_v hg2
  obtain rfl : w2 = (.int i2) := Option.some.inj ei2
  obtain ⟨n, o, h1, h2, h3, _, L, rfl, ⟨rfl, N, -⟩, hq⟩ := rm_law l s _ hw tables_1 i0 i1 i2 s.heap s.heap.size (Nat.le_refl _)  p e ha hc hk s m _ below hf ((Spec.applies_iff_loose hf).mp happ).1 ⟨rfl, State.Warmed39.refl s, rfl⟩ trivial
  refine ⟨n, _, h1, h2, h3, hpost _ _ _ _ _ _ ⟨Cond.after_iff.mpr rfl, Cond.after_iff.mpr (eq_i res_at (Term.int_eval (1)) rfl), trivial⟩ ⟨hq.1, hq.2.1, (hq.2.2.sift fun y hy => Or.inr (N y hy)).mono (by decide) (by decide)⟩⟩
theorem main_1_1 : Claimed_1_1 := comes_1 fun _ _ _ _ _ _ h hF => ⟨h.1, hF⟩
theorem main_1_2 : Claimed_1_2 := comes_1 fun _ _ _ _ _ _ h hF => ⟨h.2.1, hF⟩
end Jvm.Pilot.@@N@@
namespace Jvm.Pilot.@@N@@
open Jvm Jvm.ClassFile Sem Op Lib Jvm.Free Jvm.Stand Jvm.Pilot.@@N@@.Jvm.D
/-! MADE BY PROGRAM (witnessworld.py) out of the Statement's table words and the real class files: 9 classes; the members and pool entries that the words name. The judged class is class 1, her method 3. -/
namespace start1
open Jvm.ClassFile
def u (s : String) : CpInfo := .utf8 (stringToUtf16 s)
/-- a pool by its gaps: so many unusable entries, then the entry; so many at the end -/
def gap : Nat → List CpInfo → List CpInfo
  | 0, r => r
  | n + 1, r => .unusable :: gap n r
def poolList (es : List (Nat × CpInfo)) (last : Nat) : List CpInfo := es.foldr (fun e r => gap e.1 (e.2 :: r)) (gap last [])
def pool (es : List (Nat × CpInfo)) (last : Nat) : Array CpInfo := ⟨poolList es last⟩
def fileOf (pool : Array CpInfo) (this : Nat) (attrs : Array Attribute := #[]) (ms : Array MethodInfo := #[]) (fl : Nat := 33) (sup : Nat := 0) (ifs : Array Nat := #[]) (fds : Array FieldInfo := #[]) : ClassFile where
  minorVersion := 0
  majorVersion := 65
  constantPool := pool
  accessFlags := fl
  thisClass := this
  superClass := sup
  interfaces := ifs
  fields := fds
  methods := ms
  attributes := attrs
def plain (name : String) (sup : Option ClassId) : Class where
  name := name
  kind := .ordinary
  loader := none
  accessFlags := 33
  super := sup
  interfaces := #[]
  cf := none
  fields := #[]
  methods := #[]
  instanceTypes := #[]
  staticTypes := #[]
  resolved := #[]
  callSites := []
  init := .initialized
  statics := none
  mirror := none

def pool0 : Array CpInfo := pool [(5, u "<init>"), (0, u "()V"), (1, .class_ 10), (1, u "java/lang/Object")] 113

def k0c0 : Code := { maxStack := 0, maxLocals := 1, code := object_method_1_code, exceptionTable := #[], attributes := #[] }
def k0m0 : Method := { name := "<init>", desc := "()V", sig := { parameters := [], returnType := none }, accessFlags := 1, code := some k0c0 }
/-- java/lang/Object -/
def k0 : Class := { plain "java/lang/Object" none with
  accessFlags := 33
  interfaces := #[]
  cf := some (fileOf pool0 8 #[] #[{ accessFlags := 1, nameIndex := 5, descriptorIndex := 6, attributes := #[] }] 33 0 #[] #[])
  fields := #[]
  methods := #[k0m0]
  instanceTypes := #[]
  staticTypes := #[]
  resolved := Array.replicate 124 none
  statics := none }

def pool1 : Array CpInfo := pool [(2, .class_ 4), (0, .nameAndType 5 6), (0, u "java/lang/Object"), (0, u "<init>"), (0, u "()V"), (2, .long 9223372036854775807), (1, .class_ 12), (0, u "com/example/clotho/clotho/jsonpath/BudgetTakePinLaw"), (0, .long 10000002), (1, .long 10000000), (1, .methodref 11 18), (0, .nameAndType 19 20), (0, u "pick"), (0, u "(JI)J"), (0, .class_ 22), (0, u "com/example/clotho/clotho/jsonpath/Budget"), (0, .methodref 21 3), (0, .methodref 11 25), (0, .nameAndType 26 27), (0, u "fits"), (0, u "(JJ)Z"), (0, .methodref 21 29), (0, .nameAndType 30 31), (0, u "take"), (0, u "(J)Z"), (0, .methodref 21 33), (0, .nameAndType 34 35), (0, u "isTouched"), (0, u "()Z"), (0, u "M"), (0, u "J"), (4, u "law"), (0, u "(JJI)Z")] 2

def k1m0 : Method := { name := "<init>", desc := "()V", sig := { parameters := [], returnType := none }, accessFlags := 1, code := none }
def k1c1 : Code := { maxStack := 4, maxLocals := 5, code := method_2_code, exceptionTable := #[], attributes := #[] }
def k1m1 : Method := { name := "pick", desc := "(JI)J", sig := { parameters := [.long, .int], returnType := some .long }, accessFlags := 10, code := some k1c1 }
def k1c2 : Code := { maxStack := 4, maxLocals := 4, code := method_3_code, exceptionTable := #[], attributes := #[] }
def k1m2 : Method := { name := "fits", desc := "(JJ)Z", sig := { parameters := [.long, .long], returnType := some .boolean }, accessFlags := 10, code := some k1c2 }
def k1c3 : Code := { maxStack := 5, maxLocals := 16, code := code, exceptionTable := #[], attributes := #[] }
def k1m3 : Method := { name := "law", desc := "(JJI)Z", sig := { parameters := [.long, .long, .int], returnType := some .boolean }, accessFlags := 9, code := some k1c3 }
/-- com/example/clotho/clotho/jsonpath/BudgetTakePinLaw -/
def k1 : Class := { plain "com/example/clotho/clotho/jsonpath/BudgetTakePinLaw" (some 0) with
  accessFlags := 49
  interfaces := #[]
  cf := some (fileOf pool1 11 #[] #[{ accessFlags := 1, nameIndex := 5, descriptorIndex := 6, attributes := #[] }, { accessFlags := 10, nameIndex := 19, descriptorIndex := 20, attributes := #[] }, { accessFlags := 10, nameIndex := 26, descriptorIndex := 27, attributes := #[] }, { accessFlags := 9, nameIndex := 42, descriptorIndex := 43, attributes := #[] }] 49 2 #[] #[{ accessFlags := 26, nameIndex := 36, descriptorIndex := 37, attributes := #[] }])
  fields := #[{ name := "M", type := .long, accessFlags := 26, slot := 0, constantValue := 0 }]
  methods := #[k1m0, k1m1, k1m2, k1m3]
  instanceTypes := #[]
  staticTypes := #[.long]
  resolved := Array.replicate 46 none
  statics := none }

def pool2 : Array CpInfo := pool [(1, .methodref 2 3), (0, .class_ 4), (0, .nameAndType 5 6), (0, u "java/lang/Object"), (0, u "<init>"), (0, u "()V"), (0, .fieldref 8 9), (0, .class_ 10), (0, .nameAndType 11 12), (0, u "com/example/clotho/clotho/jsonpath/Budget"), (0, u "steps"), (0, u "J"), (0, .long 10000000), (1, u "MAX_STEPS"), (3, u "isTouched"), (0, u "()Z"), (1, u "take"), (0, u "(J)Z")] 2

def k2c0 : Code := { maxStack := 1, maxLocals := 1, code := prog_3_method_1_code, exceptionTable := #[], attributes := #[] }
def k2m0 : Method := { name := "<init>", desc := "()V", sig := { parameters := [], returnType := none }, accessFlags := 1, code := some k2c0 }
def k2c1 : Code := { maxStack := 4, maxLocals := 1, code := prog_3_method_2_code, exceptionTable := #[], attributes := #[] }
def k2m1 : Method := { name := "isTouched", desc := "()Z", sig := { parameters := [], returnType := some .boolean }, accessFlags := 0, code := some k2c1 }
def k2c2 : Code := { maxStack := 6, maxLocals := 4, code := prog_3_method_3_code, exceptionTable := #[], attributes := #[] }
def k2m2 : Method := { name := "take", desc := "(J)Z", sig := { parameters := [.long], returnType := some .boolean }, accessFlags := 0, code := some k2c2 }
/-- com/example/clotho/clotho/jsonpath/Budget -/
def k2 : Class := { plain "com/example/clotho/clotho/jsonpath/Budget" (some 0) with
  accessFlags := 33
  interfaces := #[]
  cf := some (fileOf pool2 8 #[] #[{ accessFlags := 1, nameIndex := 5, descriptorIndex := 6, attributes := #[] }, { accessFlags := 0, nameIndex := 19, descriptorIndex := 20, attributes := #[] }, { accessFlags := 0, nameIndex := 22, descriptorIndex := 23, attributes := #[] }] 33 2 #[] #[{ accessFlags := 24, nameIndex := 15, descriptorIndex := 12, attributes := #[] }, { accessFlags := 2, nameIndex := 11, descriptorIndex := 12, attributes := #[] }])
  fields := #[{ name := "MAX_STEPS", type := .long, accessFlags := 24, slot := 0, constantValue := 0 }, { name := "steps", type := .long, accessFlags := 2, slot := 0, constantValue := 0 }]
  methods := #[k2m0, k2m1, k2m2]
  instanceTypes := #[.long]
  staticTypes := #[.long]
  resolved := Array.replicate 26 none
  statics := none }

def pool3 : Array CpInfo := pool [(1, u "java/lang/Cloneable"), (0, .class_ 1), (0, u "java/lang/Object"), (0, .class_ 3)] 3

/-- java/lang/Cloneable -/
def k3 : Class := { plain "java/lang/Cloneable" (some 0) with
  accessFlags := 1537
  interfaces := #[]
  cf := some (fileOf pool3 2 #[] #[] 1537 4 #[] #[])
  fields := #[]
  methods := #[]
  instanceTypes := #[]
  staticTypes := #[]
  resolved := Array.replicate 8 none
  statics := none }

def pool4 : Array CpInfo := pool [(1, u "java/io/Serializable"), (0, .class_ 1), (0, u "java/lang/Object"), (0, .class_ 3)] 3

/-- java/io/Serializable -/
def k4 : Class := { plain "java/io/Serializable" (some 0) with
  accessFlags := 1537
  interfaces := #[]
  cf := some (fileOf pool4 2 #[] #[] 1537 4 #[] #[])
  fields := #[]
  methods := #[]
  instanceTypes := #[]
  staticTypes := #[]
  resolved := Array.replicate 8 none
  statics := none }

/-- the primitive byte -/
def k5 : Class := { plain "byte" none with kind := .primitive 'B', accessFlags := 0x411 }
/-- [B -/
def k6 : Class := { plain "[B" (some 0) with kind := .array 5 .byte, interfaces := #[3, 4], accessFlags := 1041 }

/-- the primitive int -/
def k7 : Class := { plain "int" none with kind := .primitive 'I', accessFlags := 0x411 }
/-- [I -/
def k8 : Class := { plain "[I" (some 0) with kind := .array 7 .int, interfaces := #[3, 4], accessFlags := 1041 }

def heap : Heap := #[]
def classes : Array Class := #[k0, k1, k2, k3, k4, k5, k6, k7, k8]
def interned : List (Array UInt16 × Addr) := []
def slotsUsed : Nat := 0
def theMethod : MethodId := ⟨1, 3⟩
def args0 : Array Value := #[.long 5, .long 7, .int 3]
def aboutOver (below : List Frame) : State where
  vm := { classes := classes, interned := interned.toArray }
  heap := heap
  slotsUsed := slotsUsed
  threads := #[{ frames := .invoking theMethod args0 :: below }]
def below0 : List Frame := [.native { method := ⟨0, 0⟩, args := #[] }]
def about1 : State := aboutOver below0
def p0 : Program := .bare "" "" ""
def e0 : Env := launch0.env 0 0 0
theorem w_frames : about1.frames = Frame.invoking theMethod args0 :: below0 := rfl
set_option maxRecDepth 65536 in
theorem w_args : argsFit about1.vm theMethod args0 = true := by decide +kernel
set_option maxRecDepth 65536 in
theorem w_heap : heapFits about1 = true := by decide +kernel
set_option maxRecDepth 65536 in
theorem w_runnable : about1.curStatus? = some .runnable := by decide +kernel
set_option maxRecDepth 65536 in
theorem w_alone : about1.alone = true := by decide +kernel
set_option maxRecDepth 65536 in
theorem w_named : about1.methodNamed? x = some theMethod := by decide +kernel
set_option maxRecDepth 65536 in
theorem w_hears : about1.hears theMethod below0 = true := by decide +kernel
set_option maxRecDepth 65536 in
theorem w_ripe : about1.ripe theMethod args0 below0 = true := by decide +kernel
theorem w_running : about1.status = .running := rfl
set_option maxRecDepth 65536 in
theorem w_room : about1.hasRoom e0.platform room_1 = true :=
  launch0.hasRoom_least _ room_1 (by decide +kernel) (by decide +kernel) (by decide +kernel) (by decide +kernel) (by decide +kernel) (by decide +kernel)
theorem allAtoms_all (ts : List Jvm.Cond) (a : Array Jvm.Value) (st : Jvm.State) : (allAtoms ts).before a st = ts.all (fun c => c.before a st) := by
  induction ts with
  | nil => rfl
  | cons c t ih =>
    show (Jvm.Cond.and c (allAtoms t)).before a st = _
    rw [Jvm.Cond.before_and, ih, List.all_cons]
def words1 : List Jvm.Cond := Jvm.Cond.code x code maxLocals ret :: tables_1
/-- a 'code' word, met by the world's own term for the bytes: nothing is compared byte by byte -/
theorem code_word {y : MethodName} {bytes : ByteArray} {mx : Nat} {rt : Option FieldType} {a : Array Value} {s : State} {m : MethodId} {meth : Method} {c : Code} (h1 : s.methodNamed? y = some m) (h2 : s.vm.method? m = some meth) (h3 : meth.code = some c) (h4 : c.code = bytes)
    (h5 : (c.maxLocals == mx && c.exceptionTable.isEmpty && decide (c.maxStack ≤ mostOperands) && decide (meth.sig.returnType = rt) && !meth.locks && decide (parseMethodDescriptor y.desc = some meth.sig)) = true) : (Jvm.Cond.code y bytes mx rt).before a s = true := by
  simp only [Bool.and_eq_true, beq_iff_eq, Bool.not_eq_true', decide_eq_true_eq] at h5
  obtain ⟨⟨⟨⟨⟨g1, g2⟩, g3⟩, g4⟩, g5⟩, g6⟩ := h5
  simp [Cond.before, Cond.holds, Cond.value, h1, h2, h3, h4, g1, g2, g3, g4, g5, g6]
def isCode : Jvm.Cond → Bool
  | .code _ _ _ _ => true
  | _ => false
theorem all_split {L : List Jvm.Cond} {P : Jvm.Cond → Bool} (h1 : L.all (fun c => isCode c || P c) = true) (h2 : ∀ c ∈ L.filter isCode, P c = true) : L.all P = true := by
  refine List.all_eq_true.mpr fun c hc => ?_
  have h := List.all_eq_true.mp h1 c hc
  rcases Bool.eq_false_or_eq_true (isCode c) with hi | hi
  · exact h2 c (List.mem_filter.mpr ⟨hc, hi⟩)
  · simpa [hi] using h
set_option maxRecDepth 65536 in
theorem w_c0 : (Jvm.Cond.code x code maxLocals ret).before args0 about1 = true := code_word (m := ⟨1, 3⟩) (meth := k1m3) (c := k1c3) (by decide +kernel) rfl rfl rfl (by decide +kernel)
set_option maxRecDepth 65536 in
theorem w_c1 : (Jvm.Cond.code ({ cls := "com/example/clotho/clotho/jsonpath/BudgetTakePinLaw", name := "pick", desc := "(JI)J" } : Jvm.MethodName) method_2_code (5 : Nat) (Option.some Jvm.ClassFile.FieldType.long)).before args0 about1 = true := code_word (m := ⟨1, 1⟩) (meth := k1m1) (c := k1c1) (by decide +kernel) rfl rfl rfl (by decide +kernel)
set_option maxRecDepth 65536 in
theorem w_c2 : (Jvm.Cond.code ({ cls := "com/example/clotho/clotho/jsonpath/Budget", name := "<init>", desc := "()V" } : Jvm.MethodName) prog_3_method_1_code (1 : Nat) (Option.none : Option Jvm.ClassFile.FieldType)).before args0 about1 = true := code_word (m := ⟨2, 0⟩) (meth := k2m0) (c := k2c0) (by decide +kernel) rfl rfl rfl (by decide +kernel)
set_option maxRecDepth 65536 in
theorem w_c3 : (Jvm.Cond.code ({ cls := "java/lang/Object", name := "<init>", desc := "()V" } : Jvm.MethodName) object_method_1_code (1 : Nat) (Option.none : Option Jvm.ClassFile.FieldType)).before args0 about1 = true := code_word (m := ⟨0, 0⟩) (meth := k0m0) (c := k0c0) (by decide +kernel) rfl rfl rfl (by decide +kernel)
set_option maxRecDepth 65536 in
theorem w_c4 : (Jvm.Cond.code ({ cls := "com/example/clotho/clotho/jsonpath/BudgetTakePinLaw", name := "fits", desc := "(JJ)Z" } : Jvm.MethodName) method_3_code (4 : Nat) (Option.some Jvm.ClassFile.FieldType.boolean)).before args0 about1 = true := code_word (m := ⟨1, 2⟩) (meth := k1m2) (c := k1c2) (by decide +kernel) rfl rfl rfl (by decide +kernel)
set_option maxRecDepth 65536 in
theorem w_c5 : (Jvm.Cond.code ({ cls := "com/example/clotho/clotho/jsonpath/Budget", name := "take", desc := "(J)Z" } : Jvm.MethodName) prog_3_method_3_code (4 : Nat) (Option.some Jvm.ClassFile.FieldType.boolean)).before args0 about1 = true := code_word (m := ⟨2, 2⟩) (meth := k2m2) (c := k2c2) (by decide +kernel) rfl rfl rfl (by decide +kernel)
set_option maxRecDepth 65536 in
theorem w_c6 : (Jvm.Cond.code ({ cls := "com/example/clotho/clotho/jsonpath/Budget", name := "isTouched", desc := "()Z" } : Jvm.MethodName) prog_3_method_2_code (1 : Nat) (Option.some Jvm.ClassFile.FieldType.boolean)).before args0 about1 = true := code_word (m := ⟨2, 1⟩) (meth := k2m1) (c := k2c1) (by decide +kernel) rfl rfl rfl (by decide +kernel)
def codes1 : List Jvm.Cond := [Jvm.Cond.code x code maxLocals ret, Jvm.Cond.code ({ cls := "com/example/clotho/clotho/jsonpath/BudgetTakePinLaw", name := "pick", desc := "(JI)J" } : Jvm.MethodName) method_2_code (5 : Nat) (Option.some Jvm.ClassFile.FieldType.long), Jvm.Cond.code ({ cls := "com/example/clotho/clotho/jsonpath/Budget", name := "<init>", desc := "()V" } : Jvm.MethodName) prog_3_method_1_code (1 : Nat) (Option.none : Option Jvm.ClassFile.FieldType), Jvm.Cond.code ({ cls := "java/lang/Object", name := "<init>", desc := "()V" } : Jvm.MethodName) object_method_1_code (1 : Nat) (Option.none : Option Jvm.ClassFile.FieldType), Jvm.Cond.code ({ cls := "com/example/clotho/clotho/jsonpath/BudgetTakePinLaw", name := "fits", desc := "(JJ)Z" } : Jvm.MethodName) method_3_code (4 : Nat) (Option.some Jvm.ClassFile.FieldType.boolean), Jvm.Cond.code ({ cls := "com/example/clotho/clotho/jsonpath/Budget", name := "take", desc := "(J)Z" } : Jvm.MethodName) prog_3_method_3_code (4 : Nat) (Option.some Jvm.ClassFile.FieldType.boolean), Jvm.Cond.code ({ cls := "com/example/clotho/clotho/jsonpath/Budget", name := "isTouched", desc := "()Z" } : Jvm.MethodName) prog_3_method_2_code (1 : Nat) (Option.some Jvm.ClassFile.FieldType.boolean)]
set_option maxRecDepth 65536 in
theorem codes_eq : words1.filter isCode = codes1 := rfl
theorem w_codes : ∀ c ∈ words1.filter isCode, c.before args0 about1 = true := by
  rw [codes_eq]
  intro c hc
  simp only [codes1, List.mem_cons, List.not_mem_nil, or_false] at hc
  rcases hc with rfl | rfl | rfl | rfl | rfl | rfl | rfl
  · exact w_c0
  · exact w_c1
  · exact w_c2
  · exact w_c3
  · exact w_c4
  · exact w_c5
  · exact w_c6
set_option maxRecDepth 65536 in
theorem w_t1 : (words1.take 24).all (fun c => isCode c || c.before args0 about1) = true := by decide +kernel
set_option maxRecDepth 65536 in
theorem w_t2 : (words1.drop 24).all (fun c => isCode c || c.before args0 about1) = true := by decide +kernel
theorem w_tables : (allAtoms (Jvm.Cond.code x code maxLocals ret :: tables_1)).before args0 about1 = true := by
  rw [allAtoms_all]
  show words1.all (fun c => c.before args0 about1) = true
  refine all_split ?_ w_codes
  rw [← List.take_append_drop 24 words1, List.all_append, w_t1, w_t2]
  rfl
set_option maxRecDepth 65536 in
theorem w_case : (Jvm.Cond.and given_1 narrow_1).before args0 about1 = true := by decide +kernel
theorem w_applies : (headSpec (Jvm.Cond.code x code maxLocals ret :: tables_1) room_1).applies x e0.platform about1 = true :=
  (Spec.applies_iff w_frames).mpr ⟨w_running, w_runnable, w_alone, w_named, w_hears, w_ripe, w_room, w_tables⟩
theorem atStart : AtStart classFile x code maxLocals ret World_1 tables_1 room_1 Calls_1 rest_1 Pre_1 launch0 p0 e0 about1 theMethod args0 below0 :=
  ⟨lists_1, trivial, launch0.admits_env _ _ _, launch0.least_env, fairChoices_fair.cas, fairChoices_fair.clock, w_frames, w_args, w_heap, w_applies, trivial, trivial, w_case⟩
end start1
theorem witness_1 : WitnessClaimed_1 := ⟨start1.p0, start1.e0, start1.about1, start1.theMethod, start1.args0, start1.below0, start1.atStart⟩
end Jvm.Pilot.@@N@@
