import JvmDerived
import JvmDerived.Pilot.@@N@@Statement
import JvmDerived.Pilot.@@N@@Code
set_option linter.unusedVariables false
set_option linter.unusedSimpArgs false
@@BLOCK:NumsL.lean.txt@@
namespace Jvm.RoadKit
open Sem ClassFile Op Lib Jvm.Stand Jvm.Free Jvm.LawKit
section New
variable {p : Program} {l : Launch} {e : Env} {R : Room} {s : State} {m : MethodId} {args : Array Value} {below : List Frame} {meth : Method} {c : Code} {T : State} {locs : List Loc} {cells slots : Nat}
theorem retI (X : Stand p l e R s m args below meth c T locs cells slots) (hx : p.tables.exec = Jvm.exec) {pc : Nat} {Ls : Array Slot} {z : Int32} {rest : List Value} (hret : meth.sig.returnType = some .int) (hd : decode c.code pc = .ok (.ireturn, 1)) {fs : List Frame}
    (hl : ∀ (f : JFrame) (acts : List Action), f.method = m → f.locked = none → f.entered = [] → (doReturn e (T.setTop f) acts (some (.int z))).1 = T.setFrames fs) : Steps p.tables e below (T.setTop (mkF m pc Ls (.int z :: rest))) (T.setFrames fs) := by
  have hm' : T.vm.method? m = some meth := X.method'
  have hn : narrow .int (.int z) = .int z := rfl
  show Steps p.tables e below (T.setTop { method := m, pc := pc, locals := Ls, stack := _ :: rest, locked := none }) _
  jvm_step X.here [X.here.top, hx, hd, hm', hret, hn]
  first | (intro acts; rw [hl _ acts rfl rfl rfl]) | rw [hl _ _ rfl rfl rfl]
  exact Steps.refl _
end New
end Jvm.RoadKit
namespace Jvm.Pilot.@@N@@
open Jvm Jvm.ClassFile Sem Op Lib Jvm.Free Jvm.Stand Jvm.LawKit Jvm.RoadKit Bundle Jvm.Pilot.@@N@@.Jvm.D
/-- from here the run comes to an end of which G holds -/
def Go (tb : Tables) (e : Env) (below : List Frame) (G : State → Outcome → Prop) (U : State) : Prop := ∃ t o, Steps tb e below U t ∧ G t o
theorem Go.st {tb : Tables} {e : Env} {below : List Frame} {G : State → Outcome → Prop} {U U' : State} (h : ∀ t, Steps tb e below U' t → Steps tb e below U t) (k : Go tb e below G U') : Go tb e below G U :=
  let ⟨t, o, a, b⟩ := k
  ⟨t, o, h t a, b⟩
theorem Go.start {tb : Tables} {e : Env} {below : List Frame} {G0 : State → Outcome → Prop} {U : State} (h : ∀ G, G = G0 → Go tb e below G U) : Go tb e below G0 U := h _ rfl
theorem Go.join {tb : Tables} {e : Env} {below : List Frame} {G : State → Outcome → Prop} {U : State} {α : Type} {F : α → State} (k : ∀ z, Go tb e below G (F z)) (h : (∀ z, Go tb e below G (F z)) → Go tb e below G U) : Go tb e below G U := h k
theorem Go.joinR {tb : Tables} {e : Env} {below : List Frame} {G : State → Outcome → Prop} {U : State} {α : Type} {F : α → State} {R : α → Prop} (k : ∀ z, R z → Go tb e below G (F z)) (h : (∀ z, R z → Go tb e below G (F z)) → Go tb e below G U) : Go tb e below G U := h k
theorem own_lrem {tb : Tables} {e : Env} {below : List Frame} {T target : State} {g : JFrame} {n : Nat} {x y : Int64} {rest : List Value} (k : Steps tb e below (T.setTop { g with pc := n, stack := .long (x % y) :: rest }) target) :
    Steps tb e below (T.setTop { g with pc := n, stack := .long (x - (x / y) * y) :: rest }) target := by
  rw [lrem_mod]
  exact k
theorem i64_addc (x y : Int64) : (x + y).toInt = x.toInt + y.toInt ∧ -2 ^ 63 ≤ x.toInt + y.toInt ∧ x.toInt + y.toInt < 2 ^ 63 ∨ (x + y).toInt = x.toInt + y.toInt - 2 ^ 64 ∧ 2 ^ 63 ≤ x.toInt + y.toInt ∨ (x + y).toInt = x.toInt + y.toInt + 2 ^ 64 ∧ x.toInt + y.toInt < -2 ^ 63 := by
  have h := Int64.toInt_add x y
  have a1 := Int64.le_toInt x
  have a2 := Int64.toInt_lt x
  have b1 := Int64.le_toInt y
  have b2 := Int64.toInt_lt y
  rw [Int.bmod_def] at h
  split at h <;> omega
theorem i64_subc (x y : Int64) : (x - y).toInt = x.toInt - y.toInt ∧ -2 ^ 63 ≤ x.toInt - y.toInt ∧ x.toInt - y.toInt < 2 ^ 63 ∨ (x - y).toInt = x.toInt - y.toInt - 2 ^ 64 ∧ 2 ^ 63 ≤ x.toInt - y.toInt ∨ (x - y).toInt = x.toInt - y.toInt + 2 ^ 64 ∧ x.toInt - y.toInt < -2 ^ 63 := by
  have h := Int64.toInt_sub x y
  have a1 := Int64.le_toInt x
  have a2 := Int64.toInt_lt x
  have b1 := Int64.le_toInt y
  have b2 := Int64.toInt_lt y
  rw [Int.bmod_def] at h
  split at h <;> omega
theorem i32_i2c (x : Int32) : (x.toUInt32.toUInt16.toUInt32.toInt32).toInt = x.toInt % 65536 := by
  have h1 : (x.toUInt32.toUInt16.toUInt32.toInt32).toInt = ((x.toUInt32.toUInt16.toUInt32).toNat : Int).bmod (2 ^ 32) := by
    rw [← Int32.toInt_toBitVec, BitVec.toInt_eq_toNat_bmod]; rfl
  have h2 : (x.toUInt32.toUInt16.toUInt32).toNat = x.toBitVec.toNat % 65536 := by
    simp [UInt32.toNat_toUInt16, UInt16.toNat_toUInt32]; rfl
  have h3 : x.toInt = (x.toBitVec.toNat : Int).bmod (2 ^ 32) := by
    rw [← Int32.toInt_toBitVec, BitVec.toInt_eq_toNat_bmod]
  have h4 := x.toBitVec.isLt
  rw [h1, h2, h3, Int.bmod_def, Int.bmod_def]
  split <;> split <;> omega
theorem i32_addc (x y : Int32) : (x + y).toInt = x.toInt + y.toInt ∧ -2 ^ 31 ≤ x.toInt + y.toInt ∧ x.toInt + y.toInt < 2 ^ 31 ∨ (x + y).toInt = x.toInt + y.toInt - 2 ^ 32 ∧ 2 ^ 31 ≤ x.toInt + y.toInt ∨ (x + y).toInt = x.toInt + y.toInt + 2 ^ 32 ∧ x.toInt + y.toInt < -2 ^ 31 := by
  have h := Int32.toInt_add x y
  have a1 := Int32.le_toInt x
  have a2 := Int32.toInt_lt x
  have b1 := Int32.le_toInt y
  have b2 := Int32.toInt_lt y
  rw [Int.bmod_def] at h
  split at h <;> omega
theorem i32_subc (x y : Int32) : (x - y).toInt = x.toInt - y.toInt ∧ -2 ^ 31 ≤ x.toInt - y.toInt ∧ x.toInt - y.toInt < 2 ^ 31 ∨ (x - y).toInt = x.toInt - y.toInt - 2 ^ 32 ∧ 2 ^ 31 ≤ x.toInt - y.toInt ∨ (x - y).toInt = x.toInt - y.toInt + 2 ^ 32 ∧ x.toInt - y.toInt < -2 ^ 31 := by
  have h := Int32.toInt_sub x y
  have a1 := Int32.le_toInt x
  have a2 := Int32.toInt_lt x
  have b1 := Int32.le_toInt y
  have b2 := Int32.toInt_lt y
  rw [Int.bmod_def] at h
  split at h <;> omega
theorem own_eq32 {a b : Int32} (h : a.toInt = b.toInt) : a = b := Int32.toInt_inj.mp h
theorem own_eq64 {a b : Int64} (h : a.toInt = b.toInt) : a = b := Int64.toInt_inj.mp h
theorem own_lt64 {a b : Int64} (h : a.toInt < b.toInt) : a < b := Int64.lt_iff_toInt_lt.mpr h
theorem own_lt32 {a b : Int32} (h : a.toInt < b.toInt) : a < b := Int32.lt_iff_toInt_lt.mpr h
theorem own_nlt64 {a b : Int64} (h : b.toInt ≤ a.toInt) : ¬ a < b := fun z => by have := Int64.lt_iff_toInt_lt.mp z; omega
theorem own_nlt32 {a b : Int32} (h : b.toInt ≤ a.toInt) : ¬ a < b := fun z => by have := Int32.lt_iff_toInt_lt.mp z; omega
theorem own_ne32 {a b : Int32} (h : a.toInt ≠ b.toInt) : ¬ a = b := fun z => h (by rw [z])
theorem own_ne64 {a b : Int64} (h : a.toInt ≠ b.toInt) : ¬ a = b := fun z => h (by rw [z])
theorem pn_0 : plainName "com/example/clotho/clotho/jsonpath/Budget" = true := by first | (simp [plainName, overriddenIn]; done) | decide +kernel
theorem d_binit_0 : decode prog_3_method_1_code 0 = .ok (.aload_n 0, 1) := by decide +kernel
theorem d_binit_1 : decode prog_3_method_1_code 1 = .ok (.invokespecial 1, 3) := by decide +kernel
theorem d_binit_4 : decode prog_3_method_1_code 4 = .ok (.return_, 1) := by decide +kernel
theorem ef_binit (m : MethodId) (ao : Addr) : entryFrame m #[(.ref ao)] 1 = mkF m 0 #[.val (.ref ao)] [] := by first | (simp [entryFrame, mkF, argsToLocals, Value.category]; done) | rfl
def Q_binit (Z : State) (ao : Addr) (h0 : Heap) (n0 : Nat) (v : Option Value) (h : Heap) (L : List Loc) : Prop := v = none ∧ Fr n0 L ∧ h = h0
set_option maxRecDepth 65536 in
set_option maxHeartbeats 40000000 in
theorem rm_binit (l : Launch) (Z : State) (a0 : Array Value) (hw : ∀ d ∈ tables_1, d.before a0 Z = true) (ws : List Jvm.Cond) (ao : Addr) (h0 : Heap) (n0 : Nat) (Z0 : n0 ≤ h0.size)  :
    MetFree l (⟨"com/example/clotho/clotho/jsonpath/Budget", "<init>", "()V"⟩ : MethodName) (head1 (Jvm.Cond.code (⟨"com/example/clotho/clotho/jsonpath/Budget", "<init>", "()V"⟩ : MethodName) prog_3_method_1_code 1 none :: ws) ({ frames := 1, cells := 0, slots := 0, locals := 12 } : Room)) (fun a U => a = #[(.ref ao)] ∧ Z.Warmed39 U.vm ∧ U.heap = h0) (fun _ _ _ _ _ => True) (fun _ U o U' => ∃ v L, o = .returned v ∧ Q_binit Z ao h0 n0 v U'.heap L ∧ FrameEnd U o U' L ({ frames := 1, cells := 0, slots := 0, locals := 12 } : Room).cells ({ frames := 1, cells := 0, slots := 0, locals := 12 } : Room).slots) := by
  refine MetFree.of_bodySF (plainFor_of_name pn_0) hisR ?_
  intro p e s m args below meth c s₁ Bd hml0 hP hK
  obtain ⟨rfl, hZ, hh⟩ := hP
  have hx := Bd.exec
  have hby := Bd.bytes
  have hml : c.maxLocals = 1 := hml0
  have hown : s.vm.findClass "com/example/clotho/clotho/jsonpath/Budget" = some m.cls := findClass_of_methodNamed Bd.named
  have hnm := (name_of_methodNamed Bd.named Bd.method).1
  have X0 : Stand p l e ({ frames := 1, cells := 0, slots := 0, locals := 12 } : Room) s m #[(.ref ao)] below meth c s₁ [] 0 0 := Stand.of_body Bd
  have e0 : s₁.heap = h0 := by rw [← hh, Bd.state]; rfl
  have N0 := Fr.nil n0
  have K0 : Keep h0 h0 [] := Keep.refl h0 []
  show Go p.tables e below _ (s₁.setTop (entryFrame m #[(.ref ao)] 1))
  refine Go.start ?_
  intro G hG
  refine Go.st (fun t k => castTop (ef_binit m ao) k) ?_
  show Go p.tables e below _ (s₁.setTop (mkF m 0 #[.val (.ref ao)] []))
  refine Go.st (fun _ k => XS.aloadN X0.here hx rfl (hb hby d_binit_0) rfl rfl k) ?_
  show Go p.tables e below _ (s₁.setTop (mkF m 1 #[.val (.ref ao)] [(.ref ao)]))
  obtain ⟨T1, X1, e1, st1⟩ := initO X0 hx hZ hown (hw _ (List.mem_of_getElem? (i := 11) rfl)) (hw _ (List.mem_of_getElem? (i := 12) rfl)) (hw _ (List.mem_of_getElem? (i := 13) rfl)) e0 (g := (mkF m 1 #[.val (.ref ao)] [(.ref ao)])) rfl (by rw [hml]; rfl) rfl (hb hby d_binit_1) (by decide) (W := 0) (by show 2 * 0 + _ ≤ _; exact Nat.le_of_eq rfl) (by decide)
  refine Go.st st1 ?_
  show Go p.tables e below _ (T1.setTop (mkF m 4 #[.val (.ref ao)] []))
  subst hG
  obtain ⟨fs, hr, hrun, hended, hW, hsame⟩ := X1.leave (v := none) (fun _ => rfl)
  refine ⟨_, _, ?_, hrun, hended, _, _, rfl, ?_, ⟨_, rfl⟩, hW, hsame.mono (by decide) (by decide)⟩
  · exact X1.returnOut hx Bd.returns (hb hby d_binit_4) hr
  · show Q_binit Z ao h0 n0 _ T1.heap _
    rw [e1]
    exact ⟨rfl, N0, rfl⟩
theorem d_touched_0 : decode prog_3_method_2_code 0 = .ok (.aload_n 0, 1) := by decide +kernel
theorem d_touched_1 : decode prog_3_method_2_code 1 = .ok (.getfield 7, 3) := by decide +kernel
theorem d_touched_4 : decode prog_3_method_2_code 4 = .ok (.lconst 0, 1) := by decide +kernel
theorem d_touched_5 : decode prog_3_method_2_code 5 = .ok (.lcmp, 1) := by decide +kernel
theorem d_touched_6 : decode prog_3_method_2_code 6 = .ok (.ifCond .le 7, 3) := by decide +kernel
theorem d_touched_9 : decode prog_3_method_2_code 9 = .ok (.iconst 1, 1) := by decide +kernel
theorem d_touched_10 : decode prog_3_method_2_code 10 = .ok (.goto 4, 3) := by decide +kernel
theorem d_touched_13 : decode prog_3_method_2_code 13 = .ok (.iconst 0, 1) := by decide +kernel
theorem d_touched_14 : decode prog_3_method_2_code 14 = .ok (.ireturn, 1) := by decide +kernel
theorem ef_touched (m : MethodId) (ao : Addr) : entryFrame m #[(.ref ao)] 1 = mkF m 0 #[.val (.ref ao)] [] := by first | (simp [entryFrame, mkF, argsToLocals, Value.category]; done) | rfl
def Q_touched (Z : State) (ao : Addr) (wst : Int64) (h0 : Heap) (n0 : Nat) (v : Option Value) (h : Heap) (L : List Loc) : Prop := ∃ rr : Int32, v = some (.int rr) ∧ Fr n0 L ∧ h = h0 ∧ (rr.toInt = 1 ∧ 0 < wst.toInt ∨ rr.toInt = 0 ∧ wst.toInt ≤ 0)
set_option maxRecDepth 65536 in
set_option maxHeartbeats 40000000 in
theorem rm_touched (l : Launch) (Z : State) (a0 : Array Value) (hw : ∀ d ∈ tables_1, d.before a0 Z = true) (ws : List Jvm.Cond) (ao : Addr) (wst : Int64) (h0 : Heap) (n0 : Nat) (Z0 : n0 ≤ h0.size) (P0 : Fld Z h0 ao "com/example/clotho/clotho/jsonpath/Budget" "steps" "J" (.long wst)) :
    MetFree l (⟨"com/example/clotho/clotho/jsonpath/Budget", "isTouched", "()Z"⟩ : MethodName) (head1 (Jvm.Cond.code (⟨"com/example/clotho/clotho/jsonpath/Budget", "isTouched", "()Z"⟩ : MethodName) prog_3_method_2_code 1 (some .boolean) :: ws) ({ frames := 0, cells := 0, slots := 0, locals := 0 } : Room)) (fun a U => a = #[(.ref ao)] ∧ Z.Warmed39 U.vm ∧ U.heap = h0) (fun _ _ _ _ _ => True) (fun _ U o U' => ∃ v L, o = .returned v ∧ Q_touched Z ao wst h0 n0 v U'.heap L ∧ FrameEnd U o U' L ({ frames := 0, cells := 0, slots := 0, locals := 0 } : Room).cells ({ frames := 0, cells := 0, slots := 0, locals := 0 } : Room).slots) := by
  refine MetFree.of_bodySF (plainFor_of_name pn_0) hisR ?_
  intro p e s m args below meth c s₁ Bd hml0 hP hK
  obtain ⟨rfl, hZ, hh⟩ := hP
  have hx := Bd.exec
  have hby := Bd.bytes
  have hml : c.maxLocals = 1 := hml0
  have hown : s.vm.findClass "com/example/clotho/clotho/jsonpath/Budget" = some m.cls := findClass_of_methodNamed Bd.named
  have hnm := (name_of_methodNamed Bd.named Bd.method).1
  have X0 : Stand p l e ({ frames := 0, cells := 0, slots := 0, locals := 0 } : Room) s m #[(.ref ao)] below meth c s₁ [] 0 0 := Stand.of_body Bd
  have e0 : s₁.heap = h0 := by rw [← hh, Bd.state]; rfl
  have N0 := Fr.nil n0
  have K0 : Keep h0 h0 [] := Keep.refl h0 []
  show Go p.tables e below _ (s₁.setTop (entryFrame m #[(.ref ao)] 1))
  refine Go.start ?_
  intro G hG
  refine Go.st (fun t k => castTop (ef_touched m ao) k) ?_
  show Go p.tables e below _ (s₁.setTop (mkF m 0 #[.val (.ref ao)] []))
  refine Go.st (fun _ k => XS.aloadN X0.here hx rfl (hb hby d_touched_0) rfl rfl k) ?_
  show Go p.tables e below _ (s₁.setTop (mkF m 1 #[.val (.ref ao)] [(.ref ao)]))
  obtain ⟨T1, X1, e1, st1⟩ := getF X0 hx hZ hown (host := "") (Or.inl (hw _ (List.mem_of_getElem? (i := 19) rfl))) Via.refl e0 P0 (g := (mkF m 1 #[.val (.ref ao)] [(.ref ao)])) rfl rfl (hb hby d_touched_1)
  refine Go.st st1 ?_
  show Go p.tables e below _ (T1.setTop (mkF m 4 #[.val (.ref ao)] [(.long wst)]))
  refine Go.st (fun _ k => XS.lconst X1.here hx rfl (hb hby d_touched_4) k) ?_
  show Go p.tables e below _ (T1.setTop (mkF m 5 #[.val (.ref ao)] [(.long (0 : Int64)), (.long wst)]))
  refine Go.st (fun _ k => Jvm.Free.XT.lcmp X1.here hx rfl (hb hby d_touched_5) rfl k) ?_
  show Go p.tables e below _ (T1.setTop (mkF m 6 #[.val (.ref ao)] [(.int (Jvm.Free.XT.cmpL wst (0 : Int64)))]))
  by_cases hc6 : (0 : Int64) < wst
  · skip
    have lt_064 : (0 : Int64).toInt = 0 := by decide
    have hi6 : ((0 : Int64)).toInt < (wst).toInt := Int64.lt_iff_toInt_lt.mp hc6
    refine Go.st (fun _ k => XS.ifNo X1.here hx rfl (hb hby d_touched_6) rfl (Jvm.Free.XT.ll_le_f hc6) k) ?_
    show Go p.tables e below _ (T1.setTop (mkF m 9 #[.val (.ref ao)] []))
    refine Go.st (fun _ k => XS.iconst X1.here hx rfl (hb hby d_touched_9) k) ?_
    show Go p.tables e below _ (T1.setTop (mkF m 10 #[.val (.ref ao)] [(.int (1 : Int32))]))
    refine Go.st (fun _ k => XS.goto X1.here hx rfl (pc0 := 10) (pc' := 14) rfl (hb hby d_touched_10) (by decide) (by decide) k) ?_
    show Go p.tables e below _ (T1.setTop (mkF m 14 #[.val (.ref ao)] [(.int (1 : Int32))]))
    have lt_132 : (1 : Int32).toInt = 1 := by decide
    subst hG
    obtain ⟨fs, hr, hrun, hended, hW, hsame⟩ := X1.leave (v := some (.int (nar .boolean (1 : Int32)))) (fun h => by rw [Bd.returns] at h; cases h)
    refine ⟨_, _, ?_, hrun, hended, _, _, rfl, ?_, ⟨_, rfl⟩, hW, hsame.mono (by decide) (by decide)⟩
    · exact retN X1 hx (t := .boolean) Bd.returns (by simp) (hb hby d_touched_14) hr
    · show Q_touched Z ao wst h0 n0 _ T1.heap _
      rw [e1]
      exact ⟨(1 : Int32), rfl, N0, rfl, (by omega)⟩
  · skip
    have lt_064 : (0 : Int64).toInt = 0 := by decide
    have hi6 : ¬ (((0 : Int64)).toInt < (wst).toInt) := fun z => hc6 (Int64.lt_iff_toInt_lt.mpr z)
    refine Go.st (fun _ k => XS.ifYes X1.here hx rfl (pc0 := 6) (pc' := 13) rfl (hb hby d_touched_6) rfl (Jvm.Free.XT.ll_le_t hc6) (by decide) (by decide) k) ?_
    show Go p.tables e below _ (T1.setTop (mkF m 13 #[.val (.ref ao)] []))
    refine Go.st (fun _ k => XS.iconst X1.here hx rfl (hb hby d_touched_13) k) ?_
    show Go p.tables e below _ (T1.setTop (mkF m 14 #[.val (.ref ao)] [(.int (0 : Int32))]))
    have lt_032 : (0 : Int32).toInt = 0 := by decide
    subst hG
    obtain ⟨fs, hr, hrun, hended, hW, hsame⟩ := X1.leave (v := some (.int (nar .boolean (0 : Int32)))) (fun h => by rw [Bd.returns] at h; cases h)
    refine ⟨_, _, ?_, hrun, hended, _, _, rfl, ?_, ⟨_, rfl⟩, hW, hsame.mono (by decide) (by decide)⟩
    · exact retN X1 hx (t := .boolean) Bd.returns (by simp) (hb hby d_touched_14) hr
    · show Q_touched Z ao wst h0 n0 _ T1.heap _
      rw [e1]
      exact ⟨(0 : Int32), rfl, N0, rfl, (by omega)⟩
theorem d_take_0 : decode prog_3_method_3_code 0 = .ok (.lload_n 1, 1) := by decide +kernel
theorem d_take_1 : decode prog_3_method_3_code 1 = .ok (.ldc2_w 13, 3) := by decide +kernel
theorem d_take_4 : decode prog_3_method_3_code 4 = .ok (.aload_n 0, 1) := by decide +kernel
theorem d_take_5 : decode prog_3_method_3_code 5 = .ok (.getfield 7, 3) := by decide +kernel
theorem d_take_8 : decode prog_3_method_3_code 8 = .ok (.lsub, 1) := by decide +kernel
theorem d_take_9 : decode prog_3_method_3_code 9 = .ok (.lcmp, 1) := by decide +kernel
theorem d_take_10 : decode prog_3_method_3_code 10 = .ok (.ifCond .gt 7, 3) := by decide +kernel
theorem d_take_13 : decode prog_3_method_3_code 13 = .ok (.iconst 1, 1) := by decide +kernel
theorem d_take_14 : decode prog_3_method_3_code 14 = .ok (.goto 4, 3) := by decide +kernel
theorem d_take_17 : decode prog_3_method_3_code 17 = .ok (.iconst 0, 1) := by decide +kernel
theorem d_take_18 : decode prog_3_method_3_code 18 = .ok (.istore_n 3, 1) := by decide +kernel
theorem d_take_19 : decode prog_3_method_3_code 19 = .ok (.iload_n 3, 1) := by decide +kernel
theorem d_take_20 : decode prog_3_method_3_code 20 = .ok (.ifCond .eq 13, 3) := by decide +kernel
theorem d_take_23 : decode prog_3_method_3_code 23 = .ok (.aload_n 0, 1) := by decide +kernel
theorem d_take_24 : decode prog_3_method_3_code 24 = .ok (.dup, 1) := by decide +kernel
theorem d_take_25 : decode prog_3_method_3_code 25 = .ok (.getfield 7, 3) := by decide +kernel
theorem d_take_28 : decode prog_3_method_3_code 28 = .ok (.lload_n 1, 1) := by decide +kernel
theorem d_take_29 : decode prog_3_method_3_code 29 = .ok (.ladd, 1) := by decide +kernel
theorem d_take_30 : decode prog_3_method_3_code 30 = .ok (.putfield 7, 3) := by decide +kernel
theorem d_take_33 : decode prog_3_method_3_code 33 = .ok (.iload_n 3, 1) := by decide +kernel
theorem d_take_34 : decode prog_3_method_3_code 34 = .ok (.ireturn, 1) := by decide +kernel
theorem ef_take (m : MethodId) (ao : Addr) (qc : Int64) : entryFrame m #[(.ref ao), (.long qc)] 4 = mkF m 0 #[.val (.ref ao), .val (.long qc), .second, .unset] [] := by first | (simp [entryFrame, mkF, argsToLocals, Value.category]; done) | rfl
def Q_take (Z : State) (ao : Addr) (qc : Int64) (wst : Int64) (h0 : Heap) (n0 : Nat) (v : Option Value) (h : Heap) (L : List Loc) : Prop := ∃ rr : Int32, ∃ wn : Int64, v = some (.int rr) ∧ Fr n0 L ∧ Keep h0 h [ao] ∧ Exa Z h ao "com/example/clotho/clotho/jsonpath/Budget" ∧ Fld Z h ao "com/example/clotho/clotho/jsonpath/Budget" "steps" "J" (.long wn) ∧ (rr.toInt = 1 ∧ wn.toInt = wst.toInt + qc.toInt ∧ wst.toInt + qc.toInt ≤ 10000000 ∨ rr.toInt = 0 ∧ wn.toInt = wst.toInt ∧ 10000000 < wst.toInt + qc.toInt)
set_option maxRecDepth 65536 in
set_option maxHeartbeats 40000000 in
theorem rm_take (l : Launch) (Z : State) (a0 : Array Value) (hw : ∀ d ∈ tables_1, d.before a0 Z = true) (ws : List Jvm.Cond) (ao : Addr) (qc : Int64) (wst : Int64) (h0 : Heap) (n0 : Nat) (Z0 : n0 ≤ h0.size) (P0 : Fld Z h0 ao "com/example/clotho/clotho/jsonpath/Budget" "steps" "J" (.long wst)) (P1 : Exa Z h0 ao "com/example/clotho/clotho/jsonpath/Budget") (P2 : n0 ≤ ao) (hst : 0 ≤ wst.toInt ∧ wst.toInt ≤ 10000000) (hqc : 0 ≤ qc.toInt) :
    MetFree l (⟨"com/example/clotho/clotho/jsonpath/Budget", "take", "(J)Z"⟩ : MethodName) (head1 (Jvm.Cond.code (⟨"com/example/clotho/clotho/jsonpath/Budget", "take", "(J)Z"⟩ : MethodName) prog_3_method_3_code 4 (some .boolean) :: ws) ({ frames := 0, cells := 0, slots := 0, locals := 0 } : Room)) (fun a U => a = #[(.ref ao), (.long qc)] ∧ Z.Warmed39 U.vm ∧ U.heap = h0) (fun _ _ _ _ _ => True) (fun _ U o U' => ∃ v L, o = .returned v ∧ Q_take Z ao qc wst h0 n0 v U'.heap L ∧ FrameEnd U o U' L ({ frames := 0, cells := 0, slots := 0, locals := 0 } : Room).cells ({ frames := 0, cells := 0, slots := 0, locals := 0 } : Room).slots) := by
  refine MetFree.of_bodySF (plainFor_of_name pn_0) hisR ?_
  intro p e s m args below meth c s₁ Bd hml0 hP hK
  obtain ⟨rfl, hZ, hh⟩ := hP
  have hx := Bd.exec
  have hby := Bd.bytes
  have hml : c.maxLocals = 4 := hml0
  have hown : s.vm.findClass "com/example/clotho/clotho/jsonpath/Budget" = some m.cls := findClass_of_methodNamed Bd.named
  have hnm := (name_of_methodNamed Bd.named Bd.method).1
  have X0 : Stand p l e ({ frames := 0, cells := 0, slots := 0, locals := 0 } : Room) s m #[(.ref ao), (.long qc)] below meth c s₁ [] 0 0 := Stand.of_body Bd
  have e0 : s₁.heap = h0 := by rw [← hh, Bd.state]; rfl
  have N0 := Fr.nil n0
  have K0 : Keep h0 h0 [ao] := Keep.refl h0 [ao]
  show Go p.tables e below _ (s₁.setTop (entryFrame m #[(.ref ao), (.long qc)] 4))
  refine Go.start ?_
  intro G hG
  refine Go.st (fun t k => castTop (ef_take m ao qc) k) ?_
  have hsb := i64_subc (10000000 : Int64) wst
  have had := i64_addc wst qc
  show Go p.tables e below _ (s₁.setTop (mkF m 0 #[.val (.ref ao), .val (.long qc), .second, .unset] []))
  refine Go.st (fun _ k => XS.lloadN X0.here hx rfl (hb hby d_take_0) rfl k) ?_
  show Go p.tables e below _ (s₁.setTop (mkF m 1 #[.val (.ref ao), .val (.long qc), .second, .unset] [(.long qc)]))
  refine Go.st (fun _ k => X0.ldc2Long hx hown (mvT hZ (hw _ (List.mem_of_getElem? (i := 26) rfl))) (g := (mkF m 1 #[.val (.ref ao), .val (.long qc), .second, .unset] [(.long qc)])) rfl (hb hby d_take_1) _ k) ?_
  show Go p.tables e below _ (s₁.setTop (mkF m 4 #[.val (.ref ao), .val (.long qc), .second, .unset] [(.long (10000000 : Int64)), (.long qc)]))
  refine Go.st (fun _ k => XS.aloadN X0.here hx rfl (hb hby d_take_4) rfl rfl k) ?_
  show Go p.tables e below _ (s₁.setTop (mkF m 5 #[.val (.ref ao), .val (.long qc), .second, .unset] [(.ref ao), (.long (10000000 : Int64)), (.long qc)]))
  obtain ⟨T1, X1, e1, st1⟩ := getF X0 hx hZ hown (host := "") (Or.inl (hw _ (List.mem_of_getElem? (i := 19) rfl))) Via.refl e0 P0 (g := (mkF m 5 #[.val (.ref ao), .val (.long qc), .second, .unset] [(.ref ao), (.long (10000000 : Int64)), (.long qc)])) rfl rfl (hb hby d_take_5)
  refine Go.st st1 ?_
  show Go p.tables e below _ (T1.setTop (mkF m 8 #[.val (.ref ao), .val (.long qc), .second, .unset] [(.long wst), (.long (10000000 : Int64)), (.long qc)]))
  refine Go.st (fun _ k => XS.lsub X1.here hx rfl (hb hby d_take_8) rfl k) ?_
  show Go p.tables e below _ (T1.setTop (mkF m 9 #[.val (.ref ao), .val (.long qc), .second, .unset] [(.long ((10000000 : Int64) - wst)), (.long qc)]))
  refine Go.st (fun _ k => Jvm.Free.XT.lcmp X1.here hx rfl (hb hby d_take_9) rfl k) ?_
  show Go p.tables e below _ (T1.setTop (mkF m 10 #[.val (.ref ao), .val (.long qc), .second, .unset] [(.int (Jvm.Free.XT.cmpL qc ((10000000 : Int64) - wst)))]))
  by_cases hc10 : ((10000000 : Int64) - wst) < qc
  · skip
    have lt_1000000064 : (10000000 : Int64).toInt = 10000000 := by decide
    have hi10 : (((10000000 : Int64) - wst)).toInt < (qc).toInt := Int64.lt_iff_toInt_lt.mp hc10
    refine Go.st (fun _ k => XS.ifYes X1.here hx rfl (pc0 := 10) (pc' := 17) rfl (hb hby d_take_10) rfl (Jvm.Free.XT.ll_gt_t hc10) (by decide) (by decide) k) ?_
    show Go p.tables e below _ (T1.setTop (mkF m 17 #[.val (.ref ao), .val (.long qc), .second, .unset] []))
    refine Go.st (fun _ k => XS.iconst X1.here hx rfl (hb hby d_take_17) k) ?_
    show Go p.tables e below _ (T1.setTop (mkF m 18 #[.val (.ref ao), .val (.long qc), .second, .unset] [(.int (0 : Int32))]))
    refine Go.st (fun _ k => XS.istoreN X1.here hx rfl (hb hby d_take_18) rfl (l' := #[.val (.ref ao), .val (.long qc), .second, .val (.int (0 : Int32))]) rfl k) ?_
    show Go p.tables e below _ (T1.setTop (mkF m 19 #[.val (.ref ao), .val (.long qc), .second, .val (.int (0 : Int32))] []))
    show Go p.tables e below _ (T1.setTop (mkF m 19 #[.val (.ref ao), .val (.long qc), .second, .val (.int (0 : Int32))] []))
    refine Go.st (fun _ k => XS.iloadN X1.here hx rfl (hb hby d_take_19) rfl k) ?_
    show Go p.tables e below _ (T1.setTop (mkF m 20 #[.val (.ref ao), .val (.long qc), .second, .val (.int (0 : Int32))] [(.int (0 : Int32))]))
    have hl2 : (0 : Int32) = (0 : Int32) := by decide
    refine Go.st (fun _ k => XS.ifYes X1.here hx rfl (pc0 := 20) (pc' := 33) rfl (hb hby d_take_20) rfl (Jvm.Free.XT.i0_eq_t hl2) (by decide) (by decide) k) ?_
    show Go p.tables e below _ (T1.setTop (mkF m 33 #[.val (.ref ao), .val (.long qc), .second, .val (.int (0 : Int32))] []))
    refine Go.st (fun _ k => XS.iloadN X1.here hx rfl (hb hby d_take_33) rfl k) ?_
    show Go p.tables e below _ (T1.setTop (mkF m 34 #[.val (.ref ao), .val (.long qc), .second, .val (.int (0 : Int32))] [(.int (0 : Int32))]))
    have lt_032 : (0 : Int32).toInt = 0 := by decide
    subst hG
    obtain ⟨fs, hr, hrun, hended, hW, hsame⟩ := X1.leave (v := some (.int (nar .boolean (0 : Int32)))) (fun h => by rw [Bd.returns] at h; cases h)
    refine ⟨_, _, ?_, hrun, hended, _, _, rfl, ?_, ⟨_, rfl⟩, hW, hsame.mono (by decide) (by decide)⟩
    · exact retN X1 hx (t := .boolean) Bd.returns (by simp) (hb hby d_take_34) hr
    · show Q_take Z ao qc wst h0 n0 _ T1.heap _
      rw [e1]
      exact ⟨(0 : Int32), wst, rfl, N0, K0, P1, P0, (by omega)⟩
  · skip
    have lt_1000000064 : (10000000 : Int64).toInt = 10000000 := by decide
    have hi10 : ¬ ((((10000000 : Int64) - wst)).toInt < (qc).toInt) := fun z => hc10 (Int64.lt_iff_toInt_lt.mpr z)
    refine Go.st (fun _ k => XS.ifNo X1.here hx rfl (hb hby d_take_10) rfl (Jvm.Free.XT.ll_gt_f hc10) k) ?_
    show Go p.tables e below _ (T1.setTop (mkF m 13 #[.val (.ref ao), .val (.long qc), .second, .unset] []))
    refine Go.st (fun _ k => XS.iconst X1.here hx rfl (hb hby d_take_13) k) ?_
    show Go p.tables e below _ (T1.setTop (mkF m 14 #[.val (.ref ao), .val (.long qc), .second, .unset] [(.int (1 : Int32))]))
    refine Go.st (fun _ k => XS.goto X1.here hx rfl (pc0 := 14) (pc' := 18) rfl (hb hby d_take_14) (by decide) (by decide) k) ?_
    show Go p.tables e below _ (T1.setTop (mkF m 18 #[.val (.ref ao), .val (.long qc), .second, .unset] [(.int (1 : Int32))]))
    refine Go.st (fun _ k => XS.istoreN X1.here hx rfl (hb hby d_take_18) rfl (l' := #[.val (.ref ao), .val (.long qc), .second, .val (.int (1 : Int32))]) rfl k) ?_
    show Go p.tables e below _ (T1.setTop (mkF m 19 #[.val (.ref ao), .val (.long qc), .second, .val (.int (1 : Int32))] []))
    show Go p.tables e below _ (T1.setTop (mkF m 19 #[.val (.ref ao), .val (.long qc), .second, .val (.int (1 : Int32))] []))
    refine Go.st (fun _ k => XS.iloadN X1.here hx rfl (hb hby d_take_19) rfl k) ?_
    show Go p.tables e below _ (T1.setTop (mkF m 20 #[.val (.ref ao), .val (.long qc), .second, .val (.int (1 : Int32))] [(.int (1 : Int32))]))
    have hl3 : ¬ ((1 : Int32) = (0 : Int32)) := by decide
    refine Go.st (fun _ k => XS.ifNo X1.here hx rfl (hb hby d_take_20) rfl (Jvm.Free.XT.i0_eq_f hl3) k) ?_
    show Go p.tables e below _ (T1.setTop (mkF m 23 #[.val (.ref ao), .val (.long qc), .second, .val (.int (1 : Int32))] []))
    refine Go.st (fun _ k => XS.aloadN X1.here hx rfl (hb hby d_take_23) rfl rfl k) ?_
    show Go p.tables e below _ (T1.setTop (mkF m 24 #[.val (.ref ao), .val (.long qc), .second, .val (.int (1 : Int32))] [(.ref ao)]))
    refine Go.st (fun _ k => XS.dup X1.here hx rfl (hb hby d_take_24) rfl rfl k) ?_
    show Go p.tables e below _ (T1.setTop (mkF m 25 #[.val (.ref ao), .val (.long qc), .second, .val (.int (1 : Int32))] [(.ref ao), (.ref ao)]))
    obtain ⟨T4, X4, e4, st4⟩ := getF X1 hx hZ hown (host := "") (Or.inl (hw _ (List.mem_of_getElem? (i := 19) rfl))) Via.refl e1 P0 (g := (mkF m 25 #[.val (.ref ao), .val (.long qc), .second, .val (.int (1 : Int32))] [(.ref ao), (.ref ao)])) rfl rfl (hb hby d_take_25)
    refine Go.st st4 ?_
    show Go p.tables e below _ (T4.setTop (mkF m 28 #[.val (.ref ao), .val (.long qc), .second, .val (.int (1 : Int32))] [(.long wst), (.ref ao)]))
    refine Go.st (fun _ k => XS.lloadN X4.here hx rfl (hb hby d_take_28) rfl k) ?_
    show Go p.tables e below _ (T4.setTop (mkF m 29 #[.val (.ref ao), .val (.long qc), .second, .val (.int (1 : Int32))] [(.long qc), (.long wst), (.ref ao)]))
    refine Go.st (fun _ k => XS.ladd X4.here hx rfl (hb hby d_take_29) rfl k) ?_
    show Go p.tables e below _ (T4.setTop (mkF m 30 #[.val (.ref ao), .val (.long qc), .second, .val (.int (1 : Int32))] [(.long (wst + qc)), (.ref ao)]))
    obtain ⟨T5, h5, X5, e5, W5, st5⟩ := putF X4 hx hZ hown (host := "") (Or.inl (hw _ (List.mem_of_getElem? (i := 19) rfl))) Via.refl e4 P0 P1 (Or.inl (hw _ (List.mem_of_getElem? (i := 20) rfl))) (hw _ (List.mem_of_getElem? (i := 6) rfl)) (ty := .long) (by decide) rfl rfl (g := (mkF m 30 #[.val (.ref ao), .val (.long qc), .second, .val (.int (1 : Int32))] [(.long (wst + qc)), (.ref ao)])) rfl rfl (hb hby d_take_30)
    refine Go.st st5 ?_
    have F6 : Fld Z h5 ao "com/example/clotho/clotho/jsonpath/Budget" "steps" "J" (.long (wst + qc)) := P0.same W5
    have F7 : Exa Z h5 ao "com/example/clotho/clotho/jsonpath/Budget" := P1.wr W5
    have K8 : Keep h0 h5 [ao] := K0.wr W5 (Or.inl (List.mem_of_getElem? (i := 0) rfl))
    have Z9 : n0 ≤ h5.size := Nat.le_trans Z0 (Nat.le_of_eq W5.size.symm)
    have N10 := Fr.snoc X5 N0 P2
    show Go p.tables e below _ (T5.setTop (mkF m 33 #[.val (.ref ao), .val (.long qc), .second, .val (.int (1 : Int32))] []))
    refine Go.st (fun _ k => XS.iloadN X5.here hx rfl (hb hby d_take_33) rfl k) ?_
    show Go p.tables e below _ (T5.setTop (mkF m 34 #[.val (.ref ao), .val (.long qc), .second, .val (.int (1 : Int32))] [(.int (1 : Int32))]))
    have lt_132 : (1 : Int32).toInt = 1 := by decide
    subst hG
    obtain ⟨fs, hr, hrun, hended, hW, hsame⟩ := X5.leave (v := some (.int (nar .boolean (1 : Int32)))) (fun h => by rw [Bd.returns] at h; cases h)
    refine ⟨_, _, ?_, hrun, hended, _, _, rfl, ?_, ⟨_, rfl⟩, hW, hsame.mono (by decide) (by decide)⟩
    · exact retN X5 hx (t := .boolean) Bd.returns (by simp) (hb hby d_take_34) hr
    · show Q_take Z ao qc wst h0 n0 _ T5.heap _
      rw [e5]
      exact ⟨(1 : Int32), (wst + qc), rfl, N10, K8, F7, F6, (by omega)⟩
theorem own_mnn (x m : Int64) {k : Nat} (hk : k < 64) (hm : m.toBitVec.toNat = 2 ^ k - 1) : 0 ≤ (x &&& m).toInt := by
  rw [Jvm.Kit.i64_mask x m hk hm]
  exact Int.emod_nonneg _ (Int.pow_ne_zero (by decide))
theorem own_last (x : Int64) : 0 ≤ ((10000000 : Int64) - (x &&& (3 : Int64))).toInt := by
  have h := Jvm.Kit.i64_mask x (3 : Int64) (k := 2) (by decide) (by decide)
  have e : (10000000 : Int64).toInt = 10000000 := by decide
  rw [Jvm.Kit.i64_sub (by omega) (by omega)]
  omega
theorem pn_1 : plainName "com/example/clotho/clotho/jsonpath/BudgetIsTouchedPinLaw" = true := by first | (simp [plainName, overriddenIn]; done) | decide +kernel
theorem d_count_0 : decode method_2_code 0 = .ok (.iload_n 2, 1) := by decide +kernel
theorem d_count_1 : decode method_2_code 1 = .ok (.iconst 3, 1) := by decide +kernel
theorem d_count_2 : decode method_2_code 2 = .ok (.iand, 1) := by decide +kernel
theorem d_count_3 : decode method_2_code 3 = .ok (.istore_n 3, 1) := by decide +kernel
theorem d_count_4 : decode method_2_code 4 = .ok (.iload_n 3, 1) := by decide +kernel
theorem d_count_5 : decode method_2_code 5 = .ok (.ifCond .ne 9, 3) := by decide +kernel
theorem d_count_8 : decode method_2_code 8 = .ok (.lload_n 0, 1) := by decide +kernel
theorem d_count_9 : decode method_2_code 9 = .ok (.ldc2_w 7, 3) := by decide +kernel
theorem d_count_12 : decode method_2_code 12 = .ok (.land, 1) := by decide +kernel
theorem d_count_13 : decode method_2_code 13 = .ok (.lreturn, 1) := by decide +kernel
theorem d_count_14 : decode method_2_code 14 = .ok (.iload_n 3, 1) := by decide +kernel
theorem d_count_15 : decode method_2_code 15 = .ok (.iconst 1, 1) := by decide +kernel
theorem d_count_16 : decode method_2_code 16 = .ok (.if_icmp .ne 9, 3) := by decide +kernel
theorem d_count_19 : decode method_2_code 19 = .ok (.lload_n 0, 1) := by decide +kernel
theorem d_count_20 : decode method_2_code 20 = .ok (.ldc2_w 9, 3) := by decide +kernel
theorem d_count_23 : decode method_2_code 23 = .ok (.land, 1) := by decide +kernel
theorem d_count_24 : decode method_2_code 24 = .ok (.lreturn, 1) := by decide +kernel
theorem d_count_25 : decode method_2_code 25 = .ok (.iload_n 3, 1) := by decide +kernel
theorem d_count_26 : decode method_2_code 26 = .ok (.iconst 2, 1) := by decide +kernel
theorem d_count_27 : decode method_2_code 27 = .ok (.if_icmp .ne 9, 3) := by decide +kernel
theorem d_count_30 : decode method_2_code 30 = .ok (.lload_n 0, 1) := by decide +kernel
theorem d_count_31 : decode method_2_code 31 = .ok (.ldc2_w 13, 3) := by decide +kernel
theorem d_count_34 : decode method_2_code 34 = .ok (.land, 1) := by decide +kernel
theorem d_count_35 : decode method_2_code 35 = .ok (.lreturn, 1) := by decide +kernel
theorem d_count_36 : decode method_2_code 36 = .ok (.ldc2_w 17, 3) := by decide +kernel
theorem d_count_39 : decode method_2_code 39 = .ok (.lload_n 0, 1) := by decide +kernel
theorem d_count_40 : decode method_2_code 40 = .ok (.ldc2_w 7, 3) := by decide +kernel
theorem d_count_43 : decode method_2_code 43 = .ok (.land, 1) := by decide +kernel
theorem d_count_44 : decode method_2_code 44 = .ok (.lsub, 1) := by decide +kernel
theorem d_count_45 : decode method_2_code 45 = .ok (.lreturn, 1) := by decide +kernel
theorem ef_count (m : MethodId) (qx : Int64) (ps : Int32) : entryFrame m #[(.long qx), (.int ps)] 4 = mkF m 0 #[.val (.long qx), .second, .val (.int ps), .unset] [] := by first | (simp [entryFrame, mkF, argsToLocals, Value.category]; done) | rfl
def Q_count (Z : State) (qx : Int64) (ps : Int32) (h0 : Heap) (n0 : Nat) (v : Option Value) (h : Heap) (L : List Loc) : Prop := ∃ rr : Int64, v = some (.long rr) ∧ Fr n0 L ∧ h = h0 ∧ 0 ≤ rr.toInt
set_option maxRecDepth 65536 in
set_option maxHeartbeats 40000000 in
theorem rm_count (l : Launch) (Z : State) (a0 : Array Value) (hw : ∀ d ∈ tables_1, d.before a0 Z = true) (ws : List Jvm.Cond) (qx : Int64) (ps : Int32) (h0 : Heap) (n0 : Nat) (Z0 : n0 ≤ h0.size)  :
    MetFree l (⟨"com/example/clotho/clotho/jsonpath/BudgetIsTouchedPinLaw", "count", "(JI)J"⟩ : MethodName) (head1 (Jvm.Cond.code (⟨"com/example/clotho/clotho/jsonpath/BudgetIsTouchedPinLaw", "count", "(JI)J"⟩ : MethodName) method_2_code 4 (some .long) :: ws) ({ frames := 0, cells := 0, slots := 0, locals := 0 } : Room)) (fun a U => a = #[(.long qx), (.int ps)] ∧ Z.Warmed39 U.vm ∧ U.heap = h0) (fun _ _ _ _ _ => True) (fun _ U o U' => ∃ v L, o = .returned v ∧ Q_count Z qx ps h0 n0 v U'.heap L ∧ FrameEnd U o U' L ({ frames := 0, cells := 0, slots := 0, locals := 0 } : Room).cells ({ frames := 0, cells := 0, slots := 0, locals := 0 } : Room).slots) := by
  refine MetFree.of_bodySF (plainFor_of_name pn_1) hisR ?_
  intro p e s m args below meth c s₁ Bd hml0 hP hK
  obtain ⟨rfl, hZ, hh⟩ := hP
  have hx := Bd.exec
  have hby := Bd.bytes
  have hml : c.maxLocals = 4 := hml0
  have hown : s.vm.findClass "com/example/clotho/clotho/jsonpath/BudgetIsTouchedPinLaw" = some m.cls := findClass_of_methodNamed Bd.named
  have hnm := (name_of_methodNamed Bd.named Bd.method).1
  have X0 : Stand p l e ({ frames := 0, cells := 0, slots := 0, locals := 0 } : Room) s m #[(.long qx), (.int ps)] below meth c s₁ [] 0 0 := Stand.of_body Bd
  have e0 : s₁.heap = h0 := by rw [← hh, Bd.state]; rfl
  have N0 := Fr.nil n0
  have K0 : Keep h0 h0 [] := Keep.refl h0 []
  show Go p.tables e below _ (s₁.setTop (entryFrame m #[(.long qx), (.int ps)] 4))
  refine Go.start ?_
  intro G hG
  refine Go.st (fun t k => castTop (ef_count m qx ps) k) ?_
  show Go p.tables e below _ (s₁.setTop (mkF m 0 #[.val (.long qx), .second, .val (.int ps), .unset] []))
  refine Go.st (fun _ k => XS.iloadN X0.here hx rfl (hb hby d_count_0) rfl k) ?_
  show Go p.tables e below _ (s₁.setTop (mkF m 1 #[.val (.long qx), .second, .val (.int ps), .unset] [(.int ps)]))
  refine Go.st (fun _ k => XS.iconst X0.here hx rfl (hb hby d_count_1) k) ?_
  show Go p.tables e below _ (s₁.setTop (mkF m 2 #[.val (.long qx), .second, .val (.int ps), .unset] [(.int (3 : Int32)), (.int ps)]))
  refine Go.st (fun _ k => XS.iand X0.here hx rfl (hb hby d_count_2) rfl k) ?_
  show Go p.tables e below _ (s₁.setTop (mkF m 3 #[.val (.long qx), .second, .val (.int ps), .unset] [(.int (ps &&& (3 : Int32)))]))
  refine Go.st (fun _ k => XS.istoreN X0.here hx rfl (hb hby d_count_3) rfl (l' := #[.val (.long qx), .second, .val (.int ps), .val (.int (ps &&& (3 : Int32)))]) rfl k) ?_
  show Go p.tables e below _ (s₁.setTop (mkF m 4 #[.val (.long qx), .second, .val (.int ps), .val (.int (ps &&& (3 : Int32)))] []))
  generalize hqv3 : (ps &&& (3 : Int32)) = v3
  show Go p.tables e below _ (s₁.setTop (mkF m 4 #[.val (.long qx), .second, .val (.int ps), .val (.int v3)] []))
  refine Go.st (fun _ k => XS.iloadN X0.here hx rfl (hb hby d_count_4) rfl k) ?_
  show Go p.tables e below _ (s₁.setTop (mkF m 5 #[.val (.long qx), .second, .val (.int ps), .val (.int v3)] [(.int v3)]))
  by_cases hc5 : v3 = (0 : Int32)
  · skip
    refine Go.st (fun _ k => XS.ifNo X0.here hx rfl (hb hby d_count_5) rfl (Jvm.Free.XT.i0_ne_f hc5) k) ?_
    show Go p.tables e below _ (s₁.setTop (mkF m 8 #[.val (.long qx), .second, .val (.int ps), .val (.int v3)] []))
    refine Go.st (fun _ k => XS.lloadN X0.here hx rfl (hb hby d_count_8) rfl k) ?_
    show Go p.tables e below _ (s₁.setTop (mkF m 9 #[.val (.long qx), .second, .val (.int ps), .val (.int v3)] [(.long qx)]))
    refine Go.st (fun _ k => X0.ldc2Long hx hown (mvT hZ (hw _ (List.mem_of_getElem? (i := 4) rfl))) (g := (mkF m 9 #[.val (.long qx), .second, .val (.int ps), .val (.int v3)] [(.long qx)])) rfl (hb hby d_count_9) _ k) ?_
    show Go p.tables e below _ (s₁.setTop (mkF m 12 #[.val (.long qx), .second, .val (.int ps), .val (.int v3)] [(.long (3 : Int64)), (.long qx)]))
    refine Go.st (fun _ k => XS.land X0.here hx rfl (hb hby d_count_12) rfl k) ?_
    show Go p.tables e below _ (s₁.setTop (mkF m 13 #[.val (.long qx), .second, .val (.int ps), .val (.int v3)] [(.long (qx &&& (3 : Int64)))]))
    have lt_364 : (3 : Int64).toInt = 3 := by decide
    subst hG
    obtain ⟨fs, hr, hrun, hended, hW, hsame⟩ := X0.leave (v := some (.long (qx &&& (3 : Int64)))) (fun h => by rw [Bd.returns] at h; cases h)
    refine ⟨_, _, ?_, hrun, hended, _, _, rfl, ?_, ⟨_, rfl⟩, hW, hsame.mono (by decide) (by decide)⟩
    · exact retOut X0 hx Bd.returns rfl (Or.inr (Or.inl ⟨rfl, rfl, _, rfl⟩)) (hb hby d_count_13) hr
    · show Q_count Z qx ps h0 n0 _ s₁.heap _
      rw [e0]
      exact ⟨(qx &&& (3 : Int64)), rfl, N0, rfl, (own_mnn _ _ (k := 2) (by decide) (by decide))⟩
  · skip
    refine Go.st (fun _ k => XS.ifYes X0.here hx rfl (pc0 := 5) (pc' := 14) rfl (hb hby d_count_5) rfl (Jvm.Free.XT.i0_ne_t hc5) (by decide) (by decide) k) ?_
    show Go p.tables e below _ (s₁.setTop (mkF m 14 #[.val (.long qx), .second, .val (.int ps), .val (.int v3)] []))
    refine Go.st (fun _ k => XS.iloadN X0.here hx rfl (hb hby d_count_14) rfl k) ?_
    show Go p.tables e below _ (s₁.setTop (mkF m 15 #[.val (.long qx), .second, .val (.int ps), .val (.int v3)] [(.int v3)]))
    refine Go.st (fun _ k => XS.iconst X0.here hx rfl (hb hby d_count_15) k) ?_
    show Go p.tables e below _ (s₁.setTop (mkF m 16 #[.val (.long qx), .second, .val (.int ps), .val (.int v3)] [(.int (1 : Int32)), (.int v3)]))
    by_cases hc16 : v3 = (1 : Int32)
    · skip
      refine Go.st (fun _ k => XS.icmpNo X0.here hx rfl (hb hby d_count_16) rfl (Jvm.Free.XT.ii_ne_f hc16) k) ?_
      show Go p.tables e below _ (s₁.setTop (mkF m 19 #[.val (.long qx), .second, .val (.int ps), .val (.int v3)] []))
      refine Go.st (fun _ k => XS.lloadN X0.here hx rfl (hb hby d_count_19) rfl k) ?_
      show Go p.tables e below _ (s₁.setTop (mkF m 20 #[.val (.long qx), .second, .val (.int ps), .val (.int v3)] [(.long qx)]))
      refine Go.st (fun _ k => X0.ldc2Long hx hown (mvT hZ (hw _ (List.mem_of_getElem? (i := 28) rfl))) (g := (mkF m 20 #[.val (.long qx), .second, .val (.int ps), .val (.int v3)] [(.long qx)])) rfl (hb hby d_count_20) _ k) ?_
      show Go p.tables e below _ (s₁.setTop (mkF m 23 #[.val (.long qx), .second, .val (.int ps), .val (.int v3)] [(.long (33554431 : Int64)), (.long qx)]))
      refine Go.st (fun _ k => XS.land X0.here hx rfl (hb hby d_count_23) rfl k) ?_
      show Go p.tables e below _ (s₁.setTop (mkF m 24 #[.val (.long qx), .second, .val (.int ps), .val (.int v3)] [(.long (qx &&& (33554431 : Int64)))]))
      have lt_3355443164 : (33554431 : Int64).toInt = 33554431 := by decide
      subst hG
      obtain ⟨fs, hr, hrun, hended, hW, hsame⟩ := X0.leave (v := some (.long (qx &&& (33554431 : Int64)))) (fun h => by rw [Bd.returns] at h; cases h)
      refine ⟨_, _, ?_, hrun, hended, _, _, rfl, ?_, ⟨_, rfl⟩, hW, hsame.mono (by decide) (by decide)⟩
      · exact retOut X0 hx Bd.returns rfl (Or.inr (Or.inl ⟨rfl, rfl, _, rfl⟩)) (hb hby d_count_24) hr
      · show Q_count Z qx ps h0 n0 _ s₁.heap _
        rw [e0]
        exact ⟨(qx &&& (33554431 : Int64)), rfl, N0, rfl, (own_mnn _ _ (k := 25) (by decide) (by decide))⟩
    · skip
      refine Go.st (fun _ k => XS.icmpYes X0.here hx rfl (pc0 := 16) (pc' := 25) rfl (hb hby d_count_16) rfl (Jvm.Free.XT.ii_ne_t hc16) (by decide) (by decide) k) ?_
      show Go p.tables e below _ (s₁.setTop (mkF m 25 #[.val (.long qx), .second, .val (.int ps), .val (.int v3)] []))
      refine Go.st (fun _ k => XS.iloadN X0.here hx rfl (hb hby d_count_25) rfl k) ?_
      show Go p.tables e below _ (s₁.setTop (mkF m 26 #[.val (.long qx), .second, .val (.int ps), .val (.int v3)] [(.int v3)]))
      refine Go.st (fun _ k => XS.iconst X0.here hx rfl (hb hby d_count_26) k) ?_
      show Go p.tables e below _ (s₁.setTop (mkF m 27 #[.val (.long qx), .second, .val (.int ps), .val (.int v3)] [(.int (2 : Int32)), (.int v3)]))
      by_cases hc27 : v3 = (2 : Int32)
      · skip
        refine Go.st (fun _ k => XS.icmpNo X0.here hx rfl (hb hby d_count_27) rfl (Jvm.Free.XT.ii_ne_f hc27) k) ?_
        show Go p.tables e below _ (s₁.setTop (mkF m 30 #[.val (.long qx), .second, .val (.int ps), .val (.int v3)] []))
        refine Go.st (fun _ k => XS.lloadN X0.here hx rfl (hb hby d_count_30) rfl k) ?_
        show Go p.tables e below _ (s₁.setTop (mkF m 31 #[.val (.long qx), .second, .val (.int ps), .val (.int v3)] [(.long qx)]))
        refine Go.st (fun _ k => X0.ldc2Long hx hown (mvT hZ (hw _ (List.mem_of_getElem? (i := 29) rfl))) (g := (mkF m 31 #[.val (.long qx), .second, .val (.int ps), .val (.int v3)] [(.long qx)])) rfl (hb hby d_count_31) _ k) ?_
        show Go p.tables e below _ (s₁.setTop (mkF m 34 #[.val (.long qx), .second, .val (.int ps), .val (.int v3)] [(.long (9223372036854775807 : Int64)), (.long qx)]))
        refine Go.st (fun _ k => XS.land X0.here hx rfl (hb hby d_count_34) rfl k) ?_
        show Go p.tables e below _ (s₁.setTop (mkF m 35 #[.val (.long qx), .second, .val (.int ps), .val (.int v3)] [(.long (qx &&& (9223372036854775807 : Int64)))]))
        have lt_922337203685477580764 : (9223372036854775807 : Int64).toInt = 9223372036854775807 := by decide
        subst hG
        obtain ⟨fs, hr, hrun, hended, hW, hsame⟩ := X0.leave (v := some (.long (qx &&& (9223372036854775807 : Int64)))) (fun h => by rw [Bd.returns] at h; cases h)
        refine ⟨_, _, ?_, hrun, hended, _, _, rfl, ?_, ⟨_, rfl⟩, hW, hsame.mono (by decide) (by decide)⟩
        · exact retOut X0 hx Bd.returns rfl (Or.inr (Or.inl ⟨rfl, rfl, _, rfl⟩)) (hb hby d_count_35) hr
        · show Q_count Z qx ps h0 n0 _ s₁.heap _
          rw [e0]
          exact ⟨(qx &&& (9223372036854775807 : Int64)), rfl, N0, rfl, (own_mnn _ _ (k := 63) (by decide) (by decide))⟩
      · skip
        refine Go.st (fun _ k => XS.icmpYes X0.here hx rfl (pc0 := 27) (pc' := 36) rfl (hb hby d_count_27) rfl (Jvm.Free.XT.ii_ne_t hc27) (by decide) (by decide) k) ?_
        show Go p.tables e below _ (s₁.setTop (mkF m 36 #[.val (.long qx), .second, .val (.int ps), .val (.int v3)] []))
        refine Go.st (fun _ k => X0.ldc2Long hx hown (mvT hZ (hw _ (List.mem_of_getElem? (i := 27) rfl))) (g := (mkF m 36 #[.val (.long qx), .second, .val (.int ps), .val (.int v3)] [])) rfl (hb hby d_count_36) _ k) ?_
        show Go p.tables e below _ (s₁.setTop (mkF m 39 #[.val (.long qx), .second, .val (.int ps), .val (.int v3)] [(.long (10000000 : Int64))]))
        refine Go.st (fun _ k => XS.lloadN X0.here hx rfl (hb hby d_count_39) rfl k) ?_
        show Go p.tables e below _ (s₁.setTop (mkF m 40 #[.val (.long qx), .second, .val (.int ps), .val (.int v3)] [(.long qx), (.long (10000000 : Int64))]))
        refine Go.st (fun _ k => X0.ldc2Long hx hown (mvT hZ (hw _ (List.mem_of_getElem? (i := 4) rfl))) (g := (mkF m 40 #[.val (.long qx), .second, .val (.int ps), .val (.int v3)] [(.long qx), (.long (10000000 : Int64))])) rfl (hb hby d_count_40) _ k) ?_
        show Go p.tables e below _ (s₁.setTop (mkF m 43 #[.val (.long qx), .second, .val (.int ps), .val (.int v3)] [(.long (3 : Int64)), (.long qx), (.long (10000000 : Int64))]))
        refine Go.st (fun _ k => XS.land X0.here hx rfl (hb hby d_count_43) rfl k) ?_
        show Go p.tables e below _ (s₁.setTop (mkF m 44 #[.val (.long qx), .second, .val (.int ps), .val (.int v3)] [(.long (qx &&& (3 : Int64))), (.long (10000000 : Int64))]))
        refine Go.st (fun _ k => XS.lsub X0.here hx rfl (hb hby d_count_44) rfl k) ?_
        show Go p.tables e below _ (s₁.setTop (mkF m 45 #[.val (.long qx), .second, .val (.int ps), .val (.int v3)] [(.long ((10000000 : Int64) - (qx &&& (3 : Int64))))]))
        have lt_1000000064 : (10000000 : Int64).toInt = 10000000 := by decide
        have lt_364 : (3 : Int64).toInt = 3 := by decide
        subst hG
        obtain ⟨fs, hr, hrun, hended, hW, hsame⟩ := X0.leave (v := some (.long ((10000000 : Int64) - (qx &&& (3 : Int64))))) (fun h => by rw [Bd.returns] at h; cases h)
        refine ⟨_, _, ?_, hrun, hended, _, _, rfl, ?_, ⟨_, rfl⟩, hW, hsame.mono (by decide) (by decide)⟩
        · exact retOut X0 hx Bd.returns rfl (Or.inr (Or.inl ⟨rfl, rfl, _, rfl⟩)) (hb hby d_count_45) hr
        · show Q_count Z qx ps h0 n0 _ s₁.heap _
          rw [e0]
          exact ⟨((10000000 : Int64) - (qx &&& (3 : Int64))), rfl, N0, rfl, (own_last _)⟩
theorem pd_0 : parseMethodDescriptor "(JI)J" = some ⟨[.long, .int], some .long⟩ := by decide +kernel
theorem pd_1 : parseMethodDescriptor "()V" = some ⟨[], none⟩ := by decide +kernel
theorem pd_2 : parseMethodDescriptor "()Z" = some ⟨[], some .boolean⟩ := by decide +kernel
theorem pd_3 : parseMethodDescriptor "(J)Z" = some ⟨[.long], some .boolean⟩ := by decide +kernel
theorem ef_law (m : MethodId) (qx : Int64) (qy : Int64) (ps : Int32) : entryFrame m #[(.long qx), (.long qy), (.int ps)] maxLocals = mkF m 0 #[.val (.long qx), .second, .val (.long qy), .second, .val (.int ps), .unset, .unset, .unset, .unset, .unset, .unset, .unset, .unset, .unset, .unset, .unset, .unset] [] := by first | (simp [entryFrame, mkF, argsToLocals, Value.category, maxLocals]; done) | rfl
def Q_law (Z : State) (qx : Int64) (qy : Int64) (ps : Int32) (h0 : Heap) (n0 : Nat) (v : Option Value) (h : Heap) (L : List Loc) : Prop := v = some (.int (1 : Int32)) ∧ Fr n0 L ∧ Keep h0 h []
set_option maxRecDepth 65536 in
set_option maxHeartbeats 40000000 in
theorem rm_law (l : Launch) (Z : State) (a0 : Array Value) (hw : ∀ d ∈ tables_1, d.before a0 Z = true) (ws : List Jvm.Cond) (qx : Int64) (qy : Int64) (ps : Int32) (h0 : Heap) (n0 : Nat) (Z0 : n0 ≤ h0.size)  :
    MetFree l x (head1 (Jvm.Cond.code x code maxLocals ret :: ws) room_1) (fun a U => a = #[(.long qx), (.long qy), (.int ps)] ∧ Z.Warmed39 U.vm ∧ U.heap = h0) (fun _ _ _ _ _ => True) (fun _ U o U' => ∃ v L, o = .returned v ∧ Q_law Z qx qy ps h0 n0 v U'.heap L ∧ FrameEnd U o U' L room_1.cells room_1.slots) := by
  refine MetFree.of_bodySF (plainFor_of_name pn_1) hisR ?_
  intro p e s m args below meth c s₁ Bd hml0 hP hK
  obtain ⟨rfl, hZ, hh⟩ := hP
  have hx := Bd.exec
  have hby := Bd.bytes
  have hml : c.maxLocals = 17 := hml0
  have hown : s.vm.findClass "com/example/clotho/clotho/jsonpath/BudgetIsTouchedPinLaw" = some m.cls := findClass_of_methodNamed Bd.named
  have hnm := (name_of_methodNamed Bd.named Bd.method).1
  have X0 : Stand p l e room_1 s m #[(.long qx), (.long qy), (.int ps)] below meth c s₁ [] 0 0 := Stand.of_body Bd
  have e0 : s₁.heap = h0 := by rw [← hh, Bd.state]; rfl
  have N0 := Fr.nil n0
  have K0 : Keep h0 h0 [] := Keep.refl h0 []
  show Go p.tables e below _ (s₁.setTop (entryFrame m #[(.long qx), (.long qy), (.int ps)] maxLocals))
  refine Go.start ?_
  intro G hG
  refine Go.st (fun t k => castTop (ef_law m qx qy ps) k) ?_
  have lt_064 : (0 : Int64).toInt = 0 := by decide
  show Go p.tables e below _ (s₁.setTop (mkF m 0 #[.val (.long qx), .second, .val (.long qy), .second, .val (.int ps), .unset, .unset, .unset, .unset, .unset, .unset, .unset, .unset, .unset, .unset, .unset, .unset] []))
  refine Go.st (fun _ k => XS.lloadN X0.here hx rfl (hb hby at_0) rfl k) ?_
  show Go p.tables e below _ (s₁.setTop (mkF m 1 #[.val (.long qx), .second, .val (.long qy), .second, .val (.int ps), .unset, .unset, .unset, .unset, .unset, .unset, .unset, .unset, .unset, .unset, .unset, .unset] [(.long qx)]))
  refine Go.st (fun _ k => XS.iload X0.here hx rfl (hb hby at_1) rfl k) ?_
  show Go p.tables e below _ (s₁.setTop (mkF m 3 #[.val (.long qx), .second, .val (.long qy), .second, .val (.int ps), .unset, .unset, .unset, .unset, .unset, .unset, .unset, .unset, .unset, .unset, .unset, .unset] [(.int ps), (.long qx)]))
  obtain ⟨_, _, ⟨T1, L1, k1, n1⟩, -, X1, ⟨Lc1, hQ1, l1, y1, z1⟩, st1⟩ := Jvm.LawKit.callS X0 hx (y := (⟨"com/example/clotho/clotho/jsonpath/BudgetIsTouchedPinLaw", "count", "(JI)J"⟩ : MethodName)) hown (mvT hZ (hw _ (List.mem_of_getElem? (i := 0) rfl))) (mvT hZ (hw _ (List.mem_of_getElem? (i := 1) rfl))) (mvT hZ (hw _ (List.mem_of_getElem? (i := 2) rfl))) (mvT hZ (hw _ (List.mem_of_getElem? (i := 3) rfl))) (by decide) (backOf (W := 0) (rm_count l Z a0 hw [] qx ps h0 n0 Z0 ) hZ (hw _ (List.mem_of_getElem? (i := 3) rfl)) (hw _ (List.mem_of_getElem? (i := 2) rfl)) (by decide) (by decide)) (g := (mkF m 3 #[.val (.long qx), .second, .val (.long qy), .second, .val (.int ps), .unset, .unset, .unset, .unset, .unset, .unset, .unset, .unset, .unset, .unset, .unset, .unset] [(.int ps), (.long qx)])) rfl (by rw [hml]; rfl) (argsL := [(.long qx), (.int ps)]) (rest := []) (lenOf pd_0 rfl) rfl (by show 2 * 0 + _ ≤ _; exact Nat.le_of_eq rfl) (hb hby at_3) (fun _ _ => ⟨rfl, e0, (by decide : 0 + 0 ≤ _), (by decide : 0 + 0 ≤ _)⟩)
  dsimp only [Pt.U, Pt.locs, Pt.cells, Pt.slots] at X1 l1 y1 z1 st1 hQ1
  subst l1 y1 z1
  obtain ⟨x1_rr, rfl, N1q, e1, pr1_rel⟩ := hQ1
  have N1 := Fr.app N0 N1q
  refine Go.st st1 ?_
  show Go p.tables e below _ (T1.setTop (mkF m 6 #[.val (.long qx), .second, .val (.long qy), .second, .val (.int ps), .unset, .unset, .unset, .unset, .unset, .unset, .unset, .unset, .unset, .unset, .unset, .unset] [(.long x1_rr)]))
  refine Go.st (fun _ k => XS.lstore X1.here hx rfl (hb hby at_6) rfl (l' := #[.val (.long qx), .second, .val (.long qy), .second, .val (.int ps), .val (.long x1_rr), .second, .unset, .unset, .unset, .unset, .unset, .unset, .unset, .unset, .unset, .unset]) rfl k) ?_
  show Go p.tables e below _ (T1.setTop (mkF m 8 #[.val (.long qx), .second, .val (.long qy), .second, .val (.int ps), .val (.long x1_rr), .second, .unset, .unset, .unset, .unset, .unset, .unset, .unset, .unset, .unset, .unset] []))
  show Go p.tables e below _ (T1.setTop (mkF m 8 #[.val (.long qx), .second, .val (.long qy), .second, .val (.int ps), .val (.long x1_rr), .second, .unset, .unset, .unset, .unset, .unset, .unset, .unset, .unset, .unset, .unset] []))
  refine Go.st (fun _ k => XS.lloadN X1.here hx rfl (hb hby at_8) rfl k) ?_
  show Go p.tables e below _ (T1.setTop (mkF m 9 #[.val (.long qx), .second, .val (.long qy), .second, .val (.int ps), .val (.long x1_rr), .second, .unset, .unset, .unset, .unset, .unset, .unset, .unset, .unset, .unset, .unset] [(.long qy)]))
  refine Go.st (fun _ k => XS.iload X1.here hx rfl (hb hby at_9) rfl k) ?_
  show Go p.tables e below _ (T1.setTop (mkF m 11 #[.val (.long qx), .second, .val (.long qy), .second, .val (.int ps), .val (.long x1_rr), .second, .unset, .unset, .unset, .unset, .unset, .unset, .unset, .unset, .unset, .unset] [(.int ps), (.long qy)]))
  refine Go.st (fun _ k => XS.iconst X1.here hx rfl (hb hby at_11) k) ?_
  show Go p.tables e below _ (T1.setTop (mkF m 12 #[.val (.long qx), .second, .val (.long qy), .second, .val (.int ps), .val (.long x1_rr), .second, .unset, .unset, .unset, .unset, .unset, .unset, .unset, .unset, .unset, .unset] [(.int (2 : Int32)), (.int ps), (.long qy)]))
  refine Go.st (fun _ k => XS.iushr X1.here hx rfl (hb hby at_12) rfl k) ?_
  show Go p.tables e below _ (T1.setTop (mkF m 13 #[.val (.long qx), .second, .val (.long qy), .second, .val (.int ps), .val (.long x1_rr), .second, .unset, .unset, .unset, .unset, .unset, .unset, .unset, .unset, .unset, .unset] [(.int ((ps.toUInt32 >>> ((2 : Int32) &&& 31).toUInt32).toInt32)), (.long qy)]))
  generalize hqa13 : ((ps.toUInt32 >>> ((2 : Int32) &&& 31).toUInt32).toInt32) = a13
  obtain ⟨_, _, ⟨T2, L2, k2, n2⟩, -, X2, ⟨Lc2, hQ2, l2, y2, z2⟩, st2⟩ := Jvm.LawKit.callS X1 hx (y := (⟨"com/example/clotho/clotho/jsonpath/BudgetIsTouchedPinLaw", "count", "(JI)J"⟩ : MethodName)) hown (mvT hZ (hw _ (List.mem_of_getElem? (i := 0) rfl))) (mvT hZ (hw _ (List.mem_of_getElem? (i := 1) rfl))) (mvT hZ (hw _ (List.mem_of_getElem? (i := 2) rfl))) (mvT hZ (hw _ (List.mem_of_getElem? (i := 3) rfl))) (by decide) (backOf (W := 0) (rm_count l Z a0 hw [] qy a13 h0 n0 Z0 ) hZ (hw _ (List.mem_of_getElem? (i := 3) rfl)) (hw _ (List.mem_of_getElem? (i := 2) rfl)) (by decide) (by decide)) (g := (mkF m 13 #[.val (.long qx), .second, .val (.long qy), .second, .val (.int ps), .val (.long x1_rr), .second, .unset, .unset, .unset, .unset, .unset, .unset, .unset, .unset, .unset, .unset] [(.int a13), (.long qy)])) rfl (by rw [hml]; rfl) (argsL := [(.long qy), (.int a13)]) (rest := []) (lenOf pd_0 rfl) rfl (by show 2 * 0 + _ ≤ _; exact Nat.le_of_eq rfl) (hb hby at_13) (fun _ _ => ⟨rfl, e1, (by decide : 0 + 0 ≤ _), (by decide : 0 + 0 ≤ _)⟩)
  dsimp only [Pt.U, Pt.locs, Pt.cells, Pt.slots] at X2 l2 y2 z2 st2 hQ2
  subst l2 y2 z2
  obtain ⟨x2_rr, rfl, N2q, e2, pr2_rel⟩ := hQ2
  have N2 := Fr.app N1 N2q
  refine Go.st st2 ?_
  show Go p.tables e below _ (T2.setTop (mkF m 16 #[.val (.long qx), .second, .val (.long qy), .second, .val (.int ps), .val (.long x1_rr), .second, .unset, .unset, .unset, .unset, .unset, .unset, .unset, .unset, .unset, .unset] [(.long x2_rr)]))
  refine Go.st (fun _ k => XS.lstore X2.here hx rfl (hb hby at_16) rfl (l' := #[.val (.long qx), .second, .val (.long qy), .second, .val (.int ps), .val (.long x1_rr), .second, .val (.long x2_rr), .second, .unset, .unset, .unset, .unset, .unset, .unset, .unset, .unset]) rfl k) ?_
  show Go p.tables e below _ (T2.setTop (mkF m 18 #[.val (.long qx), .second, .val (.long qy), .second, .val (.int ps), .val (.long x1_rr), .second, .val (.long x2_rr), .second, .unset, .unset, .unset, .unset, .unset, .unset, .unset, .unset] []))
  show Go p.tables e below _ (T2.setTop (mkF m 18 #[.val (.long qx), .second, .val (.long qy), .second, .val (.int ps), .val (.long x1_rr), .second, .val (.long x2_rr), .second, .unset, .unset, .unset, .unset, .unset, .unset, .unset, .unset] []))
  obtain ⟨T3, h3, X3, e3, E3, A3, D3, -, st3⟩ := newO X2 hx hZ hown (hw _ (List.mem_of_getElem? (i := 5) rfl)) (hw _ (List.mem_of_getElem? (i := 6) rfl)) (hw _ (List.mem_of_getElem? (i := 7) rfl)) e2 (g := (mkF m 18 #[.val (.long qx), .second, .val (.long qy), .second, .val (.int ps), .val (.long x1_rr), .second, .val (.long x2_rr), .second, .unset, .unset, .unset, .unset, .unset, .unset, .unset, .unset] [])) rfl (hb hby at_18) (by decide) (by decide)
  obtain ⟨b3, g3⟩ : ∃ z, z = h0.size := ⟨_, rfl⟩
  rw [← g3] at A3 D3 st3
  refine Go.st st3 ?_
  have ge4 : n0 ≤ b3 := Nat.le_trans Z0 (Nat.le_of_eq g3.symm)
  have sz5 : h0.size ≤ b3 := Nat.le_trans K0.1 (Nat.le_of_eq g3.symm)
  have Z6 : n0 ≤ h3.size := Nat.le_trans Z0 E3.1
  have K7 : Keep h0 h3 [] := K0.ext E3
  have F8 : Fld Z h3 b3 "com/example/clotho/clotho/jsonpath/Budget" "steps" "J" (.long (0 : Int64)) := D3 (Or.inl (hw _ (List.mem_of_getElem? (i := 20) rfl))) (ty := .long) (by decide)
  show Go p.tables e below _ (T3.setTop (mkF m 21 #[.val (.long qx), .second, .val (.long qy), .second, .val (.int ps), .val (.long x1_rr), .second, .val (.long x2_rr), .second, .unset, .unset, .unset, .unset, .unset, .unset, .unset, .unset] [(.ref b3)]))
  refine Go.st (fun _ k => XS.dup X3.here hx rfl (hb hby at_21) rfl rfl k) ?_
  show Go p.tables e below _ (T3.setTop (mkF m 22 #[.val (.long qx), .second, .val (.long qy), .second, .val (.int ps), .val (.long x1_rr), .second, .val (.long x2_rr), .second, .unset, .unset, .unset, .unset, .unset, .unset, .unset, .unset] [(.ref b3), (.ref b3)]))
  obtain ⟨_, _, ⟨T9, L9, k9, n9⟩, -, X9, ⟨Lc9, hQ9, l9, y9, z9⟩, st9⟩ := X3.specialBack hx (y := (⟨"com/example/clotho/clotho/jsonpath/Budget", "<init>", "()V"⟩ : MethodName)) rfl hown (mvT hZ (hw _ (List.mem_of_getElem? (i := 8) rfl))) (mvT hZ (hw _ (List.mem_of_getElem? (i := 9) rfl))) (mvT hZ (hw _ (List.mem_of_getElem? (i := 10) rfl))) (by decide) (backOf (W := 1) (rm_binit l Z a0 hw [] b3 h3 n0 Z6 ) hZ (hw _ (List.mem_of_getElem? (i := 10) rfl)) (hw _ (List.mem_of_getElem? (i := 7) rfl)) (by decide) (by decide)) (g := (mkF m 22 #[.val (.long qx), .second, .val (.long qy), .second, .val (.int ps), .val (.long x1_rr), .second, .val (.long x2_rr), .second, .unset, .unset, .unset, .unset, .unset, .unset, .unset, .unset] [(.ref b3), (.ref b3)])) rfl (by rw [hml]; rfl) (Steps.refl _) (a := b3) (argsL := []) (rest := [(.ref b3)]) (lenOf pd_1 rfl) rfl (by show 2 * 0 + _ ≤ _; exact Nat.le_of_eq rfl) (hb hby at_22) (fun _ _ => ⟨rfl, e3, (by decide : 1 + 0 ≤ _), (by decide : 1 + 0 ≤ _)⟩)
  dsimp only [Pt.U, Pt.locs, Pt.cells, Pt.slots] at X9 l9 y9 z9 st9 hQ9
  subst l9 y9 z9
  obtain ⟨rfl, N9q, e9⟩ := hQ9
  have N9 := Fr.app N2 N9q
  refine Go.st (fun _ k => st9.trans k) ?_
  show Go p.tables e below _ (T9.setTop (mkF m 25 #[.val (.long qx), .second, .val (.long qy), .second, .val (.int ps), .val (.long x1_rr), .second, .val (.long x2_rr), .second, .unset, .unset, .unset, .unset, .unset, .unset, .unset, .unset] [(.ref b3)]))
  refine Go.st (fun _ k => XS.astore X9.here hx rfl (hb hby at_25) rfl rfl (l' := #[.val (.long qx), .second, .val (.long qy), .second, .val (.int ps), .val (.long x1_rr), .second, .val (.long x2_rr), .second, .val (.ref b3), .unset, .unset, .unset, .unset, .unset, .unset, .unset]) rfl k) ?_
  show Go p.tables e below _ (T9.setTop (mkF m 27 #[.val (.long qx), .second, .val (.long qy), .second, .val (.int ps), .val (.long x1_rr), .second, .val (.long x2_rr), .second, .val (.ref b3), .unset, .unset, .unset, .unset, .unset, .unset, .unset] []))
  show Go p.tables e below _ (T9.setTop (mkF m 27 #[.val (.long qx), .second, .val (.long qy), .second, .val (.int ps), .val (.long x1_rr), .second, .val (.long x2_rr), .second, .val (.ref b3), .unset, .unset, .unset, .unset, .unset, .unset, .unset] []))
  refine Go.st (fun _ k => XS.aload X9.here hx rfl (hb hby at_27) rfl rfl k) ?_
  show Go p.tables e below _ (T9.setTop (mkF m 29 #[.val (.long qx), .second, .val (.long qy), .second, .val (.int ps), .val (.long x1_rr), .second, .val (.long x2_rr), .second, .val (.ref b3), .unset, .unset, .unset, .unset, .unset, .unset, .unset] [(.ref b3)]))
  obtain ⟨cq10, kq10, q10a, q10b, q10c⟩ := isOf hZ e9 A3
  obtain ⟨_, _, ⟨T10, L10, k10, n10⟩, -, X10, ⟨Lc10, hQ10, l10, y10, z10⟩, st10⟩ := X9.virtualBack hx (y := (⟨"com/example/clotho/clotho/jsonpath/Budget", "isTouched", "()Z"⟩ : MethodName)) (z := (⟨"com/example/clotho/clotho/jsonpath/Budget", "isTouched", "()Z"⟩ : MethodName)) hown (mvT hZ (hw _ (List.mem_of_getElem? (i := 14) rfl))) (mvT hZ (hw _ (List.mem_of_getElem? (i := 15) rfl))) (notFace_of_selects (args := #[]) (mvT hZ (hw _ (List.mem_of_getElem? (i := 17) rfl)))) (mvT hZ (hw _ (List.mem_of_getElem? (i := 17) rfl))) (mvT hZ (hw _ (List.mem_of_getElem? (i := 16) rfl))) (by decide) (backOf (W := 0) (rm_touched l Z a0 hw [] b3 (0 : Int64) h3 n0 Z6 F8) hZ (hw _ (List.mem_of_getElem? (i := 18) rfl)) (hw _ (List.mem_of_getElem? (i := 7) rfl)) (by decide) (by decide)) q10a q10c (g := (mkF m 29 #[.val (.long qx), .second, .val (.long qy), .second, .val (.int ps), .val (.long x1_rr), .second, .val (.long x2_rr), .second, .val (.ref b3), .unset, .unset, .unset, .unset, .unset, .unset, .unset] [(.ref b3)])) rfl (by rw [hml]; rfl) (Steps.refl _) (argsL := []) (rest := []) (lenOf pd_2 rfl) rfl (by show 2 * 0 + _ ≤ _; exact Nat.le_of_eq rfl) (hb hby at_29) (fun _ _ => ⟨rfl, e9, (by decide : 1 + 0 ≤ _), (by decide : 1 + 0 ≤ _)⟩)
  dsimp only [Pt.U, Pt.locs, Pt.cells, Pt.slots] at X10 l10 y10 z10 st10 hQ10
  subst l10 y10 z10
  obtain ⟨x10_rr, rfl, N10q, e10, pr10_rel⟩ := hQ10
  have N10 := Fr.app N9 N10q
  refine Go.st (fun _ k => st10.trans k) ?_
  show Go p.tables e below _ (T10.setTop (mkF m 32 #[.val (.long qx), .second, .val (.long qy), .second, .val (.int ps), .val (.long x1_rr), .second, .val (.long x2_rr), .second, .val (.ref b3), .unset, .unset, .unset, .unset, .unset, .unset, .unset] [(.int x10_rr)]))
  refine Go.st (fun _ k => XS.istore X10.here hx rfl (hb hby at_32) rfl (l' := #[.val (.long qx), .second, .val (.long qy), .second, .val (.int ps), .val (.long x1_rr), .second, .val (.long x2_rr), .second, .val (.ref b3), .val (.int x10_rr), .unset, .unset, .unset, .unset, .unset, .unset]) rfl k) ?_
  show Go p.tables e below _ (T10.setTop (mkF m 34 #[.val (.long qx), .second, .val (.long qy), .second, .val (.int ps), .val (.long x1_rr), .second, .val (.long x2_rr), .second, .val (.ref b3), .val (.int x10_rr), .unset, .unset, .unset, .unset, .unset, .unset] []))
  show Go p.tables e below _ (T10.setTop (mkF m 34 #[.val (.long qx), .second, .val (.long qy), .second, .val (.int ps), .val (.long x1_rr), .second, .val (.long x2_rr), .second, .val (.ref b3), .val (.int x10_rr), .unset, .unset, .unset, .unset, .unset, .unset] []))
  refine Go.st (fun _ k => XS.aload X10.here hx rfl (hb hby at_34) rfl rfl k) ?_
  show Go p.tables e below _ (T10.setTop (mkF m 36 #[.val (.long qx), .second, .val (.long qy), .second, .val (.int ps), .val (.long x1_rr), .second, .val (.long x2_rr), .second, .val (.ref b3), .val (.int x10_rr), .unset, .unset, .unset, .unset, .unset, .unset] [(.ref b3)]))
  refine Go.st (fun _ k => XS.lload X10.here hx rfl (hb hby at_36) rfl k) ?_
  show Go p.tables e below _ (T10.setTop (mkF m 38 #[.val (.long qx), .second, .val (.long qy), .second, .val (.int ps), .val (.long x1_rr), .second, .val (.long x2_rr), .second, .val (.ref b3), .val (.int x10_rr), .unset, .unset, .unset, .unset, .unset, .unset] [(.long x1_rr), (.ref b3)]))
  obtain ⟨cq11, kq11, q11a, q11b, q11c⟩ := isOf hZ e10 A3
  obtain ⟨_, _, ⟨T11, L11, k11, n11⟩, -, X11, ⟨Lc11, hQ11, l11, y11, z11⟩, st11⟩ := X10.virtualBack hx (y := (⟨"com/example/clotho/clotho/jsonpath/Budget", "take", "(J)Z"⟩ : MethodName)) (z := (⟨"com/example/clotho/clotho/jsonpath/Budget", "take", "(J)Z"⟩ : MethodName)) hown (mvT hZ (hw _ (List.mem_of_getElem? (i := 21) rfl))) (mvT hZ (hw _ (List.mem_of_getElem? (i := 22) rfl))) (notFace_of_selects (args := #[]) (mvT hZ (hw _ (List.mem_of_getElem? (i := 24) rfl)))) (mvT hZ (hw _ (List.mem_of_getElem? (i := 24) rfl))) (mvT hZ (hw _ (List.mem_of_getElem? (i := 23) rfl))) (by decide) (backOf (W := 0) (rm_take l Z a0 hw [] b3 x1_rr (0 : Int64) h3 n0 Z6 F8 A3 ge4 (by show 0 ≤ (0 : Int64).toInt ∧ (0 : Int64).toInt ≤ 10000000; exact by omega) (by show 0 ≤ x1_rr.toInt; exact by omega)) hZ (hw _ (List.mem_of_getElem? (i := 25) rfl)) (hw _ (List.mem_of_getElem? (i := 7) rfl)) (by decide) (by decide)) q11a q11c (g := (mkF m 38 #[.val (.long qx), .second, .val (.long qy), .second, .val (.int ps), .val (.long x1_rr), .second, .val (.long x2_rr), .second, .val (.ref b3), .val (.int x10_rr), .unset, .unset, .unset, .unset, .unset, .unset] [(.long x1_rr), (.ref b3)])) rfl (by rw [hml]; rfl) (Steps.refl _) (argsL := [(.long x1_rr)]) (rest := []) (lenOf pd_3 rfl) rfl (by show 2 * 0 + _ ≤ _; exact Nat.le_of_eq rfl) (hb hby at_38) (fun _ _ => ⟨rfl, e10, (by decide : 1 + 0 ≤ _), (by decide : 1 + 0 ≤ _)⟩)
  dsimp only [Pt.U, Pt.locs, Pt.cells, Pt.slots] at X11 l11 y11 z11 st11 hQ11
  subst l11 y11 z11
  obtain ⟨x11_rr, x11_wn, rfl, N11q, K11q, Fq11_0, Fq11_1, pr11_rel⟩ := hQ11
  have N11 := Fr.app N10 N11q
  refine Go.st (fun _ k => st11.trans k) ?_
  have Z12 : n0 ≤ T11.heap.size := Nat.le_trans Z6 K11q.1
  have K13 : Keep h0 T11.heap [] := K7.trans K11q (fun z hz => (List.mem_cons.mp hz).elim (fun q => by rw [q]; exact Or.inr sz5) (fun hz => absurd hz List.not_mem_nil))
  have F14 : Exa Z T11.heap b3 "com/example/clotho/clotho/jsonpath/Budget" := A3.keep K11q
  show Go p.tables e below _ (T11.setTop (mkF m 41 #[.val (.long qx), .second, .val (.long qy), .second, .val (.int ps), .val (.long x1_rr), .second, .val (.long x2_rr), .second, .val (.ref b3), .val (.int x10_rr), .unset, .unset, .unset, .unset, .unset, .unset] [(.int x11_rr)]))
  refine Go.st (fun _ k => XS.istore X11.here hx rfl (hb hby at_41) rfl (l' := #[.val (.long qx), .second, .val (.long qy), .second, .val (.int ps), .val (.long x1_rr), .second, .val (.long x2_rr), .second, .val (.ref b3), .val (.int x10_rr), .val (.int x11_rr), .unset, .unset, .unset, .unset, .unset]) rfl k) ?_
  show Go p.tables e below _ (T11.setTop (mkF m 43 #[.val (.long qx), .second, .val (.long qy), .second, .val (.int ps), .val (.long x1_rr), .second, .val (.long x2_rr), .second, .val (.ref b3), .val (.int x10_rr), .val (.int x11_rr), .unset, .unset, .unset, .unset, .unset] []))
  show Go p.tables e below _ (T11.setTop (mkF m 43 #[.val (.long qx), .second, .val (.long qy), .second, .val (.int ps), .val (.long x1_rr), .second, .val (.long x2_rr), .second, .val (.ref b3), .val (.int x10_rr), .val (.int x11_rr), .unset, .unset, .unset, .unset, .unset] []))
  refine Go.st (fun _ k => XS.aload X11.here hx rfl (hb hby at_43) rfl rfl k) ?_
  show Go p.tables e below _ (T11.setTop (mkF m 45 #[.val (.long qx), .second, .val (.long qy), .second, .val (.int ps), .val (.long x1_rr), .second, .val (.long x2_rr), .second, .val (.ref b3), .val (.int x10_rr), .val (.int x11_rr), .unset, .unset, .unset, .unset, .unset] [(.ref b3)]))
  obtain ⟨cq15, kq15, q15a, q15b, q15c⟩ := isOf hZ (rfl : T11.heap = T11.heap) Fq11_0
  obtain ⟨_, _, ⟨T15, L15, k15, n15⟩, -, X15, ⟨Lc15, hQ15, l15, y15, z15⟩, st15⟩ := X11.virtualBack hx (y := (⟨"com/example/clotho/clotho/jsonpath/Budget", "isTouched", "()Z"⟩ : MethodName)) (z := (⟨"com/example/clotho/clotho/jsonpath/Budget", "isTouched", "()Z"⟩ : MethodName)) hown (mvT hZ (hw _ (List.mem_of_getElem? (i := 14) rfl))) (mvT hZ (hw _ (List.mem_of_getElem? (i := 15) rfl))) (notFace_of_selects (args := #[]) (mvT hZ (hw _ (List.mem_of_getElem? (i := 17) rfl)))) (mvT hZ (hw _ (List.mem_of_getElem? (i := 17) rfl))) (mvT hZ (hw _ (List.mem_of_getElem? (i := 16) rfl))) (by decide) (backOf (W := 0) (rm_touched l Z a0 hw [] b3 x11_wn T11.heap n0 Z12 Fq11_1) hZ (hw _ (List.mem_of_getElem? (i := 18) rfl)) (hw _ (List.mem_of_getElem? (i := 7) rfl)) (by decide) (by decide)) q15a q15c (g := (mkF m 45 #[.val (.long qx), .second, .val (.long qy), .second, .val (.int ps), .val (.long x1_rr), .second, .val (.long x2_rr), .second, .val (.ref b3), .val (.int x10_rr), .val (.int x11_rr), .unset, .unset, .unset, .unset, .unset] [(.ref b3)])) rfl (by rw [hml]; rfl) (Steps.refl _) (argsL := []) (rest := []) (lenOf pd_2 rfl) rfl (by show 2 * 0 + _ ≤ _; exact Nat.le_of_eq rfl) (hb hby at_45) (fun _ _ => ⟨rfl, (rfl : T11.heap = T11.heap), (by decide : 1 + 0 ≤ _), (by decide : 1 + 0 ≤ _)⟩)
  dsimp only [Pt.U, Pt.locs, Pt.cells, Pt.slots] at X15 l15 y15 z15 st15 hQ15
  subst l15 y15 z15
  obtain ⟨x15_rr, rfl, N15q, e15, pr15_rel⟩ := hQ15
  have N15 := Fr.app N11 N15q
  refine Go.st (fun _ k => st15.trans k) ?_
  show Go p.tables e below _ (T15.setTop (mkF m 48 #[.val (.long qx), .second, .val (.long qy), .second, .val (.int ps), .val (.long x1_rr), .second, .val (.long x2_rr), .second, .val (.ref b3), .val (.int x10_rr), .val (.int x11_rr), .unset, .unset, .unset, .unset, .unset] [(.int x15_rr)]))
  refine Go.st (fun _ k => XS.istore X15.here hx rfl (hb hby at_48) rfl (l' := #[.val (.long qx), .second, .val (.long qy), .second, .val (.int ps), .val (.long x1_rr), .second, .val (.long x2_rr), .second, .val (.ref b3), .val (.int x10_rr), .val (.int x11_rr), .val (.int x15_rr), .unset, .unset, .unset, .unset]) rfl k) ?_
  show Go p.tables e below _ (T15.setTop (mkF m 50 #[.val (.long qx), .second, .val (.long qy), .second, .val (.int ps), .val (.long x1_rr), .second, .val (.long x2_rr), .second, .val (.ref b3), .val (.int x10_rr), .val (.int x11_rr), .val (.int x15_rr), .unset, .unset, .unset, .unset] []))
  show Go p.tables e below _ (T15.setTop (mkF m 50 #[.val (.long qx), .second, .val (.long qy), .second, .val (.int ps), .val (.long x1_rr), .second, .val (.long x2_rr), .second, .val (.ref b3), .val (.int x10_rr), .val (.int x11_rr), .val (.int x15_rr), .unset, .unset, .unset, .unset] []))
  refine Go.st (fun _ k => XS.aload X15.here hx rfl (hb hby at_50) rfl rfl k) ?_
  show Go p.tables e below _ (T15.setTop (mkF m 52 #[.val (.long qx), .second, .val (.long qy), .second, .val (.int ps), .val (.long x1_rr), .second, .val (.long x2_rr), .second, .val (.ref b3), .val (.int x10_rr), .val (.int x11_rr), .val (.int x15_rr), .unset, .unset, .unset, .unset] [(.ref b3)]))
  refine Go.st (fun _ k => XS.lload X15.here hx rfl (hb hby at_52) rfl k) ?_
  show Go p.tables e below _ (T15.setTop (mkF m 54 #[.val (.long qx), .second, .val (.long qy), .second, .val (.int ps), .val (.long x1_rr), .second, .val (.long x2_rr), .second, .val (.ref b3), .val (.int x10_rr), .val (.int x11_rr), .val (.int x15_rr), .unset, .unset, .unset, .unset] [(.long x2_rr), (.ref b3)]))
  obtain ⟨cq16, kq16, q16a, q16b, q16c⟩ := isOf hZ e15 Fq11_0
  obtain ⟨_, _, ⟨T16, L16, k16, n16⟩, -, X16, ⟨Lc16, hQ16, l16, y16, z16⟩, st16⟩ := X15.virtualBack hx (y := (⟨"com/example/clotho/clotho/jsonpath/Budget", "take", "(J)Z"⟩ : MethodName)) (z := (⟨"com/example/clotho/clotho/jsonpath/Budget", "take", "(J)Z"⟩ : MethodName)) hown (mvT hZ (hw _ (List.mem_of_getElem? (i := 21) rfl))) (mvT hZ (hw _ (List.mem_of_getElem? (i := 22) rfl))) (notFace_of_selects (args := #[]) (mvT hZ (hw _ (List.mem_of_getElem? (i := 24) rfl)))) (mvT hZ (hw _ (List.mem_of_getElem? (i := 24) rfl))) (mvT hZ (hw _ (List.mem_of_getElem? (i := 23) rfl))) (by decide) (backOf (W := 0) (rm_take l Z a0 hw [] b3 x2_rr x11_wn T11.heap n0 Z12 Fq11_1 Fq11_0 ge4 (by show 0 ≤ x11_wn.toInt ∧ x11_wn.toInt ≤ 10000000; exact by omega) (by show 0 ≤ x2_rr.toInt; exact by omega)) hZ (hw _ (List.mem_of_getElem? (i := 25) rfl)) (hw _ (List.mem_of_getElem? (i := 7) rfl)) (by decide) (by decide)) q16a q16c (g := (mkF m 54 #[.val (.long qx), .second, .val (.long qy), .second, .val (.int ps), .val (.long x1_rr), .second, .val (.long x2_rr), .second, .val (.ref b3), .val (.int x10_rr), .val (.int x11_rr), .val (.int x15_rr), .unset, .unset, .unset, .unset] [(.long x2_rr), (.ref b3)])) rfl (by rw [hml]; rfl) (Steps.refl _) (argsL := [(.long x2_rr)]) (rest := []) (lenOf pd_3 rfl) rfl (by show 2 * 0 + _ ≤ _; exact Nat.le_of_eq rfl) (hb hby at_54) (fun _ _ => ⟨rfl, e15, (by decide : 1 + 0 ≤ _), (by decide : 1 + 0 ≤ _)⟩)
  dsimp only [Pt.U, Pt.locs, Pt.cells, Pt.slots] at X16 l16 y16 z16 st16 hQ16
  subst l16 y16 z16
  obtain ⟨x16_rr, x16_wn, rfl, N16q, K16q, Fq16_0, Fq16_1, pr16_rel⟩ := hQ16
  have N16 := Fr.app N15 N16q
  refine Go.st (fun _ k => st16.trans k) ?_
  have Z17 : n0 ≤ T16.heap.size := Nat.le_trans Z12 K16q.1
  have K18 : Keep h0 T16.heap [] := K13.trans K16q (fun z hz => (List.mem_cons.mp hz).elim (fun q => by rw [q]; exact Or.inr sz5) (fun hz => absurd hz List.not_mem_nil))
  have F19 : Exa Z T16.heap b3 "com/example/clotho/clotho/jsonpath/Budget" := Fq11_0.keep K16q
  show Go p.tables e below _ (T16.setTop (mkF m 57 #[.val (.long qx), .second, .val (.long qy), .second, .val (.int ps), .val (.long x1_rr), .second, .val (.long x2_rr), .second, .val (.ref b3), .val (.int x10_rr), .val (.int x11_rr), .val (.int x15_rr), .unset, .unset, .unset, .unset] [(.int x16_rr)]))
  refine Go.st (fun _ k => XS.istore X16.here hx rfl (hb hby at_57) rfl (l' := #[.val (.long qx), .second, .val (.long qy), .second, .val (.int ps), .val (.long x1_rr), .second, .val (.long x2_rr), .second, .val (.ref b3), .val (.int x10_rr), .val (.int x11_rr), .val (.int x15_rr), .val (.int x16_rr), .unset, .unset, .unset]) rfl k) ?_
  show Go p.tables e below _ (T16.setTop (mkF m 59 #[.val (.long qx), .second, .val (.long qy), .second, .val (.int ps), .val (.long x1_rr), .second, .val (.long x2_rr), .second, .val (.ref b3), .val (.int x10_rr), .val (.int x11_rr), .val (.int x15_rr), .val (.int x16_rr), .unset, .unset, .unset] []))
  show Go p.tables e below _ (T16.setTop (mkF m 59 #[.val (.long qx), .second, .val (.long qy), .second, .val (.int ps), .val (.long x1_rr), .second, .val (.long x2_rr), .second, .val (.ref b3), .val (.int x10_rr), .val (.int x11_rr), .val (.int x15_rr), .val (.int x16_rr), .unset, .unset, .unset] []))
  refine Go.st (fun _ k => XS.aload X16.here hx rfl (hb hby at_59) rfl rfl k) ?_
  show Go p.tables e below _ (T16.setTop (mkF m 61 #[.val (.long qx), .second, .val (.long qy), .second, .val (.int ps), .val (.long x1_rr), .second, .val (.long x2_rr), .second, .val (.ref b3), .val (.int x10_rr), .val (.int x11_rr), .val (.int x15_rr), .val (.int x16_rr), .unset, .unset, .unset] [(.ref b3)]))
  obtain ⟨cq20, kq20, q20a, q20b, q20c⟩ := isOf hZ (rfl : T16.heap = T16.heap) Fq16_0
  obtain ⟨_, _, ⟨T20, L20, k20, n20⟩, -, X20, ⟨Lc20, hQ20, l20, y20, z20⟩, st20⟩ := X16.virtualBack hx (y := (⟨"com/example/clotho/clotho/jsonpath/Budget", "isTouched", "()Z"⟩ : MethodName)) (z := (⟨"com/example/clotho/clotho/jsonpath/Budget", "isTouched", "()Z"⟩ : MethodName)) hown (mvT hZ (hw _ (List.mem_of_getElem? (i := 14) rfl))) (mvT hZ (hw _ (List.mem_of_getElem? (i := 15) rfl))) (notFace_of_selects (args := #[]) (mvT hZ (hw _ (List.mem_of_getElem? (i := 17) rfl)))) (mvT hZ (hw _ (List.mem_of_getElem? (i := 17) rfl))) (mvT hZ (hw _ (List.mem_of_getElem? (i := 16) rfl))) (by decide) (backOf (W := 0) (rm_touched l Z a0 hw [] b3 x16_wn T16.heap n0 Z17 Fq16_1) hZ (hw _ (List.mem_of_getElem? (i := 18) rfl)) (hw _ (List.mem_of_getElem? (i := 7) rfl)) (by decide) (by decide)) q20a q20c (g := (mkF m 61 #[.val (.long qx), .second, .val (.long qy), .second, .val (.int ps), .val (.long x1_rr), .second, .val (.long x2_rr), .second, .val (.ref b3), .val (.int x10_rr), .val (.int x11_rr), .val (.int x15_rr), .val (.int x16_rr), .unset, .unset, .unset] [(.ref b3)])) rfl (by rw [hml]; rfl) (Steps.refl _) (argsL := []) (rest := []) (lenOf pd_2 rfl) rfl (by show 2 * 0 + _ ≤ _; exact Nat.le_of_eq rfl) (hb hby at_61) (fun _ _ => ⟨rfl, (rfl : T16.heap = T16.heap), (by decide : 1 + 0 ≤ _), (by decide : 1 + 0 ≤ _)⟩)
  dsimp only [Pt.U, Pt.locs, Pt.cells, Pt.slots] at X20 l20 y20 z20 st20 hQ20
  subst l20 y20 z20
  obtain ⟨x20_rr, rfl, N20q, e20, pr20_rel⟩ := hQ20
  have N20 := Fr.app N16 N20q
  refine Go.st (fun _ k => st20.trans k) ?_
  show Go p.tables e below _ (T20.setTop (mkF m 64 #[.val (.long qx), .second, .val (.long qy), .second, .val (.int ps), .val (.long x1_rr), .second, .val (.long x2_rr), .second, .val (.ref b3), .val (.int x10_rr), .val (.int x11_rr), .val (.int x15_rr), .val (.int x16_rr), .unset, .unset, .unset] [(.int x20_rr)]))
  refine Go.st (fun _ k => XS.istore X20.here hx rfl (hb hby at_64) rfl (l' := #[.val (.long qx), .second, .val (.long qy), .second, .val (.int ps), .val (.long x1_rr), .second, .val (.long x2_rr), .second, .val (.ref b3), .val (.int x10_rr), .val (.int x11_rr), .val (.int x15_rr), .val (.int x16_rr), .val (.int x20_rr), .unset, .unset]) rfl k) ?_
  show Go p.tables e below _ (T20.setTop (mkF m 66 #[.val (.long qx), .second, .val (.long qy), .second, .val (.int ps), .val (.long x1_rr), .second, .val (.long x2_rr), .second, .val (.ref b3), .val (.int x10_rr), .val (.int x11_rr), .val (.int x15_rr), .val (.int x16_rr), .val (.int x20_rr), .unset, .unset] []))
  show Go p.tables e below _ (T20.setTop (mkF m 66 #[.val (.long qx), .second, .val (.long qy), .second, .val (.int ps), .val (.long x1_rr), .second, .val (.long x2_rr), .second, .val (.ref b3), .val (.int x10_rr), .val (.int x11_rr), .val (.int x15_rr), .val (.int x16_rr), .val (.int x20_rr), .unset, .unset] []))
  refine Go.st (fun _ k => XS.iload X20.here hx rfl (hb hby at_66) rfl k) ?_
  show Go p.tables e below _ (T20.setTop (mkF m 68 #[.val (.long qx), .second, .val (.long qy), .second, .val (.int ps), .val (.long x1_rr), .second, .val (.long x2_rr), .second, .val (.ref b3), .val (.int x10_rr), .val (.int x11_rr), .val (.int x15_rr), .val (.int x16_rr), .val (.int x20_rr), .unset, .unset] [(.int x11_rr)]))
  by_cases hc68 : x11_rr = (0 : Int32)
  · skip
    have lt_032 : (0 : Int32).toInt = 0 := by decide
    have hi68 : (x11_rr).toInt = ((0 : Int32)).toInt := Int32.toInt_inj.symm.mp hc68
    refine Go.st (fun _ k => XS.ifYes X20.here hx rfl (pc0 := 68) (pc' := 82) rfl (hb hby at_68) rfl (Jvm.Free.XT.i0_eq_t hc68) (by decide) (by decide) k) ?_
    show Go p.tables e below _ (T20.setTop (mkF m 82 #[.val (.long qx), .second, .val (.long qy), .second, .val (.int ps), .val (.long x1_rr), .second, .val (.long x2_rr), .second, .val (.ref b3), .val (.int x10_rr), .val (.int x11_rr), .val (.int x15_rr), .val (.int x16_rr), .val (.int x20_rr), .unset, .unset] []))
    refine Go.st (fun _ k => XS.iconst X20.here hx rfl (hb hby at_82) k) ?_
    show Go p.tables e below _ (T20.setTop (mkF m 83 #[.val (.long qx), .second, .val (.long qy), .second, .val (.int ps), .val (.long x1_rr), .second, .val (.long x2_rr), .second, .val (.ref b3), .val (.int x10_rr), .val (.int x11_rr), .val (.int x15_rr), .val (.int x16_rr), .val (.int x20_rr), .unset, .unset] [(.int (0 : Int32))]))
    refine Go.st (fun _ k => XS.istore X20.here hx rfl (hb hby at_83) rfl (l' := #[.val (.long qx), .second, .val (.long qy), .second, .val (.int ps), .val (.long x1_rr), .second, .val (.long x2_rr), .second, .val (.ref b3), .val (.int x10_rr), .val (.int x11_rr), .val (.int x15_rr), .val (.int x16_rr), .val (.int x20_rr), .val (.int (0 : Int32)), .unset]) rfl k) ?_
    show Go p.tables e below _ (T20.setTop (mkF m 85 #[.val (.long qx), .second, .val (.long qy), .second, .val (.int ps), .val (.long x1_rr), .second, .val (.long x2_rr), .second, .val (.ref b3), .val (.int x10_rr), .val (.int x11_rr), .val (.int x15_rr), .val (.int x16_rr), .val (.int x20_rr), .val (.int (0 : Int32)), .unset] []))
    show Go p.tables e below _ (T20.setTop (mkF m 85 #[.val (.long qx), .second, .val (.long qy), .second, .val (.int ps), .val (.long x1_rr), .second, .val (.long x2_rr), .second, .val (.ref b3), .val (.int x10_rr), .val (.int x11_rr), .val (.int x15_rr), .val (.int x16_rr), .val (.int x20_rr), .val (.int (0 : Int32)), .unset] []))
    refine Go.st (fun _ k => XS.iload X20.here hx rfl (hb hby at_85) rfl k) ?_
    show Go p.tables e below _ (T20.setTop (mkF m 87 #[.val (.long qx), .second, .val (.long qy), .second, .val (.int ps), .val (.long x1_rr), .second, .val (.long x2_rr), .second, .val (.ref b3), .val (.int x10_rr), .val (.int x11_rr), .val (.int x15_rr), .val (.int x16_rr), .val (.int x20_rr), .val (.int (0 : Int32)), .unset] [(.int (0 : Int32))]))
    have hl21 : (0 : Int32) = (0 : Int32) := by decide
    refine Go.st (fun _ k => XS.ifNo X20.here hx rfl (hb hby at_87) rfl (Jvm.Free.XT.i0_ne_f hl21) k) ?_
    show Go p.tables e below _ (T20.setTop (mkF m 90 #[.val (.long qx), .second, .val (.long qy), .second, .val (.int ps), .val (.long x1_rr), .second, .val (.long x2_rr), .second, .val (.ref b3), .val (.int x10_rr), .val (.int x11_rr), .val (.int x15_rr), .val (.int x16_rr), .val (.int x20_rr), .val (.int (0 : Int32)), .unset] []))
    refine Go.st (fun _ k => XS.iload X20.here hx rfl (hb hby at_90) rfl k) ?_
    show Go p.tables e below _ (T20.setTop (mkF m 92 #[.val (.long qx), .second, .val (.long qy), .second, .val (.int ps), .val (.long x1_rr), .second, .val (.long x2_rr), .second, .val (.ref b3), .val (.int x10_rr), .val (.int x11_rr), .val (.int x15_rr), .val (.int x16_rr), .val (.int x20_rr), .val (.int (0 : Int32)), .unset] [(.int x16_rr)]))
    by_cases hc92 : x16_rr = (0 : Int32)
    · skip
      have hi92 : (x16_rr).toInt = ((0 : Int32)).toInt := Int32.toInt_inj.symm.mp hc92
      refine Go.st (fun _ k => XS.ifYes X20.here hx rfl (pc0 := 92) (pc' := 106) rfl (hb hby at_92) rfl (Jvm.Free.XT.i0_eq_t hc92) (by decide) (by decide) k) ?_
      show Go p.tables e below _ (T20.setTop (mkF m 106 #[.val (.long qx), .second, .val (.long qy), .second, .val (.int ps), .val (.long x1_rr), .second, .val (.long x2_rr), .second, .val (.ref b3), .val (.int x10_rr), .val (.int x11_rr), .val (.int x15_rr), .val (.int x16_rr), .val (.int x20_rr), .val (.int (0 : Int32)), .unset] []))
      refine Go.st (fun _ k => XS.iconst X20.here hx rfl (hb hby at_106) k) ?_
      show Go p.tables e below _ (T20.setTop (mkF m 107 #[.val (.long qx), .second, .val (.long qy), .second, .val (.int ps), .val (.long x1_rr), .second, .val (.long x2_rr), .second, .val (.ref b3), .val (.int x10_rr), .val (.int x11_rr), .val (.int x15_rr), .val (.int x16_rr), .val (.int x20_rr), .val (.int (0 : Int32)), .unset] [(.int (0 : Int32))]))
      refine Go.st (fun _ k => XS.istore X20.here hx rfl (hb hby at_107) rfl (l' := #[.val (.long qx), .second, .val (.long qy), .second, .val (.int ps), .val (.long x1_rr), .second, .val (.long x2_rr), .second, .val (.ref b3), .val (.int x10_rr), .val (.int x11_rr), .val (.int x15_rr), .val (.int x16_rr), .val (.int x20_rr), .val (.int (0 : Int32)), .val (.int (0 : Int32))]) rfl k) ?_
      show Go p.tables e below _ (T20.setTop (mkF m 109 #[.val (.long qx), .second, .val (.long qy), .second, .val (.int ps), .val (.long x1_rr), .second, .val (.long x2_rr), .second, .val (.ref b3), .val (.int x10_rr), .val (.int x11_rr), .val (.int x15_rr), .val (.int x16_rr), .val (.int x20_rr), .val (.int (0 : Int32)), .val (.int (0 : Int32))] []))
      show Go p.tables e below _ (T20.setTop (mkF m 109 #[.val (.long qx), .second, .val (.long qy), .second, .val (.int ps), .val (.long x1_rr), .second, .val (.long x2_rr), .second, .val (.ref b3), .val (.int x10_rr), .val (.int x11_rr), .val (.int x15_rr), .val (.int x16_rr), .val (.int x20_rr), .val (.int (0 : Int32)), .val (.int (0 : Int32))] []))
      refine Go.st (fun _ k => XS.iload X20.here hx rfl (hb hby at_109) rfl k) ?_
      show Go p.tables e below _ (T20.setTop (mkF m 111 #[.val (.long qx), .second, .val (.long qy), .second, .val (.int ps), .val (.long x1_rr), .second, .val (.long x2_rr), .second, .val (.ref b3), .val (.int x10_rr), .val (.int x11_rr), .val (.int x15_rr), .val (.int x16_rr), .val (.int x20_rr), .val (.int (0 : Int32)), .val (.int (0 : Int32))] [(.int x10_rr)]))
      have hc111 : x10_rr = (0 : Int32) := own_eq32 (by omega)
      have hi111 : (x10_rr).toInt = ((0 : Int32)).toInt := Int32.toInt_inj.symm.mp hc111
      refine Go.st (fun _ k => XS.ifNo X20.here hx rfl (hb hby at_111) rfl (Jvm.Free.XT.i0_ne_f hc111) k) ?_
      show Go p.tables e below _ (T20.setTop (mkF m 114 #[.val (.long qx), .second, .val (.long qy), .second, .val (.int ps), .val (.long x1_rr), .second, .val (.long x2_rr), .second, .val (.ref b3), .val (.int x10_rr), .val (.int x11_rr), .val (.int x15_rr), .val (.int x16_rr), .val (.int x20_rr), .val (.int (0 : Int32)), .val (.int (0 : Int32))] []))
      refine Go.st (fun _ k => XS.iload X20.here hx rfl (hb hby at_114) rfl k) ?_
      show Go p.tables e below _ (T20.setTop (mkF m 116 #[.val (.long qx), .second, .val (.long qy), .second, .val (.int ps), .val (.long x1_rr), .second, .val (.long x2_rr), .second, .val (.ref b3), .val (.int x10_rr), .val (.int x11_rr), .val (.int x15_rr), .val (.int x16_rr), .val (.int x20_rr), .val (.int (0 : Int32)), .val (.int (0 : Int32))] [(.int x15_rr)]))
      refine Go.st (fun _ k => XS.iload X20.here hx rfl (hb hby at_116) rfl k) ?_
      show Go p.tables e below _ (T20.setTop (mkF m 118 #[.val (.long qx), .second, .val (.long qy), .second, .val (.int ps), .val (.long x1_rr), .second, .val (.long x2_rr), .second, .val (.ref b3), .val (.int x10_rr), .val (.int x11_rr), .val (.int x15_rr), .val (.int x16_rr), .val (.int x20_rr), .val (.int (0 : Int32)), .val (.int (0 : Int32))] [(.int (0 : Int32)), (.int x15_rr)]))
      have hc118 : x15_rr = (0 : Int32) := own_eq32 (by omega)
      have hi118 : (x15_rr).toInt = ((0 : Int32)).toInt := Int32.toInt_inj.symm.mp hc118
      refine Go.st (fun _ k => XS.icmpNo X20.here hx rfl (hb hby at_118) rfl (Jvm.Free.XT.ii_ne_f hc118) k) ?_
      show Go p.tables e below _ (T20.setTop (mkF m 121 #[.val (.long qx), .second, .val (.long qy), .second, .val (.int ps), .val (.long x1_rr), .second, .val (.long x2_rr), .second, .val (.ref b3), .val (.int x10_rr), .val (.int x11_rr), .val (.int x15_rr), .val (.int x16_rr), .val (.int x20_rr), .val (.int (0 : Int32)), .val (.int (0 : Int32))] []))
      refine Go.st (fun _ k => XS.iload X20.here hx rfl (hb hby at_121) rfl k) ?_
      show Go p.tables e below _ (T20.setTop (mkF m 123 #[.val (.long qx), .second, .val (.long qy), .second, .val (.int ps), .val (.long x1_rr), .second, .val (.long x2_rr), .second, .val (.ref b3), .val (.int x10_rr), .val (.int x11_rr), .val (.int x15_rr), .val (.int x16_rr), .val (.int x20_rr), .val (.int (0 : Int32)), .val (.int (0 : Int32))] [(.int x20_rr)]))
      refine Go.st (fun _ k => XS.iload X20.here hx rfl (hb hby at_123) rfl k) ?_
      show Go p.tables e below _ (T20.setTop (mkF m 125 #[.val (.long qx), .second, .val (.long qy), .second, .val (.int ps), .val (.long x1_rr), .second, .val (.long x2_rr), .second, .val (.ref b3), .val (.int x10_rr), .val (.int x11_rr), .val (.int x15_rr), .val (.int x16_rr), .val (.int x20_rr), .val (.int (0 : Int32)), .val (.int (0 : Int32))] [(.int (0 : Int32)), (.int x20_rr)]))
      have hc125 : x20_rr = (0 : Int32) := own_eq32 (by omega)
      have hi125 : (x20_rr).toInt = ((0 : Int32)).toInt := Int32.toInt_inj.symm.mp hc125
      refine Go.st (fun _ k => XS.icmpNo X20.here hx rfl (hb hby at_125) rfl (Jvm.Free.XT.ii_ne_f hc125) k) ?_
      show Go p.tables e below _ (T20.setTop (mkF m 128 #[.val (.long qx), .second, .val (.long qy), .second, .val (.int ps), .val (.long x1_rr), .second, .val (.long x2_rr), .second, .val (.ref b3), .val (.int x10_rr), .val (.int x11_rr), .val (.int x15_rr), .val (.int x16_rr), .val (.int x20_rr), .val (.int (0 : Int32)), .val (.int (0 : Int32))] []))
      refine Go.st (fun _ k => XS.iconst X20.here hx rfl (hb hby at_128) k) ?_
      show Go p.tables e below _ (T20.setTop (mkF m 129 #[.val (.long qx), .second, .val (.long qy), .second, .val (.int ps), .val (.long x1_rr), .second, .val (.long x2_rr), .second, .val (.ref b3), .val (.int x10_rr), .val (.int x11_rr), .val (.int x15_rr), .val (.int x16_rr), .val (.int x20_rr), .val (.int (0 : Int32)), .val (.int (0 : Int32))] [(.int (1 : Int32))]))
      refine Go.st (fun _ k => XS.goto X20.here hx rfl (pc0 := 129) (pc' := 133) rfl (hb hby at_129) (by decide) (by decide) k) ?_
      show Go p.tables e below _ (T20.setTop (mkF m 133 #[.val (.long qx), .second, .val (.long qy), .second, .val (.int ps), .val (.long x1_rr), .second, .val (.long x2_rr), .second, .val (.ref b3), .val (.int x10_rr), .val (.int x11_rr), .val (.int x15_rr), .val (.int x16_rr), .val (.int x20_rr), .val (.int (0 : Int32)), .val (.int (0 : Int32))] [(.int (1 : Int32))]))
      subst hG
      obtain ⟨fs, hr, hrun, hended, hW, hsame⟩ := X20.leave (v := some (.int (nar .boolean (1 : Int32)))) (fun h => by rw [Bd.returns] at h; cases h)
      refine ⟨_, _, ?_, hrun, hended, _, _, rfl, ?_, ⟨_, rfl⟩, hW, hsame.mono (by decide) (by decide)⟩
      · exact retN X20 hx (t := .boolean) Bd.returns (by simp) (hb hby at_133) hr
      · show Q_law Z qx qy ps h0 n0 _ T20.heap _
        rw [e20]
        exact ⟨rfl, N20, K18⟩
    · skip
      have hi92 : ¬ ((x16_rr).toInt = ((0 : Int32)).toInt) := fun z => hc92 (Int32.toInt_inj.symm.mpr z)
      refine Go.st (fun _ k => XS.ifNo X20.here hx rfl (hb hby at_92) rfl (Jvm.Free.XT.i0_eq_f hc92) k) ?_
      show Go p.tables e below _ (T20.setTop (mkF m 95 #[.val (.long qx), .second, .val (.long qy), .second, .val (.int ps), .val (.long x1_rr), .second, .val (.long x2_rr), .second, .val (.ref b3), .val (.int x10_rr), .val (.int x11_rr), .val (.int x15_rr), .val (.int x16_rr), .val (.int x20_rr), .val (.int (0 : Int32)), .unset] []))
      refine Go.st (fun _ k => XS.lload X20.here hx rfl (hb hby at_95) rfl k) ?_
      show Go p.tables e below _ (T20.setTop (mkF m 97 #[.val (.long qx), .second, .val (.long qy), .second, .val (.int ps), .val (.long x1_rr), .second, .val (.long x2_rr), .second, .val (.ref b3), .val (.int x10_rr), .val (.int x11_rr), .val (.int x15_rr), .val (.int x16_rr), .val (.int x20_rr), .val (.int (0 : Int32)), .unset] [(.long x2_rr)]))
      refine Go.st (fun _ k => XS.lconst X20.here hx rfl (hb hby at_97) k) ?_
      show Go p.tables e below _ (T20.setTop (mkF m 98 #[.val (.long qx), .second, .val (.long qy), .second, .val (.int ps), .val (.long x1_rr), .second, .val (.long x2_rr), .second, .val (.ref b3), .val (.int x10_rr), .val (.int x11_rr), .val (.int x15_rr), .val (.int x16_rr), .val (.int x20_rr), .val (.int (0 : Int32)), .unset] [(.long (0 : Int64)), (.long x2_rr)]))
      refine Go.st (fun _ k => Jvm.Free.XT.lcmp X20.here hx rfl (hb hby at_98) rfl k) ?_
      show Go p.tables e below _ (T20.setTop (mkF m 99 #[.val (.long qx), .second, .val (.long qy), .second, .val (.int ps), .val (.long x1_rr), .second, .val (.long x2_rr), .second, .val (.ref b3), .val (.int x10_rr), .val (.int x11_rr), .val (.int x15_rr), .val (.int x16_rr), .val (.int x20_rr), .val (.int (0 : Int32)), .unset] [(.int (Jvm.Free.XT.cmpL x2_rr (0 : Int64)))]))
      by_cases hc99 : (0 : Int64) < x2_rr
      · skip
        have lt_064 : (0 : Int64).toInt = 0 := by decide
        have hi99 : ((0 : Int64)).toInt < (x2_rr).toInt := Int64.lt_iff_toInt_lt.mp hc99
        refine Go.st (fun _ k => XS.ifNo X20.here hx rfl (hb hby at_99) rfl (Jvm.Free.XT.ll_le_f hc99) k) ?_
        show Go p.tables e below _ (T20.setTop (mkF m 102 #[.val (.long qx), .second, .val (.long qy), .second, .val (.int ps), .val (.long x1_rr), .second, .val (.long x2_rr), .second, .val (.ref b3), .val (.int x10_rr), .val (.int x11_rr), .val (.int x15_rr), .val (.int x16_rr), .val (.int x20_rr), .val (.int (0 : Int32)), .unset] []))
        refine Go.st (fun _ k => XS.iconst X20.here hx rfl (hb hby at_102) k) ?_
        show Go p.tables e below _ (T20.setTop (mkF m 103 #[.val (.long qx), .second, .val (.long qy), .second, .val (.int ps), .val (.long x1_rr), .second, .val (.long x2_rr), .second, .val (.ref b3), .val (.int x10_rr), .val (.int x11_rr), .val (.int x15_rr), .val (.int x16_rr), .val (.int x20_rr), .val (.int (0 : Int32)), .unset] [(.int (1 : Int32))]))
        refine Go.st (fun _ k => XS.goto X20.here hx rfl (pc0 := 103) (pc' := 107) rfl (hb hby at_103) (by decide) (by decide) k) ?_
        show Go p.tables e below _ (T20.setTop (mkF m 107 #[.val (.long qx), .second, .val (.long qy), .second, .val (.int ps), .val (.long x1_rr), .second, .val (.long x2_rr), .second, .val (.ref b3), .val (.int x10_rr), .val (.int x11_rr), .val (.int x15_rr), .val (.int x16_rr), .val (.int x20_rr), .val (.int (0 : Int32)), .unset] [(.int (1 : Int32))]))
        refine Go.st (fun _ k => XS.istore X20.here hx rfl (hb hby at_107) rfl (l' := #[.val (.long qx), .second, .val (.long qy), .second, .val (.int ps), .val (.long x1_rr), .second, .val (.long x2_rr), .second, .val (.ref b3), .val (.int x10_rr), .val (.int x11_rr), .val (.int x15_rr), .val (.int x16_rr), .val (.int x20_rr), .val (.int (0 : Int32)), .val (.int (1 : Int32))]) rfl k) ?_
        show Go p.tables e below _ (T20.setTop (mkF m 109 #[.val (.long qx), .second, .val (.long qy), .second, .val (.int ps), .val (.long x1_rr), .second, .val (.long x2_rr), .second, .val (.ref b3), .val (.int x10_rr), .val (.int x11_rr), .val (.int x15_rr), .val (.int x16_rr), .val (.int x20_rr), .val (.int (0 : Int32)), .val (.int (1 : Int32))] []))
        show Go p.tables e below _ (T20.setTop (mkF m 109 #[.val (.long qx), .second, .val (.long qy), .second, .val (.int ps), .val (.long x1_rr), .second, .val (.long x2_rr), .second, .val (.ref b3), .val (.int x10_rr), .val (.int x11_rr), .val (.int x15_rr), .val (.int x16_rr), .val (.int x20_rr), .val (.int (0 : Int32)), .val (.int (1 : Int32))] []))
        refine Go.st (fun _ k => XS.iload X20.here hx rfl (hb hby at_109) rfl k) ?_
        show Go p.tables e below _ (T20.setTop (mkF m 111 #[.val (.long qx), .second, .val (.long qy), .second, .val (.int ps), .val (.long x1_rr), .second, .val (.long x2_rr), .second, .val (.ref b3), .val (.int x10_rr), .val (.int x11_rr), .val (.int x15_rr), .val (.int x16_rr), .val (.int x20_rr), .val (.int (0 : Int32)), .val (.int (1 : Int32))] [(.int x10_rr)]))
        have hc111 : x10_rr = (0 : Int32) := own_eq32 (by omega)
        have hi111 : (x10_rr).toInt = ((0 : Int32)).toInt := Int32.toInt_inj.symm.mp hc111
        refine Go.st (fun _ k => XS.ifNo X20.here hx rfl (hb hby at_111) rfl (Jvm.Free.XT.i0_ne_f hc111) k) ?_
        show Go p.tables e below _ (T20.setTop (mkF m 114 #[.val (.long qx), .second, .val (.long qy), .second, .val (.int ps), .val (.long x1_rr), .second, .val (.long x2_rr), .second, .val (.ref b3), .val (.int x10_rr), .val (.int x11_rr), .val (.int x15_rr), .val (.int x16_rr), .val (.int x20_rr), .val (.int (0 : Int32)), .val (.int (1 : Int32))] []))
        refine Go.st (fun _ k => XS.iload X20.here hx rfl (hb hby at_114) rfl k) ?_
        show Go p.tables e below _ (T20.setTop (mkF m 116 #[.val (.long qx), .second, .val (.long qy), .second, .val (.int ps), .val (.long x1_rr), .second, .val (.long x2_rr), .second, .val (.ref b3), .val (.int x10_rr), .val (.int x11_rr), .val (.int x15_rr), .val (.int x16_rr), .val (.int x20_rr), .val (.int (0 : Int32)), .val (.int (1 : Int32))] [(.int x15_rr)]))
        refine Go.st (fun _ k => XS.iload X20.here hx rfl (hb hby at_116) rfl k) ?_
        show Go p.tables e below _ (T20.setTop (mkF m 118 #[.val (.long qx), .second, .val (.long qy), .second, .val (.int ps), .val (.long x1_rr), .second, .val (.long x2_rr), .second, .val (.ref b3), .val (.int x10_rr), .val (.int x11_rr), .val (.int x15_rr), .val (.int x16_rr), .val (.int x20_rr), .val (.int (0 : Int32)), .val (.int (1 : Int32))] [(.int (0 : Int32)), (.int x15_rr)]))
        have hc118 : x15_rr = (0 : Int32) := own_eq32 (by omega)
        have hi118 : (x15_rr).toInt = ((0 : Int32)).toInt := Int32.toInt_inj.symm.mp hc118
        refine Go.st (fun _ k => XS.icmpNo X20.here hx rfl (hb hby at_118) rfl (Jvm.Free.XT.ii_ne_f hc118) k) ?_
        show Go p.tables e below _ (T20.setTop (mkF m 121 #[.val (.long qx), .second, .val (.long qy), .second, .val (.int ps), .val (.long x1_rr), .second, .val (.long x2_rr), .second, .val (.ref b3), .val (.int x10_rr), .val (.int x11_rr), .val (.int x15_rr), .val (.int x16_rr), .val (.int x20_rr), .val (.int (0 : Int32)), .val (.int (1 : Int32))] []))
        refine Go.st (fun _ k => XS.iload X20.here hx rfl (hb hby at_121) rfl k) ?_
        show Go p.tables e below _ (T20.setTop (mkF m 123 #[.val (.long qx), .second, .val (.long qy), .second, .val (.int ps), .val (.long x1_rr), .second, .val (.long x2_rr), .second, .val (.ref b3), .val (.int x10_rr), .val (.int x11_rr), .val (.int x15_rr), .val (.int x16_rr), .val (.int x20_rr), .val (.int (0 : Int32)), .val (.int (1 : Int32))] [(.int x20_rr)]))
        refine Go.st (fun _ k => XS.iload X20.here hx rfl (hb hby at_123) rfl k) ?_
        show Go p.tables e below _ (T20.setTop (mkF m 125 #[.val (.long qx), .second, .val (.long qy), .second, .val (.int ps), .val (.long x1_rr), .second, .val (.long x2_rr), .second, .val (.ref b3), .val (.int x10_rr), .val (.int x11_rr), .val (.int x15_rr), .val (.int x16_rr), .val (.int x20_rr), .val (.int (0 : Int32)), .val (.int (1 : Int32))] [(.int (1 : Int32)), (.int x20_rr)]))
        have lt_132 : (1 : Int32).toInt = 1 := by decide
        have hc125 : x20_rr = (1 : Int32) := own_eq32 (by omega)
        have hi125 : (x20_rr).toInt = ((1 : Int32)).toInt := Int32.toInt_inj.symm.mp hc125
        refine Go.st (fun _ k => XS.icmpNo X20.here hx rfl (hb hby at_125) rfl (Jvm.Free.XT.ii_ne_f hc125) k) ?_
        show Go p.tables e below _ (T20.setTop (mkF m 128 #[.val (.long qx), .second, .val (.long qy), .second, .val (.int ps), .val (.long x1_rr), .second, .val (.long x2_rr), .second, .val (.ref b3), .val (.int x10_rr), .val (.int x11_rr), .val (.int x15_rr), .val (.int x16_rr), .val (.int x20_rr), .val (.int (0 : Int32)), .val (.int (1 : Int32))] []))
        refine Go.st (fun _ k => XS.iconst X20.here hx rfl (hb hby at_128) k) ?_
        show Go p.tables e below _ (T20.setTop (mkF m 129 #[.val (.long qx), .second, .val (.long qy), .second, .val (.int ps), .val (.long x1_rr), .second, .val (.long x2_rr), .second, .val (.ref b3), .val (.int x10_rr), .val (.int x11_rr), .val (.int x15_rr), .val (.int x16_rr), .val (.int x20_rr), .val (.int (0 : Int32)), .val (.int (1 : Int32))] [(.int (1 : Int32))]))
        refine Go.st (fun _ k => XS.goto X20.here hx rfl (pc0 := 129) (pc' := 133) rfl (hb hby at_129) (by decide) (by decide) k) ?_
        show Go p.tables e below _ (T20.setTop (mkF m 133 #[.val (.long qx), .second, .val (.long qy), .second, .val (.int ps), .val (.long x1_rr), .second, .val (.long x2_rr), .second, .val (.ref b3), .val (.int x10_rr), .val (.int x11_rr), .val (.int x15_rr), .val (.int x16_rr), .val (.int x20_rr), .val (.int (0 : Int32)), .val (.int (1 : Int32))] [(.int (1 : Int32))]))
        subst hG
        obtain ⟨fs, hr, hrun, hended, hW, hsame⟩ := X20.leave (v := some (.int (nar .boolean (1 : Int32)))) (fun h => by rw [Bd.returns] at h; cases h)
        refine ⟨_, _, ?_, hrun, hended, _, _, rfl, ?_, ⟨_, rfl⟩, hW, hsame.mono (by decide) (by decide)⟩
        · exact retN X20 hx (t := .boolean) Bd.returns (by simp) (hb hby at_133) hr
        · show Q_law Z qx qy ps h0 n0 _ T20.heap _
          rw [e20]
          exact ⟨rfl, N20, K18⟩
      · skip
        have lt_064 : (0 : Int64).toInt = 0 := by decide
        have hi99 : ¬ (((0 : Int64)).toInt < (x2_rr).toInt) := fun z => hc99 (Int64.lt_iff_toInt_lt.mpr z)
        refine Go.st (fun _ k => XS.ifYes X20.here hx rfl (pc0 := 99) (pc' := 106) rfl (hb hby at_99) rfl (Jvm.Free.XT.ll_le_t hc99) (by decide) (by decide) k) ?_
        show Go p.tables e below _ (T20.setTop (mkF m 106 #[.val (.long qx), .second, .val (.long qy), .second, .val (.int ps), .val (.long x1_rr), .second, .val (.long x2_rr), .second, .val (.ref b3), .val (.int x10_rr), .val (.int x11_rr), .val (.int x15_rr), .val (.int x16_rr), .val (.int x20_rr), .val (.int (0 : Int32)), .unset] []))
        refine Go.st (fun _ k => XS.iconst X20.here hx rfl (hb hby at_106) k) ?_
        show Go p.tables e below _ (T20.setTop (mkF m 107 #[.val (.long qx), .second, .val (.long qy), .second, .val (.int ps), .val (.long x1_rr), .second, .val (.long x2_rr), .second, .val (.ref b3), .val (.int x10_rr), .val (.int x11_rr), .val (.int x15_rr), .val (.int x16_rr), .val (.int x20_rr), .val (.int (0 : Int32)), .unset] [(.int (0 : Int32))]))
        refine Go.st (fun _ k => XS.istore X20.here hx rfl (hb hby at_107) rfl (l' := #[.val (.long qx), .second, .val (.long qy), .second, .val (.int ps), .val (.long x1_rr), .second, .val (.long x2_rr), .second, .val (.ref b3), .val (.int x10_rr), .val (.int x11_rr), .val (.int x15_rr), .val (.int x16_rr), .val (.int x20_rr), .val (.int (0 : Int32)), .val (.int (0 : Int32))]) rfl k) ?_
        show Go p.tables e below _ (T20.setTop (mkF m 109 #[.val (.long qx), .second, .val (.long qy), .second, .val (.int ps), .val (.long x1_rr), .second, .val (.long x2_rr), .second, .val (.ref b3), .val (.int x10_rr), .val (.int x11_rr), .val (.int x15_rr), .val (.int x16_rr), .val (.int x20_rr), .val (.int (0 : Int32)), .val (.int (0 : Int32))] []))
        show Go p.tables e below _ (T20.setTop (mkF m 109 #[.val (.long qx), .second, .val (.long qy), .second, .val (.int ps), .val (.long x1_rr), .second, .val (.long x2_rr), .second, .val (.ref b3), .val (.int x10_rr), .val (.int x11_rr), .val (.int x15_rr), .val (.int x16_rr), .val (.int x20_rr), .val (.int (0 : Int32)), .val (.int (0 : Int32))] []))
        refine Go.st (fun _ k => XS.iload X20.here hx rfl (hb hby at_109) rfl k) ?_
        show Go p.tables e below _ (T20.setTop (mkF m 111 #[.val (.long qx), .second, .val (.long qy), .second, .val (.int ps), .val (.long x1_rr), .second, .val (.long x2_rr), .second, .val (.ref b3), .val (.int x10_rr), .val (.int x11_rr), .val (.int x15_rr), .val (.int x16_rr), .val (.int x20_rr), .val (.int (0 : Int32)), .val (.int (0 : Int32))] [(.int x10_rr)]))
        have hc111 : x10_rr = (0 : Int32) := own_eq32 (by omega)
        have hi111 : (x10_rr).toInt = ((0 : Int32)).toInt := Int32.toInt_inj.symm.mp hc111
        refine Go.st (fun _ k => XS.ifNo X20.here hx rfl (hb hby at_111) rfl (Jvm.Free.XT.i0_ne_f hc111) k) ?_
        show Go p.tables e below _ (T20.setTop (mkF m 114 #[.val (.long qx), .second, .val (.long qy), .second, .val (.int ps), .val (.long x1_rr), .second, .val (.long x2_rr), .second, .val (.ref b3), .val (.int x10_rr), .val (.int x11_rr), .val (.int x15_rr), .val (.int x16_rr), .val (.int x20_rr), .val (.int (0 : Int32)), .val (.int (0 : Int32))] []))
        refine Go.st (fun _ k => XS.iload X20.here hx rfl (hb hby at_114) rfl k) ?_
        show Go p.tables e below _ (T20.setTop (mkF m 116 #[.val (.long qx), .second, .val (.long qy), .second, .val (.int ps), .val (.long x1_rr), .second, .val (.long x2_rr), .second, .val (.ref b3), .val (.int x10_rr), .val (.int x11_rr), .val (.int x15_rr), .val (.int x16_rr), .val (.int x20_rr), .val (.int (0 : Int32)), .val (.int (0 : Int32))] [(.int x15_rr)]))
        refine Go.st (fun _ k => XS.iload X20.here hx rfl (hb hby at_116) rfl k) ?_
        show Go p.tables e below _ (T20.setTop (mkF m 118 #[.val (.long qx), .second, .val (.long qy), .second, .val (.int ps), .val (.long x1_rr), .second, .val (.long x2_rr), .second, .val (.ref b3), .val (.int x10_rr), .val (.int x11_rr), .val (.int x15_rr), .val (.int x16_rr), .val (.int x20_rr), .val (.int (0 : Int32)), .val (.int (0 : Int32))] [(.int (0 : Int32)), (.int x15_rr)]))
        have hc118 : x15_rr = (0 : Int32) := own_eq32 (by omega)
        have hi118 : (x15_rr).toInt = ((0 : Int32)).toInt := Int32.toInt_inj.symm.mp hc118
        refine Go.st (fun _ k => XS.icmpNo X20.here hx rfl (hb hby at_118) rfl (Jvm.Free.XT.ii_ne_f hc118) k) ?_
        show Go p.tables e below _ (T20.setTop (mkF m 121 #[.val (.long qx), .second, .val (.long qy), .second, .val (.int ps), .val (.long x1_rr), .second, .val (.long x2_rr), .second, .val (.ref b3), .val (.int x10_rr), .val (.int x11_rr), .val (.int x15_rr), .val (.int x16_rr), .val (.int x20_rr), .val (.int (0 : Int32)), .val (.int (0 : Int32))] []))
        refine Go.st (fun _ k => XS.iload X20.here hx rfl (hb hby at_121) rfl k) ?_
        show Go p.tables e below _ (T20.setTop (mkF m 123 #[.val (.long qx), .second, .val (.long qy), .second, .val (.int ps), .val (.long x1_rr), .second, .val (.long x2_rr), .second, .val (.ref b3), .val (.int x10_rr), .val (.int x11_rr), .val (.int x15_rr), .val (.int x16_rr), .val (.int x20_rr), .val (.int (0 : Int32)), .val (.int (0 : Int32))] [(.int x20_rr)]))
        refine Go.st (fun _ k => XS.iload X20.here hx rfl (hb hby at_123) rfl k) ?_
        show Go p.tables e below _ (T20.setTop (mkF m 125 #[.val (.long qx), .second, .val (.long qy), .second, .val (.int ps), .val (.long x1_rr), .second, .val (.long x2_rr), .second, .val (.ref b3), .val (.int x10_rr), .val (.int x11_rr), .val (.int x15_rr), .val (.int x16_rr), .val (.int x20_rr), .val (.int (0 : Int32)), .val (.int (0 : Int32))] [(.int (0 : Int32)), (.int x20_rr)]))
        have hc125 : x20_rr = (0 : Int32) := own_eq32 (by omega)
        have hi125 : (x20_rr).toInt = ((0 : Int32)).toInt := Int32.toInt_inj.symm.mp hc125
        refine Go.st (fun _ k => XS.icmpNo X20.here hx rfl (hb hby at_125) rfl (Jvm.Free.XT.ii_ne_f hc125) k) ?_
        show Go p.tables e below _ (T20.setTop (mkF m 128 #[.val (.long qx), .second, .val (.long qy), .second, .val (.int ps), .val (.long x1_rr), .second, .val (.long x2_rr), .second, .val (.ref b3), .val (.int x10_rr), .val (.int x11_rr), .val (.int x15_rr), .val (.int x16_rr), .val (.int x20_rr), .val (.int (0 : Int32)), .val (.int (0 : Int32))] []))
        refine Go.st (fun _ k => XS.iconst X20.here hx rfl (hb hby at_128) k) ?_
        show Go p.tables e below _ (T20.setTop (mkF m 129 #[.val (.long qx), .second, .val (.long qy), .second, .val (.int ps), .val (.long x1_rr), .second, .val (.long x2_rr), .second, .val (.ref b3), .val (.int x10_rr), .val (.int x11_rr), .val (.int x15_rr), .val (.int x16_rr), .val (.int x20_rr), .val (.int (0 : Int32)), .val (.int (0 : Int32))] [(.int (1 : Int32))]))
        refine Go.st (fun _ k => XS.goto X20.here hx rfl (pc0 := 129) (pc' := 133) rfl (hb hby at_129) (by decide) (by decide) k) ?_
        show Go p.tables e below _ (T20.setTop (mkF m 133 #[.val (.long qx), .second, .val (.long qy), .second, .val (.int ps), .val (.long x1_rr), .second, .val (.long x2_rr), .second, .val (.ref b3), .val (.int x10_rr), .val (.int x11_rr), .val (.int x15_rr), .val (.int x16_rr), .val (.int x20_rr), .val (.int (0 : Int32)), .val (.int (0 : Int32))] [(.int (1 : Int32))]))
        subst hG
        obtain ⟨fs, hr, hrun, hended, hW, hsame⟩ := X20.leave (v := some (.int (nar .boolean (1 : Int32)))) (fun h => by rw [Bd.returns] at h; cases h)
        refine ⟨_, _, ?_, hrun, hended, _, _, rfl, ?_, ⟨_, rfl⟩, hW, hsame.mono (by decide) (by decide)⟩
        · exact retN X20 hx (t := .boolean) Bd.returns (by simp) (hb hby at_133) hr
        · show Q_law Z qx qy ps h0 n0 _ T20.heap _
          rw [e20]
          exact ⟨rfl, N20, K18⟩
  · skip
    have lt_032 : (0 : Int32).toInt = 0 := by decide
    have hi68 : ¬ ((x11_rr).toInt = ((0 : Int32)).toInt) := fun z => hc68 (Int32.toInt_inj.symm.mpr z)
    refine Go.st (fun _ k => XS.ifNo X20.here hx rfl (hb hby at_68) rfl (Jvm.Free.XT.i0_eq_f hc68) k) ?_
    show Go p.tables e below _ (T20.setTop (mkF m 71 #[.val (.long qx), .second, .val (.long qy), .second, .val (.int ps), .val (.long x1_rr), .second, .val (.long x2_rr), .second, .val (.ref b3), .val (.int x10_rr), .val (.int x11_rr), .val (.int x15_rr), .val (.int x16_rr), .val (.int x20_rr), .unset, .unset] []))
    refine Go.st (fun _ k => XS.lload X20.here hx rfl (hb hby at_71) rfl k) ?_
    show Go p.tables e below _ (T20.setTop (mkF m 73 #[.val (.long qx), .second, .val (.long qy), .second, .val (.int ps), .val (.long x1_rr), .second, .val (.long x2_rr), .second, .val (.ref b3), .val (.int x10_rr), .val (.int x11_rr), .val (.int x15_rr), .val (.int x16_rr), .val (.int x20_rr), .unset, .unset] [(.long x1_rr)]))
    refine Go.st (fun _ k => XS.lconst X20.here hx rfl (hb hby at_73) k) ?_
    show Go p.tables e below _ (T20.setTop (mkF m 74 #[.val (.long qx), .second, .val (.long qy), .second, .val (.int ps), .val (.long x1_rr), .second, .val (.long x2_rr), .second, .val (.ref b3), .val (.int x10_rr), .val (.int x11_rr), .val (.int x15_rr), .val (.int x16_rr), .val (.int x20_rr), .unset, .unset] [(.long (0 : Int64)), (.long x1_rr)]))
    refine Go.st (fun _ k => Jvm.Free.XT.lcmp X20.here hx rfl (hb hby at_74) rfl k) ?_
    show Go p.tables e below _ (T20.setTop (mkF m 75 #[.val (.long qx), .second, .val (.long qy), .second, .val (.int ps), .val (.long x1_rr), .second, .val (.long x2_rr), .second, .val (.ref b3), .val (.int x10_rr), .val (.int x11_rr), .val (.int x15_rr), .val (.int x16_rr), .val (.int x20_rr), .unset, .unset] [(.int (Jvm.Free.XT.cmpL x1_rr (0 : Int64)))]))
    by_cases hc75 : (0 : Int64) < x1_rr
    · skip
      have lt_064 : (0 : Int64).toInt = 0 := by decide
      have hi75 : ((0 : Int64)).toInt < (x1_rr).toInt := Int64.lt_iff_toInt_lt.mp hc75
      refine Go.st (fun _ k => XS.ifNo X20.here hx rfl (hb hby at_75) rfl (Jvm.Free.XT.ll_le_f hc75) k) ?_
      show Go p.tables e below _ (T20.setTop (mkF m 78 #[.val (.long qx), .second, .val (.long qy), .second, .val (.int ps), .val (.long x1_rr), .second, .val (.long x2_rr), .second, .val (.ref b3), .val (.int x10_rr), .val (.int x11_rr), .val (.int x15_rr), .val (.int x16_rr), .val (.int x20_rr), .unset, .unset] []))
      refine Go.st (fun _ k => XS.iconst X20.here hx rfl (hb hby at_78) k) ?_
      show Go p.tables e below _ (T20.setTop (mkF m 79 #[.val (.long qx), .second, .val (.long qy), .second, .val (.int ps), .val (.long x1_rr), .second, .val (.long x2_rr), .second, .val (.ref b3), .val (.int x10_rr), .val (.int x11_rr), .val (.int x15_rr), .val (.int x16_rr), .val (.int x20_rr), .unset, .unset] [(.int (1 : Int32))]))
      refine Go.st (fun _ k => XS.goto X20.here hx rfl (pc0 := 79) (pc' := 83) rfl (hb hby at_79) (by decide) (by decide) k) ?_
      show Go p.tables e below _ (T20.setTop (mkF m 83 #[.val (.long qx), .second, .val (.long qy), .second, .val (.int ps), .val (.long x1_rr), .second, .val (.long x2_rr), .second, .val (.ref b3), .val (.int x10_rr), .val (.int x11_rr), .val (.int x15_rr), .val (.int x16_rr), .val (.int x20_rr), .unset, .unset] [(.int (1 : Int32))]))
      refine Go.st (fun _ k => XS.istore X20.here hx rfl (hb hby at_83) rfl (l' := #[.val (.long qx), .second, .val (.long qy), .second, .val (.int ps), .val (.long x1_rr), .second, .val (.long x2_rr), .second, .val (.ref b3), .val (.int x10_rr), .val (.int x11_rr), .val (.int x15_rr), .val (.int x16_rr), .val (.int x20_rr), .val (.int (1 : Int32)), .unset]) rfl k) ?_
      show Go p.tables e below _ (T20.setTop (mkF m 85 #[.val (.long qx), .second, .val (.long qy), .second, .val (.int ps), .val (.long x1_rr), .second, .val (.long x2_rr), .second, .val (.ref b3), .val (.int x10_rr), .val (.int x11_rr), .val (.int x15_rr), .val (.int x16_rr), .val (.int x20_rr), .val (.int (1 : Int32)), .unset] []))
      show Go p.tables e below _ (T20.setTop (mkF m 85 #[.val (.long qx), .second, .val (.long qy), .second, .val (.int ps), .val (.long x1_rr), .second, .val (.long x2_rr), .second, .val (.ref b3), .val (.int x10_rr), .val (.int x11_rr), .val (.int x15_rr), .val (.int x16_rr), .val (.int x20_rr), .val (.int (1 : Int32)), .unset] []))
      refine Go.st (fun _ k => XS.iload X20.here hx rfl (hb hby at_85) rfl k) ?_
      show Go p.tables e below _ (T20.setTop (mkF m 87 #[.val (.long qx), .second, .val (.long qy), .second, .val (.int ps), .val (.long x1_rr), .second, .val (.long x2_rr), .second, .val (.ref b3), .val (.int x10_rr), .val (.int x11_rr), .val (.int x15_rr), .val (.int x16_rr), .val (.int x20_rr), .val (.int (1 : Int32)), .unset] [(.int (1 : Int32))]))
      have hl22 : ¬ ((1 : Int32) = (0 : Int32)) := by decide
      refine Go.st (fun _ k => XS.ifYes X20.here hx rfl (pc0 := 87) (pc' := 102) rfl (hb hby at_87) rfl (Jvm.Free.XT.i0_ne_t hl22) (by decide) (by decide) k) ?_
      show Go p.tables e below _ (T20.setTop (mkF m 102 #[.val (.long qx), .second, .val (.long qy), .second, .val (.int ps), .val (.long x1_rr), .second, .val (.long x2_rr), .second, .val (.ref b3), .val (.int x10_rr), .val (.int x11_rr), .val (.int x15_rr), .val (.int x16_rr), .val (.int x20_rr), .val (.int (1 : Int32)), .unset] []))
      refine Go.st (fun _ k => XS.iconst X20.here hx rfl (hb hby at_102) k) ?_
      show Go p.tables e below _ (T20.setTop (mkF m 103 #[.val (.long qx), .second, .val (.long qy), .second, .val (.int ps), .val (.long x1_rr), .second, .val (.long x2_rr), .second, .val (.ref b3), .val (.int x10_rr), .val (.int x11_rr), .val (.int x15_rr), .val (.int x16_rr), .val (.int x20_rr), .val (.int (1 : Int32)), .unset] [(.int (1 : Int32))]))
      refine Go.st (fun _ k => XS.goto X20.here hx rfl (pc0 := 103) (pc' := 107) rfl (hb hby at_103) (by decide) (by decide) k) ?_
      show Go p.tables e below _ (T20.setTop (mkF m 107 #[.val (.long qx), .second, .val (.long qy), .second, .val (.int ps), .val (.long x1_rr), .second, .val (.long x2_rr), .second, .val (.ref b3), .val (.int x10_rr), .val (.int x11_rr), .val (.int x15_rr), .val (.int x16_rr), .val (.int x20_rr), .val (.int (1 : Int32)), .unset] [(.int (1 : Int32))]))
      refine Go.st (fun _ k => XS.istore X20.here hx rfl (hb hby at_107) rfl (l' := #[.val (.long qx), .second, .val (.long qy), .second, .val (.int ps), .val (.long x1_rr), .second, .val (.long x2_rr), .second, .val (.ref b3), .val (.int x10_rr), .val (.int x11_rr), .val (.int x15_rr), .val (.int x16_rr), .val (.int x20_rr), .val (.int (1 : Int32)), .val (.int (1 : Int32))]) rfl k) ?_
      show Go p.tables e below _ (T20.setTop (mkF m 109 #[.val (.long qx), .second, .val (.long qy), .second, .val (.int ps), .val (.long x1_rr), .second, .val (.long x2_rr), .second, .val (.ref b3), .val (.int x10_rr), .val (.int x11_rr), .val (.int x15_rr), .val (.int x16_rr), .val (.int x20_rr), .val (.int (1 : Int32)), .val (.int (1 : Int32))] []))
      show Go p.tables e below _ (T20.setTop (mkF m 109 #[.val (.long qx), .second, .val (.long qy), .second, .val (.int ps), .val (.long x1_rr), .second, .val (.long x2_rr), .second, .val (.ref b3), .val (.int x10_rr), .val (.int x11_rr), .val (.int x15_rr), .val (.int x16_rr), .val (.int x20_rr), .val (.int (1 : Int32)), .val (.int (1 : Int32))] []))
      refine Go.st (fun _ k => XS.iload X20.here hx rfl (hb hby at_109) rfl k) ?_
      show Go p.tables e below _ (T20.setTop (mkF m 111 #[.val (.long qx), .second, .val (.long qy), .second, .val (.int ps), .val (.long x1_rr), .second, .val (.long x2_rr), .second, .val (.ref b3), .val (.int x10_rr), .val (.int x11_rr), .val (.int x15_rr), .val (.int x16_rr), .val (.int x20_rr), .val (.int (1 : Int32)), .val (.int (1 : Int32))] [(.int x10_rr)]))
      have hc111 : x10_rr = (0 : Int32) := own_eq32 (by omega)
      have hi111 : (x10_rr).toInt = ((0 : Int32)).toInt := Int32.toInt_inj.symm.mp hc111
      refine Go.st (fun _ k => XS.ifNo X20.here hx rfl (hb hby at_111) rfl (Jvm.Free.XT.i0_ne_f hc111) k) ?_
      show Go p.tables e below _ (T20.setTop (mkF m 114 #[.val (.long qx), .second, .val (.long qy), .second, .val (.int ps), .val (.long x1_rr), .second, .val (.long x2_rr), .second, .val (.ref b3), .val (.int x10_rr), .val (.int x11_rr), .val (.int x15_rr), .val (.int x16_rr), .val (.int x20_rr), .val (.int (1 : Int32)), .val (.int (1 : Int32))] []))
      refine Go.st (fun _ k => XS.iload X20.here hx rfl (hb hby at_114) rfl k) ?_
      show Go p.tables e below _ (T20.setTop (mkF m 116 #[.val (.long qx), .second, .val (.long qy), .second, .val (.int ps), .val (.long x1_rr), .second, .val (.long x2_rr), .second, .val (.ref b3), .val (.int x10_rr), .val (.int x11_rr), .val (.int x15_rr), .val (.int x16_rr), .val (.int x20_rr), .val (.int (1 : Int32)), .val (.int (1 : Int32))] [(.int x15_rr)]))
      refine Go.st (fun _ k => XS.iload X20.here hx rfl (hb hby at_116) rfl k) ?_
      show Go p.tables e below _ (T20.setTop (mkF m 118 #[.val (.long qx), .second, .val (.long qy), .second, .val (.int ps), .val (.long x1_rr), .second, .val (.long x2_rr), .second, .val (.ref b3), .val (.int x10_rr), .val (.int x11_rr), .val (.int x15_rr), .val (.int x16_rr), .val (.int x20_rr), .val (.int (1 : Int32)), .val (.int (1 : Int32))] [(.int (1 : Int32)), (.int x15_rr)]))
      have lt_132 : (1 : Int32).toInt = 1 := by decide
      have hc118 : x15_rr = (1 : Int32) := own_eq32 (by omega)
      have hi118 : (x15_rr).toInt = ((1 : Int32)).toInt := Int32.toInt_inj.symm.mp hc118
      refine Go.st (fun _ k => XS.icmpNo X20.here hx rfl (hb hby at_118) rfl (Jvm.Free.XT.ii_ne_f hc118) k) ?_
      show Go p.tables e below _ (T20.setTop (mkF m 121 #[.val (.long qx), .second, .val (.long qy), .second, .val (.int ps), .val (.long x1_rr), .second, .val (.long x2_rr), .second, .val (.ref b3), .val (.int x10_rr), .val (.int x11_rr), .val (.int x15_rr), .val (.int x16_rr), .val (.int x20_rr), .val (.int (1 : Int32)), .val (.int (1 : Int32))] []))
      refine Go.st (fun _ k => XS.iload X20.here hx rfl (hb hby at_121) rfl k) ?_
      show Go p.tables e below _ (T20.setTop (mkF m 123 #[.val (.long qx), .second, .val (.long qy), .second, .val (.int ps), .val (.long x1_rr), .second, .val (.long x2_rr), .second, .val (.ref b3), .val (.int x10_rr), .val (.int x11_rr), .val (.int x15_rr), .val (.int x16_rr), .val (.int x20_rr), .val (.int (1 : Int32)), .val (.int (1 : Int32))] [(.int x20_rr)]))
      refine Go.st (fun _ k => XS.iload X20.here hx rfl (hb hby at_123) rfl k) ?_
      show Go p.tables e below _ (T20.setTop (mkF m 125 #[.val (.long qx), .second, .val (.long qy), .second, .val (.int ps), .val (.long x1_rr), .second, .val (.long x2_rr), .second, .val (.ref b3), .val (.int x10_rr), .val (.int x11_rr), .val (.int x15_rr), .val (.int x16_rr), .val (.int x20_rr), .val (.int (1 : Int32)), .val (.int (1 : Int32))] [(.int (1 : Int32)), (.int x20_rr)]))
      have hc125 : x20_rr = (1 : Int32) := own_eq32 (by omega)
      have hi125 : (x20_rr).toInt = ((1 : Int32)).toInt := Int32.toInt_inj.symm.mp hc125
      refine Go.st (fun _ k => XS.icmpNo X20.here hx rfl (hb hby at_125) rfl (Jvm.Free.XT.ii_ne_f hc125) k) ?_
      show Go p.tables e below _ (T20.setTop (mkF m 128 #[.val (.long qx), .second, .val (.long qy), .second, .val (.int ps), .val (.long x1_rr), .second, .val (.long x2_rr), .second, .val (.ref b3), .val (.int x10_rr), .val (.int x11_rr), .val (.int x15_rr), .val (.int x16_rr), .val (.int x20_rr), .val (.int (1 : Int32)), .val (.int (1 : Int32))] []))
      refine Go.st (fun _ k => XS.iconst X20.here hx rfl (hb hby at_128) k) ?_
      show Go p.tables e below _ (T20.setTop (mkF m 129 #[.val (.long qx), .second, .val (.long qy), .second, .val (.int ps), .val (.long x1_rr), .second, .val (.long x2_rr), .second, .val (.ref b3), .val (.int x10_rr), .val (.int x11_rr), .val (.int x15_rr), .val (.int x16_rr), .val (.int x20_rr), .val (.int (1 : Int32)), .val (.int (1 : Int32))] [(.int (1 : Int32))]))
      refine Go.st (fun _ k => XS.goto X20.here hx rfl (pc0 := 129) (pc' := 133) rfl (hb hby at_129) (by decide) (by decide) k) ?_
      show Go p.tables e below _ (T20.setTop (mkF m 133 #[.val (.long qx), .second, .val (.long qy), .second, .val (.int ps), .val (.long x1_rr), .second, .val (.long x2_rr), .second, .val (.ref b3), .val (.int x10_rr), .val (.int x11_rr), .val (.int x15_rr), .val (.int x16_rr), .val (.int x20_rr), .val (.int (1 : Int32)), .val (.int (1 : Int32))] [(.int (1 : Int32))]))
      subst hG
      obtain ⟨fs, hr, hrun, hended, hW, hsame⟩ := X20.leave (v := some (.int (nar .boolean (1 : Int32)))) (fun h => by rw [Bd.returns] at h; cases h)
      refine ⟨_, _, ?_, hrun, hended, _, _, rfl, ?_, ⟨_, rfl⟩, hW, hsame.mono (by decide) (by decide)⟩
      · exact retN X20 hx (t := .boolean) Bd.returns (by simp) (hb hby at_133) hr
      · show Q_law Z qx qy ps h0 n0 _ T20.heap _
        rw [e20]
        exact ⟨rfl, N20, K18⟩
    · skip
      have lt_064 : (0 : Int64).toInt = 0 := by decide
      have hi75 : ¬ (((0 : Int64)).toInt < (x1_rr).toInt) := fun z => hc75 (Int64.lt_iff_toInt_lt.mpr z)
      refine Go.st (fun _ k => XS.ifYes X20.here hx rfl (pc0 := 75) (pc' := 82) rfl (hb hby at_75) rfl (Jvm.Free.XT.ll_le_t hc75) (by decide) (by decide) k) ?_
      show Go p.tables e below _ (T20.setTop (mkF m 82 #[.val (.long qx), .second, .val (.long qy), .second, .val (.int ps), .val (.long x1_rr), .second, .val (.long x2_rr), .second, .val (.ref b3), .val (.int x10_rr), .val (.int x11_rr), .val (.int x15_rr), .val (.int x16_rr), .val (.int x20_rr), .unset, .unset] []))
      refine Go.st (fun _ k => XS.iconst X20.here hx rfl (hb hby at_82) k) ?_
      show Go p.tables e below _ (T20.setTop (mkF m 83 #[.val (.long qx), .second, .val (.long qy), .second, .val (.int ps), .val (.long x1_rr), .second, .val (.long x2_rr), .second, .val (.ref b3), .val (.int x10_rr), .val (.int x11_rr), .val (.int x15_rr), .val (.int x16_rr), .val (.int x20_rr), .unset, .unset] [(.int (0 : Int32))]))
      refine Go.st (fun _ k => XS.istore X20.here hx rfl (hb hby at_83) rfl (l' := #[.val (.long qx), .second, .val (.long qy), .second, .val (.int ps), .val (.long x1_rr), .second, .val (.long x2_rr), .second, .val (.ref b3), .val (.int x10_rr), .val (.int x11_rr), .val (.int x15_rr), .val (.int x16_rr), .val (.int x20_rr), .val (.int (0 : Int32)), .unset]) rfl k) ?_
      show Go p.tables e below _ (T20.setTop (mkF m 85 #[.val (.long qx), .second, .val (.long qy), .second, .val (.int ps), .val (.long x1_rr), .second, .val (.long x2_rr), .second, .val (.ref b3), .val (.int x10_rr), .val (.int x11_rr), .val (.int x15_rr), .val (.int x16_rr), .val (.int x20_rr), .val (.int (0 : Int32)), .unset] []))
      show Go p.tables e below _ (T20.setTop (mkF m 85 #[.val (.long qx), .second, .val (.long qy), .second, .val (.int ps), .val (.long x1_rr), .second, .val (.long x2_rr), .second, .val (.ref b3), .val (.int x10_rr), .val (.int x11_rr), .val (.int x15_rr), .val (.int x16_rr), .val (.int x20_rr), .val (.int (0 : Int32)), .unset] []))
      refine Go.st (fun _ k => XS.iload X20.here hx rfl (hb hby at_85) rfl k) ?_
      show Go p.tables e below _ (T20.setTop (mkF m 87 #[.val (.long qx), .second, .val (.long qy), .second, .val (.int ps), .val (.long x1_rr), .second, .val (.long x2_rr), .second, .val (.ref b3), .val (.int x10_rr), .val (.int x11_rr), .val (.int x15_rr), .val (.int x16_rr), .val (.int x20_rr), .val (.int (0 : Int32)), .unset] [(.int (0 : Int32))]))
      have hl23 : (0 : Int32) = (0 : Int32) := by decide
      refine Go.st (fun _ k => XS.ifNo X20.here hx rfl (hb hby at_87) rfl (Jvm.Free.XT.i0_ne_f hl23) k) ?_
      show Go p.tables e below _ (T20.setTop (mkF m 90 #[.val (.long qx), .second, .val (.long qy), .second, .val (.int ps), .val (.long x1_rr), .second, .val (.long x2_rr), .second, .val (.ref b3), .val (.int x10_rr), .val (.int x11_rr), .val (.int x15_rr), .val (.int x16_rr), .val (.int x20_rr), .val (.int (0 : Int32)), .unset] []))
      refine Go.st (fun _ k => XS.iload X20.here hx rfl (hb hby at_90) rfl k) ?_
      show Go p.tables e below _ (T20.setTop (mkF m 92 #[.val (.long qx), .second, .val (.long qy), .second, .val (.int ps), .val (.long x1_rr), .second, .val (.long x2_rr), .second, .val (.ref b3), .val (.int x10_rr), .val (.int x11_rr), .val (.int x15_rr), .val (.int x16_rr), .val (.int x20_rr), .val (.int (0 : Int32)), .unset] [(.int x16_rr)]))
      by_cases hc92 : x16_rr = (0 : Int32)
      · skip
        have hi92 : (x16_rr).toInt = ((0 : Int32)).toInt := Int32.toInt_inj.symm.mp hc92
        refine Go.st (fun _ k => XS.ifYes X20.here hx rfl (pc0 := 92) (pc' := 106) rfl (hb hby at_92) rfl (Jvm.Free.XT.i0_eq_t hc92) (by decide) (by decide) k) ?_
        show Go p.tables e below _ (T20.setTop (mkF m 106 #[.val (.long qx), .second, .val (.long qy), .second, .val (.int ps), .val (.long x1_rr), .second, .val (.long x2_rr), .second, .val (.ref b3), .val (.int x10_rr), .val (.int x11_rr), .val (.int x15_rr), .val (.int x16_rr), .val (.int x20_rr), .val (.int (0 : Int32)), .unset] []))
        refine Go.st (fun _ k => XS.iconst X20.here hx rfl (hb hby at_106) k) ?_
        show Go p.tables e below _ (T20.setTop (mkF m 107 #[.val (.long qx), .second, .val (.long qy), .second, .val (.int ps), .val (.long x1_rr), .second, .val (.long x2_rr), .second, .val (.ref b3), .val (.int x10_rr), .val (.int x11_rr), .val (.int x15_rr), .val (.int x16_rr), .val (.int x20_rr), .val (.int (0 : Int32)), .unset] [(.int (0 : Int32))]))
        refine Go.st (fun _ k => XS.istore X20.here hx rfl (hb hby at_107) rfl (l' := #[.val (.long qx), .second, .val (.long qy), .second, .val (.int ps), .val (.long x1_rr), .second, .val (.long x2_rr), .second, .val (.ref b3), .val (.int x10_rr), .val (.int x11_rr), .val (.int x15_rr), .val (.int x16_rr), .val (.int x20_rr), .val (.int (0 : Int32)), .val (.int (0 : Int32))]) rfl k) ?_
        show Go p.tables e below _ (T20.setTop (mkF m 109 #[.val (.long qx), .second, .val (.long qy), .second, .val (.int ps), .val (.long x1_rr), .second, .val (.long x2_rr), .second, .val (.ref b3), .val (.int x10_rr), .val (.int x11_rr), .val (.int x15_rr), .val (.int x16_rr), .val (.int x20_rr), .val (.int (0 : Int32)), .val (.int (0 : Int32))] []))
        show Go p.tables e below _ (T20.setTop (mkF m 109 #[.val (.long qx), .second, .val (.long qy), .second, .val (.int ps), .val (.long x1_rr), .second, .val (.long x2_rr), .second, .val (.ref b3), .val (.int x10_rr), .val (.int x11_rr), .val (.int x15_rr), .val (.int x16_rr), .val (.int x20_rr), .val (.int (0 : Int32)), .val (.int (0 : Int32))] []))
        refine Go.st (fun _ k => XS.iload X20.here hx rfl (hb hby at_109) rfl k) ?_
        show Go p.tables e below _ (T20.setTop (mkF m 111 #[.val (.long qx), .second, .val (.long qy), .second, .val (.int ps), .val (.long x1_rr), .second, .val (.long x2_rr), .second, .val (.ref b3), .val (.int x10_rr), .val (.int x11_rr), .val (.int x15_rr), .val (.int x16_rr), .val (.int x20_rr), .val (.int (0 : Int32)), .val (.int (0 : Int32))] [(.int x10_rr)]))
        have hc111 : x10_rr = (0 : Int32) := own_eq32 (by omega)
        have hi111 : (x10_rr).toInt = ((0 : Int32)).toInt := Int32.toInt_inj.symm.mp hc111
        refine Go.st (fun _ k => XS.ifNo X20.here hx rfl (hb hby at_111) rfl (Jvm.Free.XT.i0_ne_f hc111) k) ?_
        show Go p.tables e below _ (T20.setTop (mkF m 114 #[.val (.long qx), .second, .val (.long qy), .second, .val (.int ps), .val (.long x1_rr), .second, .val (.long x2_rr), .second, .val (.ref b3), .val (.int x10_rr), .val (.int x11_rr), .val (.int x15_rr), .val (.int x16_rr), .val (.int x20_rr), .val (.int (0 : Int32)), .val (.int (0 : Int32))] []))
        refine Go.st (fun _ k => XS.iload X20.here hx rfl (hb hby at_114) rfl k) ?_
        show Go p.tables e below _ (T20.setTop (mkF m 116 #[.val (.long qx), .second, .val (.long qy), .second, .val (.int ps), .val (.long x1_rr), .second, .val (.long x2_rr), .second, .val (.ref b3), .val (.int x10_rr), .val (.int x11_rr), .val (.int x15_rr), .val (.int x16_rr), .val (.int x20_rr), .val (.int (0 : Int32)), .val (.int (0 : Int32))] [(.int x15_rr)]))
        refine Go.st (fun _ k => XS.iload X20.here hx rfl (hb hby at_116) rfl k) ?_
        show Go p.tables e below _ (T20.setTop (mkF m 118 #[.val (.long qx), .second, .val (.long qy), .second, .val (.int ps), .val (.long x1_rr), .second, .val (.long x2_rr), .second, .val (.ref b3), .val (.int x10_rr), .val (.int x11_rr), .val (.int x15_rr), .val (.int x16_rr), .val (.int x20_rr), .val (.int (0 : Int32)), .val (.int (0 : Int32))] [(.int (0 : Int32)), (.int x15_rr)]))
        have hc118 : x15_rr = (0 : Int32) := own_eq32 (by omega)
        have hi118 : (x15_rr).toInt = ((0 : Int32)).toInt := Int32.toInt_inj.symm.mp hc118
        refine Go.st (fun _ k => XS.icmpNo X20.here hx rfl (hb hby at_118) rfl (Jvm.Free.XT.ii_ne_f hc118) k) ?_
        show Go p.tables e below _ (T20.setTop (mkF m 121 #[.val (.long qx), .second, .val (.long qy), .second, .val (.int ps), .val (.long x1_rr), .second, .val (.long x2_rr), .second, .val (.ref b3), .val (.int x10_rr), .val (.int x11_rr), .val (.int x15_rr), .val (.int x16_rr), .val (.int x20_rr), .val (.int (0 : Int32)), .val (.int (0 : Int32))] []))
        refine Go.st (fun _ k => XS.iload X20.here hx rfl (hb hby at_121) rfl k) ?_
        show Go p.tables e below _ (T20.setTop (mkF m 123 #[.val (.long qx), .second, .val (.long qy), .second, .val (.int ps), .val (.long x1_rr), .second, .val (.long x2_rr), .second, .val (.ref b3), .val (.int x10_rr), .val (.int x11_rr), .val (.int x15_rr), .val (.int x16_rr), .val (.int x20_rr), .val (.int (0 : Int32)), .val (.int (0 : Int32))] [(.int x20_rr)]))
        refine Go.st (fun _ k => XS.iload X20.here hx rfl (hb hby at_123) rfl k) ?_
        show Go p.tables e below _ (T20.setTop (mkF m 125 #[.val (.long qx), .second, .val (.long qy), .second, .val (.int ps), .val (.long x1_rr), .second, .val (.long x2_rr), .second, .val (.ref b3), .val (.int x10_rr), .val (.int x11_rr), .val (.int x15_rr), .val (.int x16_rr), .val (.int x20_rr), .val (.int (0 : Int32)), .val (.int (0 : Int32))] [(.int (0 : Int32)), (.int x20_rr)]))
        have hc125 : x20_rr = (0 : Int32) := own_eq32 (by omega)
        have hi125 : (x20_rr).toInt = ((0 : Int32)).toInt := Int32.toInt_inj.symm.mp hc125
        refine Go.st (fun _ k => XS.icmpNo X20.here hx rfl (hb hby at_125) rfl (Jvm.Free.XT.ii_ne_f hc125) k) ?_
        show Go p.tables e below _ (T20.setTop (mkF m 128 #[.val (.long qx), .second, .val (.long qy), .second, .val (.int ps), .val (.long x1_rr), .second, .val (.long x2_rr), .second, .val (.ref b3), .val (.int x10_rr), .val (.int x11_rr), .val (.int x15_rr), .val (.int x16_rr), .val (.int x20_rr), .val (.int (0 : Int32)), .val (.int (0 : Int32))] []))
        refine Go.st (fun _ k => XS.iconst X20.here hx rfl (hb hby at_128) k) ?_
        show Go p.tables e below _ (T20.setTop (mkF m 129 #[.val (.long qx), .second, .val (.long qy), .second, .val (.int ps), .val (.long x1_rr), .second, .val (.long x2_rr), .second, .val (.ref b3), .val (.int x10_rr), .val (.int x11_rr), .val (.int x15_rr), .val (.int x16_rr), .val (.int x20_rr), .val (.int (0 : Int32)), .val (.int (0 : Int32))] [(.int (1 : Int32))]))
        refine Go.st (fun _ k => XS.goto X20.here hx rfl (pc0 := 129) (pc' := 133) rfl (hb hby at_129) (by decide) (by decide) k) ?_
        show Go p.tables e below _ (T20.setTop (mkF m 133 #[.val (.long qx), .second, .val (.long qy), .second, .val (.int ps), .val (.long x1_rr), .second, .val (.long x2_rr), .second, .val (.ref b3), .val (.int x10_rr), .val (.int x11_rr), .val (.int x15_rr), .val (.int x16_rr), .val (.int x20_rr), .val (.int (0 : Int32)), .val (.int (0 : Int32))] [(.int (1 : Int32))]))
        subst hG
        obtain ⟨fs, hr, hrun, hended, hW, hsame⟩ := X20.leave (v := some (.int (nar .boolean (1 : Int32)))) (fun h => by rw [Bd.returns] at h; cases h)
        refine ⟨_, _, ?_, hrun, hended, _, _, rfl, ?_, ⟨_, rfl⟩, hW, hsame.mono (by decide) (by decide)⟩
        · exact retN X20 hx (t := .boolean) Bd.returns (by simp) (hb hby at_133) hr
        · show Q_law Z qx qy ps h0 n0 _ T20.heap _
          rw [e20]
          exact ⟨rfl, N20, K18⟩
      · skip
        have hi92 : ¬ ((x16_rr).toInt = ((0 : Int32)).toInt) := fun z => hc92 (Int32.toInt_inj.symm.mpr z)
        refine Go.st (fun _ k => XS.ifNo X20.here hx rfl (hb hby at_92) rfl (Jvm.Free.XT.i0_eq_f hc92) k) ?_
        show Go p.tables e below _ (T20.setTop (mkF m 95 #[.val (.long qx), .second, .val (.long qy), .second, .val (.int ps), .val (.long x1_rr), .second, .val (.long x2_rr), .second, .val (.ref b3), .val (.int x10_rr), .val (.int x11_rr), .val (.int x15_rr), .val (.int x16_rr), .val (.int x20_rr), .val (.int (0 : Int32)), .unset] []))
        refine Go.st (fun _ k => XS.lload X20.here hx rfl (hb hby at_95) rfl k) ?_
        show Go p.tables e below _ (T20.setTop (mkF m 97 #[.val (.long qx), .second, .val (.long qy), .second, .val (.int ps), .val (.long x1_rr), .second, .val (.long x2_rr), .second, .val (.ref b3), .val (.int x10_rr), .val (.int x11_rr), .val (.int x15_rr), .val (.int x16_rr), .val (.int x20_rr), .val (.int (0 : Int32)), .unset] [(.long x2_rr)]))
        refine Go.st (fun _ k => XS.lconst X20.here hx rfl (hb hby at_97) k) ?_
        show Go p.tables e below _ (T20.setTop (mkF m 98 #[.val (.long qx), .second, .val (.long qy), .second, .val (.int ps), .val (.long x1_rr), .second, .val (.long x2_rr), .second, .val (.ref b3), .val (.int x10_rr), .val (.int x11_rr), .val (.int x15_rr), .val (.int x16_rr), .val (.int x20_rr), .val (.int (0 : Int32)), .unset] [(.long (0 : Int64)), (.long x2_rr)]))
        refine Go.st (fun _ k => Jvm.Free.XT.lcmp X20.here hx rfl (hb hby at_98) rfl k) ?_
        show Go p.tables e below _ (T20.setTop (mkF m 99 #[.val (.long qx), .second, .val (.long qy), .second, .val (.int ps), .val (.long x1_rr), .second, .val (.long x2_rr), .second, .val (.ref b3), .val (.int x10_rr), .val (.int x11_rr), .val (.int x15_rr), .val (.int x16_rr), .val (.int x20_rr), .val (.int (0 : Int32)), .unset] [(.int (Jvm.Free.XT.cmpL x2_rr (0 : Int64)))]))
        by_cases hc99 : (0 : Int64) < x2_rr
        · skip
          have hi99 : ((0 : Int64)).toInt < (x2_rr).toInt := Int64.lt_iff_toInt_lt.mp hc99
          refine Go.st (fun _ k => XS.ifNo X20.here hx rfl (hb hby at_99) rfl (Jvm.Free.XT.ll_le_f hc99) k) ?_
          show Go p.tables e below _ (T20.setTop (mkF m 102 #[.val (.long qx), .second, .val (.long qy), .second, .val (.int ps), .val (.long x1_rr), .second, .val (.long x2_rr), .second, .val (.ref b3), .val (.int x10_rr), .val (.int x11_rr), .val (.int x15_rr), .val (.int x16_rr), .val (.int x20_rr), .val (.int (0 : Int32)), .unset] []))
          refine Go.st (fun _ k => XS.iconst X20.here hx rfl (hb hby at_102) k) ?_
          show Go p.tables e below _ (T20.setTop (mkF m 103 #[.val (.long qx), .second, .val (.long qy), .second, .val (.int ps), .val (.long x1_rr), .second, .val (.long x2_rr), .second, .val (.ref b3), .val (.int x10_rr), .val (.int x11_rr), .val (.int x15_rr), .val (.int x16_rr), .val (.int x20_rr), .val (.int (0 : Int32)), .unset] [(.int (1 : Int32))]))
          refine Go.st (fun _ k => XS.goto X20.here hx rfl (pc0 := 103) (pc' := 107) rfl (hb hby at_103) (by decide) (by decide) k) ?_
          show Go p.tables e below _ (T20.setTop (mkF m 107 #[.val (.long qx), .second, .val (.long qy), .second, .val (.int ps), .val (.long x1_rr), .second, .val (.long x2_rr), .second, .val (.ref b3), .val (.int x10_rr), .val (.int x11_rr), .val (.int x15_rr), .val (.int x16_rr), .val (.int x20_rr), .val (.int (0 : Int32)), .unset] [(.int (1 : Int32))]))
          refine Go.st (fun _ k => XS.istore X20.here hx rfl (hb hby at_107) rfl (l' := #[.val (.long qx), .second, .val (.long qy), .second, .val (.int ps), .val (.long x1_rr), .second, .val (.long x2_rr), .second, .val (.ref b3), .val (.int x10_rr), .val (.int x11_rr), .val (.int x15_rr), .val (.int x16_rr), .val (.int x20_rr), .val (.int (0 : Int32)), .val (.int (1 : Int32))]) rfl k) ?_
          show Go p.tables e below _ (T20.setTop (mkF m 109 #[.val (.long qx), .second, .val (.long qy), .second, .val (.int ps), .val (.long x1_rr), .second, .val (.long x2_rr), .second, .val (.ref b3), .val (.int x10_rr), .val (.int x11_rr), .val (.int x15_rr), .val (.int x16_rr), .val (.int x20_rr), .val (.int (0 : Int32)), .val (.int (1 : Int32))] []))
          show Go p.tables e below _ (T20.setTop (mkF m 109 #[.val (.long qx), .second, .val (.long qy), .second, .val (.int ps), .val (.long x1_rr), .second, .val (.long x2_rr), .second, .val (.ref b3), .val (.int x10_rr), .val (.int x11_rr), .val (.int x15_rr), .val (.int x16_rr), .val (.int x20_rr), .val (.int (0 : Int32)), .val (.int (1 : Int32))] []))
          refine Go.st (fun _ k => XS.iload X20.here hx rfl (hb hby at_109) rfl k) ?_
          show Go p.tables e below _ (T20.setTop (mkF m 111 #[.val (.long qx), .second, .val (.long qy), .second, .val (.int ps), .val (.long x1_rr), .second, .val (.long x2_rr), .second, .val (.ref b3), .val (.int x10_rr), .val (.int x11_rr), .val (.int x15_rr), .val (.int x16_rr), .val (.int x20_rr), .val (.int (0 : Int32)), .val (.int (1 : Int32))] [(.int x10_rr)]))
          have hc111 : x10_rr = (0 : Int32) := own_eq32 (by omega)
          have hi111 : (x10_rr).toInt = ((0 : Int32)).toInt := Int32.toInt_inj.symm.mp hc111
          refine Go.st (fun _ k => XS.ifNo X20.here hx rfl (hb hby at_111) rfl (Jvm.Free.XT.i0_ne_f hc111) k) ?_
          show Go p.tables e below _ (T20.setTop (mkF m 114 #[.val (.long qx), .second, .val (.long qy), .second, .val (.int ps), .val (.long x1_rr), .second, .val (.long x2_rr), .second, .val (.ref b3), .val (.int x10_rr), .val (.int x11_rr), .val (.int x15_rr), .val (.int x16_rr), .val (.int x20_rr), .val (.int (0 : Int32)), .val (.int (1 : Int32))] []))
          refine Go.st (fun _ k => XS.iload X20.here hx rfl (hb hby at_114) rfl k) ?_
          show Go p.tables e below _ (T20.setTop (mkF m 116 #[.val (.long qx), .second, .val (.long qy), .second, .val (.int ps), .val (.long x1_rr), .second, .val (.long x2_rr), .second, .val (.ref b3), .val (.int x10_rr), .val (.int x11_rr), .val (.int x15_rr), .val (.int x16_rr), .val (.int x20_rr), .val (.int (0 : Int32)), .val (.int (1 : Int32))] [(.int x15_rr)]))
          refine Go.st (fun _ k => XS.iload X20.here hx rfl (hb hby at_116) rfl k) ?_
          show Go p.tables e below _ (T20.setTop (mkF m 118 #[.val (.long qx), .second, .val (.long qy), .second, .val (.int ps), .val (.long x1_rr), .second, .val (.long x2_rr), .second, .val (.ref b3), .val (.int x10_rr), .val (.int x11_rr), .val (.int x15_rr), .val (.int x16_rr), .val (.int x20_rr), .val (.int (0 : Int32)), .val (.int (1 : Int32))] [(.int (0 : Int32)), (.int x15_rr)]))
          have hc118 : x15_rr = (0 : Int32) := own_eq32 (by omega)
          have hi118 : (x15_rr).toInt = ((0 : Int32)).toInt := Int32.toInt_inj.symm.mp hc118
          refine Go.st (fun _ k => XS.icmpNo X20.here hx rfl (hb hby at_118) rfl (Jvm.Free.XT.ii_ne_f hc118) k) ?_
          show Go p.tables e below _ (T20.setTop (mkF m 121 #[.val (.long qx), .second, .val (.long qy), .second, .val (.int ps), .val (.long x1_rr), .second, .val (.long x2_rr), .second, .val (.ref b3), .val (.int x10_rr), .val (.int x11_rr), .val (.int x15_rr), .val (.int x16_rr), .val (.int x20_rr), .val (.int (0 : Int32)), .val (.int (1 : Int32))] []))
          refine Go.st (fun _ k => XS.iload X20.here hx rfl (hb hby at_121) rfl k) ?_
          show Go p.tables e below _ (T20.setTop (mkF m 123 #[.val (.long qx), .second, .val (.long qy), .second, .val (.int ps), .val (.long x1_rr), .second, .val (.long x2_rr), .second, .val (.ref b3), .val (.int x10_rr), .val (.int x11_rr), .val (.int x15_rr), .val (.int x16_rr), .val (.int x20_rr), .val (.int (0 : Int32)), .val (.int (1 : Int32))] [(.int x20_rr)]))
          refine Go.st (fun _ k => XS.iload X20.here hx rfl (hb hby at_123) rfl k) ?_
          show Go p.tables e below _ (T20.setTop (mkF m 125 #[.val (.long qx), .second, .val (.long qy), .second, .val (.int ps), .val (.long x1_rr), .second, .val (.long x2_rr), .second, .val (.ref b3), .val (.int x10_rr), .val (.int x11_rr), .val (.int x15_rr), .val (.int x16_rr), .val (.int x20_rr), .val (.int (0 : Int32)), .val (.int (1 : Int32))] [(.int (1 : Int32)), (.int x20_rr)]))
          have lt_132 : (1 : Int32).toInt = 1 := by decide
          have hc125 : x20_rr = (1 : Int32) := own_eq32 (by omega)
          have hi125 : (x20_rr).toInt = ((1 : Int32)).toInt := Int32.toInt_inj.symm.mp hc125
          refine Go.st (fun _ k => XS.icmpNo X20.here hx rfl (hb hby at_125) rfl (Jvm.Free.XT.ii_ne_f hc125) k) ?_
          show Go p.tables e below _ (T20.setTop (mkF m 128 #[.val (.long qx), .second, .val (.long qy), .second, .val (.int ps), .val (.long x1_rr), .second, .val (.long x2_rr), .second, .val (.ref b3), .val (.int x10_rr), .val (.int x11_rr), .val (.int x15_rr), .val (.int x16_rr), .val (.int x20_rr), .val (.int (0 : Int32)), .val (.int (1 : Int32))] []))
          refine Go.st (fun _ k => XS.iconst X20.here hx rfl (hb hby at_128) k) ?_
          show Go p.tables e below _ (T20.setTop (mkF m 129 #[.val (.long qx), .second, .val (.long qy), .second, .val (.int ps), .val (.long x1_rr), .second, .val (.long x2_rr), .second, .val (.ref b3), .val (.int x10_rr), .val (.int x11_rr), .val (.int x15_rr), .val (.int x16_rr), .val (.int x20_rr), .val (.int (0 : Int32)), .val (.int (1 : Int32))] [(.int (1 : Int32))]))
          refine Go.st (fun _ k => XS.goto X20.here hx rfl (pc0 := 129) (pc' := 133) rfl (hb hby at_129) (by decide) (by decide) k) ?_
          show Go p.tables e below _ (T20.setTop (mkF m 133 #[.val (.long qx), .second, .val (.long qy), .second, .val (.int ps), .val (.long x1_rr), .second, .val (.long x2_rr), .second, .val (.ref b3), .val (.int x10_rr), .val (.int x11_rr), .val (.int x15_rr), .val (.int x16_rr), .val (.int x20_rr), .val (.int (0 : Int32)), .val (.int (1 : Int32))] [(.int (1 : Int32))]))
          subst hG
          obtain ⟨fs, hr, hrun, hended, hW, hsame⟩ := X20.leave (v := some (.int (nar .boolean (1 : Int32)))) (fun h => by rw [Bd.returns] at h; cases h)
          refine ⟨_, _, ?_, hrun, hended, _, _, rfl, ?_, ⟨_, rfl⟩, hW, hsame.mono (by decide) (by decide)⟩
          · exact retN X20 hx (t := .boolean) Bd.returns (by simp) (hb hby at_133) hr
          · show Q_law Z qx qy ps h0 n0 _ T20.heap _
            rw [e20]
            exact ⟨rfl, N20, K18⟩
        · skip
          have hi99 : ¬ (((0 : Int64)).toInt < (x2_rr).toInt) := fun z => hc99 (Int64.lt_iff_toInt_lt.mpr z)
          refine Go.st (fun _ k => XS.ifYes X20.here hx rfl (pc0 := 99) (pc' := 106) rfl (hb hby at_99) rfl (Jvm.Free.XT.ll_le_t hc99) (by decide) (by decide) k) ?_
          show Go p.tables e below _ (T20.setTop (mkF m 106 #[.val (.long qx), .second, .val (.long qy), .second, .val (.int ps), .val (.long x1_rr), .second, .val (.long x2_rr), .second, .val (.ref b3), .val (.int x10_rr), .val (.int x11_rr), .val (.int x15_rr), .val (.int x16_rr), .val (.int x20_rr), .val (.int (0 : Int32)), .unset] []))
          refine Go.st (fun _ k => XS.iconst X20.here hx rfl (hb hby at_106) k) ?_
          show Go p.tables e below _ (T20.setTop (mkF m 107 #[.val (.long qx), .second, .val (.long qy), .second, .val (.int ps), .val (.long x1_rr), .second, .val (.long x2_rr), .second, .val (.ref b3), .val (.int x10_rr), .val (.int x11_rr), .val (.int x15_rr), .val (.int x16_rr), .val (.int x20_rr), .val (.int (0 : Int32)), .unset] [(.int (0 : Int32))]))
          refine Go.st (fun _ k => XS.istore X20.here hx rfl (hb hby at_107) rfl (l' := #[.val (.long qx), .second, .val (.long qy), .second, .val (.int ps), .val (.long x1_rr), .second, .val (.long x2_rr), .second, .val (.ref b3), .val (.int x10_rr), .val (.int x11_rr), .val (.int x15_rr), .val (.int x16_rr), .val (.int x20_rr), .val (.int (0 : Int32)), .val (.int (0 : Int32))]) rfl k) ?_
          show Go p.tables e below _ (T20.setTop (mkF m 109 #[.val (.long qx), .second, .val (.long qy), .second, .val (.int ps), .val (.long x1_rr), .second, .val (.long x2_rr), .second, .val (.ref b3), .val (.int x10_rr), .val (.int x11_rr), .val (.int x15_rr), .val (.int x16_rr), .val (.int x20_rr), .val (.int (0 : Int32)), .val (.int (0 : Int32))] []))
          show Go p.tables e below _ (T20.setTop (mkF m 109 #[.val (.long qx), .second, .val (.long qy), .second, .val (.int ps), .val (.long x1_rr), .second, .val (.long x2_rr), .second, .val (.ref b3), .val (.int x10_rr), .val (.int x11_rr), .val (.int x15_rr), .val (.int x16_rr), .val (.int x20_rr), .val (.int (0 : Int32)), .val (.int (0 : Int32))] []))
          refine Go.st (fun _ k => XS.iload X20.here hx rfl (hb hby at_109) rfl k) ?_
          show Go p.tables e below _ (T20.setTop (mkF m 111 #[.val (.long qx), .second, .val (.long qy), .second, .val (.int ps), .val (.long x1_rr), .second, .val (.long x2_rr), .second, .val (.ref b3), .val (.int x10_rr), .val (.int x11_rr), .val (.int x15_rr), .val (.int x16_rr), .val (.int x20_rr), .val (.int (0 : Int32)), .val (.int (0 : Int32))] [(.int x10_rr)]))
          have hc111 : x10_rr = (0 : Int32) := own_eq32 (by omega)
          have hi111 : (x10_rr).toInt = ((0 : Int32)).toInt := Int32.toInt_inj.symm.mp hc111
          refine Go.st (fun _ k => XS.ifNo X20.here hx rfl (hb hby at_111) rfl (Jvm.Free.XT.i0_ne_f hc111) k) ?_
          show Go p.tables e below _ (T20.setTop (mkF m 114 #[.val (.long qx), .second, .val (.long qy), .second, .val (.int ps), .val (.long x1_rr), .second, .val (.long x2_rr), .second, .val (.ref b3), .val (.int x10_rr), .val (.int x11_rr), .val (.int x15_rr), .val (.int x16_rr), .val (.int x20_rr), .val (.int (0 : Int32)), .val (.int (0 : Int32))] []))
          refine Go.st (fun _ k => XS.iload X20.here hx rfl (hb hby at_114) rfl k) ?_
          show Go p.tables e below _ (T20.setTop (mkF m 116 #[.val (.long qx), .second, .val (.long qy), .second, .val (.int ps), .val (.long x1_rr), .second, .val (.long x2_rr), .second, .val (.ref b3), .val (.int x10_rr), .val (.int x11_rr), .val (.int x15_rr), .val (.int x16_rr), .val (.int x20_rr), .val (.int (0 : Int32)), .val (.int (0 : Int32))] [(.int x15_rr)]))
          refine Go.st (fun _ k => XS.iload X20.here hx rfl (hb hby at_116) rfl k) ?_
          show Go p.tables e below _ (T20.setTop (mkF m 118 #[.val (.long qx), .second, .val (.long qy), .second, .val (.int ps), .val (.long x1_rr), .second, .val (.long x2_rr), .second, .val (.ref b3), .val (.int x10_rr), .val (.int x11_rr), .val (.int x15_rr), .val (.int x16_rr), .val (.int x20_rr), .val (.int (0 : Int32)), .val (.int (0 : Int32))] [(.int (0 : Int32)), (.int x15_rr)]))
          have hc118 : x15_rr = (0 : Int32) := own_eq32 (by omega)
          have hi118 : (x15_rr).toInt = ((0 : Int32)).toInt := Int32.toInt_inj.symm.mp hc118
          refine Go.st (fun _ k => XS.icmpNo X20.here hx rfl (hb hby at_118) rfl (Jvm.Free.XT.ii_ne_f hc118) k) ?_
          show Go p.tables e below _ (T20.setTop (mkF m 121 #[.val (.long qx), .second, .val (.long qy), .second, .val (.int ps), .val (.long x1_rr), .second, .val (.long x2_rr), .second, .val (.ref b3), .val (.int x10_rr), .val (.int x11_rr), .val (.int x15_rr), .val (.int x16_rr), .val (.int x20_rr), .val (.int (0 : Int32)), .val (.int (0 : Int32))] []))
          refine Go.st (fun _ k => XS.iload X20.here hx rfl (hb hby at_121) rfl k) ?_
          show Go p.tables e below _ (T20.setTop (mkF m 123 #[.val (.long qx), .second, .val (.long qy), .second, .val (.int ps), .val (.long x1_rr), .second, .val (.long x2_rr), .second, .val (.ref b3), .val (.int x10_rr), .val (.int x11_rr), .val (.int x15_rr), .val (.int x16_rr), .val (.int x20_rr), .val (.int (0 : Int32)), .val (.int (0 : Int32))] [(.int x20_rr)]))
          refine Go.st (fun _ k => XS.iload X20.here hx rfl (hb hby at_123) rfl k) ?_
          show Go p.tables e below _ (T20.setTop (mkF m 125 #[.val (.long qx), .second, .val (.long qy), .second, .val (.int ps), .val (.long x1_rr), .second, .val (.long x2_rr), .second, .val (.ref b3), .val (.int x10_rr), .val (.int x11_rr), .val (.int x15_rr), .val (.int x16_rr), .val (.int x20_rr), .val (.int (0 : Int32)), .val (.int (0 : Int32))] [(.int (0 : Int32)), (.int x20_rr)]))
          have hc125 : x20_rr = (0 : Int32) := own_eq32 (by omega)
          have hi125 : (x20_rr).toInt = ((0 : Int32)).toInt := Int32.toInt_inj.symm.mp hc125
          refine Go.st (fun _ k => XS.icmpNo X20.here hx rfl (hb hby at_125) rfl (Jvm.Free.XT.ii_ne_f hc125) k) ?_
          show Go p.tables e below _ (T20.setTop (mkF m 128 #[.val (.long qx), .second, .val (.long qy), .second, .val (.int ps), .val (.long x1_rr), .second, .val (.long x2_rr), .second, .val (.ref b3), .val (.int x10_rr), .val (.int x11_rr), .val (.int x15_rr), .val (.int x16_rr), .val (.int x20_rr), .val (.int (0 : Int32)), .val (.int (0 : Int32))] []))
          refine Go.st (fun _ k => XS.iconst X20.here hx rfl (hb hby at_128) k) ?_
          show Go p.tables e below _ (T20.setTop (mkF m 129 #[.val (.long qx), .second, .val (.long qy), .second, .val (.int ps), .val (.long x1_rr), .second, .val (.long x2_rr), .second, .val (.ref b3), .val (.int x10_rr), .val (.int x11_rr), .val (.int x15_rr), .val (.int x16_rr), .val (.int x20_rr), .val (.int (0 : Int32)), .val (.int (0 : Int32))] [(.int (1 : Int32))]))
          refine Go.st (fun _ k => XS.goto X20.here hx rfl (pc0 := 129) (pc' := 133) rfl (hb hby at_129) (by decide) (by decide) k) ?_
          show Go p.tables e below _ (T20.setTop (mkF m 133 #[.val (.long qx), .second, .val (.long qy), .second, .val (.int ps), .val (.long x1_rr), .second, .val (.long x2_rr), .second, .val (.ref b3), .val (.int x10_rr), .val (.int x11_rr), .val (.int x15_rr), .val (.int x16_rr), .val (.int x20_rr), .val (.int (0 : Int32)), .val (.int (0 : Int32))] [(.int (1 : Int32))]))
          subst hG
          obtain ⟨fs, hr, hrun, hended, hW, hsame⟩ := X20.leave (v := some (.int (nar .boolean (1 : Int32)))) (fun h => by rw [Bd.returns] at h; cases h)
          refine ⟨_, _, ?_, hrun, hended, _, _, rfl, ?_, ⟨_, rfl⟩, hW, hsame.mono (by decide) (by decide)⟩
          · exact retN X20 hx (t := .boolean) Bd.returns (by simp) (hb hby at_133) hr
          · show Q_law Z qx qy ps h0 n0 _ T20.heap _
            rw [e20]
            exact ⟨rfl, N20, K18⟩
set_option maxRecDepth 65536 in
set_option maxHeartbeats 40000000 in
theorem comes_1 {Post : Tables → Env → Array Value → State → Outcome → State → Prop} (hpost : ∀ tb e args s v u, (limb_1_1.after args s (.returned v) u = true ∧ limb_1_2.after args s (.returned v) u = true ∧ True) → FrameEnd s (.returned v) u (Jvm.fieldLocs frame_1_writes args s ++ Jvm.arrayLocs frame_1_arrays args s ++ Jvm.staticLocs frame_1_statics s) 16 128 → Post tb e args s (.returned v) u) :
    ArmFor flags0 classFile x code maxLocals ret World_1 tables_1 room_1 Calls_1 rest_1 Pre_1 Post := by
  intro l hfl _ _ p e ha hc hk s m args below hf hA hF happ hP
  obtain ⟨hcalls, hrest, hpre⟩ := hP
  obtain ⟨-, -, -, hnamed, -, -, -, hat⟩ := (Spec.applies_iff hf).mp happ
  obtain ⟨hg, hn⟩ := and_e (Cond.before_iff.mp (show (Jvm.Cond.and given_1 narrow_1).before args s = true from hpre))
  obtain ⟨hcount, hg0⟩ := and_e hg
  obtain ⟨hv0, hg1⟩ := and_e hg0
  obtain ⟨hv1, hg2⟩ := and_e hg1
  obtain ⟨w0, w1, w2, rfl⟩ : ∃ w0 w1 w2 : Value, args = #[w0, w1, w2] := by
    have hs : args.size = 3 := by simpa [Cond.value, given_1] using hcount
    obtain ⟨L⟩ := args
    match L, hs with
    | [w0, w1, w2], _ => exact ⟨w0, w1, w2, rfl⟩
  have hw := fun d (hd : d ∈ tables_1) => atoms_spec (ws := Jvm.Cond.code x code maxLocals ret :: tables_1) hat d (List.mem_cons_of_mem _ hd)
  have hfit : Fit s := fun {y c} hc i hi => by
    obtain ⟨ha, rfl⟩ := Array.getElem?_eq_some_iff.mp hc
    have q := List.all_eq_true.mp ((Array.all_eq_true_iff_forall_mem.mp hF) _ (Array.getElem_mem ha)) i (List.mem_range.mpr hi)
    simpa [Array.getElem?_eq_getElem hi] using q
  obtain ⟨i0, ei0⟩ := isL_v hv0
  obtain rfl : w0 = (.long i0) := Option.some.inj ei0
  obtain ⟨i1, ei1⟩ := isL_v hv1
  obtain rfl : w1 = (.long i1) := Option.some.inj ei1
  obtain ⟨i2, ei2⟩ := is_v hg2
  obtain rfl : w2 = (.int i2) := Option.some.inj ei2
  obtain ⟨n, o, h1, h2, h3, _, L, rfl, ⟨rfl, N, -⟩, hq⟩ := rm_law l s _ hw tables_1 i0 i1 i2 s.heap s.heap.size (Nat.le_refl _)  p e ha hc hk s m _ below hf ((Spec.applies_iff_loose hf).mp happ).1 ⟨rfl, State.Warmed39.refl s, rfl⟩ trivial
  refine ⟨n, _, h1, h2, h3, hpost _ _ _ _ _ _ ⟨Cond.after_iff.mpr rfl, Cond.after_iff.mpr (eq_i res_at (Term.int_eval (1)) rfl), trivial⟩ ⟨hq.1, hq.2.1, (hq.2.2.sift fun y hy => Or.inr (N y hy)).mono (by decide) (by decide)⟩⟩
theorem main_1_1 : Claimed_1_1 := comes_1 fun _ _ _ _ _ _ h hF => ⟨h.1, hF⟩
theorem main_1_2 : Claimed_1_2 := comes_1 fun _ _ _ _ _ _ h hF => ⟨h.2.1, hF⟩
end Jvm.Pilot.@@N@@
namespace Jvm.Pilot.@@N@@
open Jvm Jvm.ClassFile Sem Op Lib Jvm.Free Jvm.Stand Jvm.Pilot.@@N@@.Jvm.D
/-! MADE BY PROGRAM (witnessworld.py) out of the Statement's table words and the real class files: 9 classes; the members and pool entries that the words name. The judged class is class 1, her method 2. -/
namespace start1
open Jvm.ClassFile
def u (s : String) : CpInfo := .utf8 (stringToUtf16 s)
/-- a pool by its gaps: so many unusable entries, then the entry; so many at the end -/
def gap : Nat → List CpInfo → List CpInfo
  | 0, r => r
  | n + 1, r => .unusable :: gap n r
def poolList (es : List (Nat × CpInfo)) (last : Nat) : List CpInfo := es.foldr (fun e r => gap e.1 (e.2 :: r)) (gap last [])
def pool (es : List (Nat × CpInfo)) (last : Nat) : Array CpInfo := ⟨poolList es last⟩
def fileOf (pool : Array CpInfo) (this : Nat) (attrs : Array Attribute := #[]) (ms : Array MethodInfo := #[]) (fl : Nat := 33) (sup : Nat := 0) (ifs : Array Nat := #[]) (fds : Array FieldInfo := #[]) : ClassFile where
  minorVersion := 0
  majorVersion := 65
  constantPool := pool
  accessFlags := fl
  thisClass := this
  superClass := sup
  interfaces := ifs
  fields := fds
  methods := ms
  attributes := attrs
def plain (name : String) (sup : Option ClassId) : Class where
  name := name
  kind := .ordinary
  loader := none
  accessFlags := 33
  super := sup
  interfaces := #[]
  cf := none
  fields := #[]
  methods := #[]
  instanceTypes := #[]
  staticTypes := #[]
  resolved := #[]
  callSites := []
  init := .initialized
  statics := none
  mirror := none

def pool0 : Array CpInfo := pool [(5, u "<init>"), (0, u "()V"), (1, .class_ 10), (1, u "java/lang/Object")] 113

def k0c0 : Code := { maxStack := 0, maxLocals := 1, code := object_method_1_code, exceptionTable := #[], attributes := #[] }
def k0m0 : Method := { name := "<init>", desc := "()V", sig := { parameters := [], returnType := none }, accessFlags := 1, code := some k0c0 }
/-- java/lang/Object -/
def k0 : Class := { plain "java/lang/Object" none with
  accessFlags := 33
  interfaces := #[]
  cf := some (fileOf pool0 8 #[] #[{ accessFlags := 1, nameIndex := 5, descriptorIndex := 6, attributes := #[] }] 33 0 #[] #[])
  fields := #[]
  methods := #[k0m0]
  instanceTypes := #[]
  staticTypes := #[]
  resolved := Array.replicate 124 none
  statics := none }

def pool1 : Array CpInfo := pool [(2, .class_ 4), (0, .nameAndType 5 6), (0, u "java/lang/Object"), (0, u "<init>"), (0, u "()V"), (0, .long 3), (1, .long 33554431), (3, .long 9223372036854775807), (1, .class_ 16), (0, u "com/example/clotho/clotho/jsonpath/Budget"), (0, .long 10000000), (1, .methodref 20 21), (0, .class_ 22), (0, .nameAndType 23 24), (0, u "com/example/clotho/clotho/jsonpath/BudgetIsTouchedPinLaw"), (0, u "count"), (0, u "(JI)J"), (0, .methodref 15 3), (0, .methodref 15 27), (0, .nameAndType 28 29), (0, u "isTouched"), (0, u "()Z"), (0, .methodref 15 31), (0, .nameAndType 32 33), (0, u "take"), (0, u "(J)Z"), (3, u "law"), (0, u "(JJI)Z")] 2

def k1m0 : Method := { name := "<init>", desc := "()V", sig := { parameters := [], returnType := none }, accessFlags := 1, code := none }
def k1c1 : Code := { maxStack := 6, maxLocals := 4, code := method_2_code, exceptionTable := #[], attributes := #[] }
def k1m1 : Method := { name := "count", desc := "(JI)J", sig := { parameters := [.long, .int], returnType := some .long }, accessFlags := 10, code := some k1c1 }
def k1c2 : Code := { maxStack := 4, maxLocals := 17, code := code, exceptionTable := #[], attributes := #[] }
def k1m2 : Method := { name := "law", desc := "(JJI)Z", sig := { parameters := [.long, .long, .int], returnType := some .boolean }, accessFlags := 9, code := some k1c2 }
/-- com/example/clotho/clotho/jsonpath/BudgetIsTouchedPinLaw -/
def k1 : Class := { plain "com/example/clotho/clotho/jsonpath/BudgetIsTouchedPinLaw" (some 0) with
  accessFlags := 49
  interfaces := #[]
  cf := some (fileOf pool1 20 #[] #[{ accessFlags := 1, nameIndex := 5, descriptorIndex := 6, attributes := #[] }, { accessFlags := 10, nameIndex := 23, descriptorIndex := 24, attributes := #[] }, { accessFlags := 9, nameIndex := 37, descriptorIndex := 38, attributes := #[] }] 49 2 #[] #[])
  fields := #[]
  methods := #[k1m0, k1m1, k1m2]
  instanceTypes := #[]
  staticTypes := #[]
  resolved := Array.replicate 41 none
  statics := none }

def pool2 : Array CpInfo := pool [(1, .methodref 2 3), (0, .class_ 4), (0, .nameAndType 5 6), (0, u "java/lang/Object"), (0, u "<init>"), (0, u "()V"), (0, .fieldref 8 9), (0, .class_ 10), (0, .nameAndType 11 12), (0, u "com/example/clotho/clotho/jsonpath/Budget"), (0, u "steps"), (0, u "J"), (0, .long 10000000), (1, u "MAX_STEPS"), (3, u "isTouched"), (0, u "()Z"), (1, u "take"), (0, u "(J)Z")] 2

def k2c0 : Code := { maxStack := 1, maxLocals := 1, code := prog_3_method_1_code, exceptionTable := #[], attributes := #[] }
def k2m0 : Method := { name := "<init>", desc := "()V", sig := { parameters := [], returnType := none }, accessFlags := 1, code := some k2c0 }
def k2c1 : Code := { maxStack := 4, maxLocals := 1, code := prog_3_method_2_code, exceptionTable := #[], attributes := #[] }
def k2m1 : Method := { name := "isTouched", desc := "()Z", sig := { parameters := [], returnType := some .boolean }, accessFlags := 0, code := some k2c1 }
def k2c2 : Code := { maxStack := 6, maxLocals := 4, code := prog_3_method_3_code, exceptionTable := #[], attributes := #[] }
def k2m2 : Method := { name := "take", desc := "(J)Z", sig := { parameters := [.long], returnType := some .boolean }, accessFlags := 0, code := some k2c2 }
/-- com/example/clotho/clotho/jsonpath/Budget -/
def k2 : Class := { plain "com/example/clotho/clotho/jsonpath/Budget" (some 0) with
  accessFlags := 33
  interfaces := #[]
  cf := some (fileOf pool2 8 #[] #[{ accessFlags := 1, nameIndex := 5, descriptorIndex := 6, attributes := #[] }, { accessFlags := 0, nameIndex := 19, descriptorIndex := 20, attributes := #[] }, { accessFlags := 0, nameIndex := 22, descriptorIndex := 23, attributes := #[] }] 33 2 #[] #[{ accessFlags := 24, nameIndex := 15, descriptorIndex := 12, attributes := #[] }, { accessFlags := 2, nameIndex := 11, descriptorIndex := 12, attributes := #[] }])
  fields := #[{ name := "MAX_STEPS", type := .long, accessFlags := 24, slot := 0, constantValue := 0 }, { name := "steps", type := .long, accessFlags := 2, slot := 0, constantValue := 0 }]
  methods := #[k2m0, k2m1, k2m2]
  instanceTypes := #[.long]
  staticTypes := #[.long]
  resolved := Array.replicate 26 none
  statics := none }

def pool3 : Array CpInfo := pool [(1, u "java/lang/Cloneable"), (0, .class_ 1), (0, u "java/lang/Object"), (0, .class_ 3)] 3

/-- java/lang/Cloneable -/
def k3 : Class := { plain "java/lang/Cloneable" (some 0) with
  accessFlags := 1537
  interfaces := #[]
  cf := some (fileOf pool3 2 #[] #[] 1537 4 #[] #[])
  fields := #[]
  methods := #[]
  instanceTypes := #[]
  staticTypes := #[]
  resolved := Array.replicate 8 none
  statics := none }

def pool4 : Array CpInfo := pool [(1, u "java/io/Serializable"), (0, .class_ 1), (0, u "java/lang/Object"), (0, .class_ 3)] 3

/-- java/io/Serializable -/
def k4 : Class := { plain "java/io/Serializable" (some 0) with
  accessFlags := 1537
  interfaces := #[]
  cf := some (fileOf pool4 2 #[] #[] 1537 4 #[] #[])
  fields := #[]
  methods := #[]
  instanceTypes := #[]
  staticTypes := #[]
  resolved := Array.replicate 8 none
  statics := none }

/-- the primitive byte -/
def k5 : Class := { plain "byte" none with kind := .primitive 'B', accessFlags := 0x411 }
/-- [B -/
def k6 : Class := { plain "[B" (some 0) with kind := .array 5 .byte, interfaces := #[3, 4], accessFlags := 1041 }

/-- the primitive int -/
def k7 : Class := { plain "int" none with kind := .primitive 'I', accessFlags := 0x411 }
/-- [I -/
def k8 : Class := { plain "[I" (some 0) with kind := .array 7 .int, interfaces := #[3, 4], accessFlags := 1041 }

def heap : Heap := #[]
def classes : Array Class := #[k0, k1, k2, k3, k4, k5, k6, k7, k8]
def interned : List (Array UInt16 × Addr) := []
def slotsUsed : Nat := 0
def theMethod : MethodId := ⟨1, 2⟩
def args0 : Array Value := #[.long 5, .long 7, .int 3]
def aboutOver (below : List Frame) : State where
  vm := { classes := classes, interned := interned.toArray }
  heap := heap
  slotsUsed := slotsUsed
  threads := #[{ frames := .invoking theMethod args0 :: below }]
def below0 : List Frame := [.native { method := ⟨0, 0⟩, args := #[] }]
def about1 : State := aboutOver below0
def p0 : Program := .bare "" "" ""
def e0 : Env := launch0.env 0 0 0
theorem w_frames : about1.frames = Frame.invoking theMethod args0 :: below0 := rfl
set_option maxRecDepth 65536 in
theorem w_args : argsFit about1.vm theMethod args0 = true := by decide +kernel
set_option maxRecDepth 65536 in
theorem w_heap : heapFits about1 = true := by decide +kernel
set_option maxRecDepth 65536 in
theorem w_runnable : about1.curStatus? = some .runnable := by decide +kernel
set_option maxRecDepth 65536 in
theorem w_alone : about1.alone = true := by decide +kernel
set_option maxRecDepth 65536 in
theorem w_named : about1.methodNamed? x = some theMethod := by decide +kernel
set_option maxRecDepth 65536 in
theorem w_hears : about1.hears theMethod below0 = true := by decide +kernel
set_option maxRecDepth 65536 in
theorem w_ripe : about1.ripe theMethod args0 below0 = true := by decide +kernel
theorem w_running : about1.status = .running := rfl
set_option maxRecDepth 65536 in
theorem w_room : about1.hasRoom e0.platform room_1 = true :=
  launch0.hasRoom_least _ room_1 (by decide +kernel) (by decide +kernel) (by decide +kernel) (by decide +kernel) (by decide +kernel) (by decide +kernel)
theorem allAtoms_all (ts : List Jvm.Cond) (a : Array Jvm.Value) (st : Jvm.State) : (allAtoms ts).before a st = ts.all (fun c => c.before a st) := by
  induction ts with
  | nil => rfl
  | cons c t ih =>
    show (Jvm.Cond.and c (allAtoms t)).before a st = _
    rw [Jvm.Cond.before_and, ih, List.all_cons]
def words1 : List Jvm.Cond := Jvm.Cond.code x code maxLocals ret :: tables_1
/-- a 'code' word, met by the world's own term for the bytes: nothing is compared byte by byte -/
theorem code_word {y : MethodName} {bytes : ByteArray} {mx : Nat} {rt : Option FieldType} {a : Array Value} {s : State} {m : MethodId} {meth : Method} {c : Code} (h1 : s.methodNamed? y = some m) (h2 : s.vm.method? m = some meth) (h3 : meth.code = some c) (h4 : c.code = bytes)
    (h5 : (c.maxLocals == mx && c.exceptionTable.isEmpty && decide (c.maxStack ≤ mostOperands) && decide (meth.sig.returnType = rt) && !meth.locks && decide (parseMethodDescriptor y.desc = some meth.sig)) = true) : (Jvm.Cond.code y bytes mx rt).before a s = true := by
  simp only [Bool.and_eq_true, beq_iff_eq, Bool.not_eq_true', decide_eq_true_eq] at h5
  obtain ⟨⟨⟨⟨⟨g1, g2⟩, g3⟩, g4⟩, g5⟩, g6⟩ := h5
  simp [Cond.before, Cond.holds, Cond.value, h1, h2, h3, h4, g1, g2, g3, g4, g5, g6]
def isCode : Jvm.Cond → Bool
  | .code _ _ _ _ => true
  | _ => false
theorem all_split {L : List Jvm.Cond} {P : Jvm.Cond → Bool} (h1 : L.all (fun c => isCode c || P c) = true) (h2 : ∀ c ∈ L.filter isCode, P c = true) : L.all P = true := by
  refine List.all_eq_true.mpr fun c hc => ?_
  have h := List.all_eq_true.mp h1 c hc
  rcases Bool.eq_false_or_eq_true (isCode c) with hi | hi
  · exact h2 c (List.mem_filter.mpr ⟨hc, hi⟩)
  · simpa [hi] using h
set_option maxRecDepth 65536 in
theorem w_c0 : (Jvm.Cond.code x code maxLocals ret).before args0 about1 = true := code_word (m := ⟨1, 2⟩) (meth := k1m2) (c := k1c2) (by decide +kernel) rfl rfl rfl (by decide +kernel)
set_option maxRecDepth 65536 in
theorem w_c1 : (Jvm.Cond.code ({ cls := "com/example/clotho/clotho/jsonpath/BudgetIsTouchedPinLaw", name := "count", desc := "(JI)J" } : Jvm.MethodName) method_2_code (4 : Nat) (Option.some Jvm.ClassFile.FieldType.long)).before args0 about1 = true := code_word (m := ⟨1, 1⟩) (meth := k1m1) (c := k1c1) (by decide +kernel) rfl rfl rfl (by decide +kernel)
set_option maxRecDepth 65536 in
theorem w_c2 : (Jvm.Cond.code ({ cls := "com/example/clotho/clotho/jsonpath/Budget", name := "<init>", desc := "()V" } : Jvm.MethodName) prog_3_method_1_code (1 : Nat) (Option.none : Option Jvm.ClassFile.FieldType)).before args0 about1 = true := code_word (m := ⟨2, 0⟩) (meth := k2m0) (c := k2c0) (by decide +kernel) rfl rfl rfl (by decide +kernel)
set_option maxRecDepth 65536 in
theorem w_c3 : (Jvm.Cond.code ({ cls := "java/lang/Object", name := "<init>", desc := "()V" } : Jvm.MethodName) object_method_1_code (1 : Nat) (Option.none : Option Jvm.ClassFile.FieldType)).before args0 about1 = true := code_word (m := ⟨0, 0⟩) (meth := k0m0) (c := k0c0) (by decide +kernel) rfl rfl rfl (by decide +kernel)
set_option maxRecDepth 65536 in
theorem w_c4 : (Jvm.Cond.code ({ cls := "com/example/clotho/clotho/jsonpath/Budget", name := "isTouched", desc := "()Z" } : Jvm.MethodName) prog_3_method_2_code (1 : Nat) (Option.some Jvm.ClassFile.FieldType.boolean)).before args0 about1 = true := code_word (m := ⟨2, 1⟩) (meth := k2m1) (c := k2c1) (by decide +kernel) rfl rfl rfl (by decide +kernel)
set_option maxRecDepth 65536 in
theorem w_c5 : (Jvm.Cond.code ({ cls := "com/example/clotho/clotho/jsonpath/Budget", name := "take", desc := "(J)Z" } : Jvm.MethodName) prog_3_method_3_code (4 : Nat) (Option.some Jvm.ClassFile.FieldType.boolean)).before args0 about1 = true := code_word (m := ⟨2, 2⟩) (meth := k2m2) (c := k2c2) (by decide +kernel) rfl rfl rfl (by decide +kernel)
def codes1 : List Jvm.Cond := [Jvm.Cond.code x code maxLocals ret, Jvm.Cond.code ({ cls := "com/example/clotho/clotho/jsonpath/BudgetIsTouchedPinLaw", name := "count", desc := "(JI)J" } : Jvm.MethodName) method_2_code (4 : Nat) (Option.some Jvm.ClassFile.FieldType.long), Jvm.Cond.code ({ cls := "com/example/clotho/clotho/jsonpath/Budget", name := "<init>", desc := "()V" } : Jvm.MethodName) prog_3_method_1_code (1 : Nat) (Option.none : Option Jvm.ClassFile.FieldType), Jvm.Cond.code ({ cls := "java/lang/Object", name := "<init>", desc := "()V" } : Jvm.MethodName) object_method_1_code (1 : Nat) (Option.none : Option Jvm.ClassFile.FieldType), Jvm.Cond.code ({ cls := "com/example/clotho/clotho/jsonpath/Budget", name := "isTouched", desc := "()Z" } : Jvm.MethodName) prog_3_method_2_code (1 : Nat) (Option.some Jvm.ClassFile.FieldType.boolean), Jvm.Cond.code ({ cls := "com/example/clotho/clotho/jsonpath/Budget", name := "take", desc := "(J)Z" } : Jvm.MethodName) prog_3_method_3_code (4 : Nat) (Option.some Jvm.ClassFile.FieldType.boolean)]
set_option maxRecDepth 65536 in
theorem codes_eq : words1.filter isCode = codes1 := rfl
theorem w_codes : ∀ c ∈ words1.filter isCode, c.before args0 about1 = true := by
  rw [codes_eq]
  intro c hc
  simp only [codes1, List.mem_cons, List.not_mem_nil, or_false] at hc
  rcases hc with rfl | rfl | rfl | rfl | rfl | rfl
  · exact w_c0
  · exact w_c1
  · exact w_c2
  · exact w_c3
  · exact w_c4
  · exact w_c5
set_option maxRecDepth 65536 in
theorem w_t1 : (words1.take 24).all (fun c => isCode c || c.before args0 about1) = true := by decide +kernel
set_option maxRecDepth 65536 in
theorem w_t2 : (words1.drop 24).all (fun c => isCode c || c.before args0 about1) = true := by decide +kernel
theorem w_tables : (allAtoms (Jvm.Cond.code x code maxLocals ret :: tables_1)).before args0 about1 = true := by
  rw [allAtoms_all]
  show words1.all (fun c => c.before args0 about1) = true
  refine all_split ?_ w_codes
  rw [← List.take_append_drop 24 words1, List.all_append, w_t1, w_t2]
  rfl
set_option maxRecDepth 65536 in
theorem w_case : (Jvm.Cond.and given_1 narrow_1).before args0 about1 = true := by decide +kernel
theorem w_applies : (headSpec (Jvm.Cond.code x code maxLocals ret :: tables_1) room_1).applies x e0.platform about1 = true :=
  (Spec.applies_iff w_frames).mpr ⟨w_running, w_runnable, w_alone, w_named, w_hears, w_ripe, w_room, w_tables⟩
theorem atStart : AtStart classFile x code maxLocals ret World_1 tables_1 room_1 Calls_1 rest_1 Pre_1 launch0 p0 e0 about1 theMethod args0 below0 :=
  ⟨lists_1, trivial, launch0.admits_env _ _ _, launch0.least_env, fairChoices_fair.cas, fairChoices_fair.clock, w_frames, w_args, w_heap, w_applies, trivial, trivial, w_case⟩
end start1
theorem witness_1 : WitnessClaimed_1 := ⟨start1.p0, start1.e0, start1.about1, start1.theMethod, start1.args0, start1.below0, start1.atStart⟩
end Jvm.Pilot.@@N@@
