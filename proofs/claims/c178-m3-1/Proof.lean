import JvmDerived
import JvmDerived.Pilot.@@N@@Statement
import JvmDerived.Pilot.@@N@@Code
set_option linter.unusedVariables false
set_option linter.unusedSimpArgs false
@@BLOCK:NumsL.lean.txt@@
namespace Jvm.RoadKit
open Sem ClassFile Op Lib Jvm.Stand Jvm.Free Jvm.LawKit
section New
variable {p : Program} {l : Launch} {e : Env} {R : Room} {s : State} {m : MethodId} {args : Array Value} {below : List Frame} {meth : Method} {c : Code} {T : State} {locs : List Loc} {cells slots : Nat}
theorem retI (X : Stand p l e R s m args below meth c T locs cells slots) (hx : p.tables.exec = Jvm.exec) {pc : Nat} {Ls : Array Slot} {z : Int32} {rest : List Value} (hret : meth.sig.returnType = some .int) (hd : decode c.code pc = .ok (.ireturn, 1)) {fs : List Frame}
    (hl : ∀ (f : JFrame) (acts : List Action), f.method = m → f.locked = none → f.entered = [] → (doReturn e (T.setTop f) acts (some (.int z))).1 = T.setFrames fs) : Steps p.tables e below (T.setTop (mkF m pc Ls (.int z :: rest))) (T.setFrames fs) := by
  have hm' : T.vm.method? m = some meth := X.method'
  have hn : narrow .int (.int z) = .int z := rfl
  show Steps p.tables e below (T.setTop { method := m, pc := pc, locals := Ls, stack := _ :: rest, locked := none }) _
  jvm_step X.here [X.here.top, hx, hd, hm', hret, hn]
  first | (intro acts; rw [hl _ acts rfl rfl rfl]) | rw [hl _ _ rfl rfl rfl]
  exact Steps.refl _
end New
end Jvm.RoadKit
namespace Jvm.Pilot.@@N@@
open Jvm Jvm.ClassFile Sem Op Lib Jvm.Free Jvm.Stand Jvm.LawKit Jvm.RoadKit Bundle Jvm.Pilot.@@N@@.Jvm.D
/-- from here the run comes to an end of which G holds -/
def Go (tb : Tables) (e : Env) (below : List Frame) (G : State → Outcome → Prop) (U : State) : Prop := ∃ t o, Steps tb e below U t ∧ G t o
theorem Go.st {tb : Tables} {e : Env} {below : List Frame} {G : State → Outcome → Prop} {U U' : State} (h : ∀ t, Steps tb e below U' t → Steps tb e below U t) (k : Go tb e below G U') : Go tb e below G U :=
  let ⟨t, o, a, b⟩ := k
  ⟨t, o, h t a, b⟩
theorem Go.start {tb : Tables} {e : Env} {below : List Frame} {G0 : State → Outcome → Prop} {U : State} (h : ∀ G, G = G0 → Go tb e below G U) : Go tb e below G0 U := h _ rfl
theorem Go.join {tb : Tables} {e : Env} {below : List Frame} {G : State → Outcome → Prop} {U : State} {α : Type} {F : α → State} (k : ∀ z, Go tb e below G (F z)) (h : (∀ z, Go tb e below G (F z)) → Go tb e below G U) : Go tb e below G U := h k
theorem Go.joinR {tb : Tables} {e : Env} {below : List Frame} {G : State → Outcome → Prop} {U : State} {α : Type} {F : α → State} {R : α → Prop} (k : ∀ z, R z → Go tb e below G (F z)) (h : (∀ z, R z → Go tb e below G (F z)) → Go tb e below G U) : Go tb e below G U := h k
theorem own_lrem {tb : Tables} {e : Env} {below : List Frame} {T target : State} {g : JFrame} {n : Nat} {x y : Int64} {rest : List Value} (k : Steps tb e below (T.setTop { g with pc := n, stack := .long (x % y) :: rest }) target) :
    Steps tb e below (T.setTop { g with pc := n, stack := .long (x - (x / y) * y) :: rest }) target := by
  rw [lrem_mod]
  exact k
theorem i64_addc (x y : Int64) : (x + y).toInt = x.toInt + y.toInt ∧ -2 ^ 63 ≤ x.toInt + y.toInt ∧ x.toInt + y.toInt < 2 ^ 63 ∨ (x + y).toInt = x.toInt + y.toInt - 2 ^ 64 ∧ 2 ^ 63 ≤ x.toInt + y.toInt ∨ (x + y).toInt = x.toInt + y.toInt + 2 ^ 64 ∧ x.toInt + y.toInt < -2 ^ 63 := by
  have h := Int64.toInt_add x y
  have a1 := Int64.le_toInt x
  have a2 := Int64.toInt_lt x
  have b1 := Int64.le_toInt y
  have b2 := Int64.toInt_lt y
  rw [Int.bmod_def] at h
  split at h <;> omega
theorem i64_subc (x y : Int64) : (x - y).toInt = x.toInt - y.toInt ∧ -2 ^ 63 ≤ x.toInt - y.toInt ∧ x.toInt - y.toInt < 2 ^ 63 ∨ (x - y).toInt = x.toInt - y.toInt - 2 ^ 64 ∧ 2 ^ 63 ≤ x.toInt - y.toInt ∨ (x - y).toInt = x.toInt - y.toInt + 2 ^ 64 ∧ x.toInt - y.toInt < -2 ^ 63 := by
  have h := Int64.toInt_sub x y
  have a1 := Int64.le_toInt x
  have a2 := Int64.toInt_lt x
  have b1 := Int64.le_toInt y
  have b2 := Int64.toInt_lt y
  rw [Int.bmod_def] at h
  split at h <;> omega
theorem i32_i2c (x : Int32) : (x.toUInt32.toUInt16.toUInt32.toInt32).toInt = x.toInt % 65536 := by
  have h1 : (x.toUInt32.toUInt16.toUInt32.toInt32).toInt = ((x.toUInt32.toUInt16.toUInt32).toNat : Int).bmod (2 ^ 32) := by
    rw [← Int32.toInt_toBitVec, BitVec.toInt_eq_toNat_bmod]; rfl
  have h2 : (x.toUInt32.toUInt16.toUInt32).toNat = x.toBitVec.toNat % 65536 := by
    simp [UInt32.toNat_toUInt16, UInt16.toNat_toUInt32]; rfl
  have h3 : x.toInt = (x.toBitVec.toNat : Int).bmod (2 ^ 32) := by
    rw [← Int32.toInt_toBitVec, BitVec.toInt_eq_toNat_bmod]
  have h4 := x.toBitVec.isLt
  rw [h1, h2, h3, Int.bmod_def, Int.bmod_def]
  split <;> split <;> omega
theorem i32_addc (x y : Int32) : (x + y).toInt = x.toInt + y.toInt ∧ -2 ^ 31 ≤ x.toInt + y.toInt ∧ x.toInt + y.toInt < 2 ^ 31 ∨ (x + y).toInt = x.toInt + y.toInt - 2 ^ 32 ∧ 2 ^ 31 ≤ x.toInt + y.toInt ∨ (x + y).toInt = x.toInt + y.toInt + 2 ^ 32 ∧ x.toInt + y.toInt < -2 ^ 31 := by
  have h := Int32.toInt_add x y
  have a1 := Int32.le_toInt x
  have a2 := Int32.toInt_lt x
  have b1 := Int32.le_toInt y
  have b2 := Int32.toInt_lt y
  rw [Int.bmod_def] at h
  split at h <;> omega
theorem i32_subc (x y : Int32) : (x - y).toInt = x.toInt - y.toInt ∧ -2 ^ 31 ≤ x.toInt - y.toInt ∧ x.toInt - y.toInt < 2 ^ 31 ∨ (x - y).toInt = x.toInt - y.toInt - 2 ^ 32 ∧ 2 ^ 31 ≤ x.toInt - y.toInt ∨ (x - y).toInt = x.toInt - y.toInt + 2 ^ 32 ∧ x.toInt - y.toInt < -2 ^ 31 := by
  have h := Int32.toInt_sub x y
  have a1 := Int32.le_toInt x
  have a2 := Int32.toInt_lt x
  have b1 := Int32.le_toInt y
  have b2 := Int32.toInt_lt y
  rw [Int.bmod_def] at h
  split at h <;> omega
theorem own_eq32 {a b : Int32} (h : a.toInt = b.toInt) : a = b := Int32.toInt_inj.mp h
theorem own_eq64 {a b : Int64} (h : a.toInt = b.toInt) : a = b := Int64.toInt_inj.mp h
theorem own_lt64 {a b : Int64} (h : a.toInt < b.toInt) : a < b := Int64.lt_iff_toInt_lt.mpr h
theorem own_lt32 {a b : Int32} (h : a.toInt < b.toInt) : a < b := Int32.lt_iff_toInt_lt.mpr h
theorem own_nlt64 {a b : Int64} (h : b.toInt ≤ a.toInt) : ¬ a < b := fun z => by have := Int64.lt_iff_toInt_lt.mp z; omega
theorem own_nlt32 {a b : Int32} (h : b.toInt ≤ a.toInt) : ¬ a < b := fun z => by have := Int32.lt_iff_toInt_lt.mp z; omega
theorem own_ne32 {a b : Int32} (h : a.toInt ≠ b.toInt) : ¬ a = b := fun z => h (by rw [z])
theorem own_ne64 {a b : Int64} (h : a.toInt ≠ b.toInt) : ¬ a = b := fun z => h (by rw [z])
def lowF (v : Int32) : Int32 := if v < 97 then 0 else if 122 < v then 0 else 1
def refF (v : Int32) : Int32 := if ((v - 97) &&& 65535) < 26 then 1 else 0
theorem own_same {x v : Int32} (h : x.toUInt32.toUInt16.toUInt32.toInt32 = v) : lowF v = refF v := by
  have h1 := i32_i2c x
  rw [h] at h1
  have h2 : ((v - 97) &&& 65535).toInt = (v - 97).toInt % 2 ^ 16 := Jvm.Kit.i32_mask _ _ (k := 16) (by decide) (by decide)
  have e97 : (97 : Int32).toInt = 97 := by decide
  have e122 : (122 : Int32).toInt = 122 := by decide
  have e26 : (26 : Int32).toInt = 26 := by decide
  have h3 : (v - 97).toInt = v.toInt - 97 := by rw [Jvm.Kit.i32_sub (by omega) (by omega), e97]
  simp only [lowF, refF, Int32.lt_iff_toInt_lt, h2, h3, e97, e122, e26]
  by_cases c1 : v.toInt < 97
  · rw [if_pos c1, if_neg (by omega)]
  · rw [if_neg c1]
    by_cases c2 : 122 < v.toInt
    · rw [if_pos c2, if_neg (by omega)]
    · rw [if_neg c2, if_pos (by omega)]

theorem pn_0 : plainName "com/example/rivulet/rivulet/lang/Lexer" = true := by first | (simp [plainName, overriddenIn]; done) | decide +kernel
theorem d_low_0 : decode prog_163_method_18_code 0 = .ok (.iload_n 0, 1) := by decide +kernel
theorem d_low_1 : decode prog_163_method_18_code 1 = .ok (.bipush 97, 2) := by decide +kernel
theorem d_low_3 : decode prog_163_method_18_code 3 = .ok (.if_icmp .lt 13, 3) := by decide +kernel
theorem d_low_6 : decode prog_163_method_18_code 6 = .ok (.iload_n 0, 1) := by decide +kernel
theorem d_low_7 : decode prog_163_method_18_code 7 = .ok (.bipush 122, 2) := by decide +kernel
theorem d_low_9 : decode prog_163_method_18_code 9 = .ok (.if_icmp .gt 7, 3) := by decide +kernel
theorem d_low_12 : decode prog_163_method_18_code 12 = .ok (.iconst 1, 1) := by decide +kernel
theorem d_low_13 : decode prog_163_method_18_code 13 = .ok (.goto 4, 3) := by decide +kernel
theorem d_low_16 : decode prog_163_method_18_code 16 = .ok (.iconst 0, 1) := by decide +kernel
theorem d_low_17 : decode prog_163_method_18_code 17 = .ok (.ireturn, 1) := by decide +kernel
theorem ef_low (m : MethodId) (pa : Int32) : entryFrame m #[(.int pa)] 1 = mkF m 0 #[.val (.int pa)] [] := by first | (simp [entryFrame, mkF, argsToLocals, Value.category]; done) | rfl
def Q_low (Z : State) (pa : Int32) (h0 : Heap) (n0 : Nat) (v : Option Value) (h : Heap) (L : List Loc) : Prop := v = some (.int (lowF pa)) ∧ Fr n0 L ∧ h = h0
set_option maxRecDepth 65536 in
set_option maxHeartbeats 40000000 in
theorem rm_low (l : Launch) (Z : State) (a0 : Array Value) (hw : ∀ d ∈ tables_1, d.before a0 Z = true) (ws : List Jvm.Cond) (pa : Int32) (h0 : Heap) (n0 : Nat) (Z0 : n0 ≤ h0.size)  :
    MetFree l (⟨"com/example/rivulet/rivulet/lang/Lexer", "isLowerCase", "(C)Z"⟩ : MethodName) (head1 (Jvm.Cond.code (⟨"com/example/rivulet/rivulet/lang/Lexer", "isLowerCase", "(C)Z"⟩ : MethodName) prog_163_method_18_code 1 (some .boolean) :: ws) ({ frames := 0, cells := 0, slots := 0, locals := 0 } : Room)) (fun a U => a = #[(.int pa)] ∧ Z.Warmed39 U.vm ∧ U.heap = h0) (fun _ _ _ _ _ => True) (fun _ U o U' => ∃ v L, o = .returned v ∧ Q_low Z pa h0 n0 v U'.heap L ∧ FrameEnd U o U' L ({ frames := 0, cells := 0, slots := 0, locals := 0 } : Room).cells ({ frames := 0, cells := 0, slots := 0, locals := 0 } : Room).slots) := by
  refine MetFree.of_bodySF (plainFor_of_name pn_0) hisR ?_
  intro p e s m args below meth c s₁ Bd hml0 hP hK
  obtain ⟨rfl, hZ, hh⟩ := hP
  have hx := Bd.exec
  have hby := Bd.bytes
  have hml : c.maxLocals = 1 := hml0
  have hown : s.vm.findClass "com/example/rivulet/rivulet/lang/Lexer" = some m.cls := findClass_of_methodNamed Bd.named
  have hnm := (name_of_methodNamed Bd.named Bd.method).1
  have X0 : Stand p l e ({ frames := 0, cells := 0, slots := 0, locals := 0 } : Room) s m #[(.int pa)] below meth c s₁ [] 0 0 := Stand.of_body Bd
  have e0 : s₁.heap = h0 := by rw [← hh, Bd.state]; rfl
  have N0 := Fr.nil n0
  have K0 : Keep h0 h0 [] := Keep.refl h0 []
  show Go p.tables e below _ (s₁.setTop (entryFrame m #[(.int pa)] 1))
  refine Go.start ?_
  intro G hG
  refine Go.st (fun t k => castTop (ef_low m pa) k) ?_
  show Go p.tables e below _ (s₁.setTop (mkF m 0 #[.val (.int pa)] []))
  refine Go.st (fun _ k => XS.iloadN X0.here hx rfl (hb hby d_low_0) rfl k) ?_
  show Go p.tables e below _ (s₁.setTop (mkF m 1 #[.val (.int pa)] [(.int pa)]))
  refine Go.st (fun _ k => XS.bipush X0.here hx rfl (hb hby d_low_1) k) ?_
  show Go p.tables e below _ (s₁.setTop (mkF m 3 #[.val (.int pa)] [(.int (97 : Int32)), (.int pa)]))
  by_cases hc3 : pa < (97 : Int32)
  · skip
    refine Go.st (fun _ k => XS.icmpYes X0.here hx rfl (pc0 := 3) (pc' := 16) rfl (hb hby d_low_3) rfl (Jvm.Free.XT.ii_lt_t hc3) (by decide) (by decide) k) ?_
    show Go p.tables e below _ (s₁.setTop (mkF m 16 #[.val (.int pa)] []))
    refine Go.st (fun _ k => XS.iconst X0.here hx rfl (hb hby d_low_16) k) ?_
    show Go p.tables e below _ (s₁.setTop (mkF m 17 #[.val (.int pa)] [(.int (0 : Int32))]))
    subst hG
    obtain ⟨fs, hr, hrun, hended, hW, hsame⟩ := X0.leave (v := some (.int (nar .boolean (0 : Int32)))) (fun h => by rw [Bd.returns] at h; cases h)
    refine ⟨_, _, ?_, hrun, hended, _, _, rfl, ?_, ⟨_, rfl⟩, hW, hsame.mono (by decide) (by decide)⟩
    · exact retN X0 hx (t := .boolean) Bd.returns (by simp) (hb hby d_low_17) hr
    · show Q_low Z pa h0 n0 _ s₁.heap _
      rw [e0]
      exact ⟨(by show some (Value.int (0 : Int32)) = _; simp [lowF, hc3]), N0, rfl⟩
  · skip
    refine Go.st (fun _ k => XS.icmpNo X0.here hx rfl (hb hby d_low_3) rfl (Jvm.Free.XT.ii_lt_f hc3) k) ?_
    show Go p.tables e below _ (s₁.setTop (mkF m 6 #[.val (.int pa)] []))
    refine Go.st (fun _ k => XS.iloadN X0.here hx rfl (hb hby d_low_6) rfl k) ?_
    show Go p.tables e below _ (s₁.setTop (mkF m 7 #[.val (.int pa)] [(.int pa)]))
    refine Go.st (fun _ k => XS.bipush X0.here hx rfl (hb hby d_low_7) k) ?_
    show Go p.tables e below _ (s₁.setTop (mkF m 9 #[.val (.int pa)] [(.int (122 : Int32)), (.int pa)]))
    by_cases hc9 : (122 : Int32) < pa
    · skip
      refine Go.st (fun _ k => XS.icmpYes X0.here hx rfl (pc0 := 9) (pc' := 16) rfl (hb hby d_low_9) rfl (Jvm.Free.XT.ii_gt_t hc9) (by decide) (by decide) k) ?_
      show Go p.tables e below _ (s₁.setTop (mkF m 16 #[.val (.int pa)] []))
      refine Go.st (fun _ k => XS.iconst X0.here hx rfl (hb hby d_low_16) k) ?_
      show Go p.tables e below _ (s₁.setTop (mkF m 17 #[.val (.int pa)] [(.int (0 : Int32))]))
      subst hG
      obtain ⟨fs, hr, hrun, hended, hW, hsame⟩ := X0.leave (v := some (.int (nar .boolean (0 : Int32)))) (fun h => by rw [Bd.returns] at h; cases h)
      refine ⟨_, _, ?_, hrun, hended, _, _, rfl, ?_, ⟨_, rfl⟩, hW, hsame.mono (by decide) (by decide)⟩
      · exact retN X0 hx (t := .boolean) Bd.returns (by simp) (hb hby d_low_17) hr
      · show Q_low Z pa h0 n0 _ s₁.heap _
        rw [e0]
        exact ⟨(by show some (Value.int (0 : Int32)) = _; simp [lowF, hc3, hc9]), N0, rfl⟩
    · skip
      refine Go.st (fun _ k => XS.icmpNo X0.here hx rfl (hb hby d_low_9) rfl (Jvm.Free.XT.ii_gt_f hc9) k) ?_
      show Go p.tables e below _ (s₁.setTop (mkF m 12 #[.val (.int pa)] []))
      refine Go.st (fun _ k => XS.iconst X0.here hx rfl (hb hby d_low_12) k) ?_
      show Go p.tables e below _ (s₁.setTop (mkF m 13 #[.val (.int pa)] [(.int (1 : Int32))]))
      refine Go.st (fun _ k => XS.goto X0.here hx rfl (pc0 := 13) (pc' := 17) rfl (hb hby d_low_13) (by decide) (by decide) k) ?_
      show Go p.tables e below _ (s₁.setTop (mkF m 17 #[.val (.int pa)] [(.int (1 : Int32))]))
      subst hG
      obtain ⟨fs, hr, hrun, hended, hW, hsame⟩ := X0.leave (v := some (.int (nar .boolean (1 : Int32)))) (fun h => by rw [Bd.returns] at h; cases h)
      refine ⟨_, _, ?_, hrun, hended, _, _, rfl, ?_, ⟨_, rfl⟩, hW, hsame.mono (by decide) (by decide)⟩
      · exact retN X0 hx (t := .boolean) Bd.returns (by simp) (hb hby d_low_17) hr
      · show Q_low Z pa h0 n0 _ s₁.heap _
        rw [e0]
        exact ⟨(by show some (Value.int (1 : Int32)) = _; simp [lowF, hc3, hc9]), N0, rfl⟩
theorem pn_1 : plainName "com/example/rivulet/rivulet/lang/LexerIsLowerCasePinLaw" = true := by first | (simp [plainName, overriddenIn]; done) | decide +kernel
theorem d_refr_0 : decode method_2_code 0 = .ok (.iload_n 0, 1) := by decide +kernel
theorem d_refr_1 : decode method_2_code 1 = .ok (.bipush 97, 2) := by decide +kernel
theorem d_refr_3 : decode method_2_code 3 = .ok (.isub, 1) := by decide +kernel
theorem d_refr_4 : decode method_2_code 4 = .ok (.ldc 7, 2) := by decide +kernel
theorem d_refr_6 : decode method_2_code 6 = .ok (.iand, 1) := by decide +kernel
theorem d_refr_7 : decode method_2_code 7 = .ok (.istore_n 1, 1) := by decide +kernel
theorem d_refr_8 : decode method_2_code 8 = .ok (.iload_n 1, 1) := by decide +kernel
theorem d_refr_9 : decode method_2_code 9 = .ok (.bipush 26, 2) := by decide +kernel
theorem d_refr_11 : decode method_2_code 11 = .ok (.if_icmp .ge 7, 3) := by decide +kernel
theorem d_refr_14 : decode method_2_code 14 = .ok (.iconst 1, 1) := by decide +kernel
theorem d_refr_15 : decode method_2_code 15 = .ok (.goto 4, 3) := by decide +kernel
theorem d_refr_18 : decode method_2_code 18 = .ok (.iconst 0, 1) := by decide +kernel
theorem d_refr_19 : decode method_2_code 19 = .ok (.ireturn, 1) := by decide +kernel
theorem ef_refr (m : MethodId) (pa : Int32) : entryFrame m #[(.int pa)] 2 = mkF m 0 #[.val (.int pa), .unset] [] := by first | (simp [entryFrame, mkF, argsToLocals, Value.category]; done) | rfl
def Q_refr (Z : State) (pa : Int32) (h0 : Heap) (n0 : Nat) (v : Option Value) (h : Heap) (L : List Loc) : Prop := v = some (.int (refF pa)) ∧ Fr n0 L ∧ h = h0
set_option maxRecDepth 65536 in
set_option maxHeartbeats 40000000 in
theorem rm_refr (l : Launch) (Z : State) (a0 : Array Value) (hw : ∀ d ∈ tables_1, d.before a0 Z = true) (ws : List Jvm.Cond) (pa : Int32) (h0 : Heap) (n0 : Nat) (Z0 : n0 ≤ h0.size)  :
    MetFree l (⟨"com/example/rivulet/rivulet/lang/LexerIsLowerCasePinLaw", "reference", "(C)Z"⟩ : MethodName) (head1 (Jvm.Cond.code (⟨"com/example/rivulet/rivulet/lang/LexerIsLowerCasePinLaw", "reference", "(C)Z"⟩ : MethodName) method_2_code 2 (some .boolean) :: ws) ({ frames := 0, cells := 0, slots := 0, locals := 0 } : Room)) (fun a U => a = #[(.int pa)] ∧ Z.Warmed39 U.vm ∧ U.heap = h0) (fun _ _ _ _ _ => True) (fun _ U o U' => ∃ v L, o = .returned v ∧ Q_refr Z pa h0 n0 v U'.heap L ∧ FrameEnd U o U' L ({ frames := 0, cells := 0, slots := 0, locals := 0 } : Room).cells ({ frames := 0, cells := 0, slots := 0, locals := 0 } : Room).slots) := by
  refine MetFree.of_bodySF (plainFor_of_name pn_1) hisR ?_
  intro p e s m args below meth c s₁ Bd hml0 hP hK
  obtain ⟨rfl, hZ, hh⟩ := hP
  have hx := Bd.exec
  have hby := Bd.bytes
  have hml : c.maxLocals = 2 := hml0
  have hown : s.vm.findClass "com/example/rivulet/rivulet/lang/LexerIsLowerCasePinLaw" = some m.cls := findClass_of_methodNamed Bd.named
  have hnm := (name_of_methodNamed Bd.named Bd.method).1
  have X0 : Stand p l e ({ frames := 0, cells := 0, slots := 0, locals := 0 } : Room) s m #[(.int pa)] below meth c s₁ [] 0 0 := Stand.of_body Bd
  have e0 : s₁.heap = h0 := by rw [← hh, Bd.state]; rfl
  have N0 := Fr.nil n0
  have K0 : Keep h0 h0 [] := Keep.refl h0 []
  show Go p.tables e below _ (s₁.setTop (entryFrame m #[(.int pa)] 2))
  refine Go.start ?_
  intro G hG
  refine Go.st (fun t k => castTop (ef_refr m pa) k) ?_
  show Go p.tables e below _ (s₁.setTop (mkF m 0 #[.val (.int pa), .unset] []))
  refine Go.st (fun _ k => XS.iloadN X0.here hx rfl (hb hby d_refr_0) rfl k) ?_
  show Go p.tables e below _ (s₁.setTop (mkF m 1 #[.val (.int pa), .unset] [(.int pa)]))
  refine Go.st (fun _ k => XS.bipush X0.here hx rfl (hb hby d_refr_1) k) ?_
  show Go p.tables e below _ (s₁.setTop (mkF m 3 #[.val (.int pa), .unset] [(.int (97 : Int32)), (.int pa)]))
  refine Go.st (fun _ k => XS.isub X0.here hx rfl (hb hby d_refr_3) rfl k) ?_
  show Go p.tables e below _ (s₁.setTop (mkF m 4 #[.val (.int pa), .unset] [(.int (pa - (97 : Int32)))]))
  refine Go.st (fun _ k => X0.ldcInt hx hown (mvT hZ (hw _ (List.mem_of_getElem? (i := 0) rfl))) (g := (mkF m 4 #[.val (.int pa), .unset] [(.int (pa - (97 : Int32)))])) rfl (hb hby d_refr_4) _ k) ?_
  show Go p.tables e below _ (s₁.setTop (mkF m 6 #[.val (.int pa), .unset] [(.int (65535 : Int32)), (.int (pa - (97 : Int32)))]))
  refine Go.st (fun _ k => XS.iand X0.here hx rfl (hb hby d_refr_6) rfl k) ?_
  show Go p.tables e below _ (s₁.setTop (mkF m 7 #[.val (.int pa), .unset] [(.int ((pa - (97 : Int32)) &&& (65535 : Int32)))]))
  refine Go.st (fun _ k => XS.istoreN X0.here hx rfl (hb hby d_refr_7) rfl (l' := #[.val (.int pa), .val (.int ((pa - (97 : Int32)) &&& (65535 : Int32)))]) rfl k) ?_
  show Go p.tables e below _ (s₁.setTop (mkF m 8 #[.val (.int pa), .val (.int ((pa - (97 : Int32)) &&& (65535 : Int32)))] []))
  generalize hqv7 : ((pa - (97 : Int32)) &&& (65535 : Int32)) = v7
  show Go p.tables e below _ (s₁.setTop (mkF m 8 #[.val (.int pa), .val (.int v7)] []))
  refine Go.st (fun _ k => XS.iloadN X0.here hx rfl (hb hby d_refr_8) rfl k) ?_
  show Go p.tables e below _ (s₁.setTop (mkF m 9 #[.val (.int pa), .val (.int v7)] [(.int v7)]))
  refine Go.st (fun _ k => XS.bipush X0.here hx rfl (hb hby d_refr_9) k) ?_
  show Go p.tables e below _ (s₁.setTop (mkF m 11 #[.val (.int pa), .val (.int v7)] [(.int (26 : Int32)), (.int v7)]))
  by_cases hc11 : v7 < (26 : Int32)
  · skip
    refine Go.st (fun _ k => XS.icmpNo X0.here hx rfl (hb hby d_refr_11) rfl (Jvm.Free.XT.ii_ge_f hc11) k) ?_
    show Go p.tables e below _ (s₁.setTop (mkF m 14 #[.val (.int pa), .val (.int v7)] []))
    refine Go.st (fun _ k => XS.iconst X0.here hx rfl (hb hby d_refr_14) k) ?_
    show Go p.tables e below _ (s₁.setTop (mkF m 15 #[.val (.int pa), .val (.int v7)] [(.int (1 : Int32))]))
    refine Go.st (fun _ k => XS.goto X0.here hx rfl (pc0 := 15) (pc' := 19) rfl (hb hby d_refr_15) (by decide) (by decide) k) ?_
    show Go p.tables e below _ (s₁.setTop (mkF m 19 #[.val (.int pa), .val (.int v7)] [(.int (1 : Int32))]))
    subst hG
    obtain ⟨fs, hr, hrun, hended, hW, hsame⟩ := X0.leave (v := some (.int (nar .boolean (1 : Int32)))) (fun h => by rw [Bd.returns] at h; cases h)
    refine ⟨_, _, ?_, hrun, hended, _, _, rfl, ?_, ⟨_, rfl⟩, hW, hsame.mono (by decide) (by decide)⟩
    · exact retN X0 hx (t := .boolean) Bd.returns (by simp) (hb hby d_refr_19) hr
    · show Q_refr Z pa h0 n0 _ s₁.heap _
      rw [e0]
      exact ⟨(by show some (Value.int (1 : Int32)) = _; subst hqv7; simp [refF, hc11]), N0, rfl⟩
  · skip
    refine Go.st (fun _ k => XS.icmpYes X0.here hx rfl (pc0 := 11) (pc' := 18) rfl (hb hby d_refr_11) rfl (Jvm.Free.XT.ii_ge_t hc11) (by decide) (by decide) k) ?_
    show Go p.tables e below _ (s₁.setTop (mkF m 18 #[.val (.int pa), .val (.int v7)] []))
    refine Go.st (fun _ k => XS.iconst X0.here hx rfl (hb hby d_refr_18) k) ?_
    show Go p.tables e below _ (s₁.setTop (mkF m 19 #[.val (.int pa), .val (.int v7)] [(.int (0 : Int32))]))
    subst hG
    obtain ⟨fs, hr, hrun, hended, hW, hsame⟩ := X0.leave (v := some (.int (nar .boolean (0 : Int32)))) (fun h => by rw [Bd.returns] at h; cases h)
    refine ⟨_, _, ?_, hrun, hended, _, _, rfl, ?_, ⟨_, rfl⟩, hW, hsame.mono (by decide) (by decide)⟩
    · exact retN X0 hx (t := .boolean) Bd.returns (by simp) (hb hby d_refr_19) hr
    · show Q_refr Z pa h0 n0 _ s₁.heap _
      rw [e0]
      exact ⟨(by show some (Value.int (0 : Int32)) = _; subst hqv7; simp [refF, hc11]), N0, rfl⟩
theorem pd_0 : parseMethodDescriptor "(C)Z" = some ⟨[.char], some .boolean⟩ := by decide +kernel
theorem ef_law (m : MethodId) (px : Int32) (py : Int32) : entryFrame m #[(.int px), (.int py)] maxLocals = mkF m 0 #[.val (.int px), .val (.int py), .unset, .unset, .unset, .unset] [] := by first | (simp [entryFrame, mkF, argsToLocals, Value.category, maxLocals]; done) | rfl
def Q_law (Z : State) (px : Int32) (py : Int32) (h0 : Heap) (n0 : Nat) (v : Option Value) (h : Heap) (L : List Loc) : Prop := v = some (.int (1 : Int32)) ∧ Fr n0 L ∧ h = h0
set_option maxRecDepth 65536 in
set_option maxHeartbeats 40000000 in
theorem rm_law (l : Launch) (Z : State) (a0 : Array Value) (hw : ∀ d ∈ tables_1, d.before a0 Z = true) (ws : List Jvm.Cond) (px : Int32) (py : Int32) (h0 : Heap) (n0 : Nat) (Z0 : n0 ≤ h0.size)  :
    MetFree l x (head1 (Jvm.Cond.code x code maxLocals ret :: ws) room_1) (fun a U => a = #[(.int px), (.int py)] ∧ Z.Warmed39 U.vm ∧ U.heap = h0) (fun _ _ _ _ _ => True) (fun _ U o U' => ∃ v L, o = .returned v ∧ Q_law Z px py h0 n0 v U'.heap L ∧ FrameEnd U o U' L room_1.cells room_1.slots) := by
  refine MetFree.of_bodySF (plainFor_of_name pn_1) hisR ?_
  intro p e s m args below meth c s₁ Bd hml0 hP hK
  obtain ⟨rfl, hZ, hh⟩ := hP
  have hx := Bd.exec
  have hby := Bd.bytes
  have hml : c.maxLocals = 6 := hml0
  have hown : s.vm.findClass "com/example/rivulet/rivulet/lang/LexerIsLowerCasePinLaw" = some m.cls := findClass_of_methodNamed Bd.named
  have hnm := (name_of_methodNamed Bd.named Bd.method).1
  have X0 : Stand p l e room_1 s m #[(.int px), (.int py)] below meth c s₁ [] 0 0 := Stand.of_body Bd
  have e0 : s₁.heap = h0 := by rw [← hh, Bd.state]; rfl
  have N0 := Fr.nil n0
  have K0 : Keep h0 h0 [] := Keep.refl h0 []
  show Go p.tables e below _ (s₁.setTop (entryFrame m #[(.int px), (.int py)] maxLocals))
  refine Go.start ?_
  intro G hG
  refine Go.st (fun t k => castTop (ef_law m px py) k) ?_
  show Go p.tables e below _ (s₁.setTop (mkF m 0 #[.val (.int px), .val (.int py), .unset, .unset, .unset, .unset] []))
  refine Go.st (fun _ k => XS.iloadN X0.here hx rfl (hb hby at_0) rfl k) ?_
  show Go p.tables e below _ (s₁.setTop (mkF m 1 #[.val (.int px), .val (.int py), .unset, .unset, .unset, .unset] [(.int px)]))
  refine Go.st (fun _ k => X0.ldcInt hx hown (mvT hZ (hw _ (List.mem_of_getElem? (i := 0) rfl))) (g := (mkF m 1 #[.val (.int px), .val (.int py), .unset, .unset, .unset, .unset] [(.int px)])) rfl (hb hby at_1) _ k) ?_
  show Go p.tables e below _ (s₁.setTop (mkF m 3 #[.val (.int px), .val (.int py), .unset, .unset, .unset, .unset] [(.int (65535 : Int32)), (.int px)]))
  refine Go.st (fun _ k => XS.iand X0.here hx rfl (hb hby at_3) rfl k) ?_
  show Go p.tables e below _ (s₁.setTop (mkF m 4 #[.val (.int px), .val (.int py), .unset, .unset, .unset, .unset] [(.int (px &&& (65535 : Int32)))]))
  refine Go.st (fun _ k => XS.i2c X0.here hx rfl (hb hby at_4) rfl k) ?_
  show Go p.tables e below _ (s₁.setTop (mkF m 5 #[.val (.int px), .val (.int py), .unset, .unset, .unset, .unset] [(.int ((px &&& (65535 : Int32)).toUInt32.toUInt16.toUInt32.toInt32))]))
  refine Go.st (fun _ k => XS.istoreN X0.here hx rfl (hb hby at_5) rfl (l' := #[.val (.int px), .val (.int py), .val (.int ((px &&& (65535 : Int32)).toUInt32.toUInt16.toUInt32.toInt32)), .unset, .unset, .unset]) rfl k) ?_
  show Go p.tables e below _ (s₁.setTop (mkF m 6 #[.val (.int px), .val (.int py), .val (.int ((px &&& (65535 : Int32)).toUInt32.toUInt16.toUInt32.toInt32)), .unset, .unset, .unset] []))
  generalize hqv5 : ((px &&& (65535 : Int32)).toUInt32.toUInt16.toUInt32.toInt32) = v5
  show Go p.tables e below _ (s₁.setTop (mkF m 6 #[.val (.int px), .val (.int py), .val (.int v5), .unset, .unset, .unset] []))
  refine Go.st (fun _ k => XS.bipush X0.here hx rfl (hb hby at_6) k) ?_
  show Go p.tables e below _ (s₁.setTop (mkF m 8 #[.val (.int px), .val (.int py), .val (.int v5), .unset, .unset, .unset] [(.int (96 : Int32))]))
  refine Go.st (fun _ k => XS.iloadN X0.here hx rfl (hb hby at_8) rfl k) ?_
  show Go p.tables e below _ (s₁.setTop (mkF m 9 #[.val (.int px), .val (.int py), .val (.int v5), .unset, .unset, .unset] [(.int py), (.int (96 : Int32))]))
  refine Go.st (fun _ k => XS.bipush X0.here hx rfl (hb hby at_9) k) ?_
  show Go p.tables e below _ (s₁.setTop (mkF m 11 #[.val (.int px), .val (.int py), .val (.int v5), .unset, .unset, .unset] [(.int (31 : Int32)), (.int py), (.int (96 : Int32))]))
  refine Go.st (fun _ k => XS.iand X0.here hx rfl (hb hby at_11) rfl k) ?_
  show Go p.tables e below _ (s₁.setTop (mkF m 12 #[.val (.int px), .val (.int py), .val (.int v5), .unset, .unset, .unset] [(.int (py &&& (31 : Int32))), (.int (96 : Int32))]))
  refine Go.st (fun _ k => XS.iadd X0.here hx rfl (hb hby at_12) rfl k) ?_
  show Go p.tables e below _ (s₁.setTop (mkF m 13 #[.val (.int px), .val (.int py), .val (.int v5), .unset, .unset, .unset] [(.int ((96 : Int32) + (py &&& (31 : Int32))))]))
  refine Go.st (fun _ k => XS.i2c X0.here hx rfl (hb hby at_13) rfl k) ?_
  show Go p.tables e below _ (s₁.setTop (mkF m 14 #[.val (.int px), .val (.int py), .val (.int v5), .unset, .unset, .unset] [(.int (((96 : Int32) + (py &&& (31 : Int32))).toUInt32.toUInt16.toUInt32.toInt32))]))
  refine Go.st (fun _ k => XS.istoreN X0.here hx rfl (hb hby at_14) rfl (l' := #[.val (.int px), .val (.int py), .val (.int v5), .val (.int (((96 : Int32) + (py &&& (31 : Int32))).toUInt32.toUInt16.toUInt32.toInt32)), .unset, .unset]) rfl k) ?_
  show Go p.tables e below _ (s₁.setTop (mkF m 15 #[.val (.int px), .val (.int py), .val (.int v5), .val (.int (((96 : Int32) + (py &&& (31 : Int32))).toUInt32.toUInt16.toUInt32.toInt32)), .unset, .unset] []))
  generalize hqv14 : (((96 : Int32) + (py &&& (31 : Int32))).toUInt32.toUInt16.toUInt32.toInt32) = v14
  show Go p.tables e below _ (s₁.setTop (mkF m 15 #[.val (.int px), .val (.int py), .val (.int v5), .val (.int v14), .unset, .unset] []))
  refine Go.st (fun _ k => XS.iloadN X0.here hx rfl (hb hby at_15) rfl k) ?_
  show Go p.tables e below _ (s₁.setTop (mkF m 16 #[.val (.int px), .val (.int py), .val (.int v5), .val (.int v14), .unset, .unset] [(.int v5)]))
  obtain ⟨_, _, ⟨T1, L1, k1, n1⟩, -, X1, ⟨Lc1, hQ1, l1, y1, z1⟩, st1⟩ := Jvm.LawKit.callS X0 hx (y := (⟨"com/example/rivulet/rivulet/lang/Lexer", "isLowerCase", "(C)Z"⟩ : MethodName)) hown (mvT hZ (hw _ (List.mem_of_getElem? (i := 1) rfl))) (mvT hZ (hw _ (List.mem_of_getElem? (i := 2) rfl))) (mvT hZ (hw _ (List.mem_of_getElem? (i := 3) rfl))) (mvT hZ (hw _ (List.mem_of_getElem? (i := 4) rfl))) (by decide) (backOf (W := 0) (rm_low l Z a0 hw [] v5 h0 n0 Z0 ) hZ (hw _ (List.mem_of_getElem? (i := 4) rfl)) (hw _ (List.mem_of_getElem? (i := 3) rfl)) (by decide) (by decide)) (g := (mkF m 16 #[.val (.int px), .val (.int py), .val (.int v5), .val (.int v14), .unset, .unset] [(.int v5)])) rfl (by rw [hml]; rfl) (argsL := [(.int v5)]) (rest := []) (lenOf pd_0 rfl) rfl (by show 2 * 0 + _ ≤ _; exact Nat.le_of_eq rfl) (hb hby at_16) (fun _ _ => ⟨rfl, e0, (by decide : 0 + 0 ≤ _), (by decide : 0 + 0 ≤ _)⟩)
  dsimp only [Pt.U, Pt.locs, Pt.cells, Pt.slots] at X1 l1 y1 z1 st1 hQ1
  subst l1 y1 z1
  obtain ⟨rfl, N1q, e1⟩ := hQ1
  have N1 := Fr.app N0 N1q
  refine Go.st st1 ?_
  show Go p.tables e below _ (T1.setTop (mkF m 19 #[.val (.int px), .val (.int py), .val (.int v5), .val (.int v14), .unset, .unset] [(.int (lowF v5))]))
  refine Go.st (fun _ k => XS.iloadN X1.here hx rfl (hb hby at_19) rfl k) ?_
  show Go p.tables e below _ (T1.setTop (mkF m 20 #[.val (.int px), .val (.int py), .val (.int v5), .val (.int v14), .unset, .unset] [(.int v5), (.int (lowF v5))]))
  obtain ⟨_, _, ⟨T2, L2, k2, n2⟩, -, X2, ⟨Lc2, hQ2, l2, y2, z2⟩, st2⟩ := Jvm.LawKit.callS X1 hx (y := (⟨"com/example/rivulet/rivulet/lang/LexerIsLowerCasePinLaw", "reference", "(C)Z"⟩ : MethodName)) hown (mvT hZ (hw _ (List.mem_of_getElem? (i := 5) rfl))) (mvT hZ (hw _ (List.mem_of_getElem? (i := 6) rfl))) (mvT hZ (hw _ (List.mem_of_getElem? (i := 7) rfl))) (mvT hZ (hw _ (List.mem_of_getElem? (i := 8) rfl))) (by decide) (backOf (W := 1) (rm_refr l Z a0 hw [] v5 h0 n0 Z0 ) hZ (hw _ (List.mem_of_getElem? (i := 8) rfl)) (hw _ (List.mem_of_getElem? (i := 7) rfl)) (by decide) (by decide)) (g := (mkF m 20 #[.val (.int px), .val (.int py), .val (.int v5), .val (.int v14), .unset, .unset] [(.int v5), (.int (lowF v5))])) rfl (by rw [hml]; rfl) (argsL := [(.int v5)]) (rest := [(.int (lowF v5))]) (lenOf pd_0 rfl) rfl (by show 2 * 0 + _ ≤ _; exact Nat.le_of_eq rfl) (hb hby at_20) (fun _ _ => ⟨rfl, e1, (by decide : 0 + 0 ≤ _), (by decide : 0 + 0 ≤ _)⟩)
  dsimp only [Pt.U, Pt.locs, Pt.cells, Pt.slots] at X2 l2 y2 z2 st2 hQ2
  subst l2 y2 z2
  obtain ⟨rfl, N2q, e2⟩ := hQ2
  have N2 := Fr.app N1 N2q
  refine Go.st st2 ?_
  show Go p.tables e below _ (T2.setTop (mkF m 23 #[.val (.int px), .val (.int py), .val (.int v5), .val (.int v14), .unset, .unset] [(.int (refF v5)), (.int (lowF v5))]))
  have hc23 : (lowF v5) = (refF v5) := own_same hqv5
  refine Go.st (fun _ k => XS.icmpNo X2.here hx rfl (hb hby at_23) rfl (Jvm.Free.XT.ii_ne_f hc23) k) ?_
  show Go p.tables e below _ (T2.setTop (mkF m 26 #[.val (.int px), .val (.int py), .val (.int v5), .val (.int v14), .unset, .unset] []))
  refine Go.st (fun _ k => XS.iconst X2.here hx rfl (hb hby at_26) k) ?_
  show Go p.tables e below _ (T2.setTop (mkF m 27 #[.val (.int px), .val (.int py), .val (.int v5), .val (.int v14), .unset, .unset] [(.int (1 : Int32))]))
  refine Go.st (fun _ k => XS.goto X2.here hx rfl (pc0 := 27) (pc' := 31) rfl (hb hby at_27) (by decide) (by decide) k) ?_
  show Go p.tables e below _ (T2.setTop (mkF m 31 #[.val (.int px), .val (.int py), .val (.int v5), .val (.int v14), .unset, .unset] [(.int (1 : Int32))]))
  refine Go.st (fun _ k => XS.istore X2.here hx rfl (hb hby at_31) rfl (l' := #[.val (.int px), .val (.int py), .val (.int v5), .val (.int v14), .val (.int (1 : Int32)), .unset]) rfl k) ?_
  show Go p.tables e below _ (T2.setTop (mkF m 33 #[.val (.int px), .val (.int py), .val (.int v5), .val (.int v14), .val (.int (1 : Int32)), .unset] []))
  show Go p.tables e below _ (T2.setTop (mkF m 33 #[.val (.int px), .val (.int py), .val (.int v5), .val (.int v14), .val (.int (1 : Int32)), .unset] []))
  refine Go.st (fun _ k => XS.iloadN X2.here hx rfl (hb hby at_33) rfl k) ?_
  show Go p.tables e below _ (T2.setTop (mkF m 34 #[.val (.int px), .val (.int py), .val (.int v5), .val (.int v14), .val (.int (1 : Int32)), .unset] [(.int v14)]))
  obtain ⟨_, _, ⟨T3, L3, k3, n3⟩, -, X3, ⟨Lc3, hQ3, l3, y3, z3⟩, st3⟩ := Jvm.LawKit.callS X2 hx (y := (⟨"com/example/rivulet/rivulet/lang/Lexer", "isLowerCase", "(C)Z"⟩ : MethodName)) hown (mvT hZ (hw _ (List.mem_of_getElem? (i := 1) rfl))) (mvT hZ (hw _ (List.mem_of_getElem? (i := 2) rfl))) (mvT hZ (hw _ (List.mem_of_getElem? (i := 3) rfl))) (mvT hZ (hw _ (List.mem_of_getElem? (i := 4) rfl))) (by decide) (backOf (W := 0) (rm_low l Z a0 hw [] v14 h0 n0 Z0 ) hZ (hw _ (List.mem_of_getElem? (i := 4) rfl)) (hw _ (List.mem_of_getElem? (i := 3) rfl)) (by decide) (by decide)) (g := (mkF m 34 #[.val (.int px), .val (.int py), .val (.int v5), .val (.int v14), .val (.int (1 : Int32)), .unset] [(.int v14)])) rfl (by rw [hml]; rfl) (argsL := [(.int v14)]) (rest := []) (lenOf pd_0 rfl) rfl (by show 2 * 0 + _ ≤ _; exact Nat.le_of_eq rfl) (hb hby at_34) (fun _ _ => ⟨rfl, e2, (by decide : 0 + 0 ≤ _), (by decide : 0 + 0 ≤ _)⟩)
  dsimp only [Pt.U, Pt.locs, Pt.cells, Pt.slots] at X3 l3 y3 z3 st3 hQ3
  subst l3 y3 z3
  obtain ⟨rfl, N3q, e3⟩ := hQ3
  have N3 := Fr.app N2 N3q
  refine Go.st st3 ?_
  show Go p.tables e below _ (T3.setTop (mkF m 37 #[.val (.int px), .val (.int py), .val (.int v5), .val (.int v14), .val (.int (1 : Int32)), .unset] [(.int (lowF v14))]))
  refine Go.st (fun _ k => XS.iloadN X3.here hx rfl (hb hby at_37) rfl k) ?_
  show Go p.tables e below _ (T3.setTop (mkF m 38 #[.val (.int px), .val (.int py), .val (.int v5), .val (.int v14), .val (.int (1 : Int32)), .unset] [(.int v14), (.int (lowF v14))]))
  obtain ⟨_, _, ⟨T4, L4, k4, n4⟩, -, X4, ⟨Lc4, hQ4, l4, y4, z4⟩, st4⟩ := Jvm.LawKit.callS X3 hx (y := (⟨"com/example/rivulet/rivulet/lang/LexerIsLowerCasePinLaw", "reference", "(C)Z"⟩ : MethodName)) hown (mvT hZ (hw _ (List.mem_of_getElem? (i := 5) rfl))) (mvT hZ (hw _ (List.mem_of_getElem? (i := 6) rfl))) (mvT hZ (hw _ (List.mem_of_getElem? (i := 7) rfl))) (mvT hZ (hw _ (List.mem_of_getElem? (i := 8) rfl))) (by decide) (backOf (W := 1) (rm_refr l Z a0 hw [] v14 h0 n0 Z0 ) hZ (hw _ (List.mem_of_getElem? (i := 8) rfl)) (hw _ (List.mem_of_getElem? (i := 7) rfl)) (by decide) (by decide)) (g := (mkF m 38 #[.val (.int px), .val (.int py), .val (.int v5), .val (.int v14), .val (.int (1 : Int32)), .unset] [(.int v14), (.int (lowF v14))])) rfl (by rw [hml]; rfl) (argsL := [(.int v14)]) (rest := [(.int (lowF v14))]) (lenOf pd_0 rfl) rfl (by show 2 * 0 + _ ≤ _; exact Nat.le_of_eq rfl) (hb hby at_38) (fun _ _ => ⟨rfl, e3, (by decide : 0 + 0 ≤ _), (by decide : 0 + 0 ≤ _)⟩)
  dsimp only [Pt.U, Pt.locs, Pt.cells, Pt.slots] at X4 l4 y4 z4 st4 hQ4
  subst l4 y4 z4
  obtain ⟨rfl, N4q, e4⟩ := hQ4
  have N4 := Fr.app N3 N4q
  refine Go.st st4 ?_
  show Go p.tables e below _ (T4.setTop (mkF m 41 #[.val (.int px), .val (.int py), .val (.int v5), .val (.int v14), .val (.int (1 : Int32)), .unset] [(.int (refF v14)), (.int (lowF v14))]))
  have hc41 : (lowF v14) = (refF v14) := own_same hqv14
  refine Go.st (fun _ k => XS.icmpNo X4.here hx rfl (hb hby at_41) rfl (Jvm.Free.XT.ii_ne_f hc41) k) ?_
  show Go p.tables e below _ (T4.setTop (mkF m 44 #[.val (.int px), .val (.int py), .val (.int v5), .val (.int v14), .val (.int (1 : Int32)), .unset] []))
  refine Go.st (fun _ k => XS.iconst X4.here hx rfl (hb hby at_44) k) ?_
  show Go p.tables e below _ (T4.setTop (mkF m 45 #[.val (.int px), .val (.int py), .val (.int v5), .val (.int v14), .val (.int (1 : Int32)), .unset] [(.int (1 : Int32))]))
  refine Go.st (fun _ k => XS.goto X4.here hx rfl (pc0 := 45) (pc' := 49) rfl (hb hby at_45) (by decide) (by decide) k) ?_
  show Go p.tables e below _ (T4.setTop (mkF m 49 #[.val (.int px), .val (.int py), .val (.int v5), .val (.int v14), .val (.int (1 : Int32)), .unset] [(.int (1 : Int32))]))
  refine Go.st (fun _ k => XS.istore X4.here hx rfl (hb hby at_49) rfl (l' := #[.val (.int px), .val (.int py), .val (.int v5), .val (.int v14), .val (.int (1 : Int32)), .val (.int (1 : Int32))]) rfl k) ?_
  show Go p.tables e below _ (T4.setTop (mkF m 51 #[.val (.int px), .val (.int py), .val (.int v5), .val (.int v14), .val (.int (1 : Int32)), .val (.int (1 : Int32))] []))
  show Go p.tables e below _ (T4.setTop (mkF m 51 #[.val (.int px), .val (.int py), .val (.int v5), .val (.int v14), .val (.int (1 : Int32)), .val (.int (1 : Int32))] []))
  refine Go.st (fun _ k => XS.iload X4.here hx rfl (hb hby at_51) rfl k) ?_
  show Go p.tables e below _ (T4.setTop (mkF m 53 #[.val (.int px), .val (.int py), .val (.int v5), .val (.int v14), .val (.int (1 : Int32)), .val (.int (1 : Int32))] [(.int (1 : Int32))]))
  have hl5 : ¬ ((1 : Int32) = (0 : Int32)) := by decide
  refine Go.st (fun _ k => XS.ifNo X4.here hx rfl (hb hby at_53) rfl (Jvm.Free.XT.i0_eq_f hl5) k) ?_
  show Go p.tables e below _ (T4.setTop (mkF m 56 #[.val (.int px), .val (.int py), .val (.int v5), .val (.int v14), .val (.int (1 : Int32)), .val (.int (1 : Int32))] []))
  refine Go.st (fun _ k => XS.iload X4.here hx rfl (hb hby at_56) rfl k) ?_
  show Go p.tables e below _ (T4.setTop (mkF m 58 #[.val (.int px), .val (.int py), .val (.int v5), .val (.int v14), .val (.int (1 : Int32)), .val (.int (1 : Int32))] [(.int (1 : Int32))]))
  have hl6 : ¬ ((1 : Int32) = (0 : Int32)) := by decide
  refine Go.st (fun _ k => XS.ifNo X4.here hx rfl (hb hby at_58) rfl (Jvm.Free.XT.i0_eq_f hl6) k) ?_
  show Go p.tables e below _ (T4.setTop (mkF m 61 #[.val (.int px), .val (.int py), .val (.int v5), .val (.int v14), .val (.int (1 : Int32)), .val (.int (1 : Int32))] []))
  refine Go.st (fun _ k => XS.iconst X4.here hx rfl (hb hby at_61) k) ?_
  show Go p.tables e below _ (T4.setTop (mkF m 62 #[.val (.int px), .val (.int py), .val (.int v5), .val (.int v14), .val (.int (1 : Int32)), .val (.int (1 : Int32))] [(.int (1 : Int32))]))
  refine Go.st (fun _ k => XS.goto X4.here hx rfl (pc0 := 62) (pc' := 66) rfl (hb hby at_62) (by decide) (by decide) k) ?_
  show Go p.tables e below _ (T4.setTop (mkF m 66 #[.val (.int px), .val (.int py), .val (.int v5), .val (.int v14), .val (.int (1 : Int32)), .val (.int (1 : Int32))] [(.int (1 : Int32))]))
  subst hG
  obtain ⟨fs, hr, hrun, hended, hW, hsame⟩ := X4.leave (v := some (.int (nar .boolean (1 : Int32)))) (fun h => by rw [Bd.returns] at h; cases h)
  refine ⟨_, _, ?_, hrun, hended, _, _, rfl, ?_, ⟨_, rfl⟩, hW, hsame.mono (by decide) (by decide)⟩
  · exact retN X4 hx (t := .boolean) Bd.returns (by simp) (hb hby at_66) hr
  · show Q_law Z px py h0 n0 _ T4.heap _
    rw [e4]
    exact ⟨rfl, N4, rfl⟩
set_option maxRecDepth 65536 in
set_option maxHeartbeats 40000000 in
theorem comes_1 {Post : Tables → Env → Array Value → State → Outcome → State → Prop} (hpost : ∀ tb e args s v u, (limb_1_1.after args s (.returned v) u = true ∧ limb_1_2.after args s (.returned v) u = true ∧ True) → FrameEnd s (.returned v) u (Jvm.fieldLocs frame_1_writes args s ++ Jvm.arrayLocs frame_1_arrays args s ++ Jvm.staticLocs frame_1_statics s) 0 0 → Post tb e args s (.returned v) u) :
    ArmFor flags0 classFile x code maxLocals ret World_1 tables_1 room_1 Calls_1 rest_1 Pre_1 Post := by
  intro l hfl _ _ p e ha hc hk s m args below hf hA hF happ hP
  obtain ⟨hcalls, hrest, hpre⟩ := hP
  obtain ⟨-, -, -, hnamed, -, -, -, hat⟩ := (Spec.applies_iff hf).mp happ
  obtain ⟨hg, hn⟩ := and_e (Cond.before_iff.mp (show (Jvm.Cond.and given_1 narrow_1).before args s = true from hpre))
  obtain ⟨hcount, hg0⟩ := and_e hg
  obtain ⟨hv0, hg1⟩ := and_e hg0
  obtain ⟨w0, w1, rfl⟩ : ∃ w0 w1 : Value, args = #[w0, w1] := by
    have hs : args.size = 2 := by simpa [Cond.value, given_1] using hcount
    obtain ⟨L⟩ := args
    match L, hs with
    | [w0, w1], _ => exact ⟨w0, w1, rfl⟩
  have hw := fun d (hd : d ∈ tables_1) => atoms_spec (ws := Jvm.Cond.code x code maxLocals ret :: tables_1) hat d (List.mem_cons_of_mem _ hd)
  have hfit : Fit s := fun {y c} hc i hi => by
    obtain ⟨ha, rfl⟩ := Array.getElem?_eq_some_iff.mp hc
    have q := List.all_eq_true.mp ((Array.all_eq_true_iff_forall_mem.mp hF) _ (Array.getElem_mem ha)) i (List.mem_range.mpr hi)
    simpa [Array.getElem?_eq_getElem hi] using q
  obtain ⟨i0, ei0⟩ := is_v hv0
  obtain rfl : w0 = (.int i0) := Option.some.inj ei0
  obtain ⟨i1, ei1⟩ := is_v hg1
  obtain rfl : w1 = (.int i1) := Option.some.inj ei1
  obtain ⟨n, o, h1, h2, h3, _, L, rfl, ⟨rfl, N, -⟩, hq⟩ := rm_law l s _ hw tables_1 i0 i1 s.heap s.heap.size (Nat.le_refl _)  p e ha hc hk s m _ below hf ((Spec.applies_iff_loose hf).mp happ).1 ⟨rfl, State.Warmed39.refl s, rfl⟩ trivial
  refine ⟨n, _, h1, h2, h3, hpost _ _ _ _ _ _ ⟨Cond.after_iff.mpr rfl, Cond.after_iff.mpr (eq_i res_at (Term.int_eval (1)) rfl), trivial⟩ ⟨hq.1, hq.2.1, (hq.2.2.sift fun y hy => Or.inr (N y hy)).mono (by decide) (by decide)⟩⟩
theorem main_1_1 : Claimed_1_1 := comes_1 fun _ _ _ _ _ _ h hF => ⟨h.1, hF⟩
theorem main_1_2 : Claimed_1_2 := comes_1 fun _ _ _ _ _ _ h hF => ⟨h.2.1, hF⟩
end Jvm.Pilot.@@N@@
namespace Jvm.Pilot.@@N@@
open Jvm Jvm.ClassFile Sem Op Lib Jvm.Free Jvm.Stand Jvm.Pilot.@@N@@.Jvm.D
/-! MADE BY PROGRAM (witnessworld.py) out of the Statement's table words and the real class files: 9 classes; the members and pool entries that the words name. The judged class is class 1, her method 2. -/
namespace start1
open Jvm.ClassFile
def u (s : String) : CpInfo := .utf8 (stringToUtf16 s)
/-- a pool by its gaps: so many unusable entries, then the entry; so many at the end -/
def gap : Nat → List CpInfo → List CpInfo
  | 0, r => r
  | n + 1, r => .unusable :: gap n r
def poolList (es : List (Nat × CpInfo)) (last : Nat) : List CpInfo := es.foldr (fun e r => gap e.1 (e.2 :: r)) (gap last [])
def pool (es : List (Nat × CpInfo)) (last : Nat) : Array CpInfo := ⟨poolList es last⟩
def fileOf (pool : Array CpInfo) (this : Nat) (attrs : Array Attribute := #[]) (ms : Array MethodInfo := #[]) (fl : Nat := 33) (sup : Nat := 0) (ifs : Array Nat := #[]) (fds : Array FieldInfo := #[]) : ClassFile where
  minorVersion := 0
  majorVersion := 65
  constantPool := pool
  accessFlags := fl
  thisClass := this
  superClass := sup
  interfaces := ifs
  fields := fds
  methods := ms
  attributes := attrs
def plain (name : String) (sup : Option ClassId) : Class where
  name := name
  kind := .ordinary
  loader := none
  accessFlags := 33
  super := sup
  interfaces := #[]
  cf := none
  fields := #[]
  methods := #[]
  instanceTypes := #[]
  staticTypes := #[]
  resolved := #[]
  callSites := []
  init := .initialized
  statics := none
  mirror := none

def pool0 : Array CpInfo := pool [(5, u "<init>"), (0, u "()V"), (1, .class_ 10), (1, u "java/lang/Object")] 113

def k0m0 : Method := { name := "<init>", desc := "()V", sig := { parameters := [], returnType := none }, accessFlags := 1, code := none }
/-- java/lang/Object -/
def k0 : Class := { plain "java/lang/Object" none with
  accessFlags := 33
  interfaces := #[]
  cf := some (fileOf pool0 8 #[] #[{ accessFlags := 1, nameIndex := 5, descriptorIndex := 6, attributes := #[] }] 33 0 #[] #[])
  fields := #[]
  methods := #[k0m0]
  instanceTypes := #[]
  staticTypes := #[]
  resolved := Array.replicate 124 none
  statics := none }

def pool1 : Array CpInfo := pool [(2, .class_ 4), (1, u "java/lang/Object"), (0, u "<init>"), (0, u "()V"), (0, .integer 65535), (0, .methodref 9 10), (0, .class_ 11), (0, .nameAndType 12 13), (0, u "com/example/rivulet/rivulet/lang/Lexer"), (0, u "isLowerCase"), (0, u "(C)Z"), (0, .methodref 15 16), (0, .class_ 17), (0, .nameAndType 18 13), (0, u "com/example/rivulet/rivulet/lang/LexerIsLowerCasePinLaw"), (0, u "reference"), (3, u "law"), (0, u "(II)Z")] 2

def k1m0 : Method := { name := "<init>", desc := "()V", sig := { parameters := [], returnType := none }, accessFlags := 2, code := none }
def k1c1 : Code := { maxStack := 2, maxLocals := 2, code := method_2_code, exceptionTable := #[], attributes := #[] }
def k1m1 : Method := { name := "reference", desc := "(C)Z", sig := { parameters := [.char], returnType := some .boolean }, accessFlags := 10, code := some k1c1 }
def k1c2 : Code := { maxStack := 3, maxLocals := 6, code := code, exceptionTable := #[], attributes := #[] }
def k1m2 : Method := { name := "law", desc := "(II)Z", sig := { parameters := [.int, .int], returnType := some .boolean }, accessFlags := 9, code := some k1c2 }
/-- com/example/rivulet/rivulet/lang/LexerIsLowerCasePinLaw -/
def k1 : Class := { plain "com/example/rivulet/rivulet/lang/LexerIsLowerCasePinLaw" (some 0) with
  accessFlags := 49
  interfaces := #[]
  cf := some (fileOf pool1 15 #[] #[{ accessFlags := 2, nameIndex := 5, descriptorIndex := 6, attributes := #[] }, { accessFlags := 10, nameIndex := 18, descriptorIndex := 13, attributes := #[] }, { accessFlags := 9, nameIndex := 22, descriptorIndex := 23, attributes := #[] }] 49 2 #[] #[])
  fields := #[]
  methods := #[k1m0, k1m1, k1m2]
  instanceTypes := #[]
  staticTypes := #[]
  resolved := Array.replicate 26 none
  statics := none }

def pool2 : Array CpInfo := pool [(14, .class_ 16), (1, u "com/example/rivulet/rivulet/lang/Lexer"), (6, .class_ 25), (1, u "java/lang/Object"), (3, u "source"), (0, u "Lcom/example/rivulet/rivulet/lang/Source;"), (2, u "text"), (0, u "Ljava/lang/String;"), (2, u "position"), (0, u "I"), (2, u "end"), (2, u "afterOperand"), (0, u "Z"), (5, .class_ 53), (1, u "com/example/rivulet/rivulet/lang/Lexer$1"), (32, u "isLowerCase"), (0, u "(C)Z"), (129, .class_ 219), (1, u "com/example/rivulet/rivulet/lang/Lexer$Numeral")] 135

def k2c0 : Code := { maxStack := 2, maxLocals := 1, code := prog_163_method_18_code, exceptionTable := #[], attributes := #[] }
def k2m0 : Method := { name := "isLowerCase", desc := "(C)Z", sig := { parameters := [.char], returnType := some .boolean }, accessFlags := 8, code := some k2c0 }
/-- com/example/rivulet/rivulet/lang/Lexer -/
def k2 : Class := { plain "com/example/rivulet/rivulet/lang/Lexer" (some 0) with
  accessFlags := 48
  interfaces := #[]
  cf := some (fileOf pool2 14 #[.nestMembers #[51, 217]] #[{ accessFlags := 8, nameIndex := 86, descriptorIndex := 87, attributes := #[] }] 48 23 #[] #[{ accessFlags := 18, nameIndex := 29, descriptorIndex := 30, attributes := #[] }, { accessFlags := 18, nameIndex := 33, descriptorIndex := 34, attributes := #[] }, { accessFlags := 2, nameIndex := 37, descriptorIndex := 38, attributes := #[] }, { accessFlags := 18, nameIndex := 41, descriptorIndex := 38, attributes := #[] }, { accessFlags := 2, nameIndex := 44, descriptorIndex := 45, attributes := #[] }])
  fields := #[{ name := "source", type := (.object "com/example/rivulet/rivulet/lang/Source"), accessFlags := 18, slot := 0, constantValue := 0 }, { name := "text", type := (.object "java/lang/String"), accessFlags := 18, slot := 1, constantValue := 0 }, { name := "position", type := .int, accessFlags := 2, slot := 2, constantValue := 0 }, { name := "end", type := .int, accessFlags := 18, slot := 3, constantValue := 0 }, { name := "afterOperand", type := .boolean, accessFlags := 2, slot := 4, constantValue := 0 }]
  methods := #[k2m0]
  instanceTypes := #[(.object "com/example/rivulet/rivulet/lang/Source"), (.object "java/lang/String"), .int, .int, .boolean]
  staticTypes := #[]
  resolved := Array.replicate 355 none
  statics := none }

def pool3 : Array CpInfo := pool [(1, u "java/lang/Cloneable"), (0, .class_ 1), (0, u "java/lang/Object"), (0, .class_ 3)] 3

/-- java/lang/Cloneable -/
def k3 : Class := { plain "java/lang/Cloneable" (some 0) with
  accessFlags := 1537
  interfaces := #[]
  cf := some (fileOf pool3 2 #[] #[] 1537 4 #[] #[])
  fields := #[]
  methods := #[]
  instanceTypes := #[]
  staticTypes := #[]
  resolved := Array.replicate 8 none
  statics := none }

def pool4 : Array CpInfo := pool [(1, u "java/io/Serializable"), (0, .class_ 1), (0, u "java/lang/Object"), (0, .class_ 3)] 3

/-- java/io/Serializable -/
def k4 : Class := { plain "java/io/Serializable" (some 0) with
  accessFlags := 1537
  interfaces := #[]
  cf := some (fileOf pool4 2 #[] #[] 1537 4 #[] #[])
  fields := #[]
  methods := #[]
  instanceTypes := #[]
  staticTypes := #[]
  resolved := Array.replicate 8 none
  statics := none }

/-- the primitive byte -/
def k5 : Class := { plain "byte" none with kind := .primitive 'B', accessFlags := 0x411 }
/-- [B -/
def k6 : Class := { plain "[B" (some 0) with kind := .array 5 .byte, interfaces := #[3, 4], accessFlags := 1041 }

/-- the primitive int -/
def k7 : Class := { plain "int" none with kind := .primitive 'I', accessFlags := 0x411 }
/-- [I -/
def k8 : Class := { plain "[I" (some 0) with kind := .array 7 .int, interfaces := #[3, 4], accessFlags := 1041 }

def heap : Heap := #[]
def classes : Array Class := #[k0, k1, k2, k3, k4, k5, k6, k7, k8]
def interned : List (Array UInt16 × Addr) := []
def slotsUsed : Nat := 0
def theMethod : MethodId := ⟨1, 2⟩
def args0 : Array Value := #[.int 5, .int 7]
def aboutOver (below : List Frame) : State where
  vm := { classes := classes, interned := interned.toArray }
  heap := heap
  slotsUsed := slotsUsed
  threads := #[{ frames := .invoking theMethod args0 :: below }]
def below0 : List Frame := [.native { method := ⟨0, 0⟩, args := #[] }]
def about1 : State := aboutOver below0
def p0 : Program := .bare "" "" ""
def e0 : Env := launch0.env 0 0 0
theorem w_frames : about1.frames = Frame.invoking theMethod args0 :: below0 := rfl
set_option maxRecDepth 65536 in
theorem w_args : argsFit about1.vm theMethod args0 = true := by decide +kernel
set_option maxRecDepth 65536 in
theorem w_heap : heapFits about1 = true := by decide +kernel
set_option maxRecDepth 65536 in
theorem w_runnable : about1.curStatus? = some .runnable := by decide +kernel
set_option maxRecDepth 65536 in
theorem w_alone : about1.alone = true := by decide +kernel
set_option maxRecDepth 65536 in
theorem w_named : about1.methodNamed? x = some theMethod := by decide +kernel
set_option maxRecDepth 65536 in
theorem w_hears : about1.hears theMethod below0 = true := by decide +kernel
set_option maxRecDepth 65536 in
theorem w_ripe : about1.ripe theMethod args0 below0 = true := by decide +kernel
theorem w_running : about1.status = .running := rfl
set_option maxRecDepth 65536 in
theorem w_room : about1.hasRoom e0.platform room_1 = true :=
  launch0.hasRoom_least _ room_1 (by decide +kernel) (by decide +kernel) (by decide +kernel) (by decide +kernel) (by decide +kernel) (by decide +kernel)
theorem allAtoms_all (ts : List Jvm.Cond) (a : Array Jvm.Value) (st : Jvm.State) : (allAtoms ts).before a st = ts.all (fun c => c.before a st) := by
  induction ts with
  | nil => rfl
  | cons c t ih =>
    show (Jvm.Cond.and c (allAtoms t)).before a st = _
    rw [Jvm.Cond.before_and, ih, List.all_cons]
def words1 : List Jvm.Cond := Jvm.Cond.code x code maxLocals ret :: tables_1
/-- a 'code' word, met by the world's own term for the bytes: nothing is compared byte by byte -/
theorem code_word {y : MethodName} {bytes : ByteArray} {mx : Nat} {rt : Option FieldType} {a : Array Value} {s : State} {m : MethodId} {meth : Method} {c : Code} (h1 : s.methodNamed? y = some m) (h2 : s.vm.method? m = some meth) (h3 : meth.code = some c) (h4 : c.code = bytes)
    (h5 : (c.maxLocals == mx && c.exceptionTable.isEmpty && decide (c.maxStack ≤ mostOperands) && decide (meth.sig.returnType = rt) && !meth.locks && decide (parseMethodDescriptor y.desc = some meth.sig)) = true) : (Jvm.Cond.code y bytes mx rt).before a s = true := by
  simp only [Bool.and_eq_true, beq_iff_eq, Bool.not_eq_true', decide_eq_true_eq] at h5
  obtain ⟨⟨⟨⟨⟨g1, g2⟩, g3⟩, g4⟩, g5⟩, g6⟩ := h5
  simp [Cond.before, Cond.holds, Cond.value, h1, h2, h3, h4, g1, g2, g3, g4, g5, g6]
def isCode : Jvm.Cond → Bool
  | .code _ _ _ _ => true
  | _ => false
theorem all_split {L : List Jvm.Cond} {P : Jvm.Cond → Bool} (h1 : L.all (fun c => isCode c || P c) = true) (h2 : ∀ c ∈ L.filter isCode, P c = true) : L.all P = true := by
  refine List.all_eq_true.mpr fun c hc => ?_
  have h := List.all_eq_true.mp h1 c hc
  rcases Bool.eq_false_or_eq_true (isCode c) with hi | hi
  · exact h2 c (List.mem_filter.mpr ⟨hc, hi⟩)
  · simpa [hi] using h
set_option maxRecDepth 65536 in
theorem w_c0 : (Jvm.Cond.code x code maxLocals ret).before args0 about1 = true := code_word (m := ⟨1, 2⟩) (meth := k1m2) (c := k1c2) (by decide +kernel) rfl rfl rfl (by decide +kernel)
set_option maxRecDepth 65536 in
theorem w_c1 : (Jvm.Cond.code ({ cls := "com/example/rivulet/rivulet/lang/Lexer", name := "isLowerCase", desc := "(C)Z" } : Jvm.MethodName) prog_163_method_18_code (1 : Nat) (Option.some Jvm.ClassFile.FieldType.boolean)).before args0 about1 = true := code_word (m := ⟨2, 0⟩) (meth := k2m0) (c := k2c0) (by decide +kernel) rfl rfl rfl (by decide +kernel)
set_option maxRecDepth 65536 in
theorem w_c2 : (Jvm.Cond.code ({ cls := "com/example/rivulet/rivulet/lang/LexerIsLowerCasePinLaw", name := "reference", desc := "(C)Z" } : Jvm.MethodName) method_2_code (2 : Nat) (Option.some Jvm.ClassFile.FieldType.boolean)).before args0 about1 = true := code_word (m := ⟨1, 1⟩) (meth := k1m1) (c := k1c1) (by decide +kernel) rfl rfl rfl (by decide +kernel)
def codes1 : List Jvm.Cond := [Jvm.Cond.code x code maxLocals ret, Jvm.Cond.code ({ cls := "com/example/rivulet/rivulet/lang/Lexer", name := "isLowerCase", desc := "(C)Z" } : Jvm.MethodName) prog_163_method_18_code (1 : Nat) (Option.some Jvm.ClassFile.FieldType.boolean), Jvm.Cond.code ({ cls := "com/example/rivulet/rivulet/lang/LexerIsLowerCasePinLaw", name := "reference", desc := "(C)Z" } : Jvm.MethodName) method_2_code (2 : Nat) (Option.some Jvm.ClassFile.FieldType.boolean)]
set_option maxRecDepth 65536 in
theorem codes_eq : words1.filter isCode = codes1 := rfl
theorem w_codes : ∀ c ∈ words1.filter isCode, c.before args0 about1 = true := by
  rw [codes_eq]
  intro c hc
  simp only [codes1, List.mem_cons, List.not_mem_nil, or_false] at hc
  rcases hc with rfl | rfl | rfl
  · exact w_c0
  · exact w_c1
  · exact w_c2
set_option maxRecDepth 65536 in
theorem w_t1 : words1.all (fun c => isCode c || c.before args0 about1) = true := by decide +kernel
theorem w_tables : (allAtoms (Jvm.Cond.code x code maxLocals ret :: tables_1)).before args0 about1 = true := by
  rw [allAtoms_all]
  show words1.all (fun c => c.before args0 about1) = true
  refine all_split ?_ w_codes
  rw [w_t1]
set_option maxRecDepth 65536 in
theorem w_case : (Jvm.Cond.and given_1 narrow_1).before args0 about1 = true := by decide +kernel
theorem w_applies : (headSpec (Jvm.Cond.code x code maxLocals ret :: tables_1) room_1).applies x e0.platform about1 = true :=
  (Spec.applies_iff w_frames).mpr ⟨w_running, w_runnable, w_alone, w_named, w_hears, w_ripe, w_room, w_tables⟩
theorem atStart : AtStart classFile x code maxLocals ret World_1 tables_1 room_1 Calls_1 rest_1 Pre_1 launch0 p0 e0 about1 theMethod args0 below0 :=
  ⟨lists_1, trivial, launch0.admits_env _ _ _, launch0.least_env, fairChoices_fair.cas, fairChoices_fair.clock, w_frames, w_args, w_heap, w_applies, trivial, trivial, w_case⟩
end start1
theorem witness_1 : WitnessClaimed_1 := ⟨start1.p0, start1.e0, start1.about1, start1.theMethod, start1.args0, start1.below0, start1.atStart⟩
end Jvm.Pilot.@@N@@
