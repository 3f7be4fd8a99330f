import JvmDerived
import JvmDerived.Pilot.@@N@@Statement
import JvmDerived.Pilot.@@N@@Code
set_option linter.unusedVariables false
set_option linter.unusedSimpArgs false
@@BLOCK:NumsL.lean.txt@@
namespace Jvm.RoadKit
open Sem ClassFile Op Lib Jvm.Stand Jvm.Free Jvm.LawKit
section New
variable {p : Program} {l : Launch} {e : Env} {R : Room} {s : State} {m : MethodId} {args : Array Value} {below : List Frame} {meth : Method} {c : Code} {T : State} {locs : List Loc} {cells slots : Nat}
theorem retI (X : Stand p l e R s m args below meth c T locs cells slots) (hx : p.tables.exec = Jvm.exec) {pc : Nat} {Ls : Array Slot} {z : Int32} {rest : List Value} (hret : meth.sig.returnType = some .int) (hd : decode c.code pc = .ok (.ireturn, 1)) {fs : List Frame}
    (hl : ∀ (f : JFrame) (acts : List Action), f.method = m → f.locked = none → f.entered = [] → (doReturn e (T.setTop f) acts (some (.int z))).1 = T.setFrames fs) : Steps p.tables e below (T.setTop (mkF m pc Ls (.int z :: rest))) (T.setFrames fs) := by
  have hm' : T.vm.method? m = some meth := X.method'
  have hn : narrow .int (.int z) = .int z := rfl
  show Steps p.tables e below (T.setTop { method := m, pc := pc, locals := Ls, stack := _ :: rest, locked := none }) _
  jvm_step X.here [X.here.top, hx, hd, hm', hret, hn]
  first | (intro acts; rw [hl _ acts rfl rfl rfl]) | rw [hl _ _ rfl rfl rfl]
  exact Steps.refl _
end New
end Jvm.RoadKit
namespace Jvm.Pilot.@@N@@
open Jvm Jvm.ClassFile Sem Op Lib Jvm.Free Jvm.Stand Jvm.LawKit Jvm.RoadKit Bundle Jvm.Pilot.@@N@@.Jvm.D
/-- from here the run comes to an end of which G holds -/
def Go (tb : Tables) (e : Env) (below : List Frame) (G : State → Outcome → Prop) (U : State) : Prop := ∃ t o, Steps tb e below U t ∧ G t o
theorem Go.st {tb : Tables} {e : Env} {below : List Frame} {G : State → Outcome → Prop} {U U' : State} (h : ∀ t, Steps tb e below U' t → Steps tb e below U t) (k : Go tb e below G U') : Go tb e below G U :=
  let ⟨t, o, a, b⟩ := k
  ⟨t, o, h t a, b⟩
theorem Go.start {tb : Tables} {e : Env} {below : List Frame} {G0 : State → Outcome → Prop} {U : State} (h : ∀ G, G = G0 → Go tb e below G U) : Go tb e below G0 U := h _ rfl
theorem Go.join {tb : Tables} {e : Env} {below : List Frame} {G : State → Outcome → Prop} {U : State} {α : Type} {F : α → State} (k : ∀ z, Go tb e below G (F z)) (h : (∀ z, Go tb e below G (F z)) → Go tb e below G U) : Go tb e below G U := h k
theorem Go.joinR {tb : Tables} {e : Env} {below : List Frame} {G : State → Outcome → Prop} {U : State} {α : Type} {F : α → State} {R : α → Prop} (k : ∀ z, R z → Go tb e below G (F z)) (h : (∀ z, R z → Go tb e below G (F z)) → Go tb e below G U) : Go tb e below G U := h k
theorem own_lrem {tb : Tables} {e : Env} {below : List Frame} {T target : State} {g : JFrame} {n : Nat} {x y : Int64} {rest : List Value} (k : Steps tb e below (T.setTop { g with pc := n, stack := .long (x % y) :: rest }) target) :
    Steps tb e below (T.setTop { g with pc := n, stack := .long (x - (x / y) * y) :: rest }) target := by
  rw [lrem_mod]
  exact k
theorem i64_addc (x y : Int64) : (x + y).toInt = x.toInt + y.toInt ∧ -2 ^ 63 ≤ x.toInt + y.toInt ∧ x.toInt + y.toInt < 2 ^ 63 ∨ (x + y).toInt = x.toInt + y.toInt - 2 ^ 64 ∧ 2 ^ 63 ≤ x.toInt + y.toInt ∨ (x + y).toInt = x.toInt + y.toInt + 2 ^ 64 ∧ x.toInt + y.toInt < -2 ^ 63 := by
  have h := Int64.toInt_add x y
  have a1 := Int64.le_toInt x
  have a2 := Int64.toInt_lt x
  have b1 := Int64.le_toInt y
  have b2 := Int64.toInt_lt y
  rw [Int.bmod_def] at h
  split at h <;> omega
theorem i64_subc (x y : Int64) : (x - y).toInt = x.toInt - y.toInt ∧ -2 ^ 63 ≤ x.toInt - y.toInt ∧ x.toInt - y.toInt < 2 ^ 63 ∨ (x - y).toInt = x.toInt - y.toInt - 2 ^ 64 ∧ 2 ^ 63 ≤ x.toInt - y.toInt ∨ (x - y).toInt = x.toInt - y.toInt + 2 ^ 64 ∧ x.toInt - y.toInt < -2 ^ 63 := by
  have h := Int64.toInt_sub x y
  have a1 := Int64.le_toInt x
  have a2 := Int64.toInt_lt x
  have b1 := Int64.le_toInt y
  have b2 := Int64.toInt_lt y
  rw [Int.bmod_def] at h
  split at h <;> omega
theorem i32_i2c (x : Int32) : (x.toUInt32.toUInt16.toUInt32.toInt32).toInt = x.toInt % 65536 := by
  have h1 : (x.toUInt32.toUInt16.toUInt32.toInt32).toInt = ((x.toUInt32.toUInt16.toUInt32).toNat : Int).bmod (2 ^ 32) := by
    rw [← Int32.toInt_toBitVec, BitVec.toInt_eq_toNat_bmod]; rfl
  have h2 : (x.toUInt32.toUInt16.toUInt32).toNat = x.toBitVec.toNat % 65536 := by
    simp [UInt32.toNat_toUInt16, UInt16.toNat_toUInt32]; rfl
  have h3 : x.toInt = (x.toBitVec.toNat : Int).bmod (2 ^ 32) := by
    rw [← Int32.toInt_toBitVec, BitVec.toInt_eq_toNat_bmod]
  have h4 := x.toBitVec.isLt
  rw [h1, h2, h3, Int.bmod_def, Int.bmod_def]
  split <;> split <;> omega
theorem i32_addc (x y : Int32) : (x + y).toInt = x.toInt + y.toInt ∧ -2 ^ 31 ≤ x.toInt + y.toInt ∧ x.toInt + y.toInt < 2 ^ 31 ∨ (x + y).toInt = x.toInt + y.toInt - 2 ^ 32 ∧ 2 ^ 31 ≤ x.toInt + y.toInt ∨ (x + y).toInt = x.toInt + y.toInt + 2 ^ 32 ∧ x.toInt + y.toInt < -2 ^ 31 := by
  have h := Int32.toInt_add x y
  have a1 := Int32.le_toInt x
  have a2 := Int32.toInt_lt x
  have b1 := Int32.le_toInt y
  have b2 := Int32.toInt_lt y
  rw [Int.bmod_def] at h
  split at h <;> omega
theorem i32_subc (x y : Int32) : (x - y).toInt = x.toInt - y.toInt ∧ -2 ^ 31 ≤ x.toInt - y.toInt ∧ x.toInt - y.toInt < 2 ^ 31 ∨ (x - y).toInt = x.toInt - y.toInt - 2 ^ 32 ∧ 2 ^ 31 ≤ x.toInt - y.toInt ∨ (x - y).toInt = x.toInt - y.toInt + 2 ^ 32 ∧ x.toInt - y.toInt < -2 ^ 31 := by
  have h := Int32.toInt_sub x y
  have a1 := Int32.le_toInt x
  have a2 := Int32.toInt_lt x
  have b1 := Int32.le_toInt y
  have b2 := Int32.toInt_lt y
  rw [Int.bmod_def] at h
  split at h <;> omega
theorem own_eq32 {a b : Int32} (h : a.toInt = b.toInt) : a = b := Int32.toInt_inj.mp h
theorem own_eq64 {a b : Int64} (h : a.toInt = b.toInt) : a = b := Int64.toInt_inj.mp h
theorem own_lt64 {a b : Int64} (h : a.toInt < b.toInt) : a < b := Int64.lt_iff_toInt_lt.mpr h
theorem own_lt32 {a b : Int32} (h : a.toInt < b.toInt) : a < b := Int32.lt_iff_toInt_lt.mpr h
theorem own_nlt64 {a b : Int64} (h : b.toInt ≤ a.toInt) : ¬ a < b := fun z => by have := Int64.lt_iff_toInt_lt.mp z; omega
theorem own_nlt32 {a b : Int32} (h : b.toInt ≤ a.toInt) : ¬ a < b := fun z => by have := Int32.lt_iff_toInt_lt.mp z; omega
theorem own_ne32 {a b : Int32} (h : a.toInt ≠ b.toInt) : ¬ a = b := fun z => h (by rw [z])
theorem own_ne64 {a b : Int64} (h : a.toInt ≠ b.toInt) : ¬ a = b := fun z => h (by rw [z])
def pickF (i : Int32) (a b c : Addr) : Addr := if i = 0 then a else if i = 1 then b else c
def fitF (o p a b : Addr) : Int32 := if o = p then 1 else if o = a then if p = b then 1 else 0 else 0
theorem own_k3 {m v : Int32} (h : (m &&& (2147483647 : Int32)) % (3 : Int32) = v) : v = 0 ∨ v = 1 ∨ v = 2 := by
  have h1 := Jvm.Kit.i32_mask m (2147483647 : Int32) (k := 31) (by decide) (by decide)
  have h5 : (3 : Int32).toInt = 3 := by decide
  have h6 : v.toInt = m.toInt % 2 ^ 31 % 3 := by rw [← h, Jvm.Kit.i32_rem_nonneg (by omega), h5, h1]
  have e0 : (0 : Int32).toInt = 0 := by decide
  have e1 : (1 : Int32).toInt = 1 := by decide
  have e2 : (2 : Int32).toInt = 2 := by decide
  rw [← Int32.toInt_inj, ← Int32.toInt_inj, ← Int32.toInt_inj, e0, e1, e2]
  omega
theorem pn_0 : plainName "com/example/rivulet/rivulet/lang/TypeFitsPinLaw" = true := by first | (simp [plainName, overriddenIn]; done) | decide +kernel
theorem d_pick_0 : decode method_2_code 0 = .ok (.iload_n 0, 1) := by decide +kernel
theorem d_pick_1 : decode method_2_code 1 = .ok (.ifCond .ne 7, 3) := by decide +kernel
theorem d_pick_4 : decode method_2_code 4 = .ok (.getstatic 7, 3) := by decide +kernel
theorem d_pick_7 : decode method_2_code 7 = .ok (.areturn, 1) := by decide +kernel
theorem d_pick_8 : decode method_2_code 8 = .ok (.iload_n 0, 1) := by decide +kernel
theorem d_pick_9 : decode method_2_code 9 = .ok (.iconst 1, 1) := by decide +kernel
theorem d_pick_10 : decode method_2_code 10 = .ok (.if_icmp .ne 7, 3) := by decide +kernel
theorem d_pick_13 : decode method_2_code 13 = .ok (.getstatic 13, 3) := by decide +kernel
theorem d_pick_16 : decode method_2_code 16 = .ok (.areturn, 1) := by decide +kernel
theorem d_pick_17 : decode method_2_code 17 = .ok (.getstatic 16, 3) := by decide +kernel
theorem d_pick_20 : decode method_2_code 20 = .ok (.areturn, 1) := by decide +kernel
theorem ef_pick (m : MethodId) (pi : Int32) : entryFrame m #[(.int pi)] 1 = mkF m 0 #[.val (.int pi)] [] := by first | (simp [entryFrame, mkF, argsToLocals, Value.category]; done) | rfl
def Q_pick (Z : State) (pi : Int32) (aI : Addr) (aR : Addr) (aT : Addr) (h0 : Heap) (n0 : Nat) (v : Option Value) (h : Heap) (L : List Loc) : Prop := v = some (.ref (pickF pi aI aR aT)) ∧ Fr n0 L ∧ h = h0
set_option maxRecDepth 65536 in
set_option maxHeartbeats 40000000 in
theorem rm_pick (l : Launch) (Z : State) (a0 : Array Value) (hw : ∀ d ∈ tables_1, d.before a0 Z = true) (ws : List Jvm.Cond) (pi : Int32) (aI : Addr) (aR : Addr) (aT : Addr) (h0 : Heap) (n0 : Nat) (Z0 : n0 ≤ h0.size) (P0 : Sta Z h0 "com/example/rivulet/rivulet/lang/Type" "INT" "Lcom/example/rivulet/rivulet/lang/Type;" (.ref aI)) (P1 : Sta Z h0 "com/example/rivulet/rivulet/lang/Type" "REAL" "Lcom/example/rivulet/rivulet/lang/Type;" (.ref aR)) (P2 : Sta Z h0 "com/example/rivulet/rivulet/lang/Type" "TEXT" "Lcom/example/rivulet/rivulet/lang/Type;" (.ref aT)) :
    MetFree l (⟨"com/example/rivulet/rivulet/lang/TypeFitsPinLaw", "pick", "(I)Lcom/example/rivulet/rivulet/lang/Type;"⟩ : MethodName) (head1 (Jvm.Cond.code (⟨"com/example/rivulet/rivulet/lang/TypeFitsPinLaw", "pick", "(I)Lcom/example/rivulet/rivulet/lang/Type;"⟩ : MethodName) method_2_code 1 (some (.object "com/example/rivulet/rivulet/lang/Type")) :: ws) ({ frames := 0, cells := 0, slots := 0, locals := 0 } : Room)) (fun a U => a = #[(.int pi)] ∧ Z.Warmed39 U.vm ∧ U.heap = h0) (fun _ _ _ _ _ => True) (fun _ U o U' => ∃ v L, o = .returned v ∧ Q_pick Z pi aI aR aT h0 n0 v U'.heap L ∧ FrameEnd U o U' L ({ frames := 0, cells := 0, slots := 0, locals := 0 } : Room).cells ({ frames := 0, cells := 0, slots := 0, locals := 0 } : Room).slots) := by
  refine MetFree.of_bodySF (plainFor_of_name pn_0) hisR ?_
  intro p e s m args below meth c s₁ Bd hml0 hP hK
  obtain ⟨rfl, hZ, hh⟩ := hP
  have hx := Bd.exec
  have hby := Bd.bytes
  have hml : c.maxLocals = 1 := hml0
  have hown : s.vm.findClass "com/example/rivulet/rivulet/lang/TypeFitsPinLaw" = some m.cls := findClass_of_methodNamed Bd.named
  have hnm := (name_of_methodNamed Bd.named Bd.method).1
  have X0 : Stand p l e ({ frames := 0, cells := 0, slots := 0, locals := 0 } : Room) s m #[(.int pi)] below meth c s₁ [] 0 0 := Stand.of_body Bd
  have e0 : s₁.heap = h0 := by rw [← hh, Bd.state]; rfl
  have N0 := Fr.nil n0
  have K0 : Keep h0 h0 [] := Keep.refl h0 []
  show Go p.tables e below _ (s₁.setTop (entryFrame m #[(.int pi)] 1))
  refine Go.start ?_
  intro G hG
  refine Go.st (fun t k => castTop (ef_pick m pi) k) ?_
  show Go p.tables e below _ (s₁.setTop (mkF m 0 #[.val (.int pi)] []))
  refine Go.st (fun _ k => XS.iloadN X0.here hx rfl (hb hby d_pick_0) rfl k) ?_
  show Go p.tables e below _ (s₁.setTop (mkF m 1 #[.val (.int pi)] [(.int pi)]))
  by_cases hc1 : pi = (0 : Int32)
  · skip
    refine Go.st (fun _ k => XS.ifNo X0.here hx rfl (hb hby d_pick_1) rfl (Jvm.Free.XT.i0_ne_f hc1) k) ?_
    show Go p.tables e below _ (s₁.setTop (mkF m 4 #[.val (.int pi)] []))
    obtain ⟨T1, X1, e1, st1⟩ := getS2 X0 hx hZ hown (host := "") (Or.inl (hw _ (List.mem_of_getElem? (i := 5) rfl))) Via.refl e0 P0 (g := (mkF m 4 #[.val (.int pi)] [])) rfl (hb hby d_pick_4)
    refine Go.st st1 ?_
    show Go p.tables e below _ (T1.setTop (mkF m 7 #[.val (.int pi)] [(.ref aI)]))
    subst hG
    obtain ⟨fs, hr, hrun, hended, hW, hsame⟩ := X1.leave (v := some (.ref aI)) (fun h => by rw [Bd.returns] at h; cases h)
    refine ⟨_, _, ?_, hrun, hended, _, _, rfl, ?_, ⟨_, rfl⟩, hW, hsame.mono (by decide) (by decide)⟩
    · exact retOut X1 hx Bd.returns rfl (Or.inr (Or.inr (Or.inr (Or.inr ⟨rfl, rfl, rfl⟩)))) (hb hby d_pick_7) hr
    · show Q_pick Z pi aI aR aT h0 n0 _ T1.heap _
      rw [e1]
      exact ⟨(by simp [pickF, hc1]), N0, rfl⟩
  · skip
    refine Go.st (fun _ k => XS.ifYes X0.here hx rfl (pc0 := 1) (pc' := 8) rfl (hb hby d_pick_1) rfl (Jvm.Free.XT.i0_ne_t hc1) (by decide) (by decide) k) ?_
    show Go p.tables e below _ (s₁.setTop (mkF m 8 #[.val (.int pi)] []))
    refine Go.st (fun _ k => XS.iloadN X0.here hx rfl (hb hby d_pick_8) rfl k) ?_
    show Go p.tables e below _ (s₁.setTop (mkF m 9 #[.val (.int pi)] [(.int pi)]))
    refine Go.st (fun _ k => XS.iconst X0.here hx rfl (hb hby d_pick_9) k) ?_
    show Go p.tables e below _ (s₁.setTop (mkF m 10 #[.val (.int pi)] [(.int (1 : Int32)), (.int pi)]))
    by_cases hc10 : pi = (1 : Int32)
    · skip
      refine Go.st (fun _ k => XS.icmpNo X0.here hx rfl (hb hby d_pick_10) rfl (Jvm.Free.XT.ii_ne_f hc10) k) ?_
      show Go p.tables e below _ (s₁.setTop (mkF m 13 #[.val (.int pi)] []))
      obtain ⟨T2, X2, e2, st2⟩ := getS2 X0 hx hZ hown (host := "") (Or.inl (hw _ (List.mem_of_getElem? (i := 16) rfl))) Via.refl e0 P1 (g := (mkF m 13 #[.val (.int pi)] [])) rfl (hb hby d_pick_13)
      refine Go.st st2 ?_
      show Go p.tables e below _ (T2.setTop (mkF m 16 #[.val (.int pi)] [(.ref aR)]))
      subst hG
      obtain ⟨fs, hr, hrun, hended, hW, hsame⟩ := X2.leave (v := some (.ref aR)) (fun h => by rw [Bd.returns] at h; cases h)
      refine ⟨_, _, ?_, hrun, hended, _, _, rfl, ?_, ⟨_, rfl⟩, hW, hsame.mono (by decide) (by decide)⟩
      · exact retOut X2 hx Bd.returns rfl (Or.inr (Or.inr (Or.inr (Or.inr ⟨rfl, rfl, rfl⟩)))) (hb hby d_pick_16) hr
      · show Q_pick Z pi aI aR aT h0 n0 _ T2.heap _
        rw [e2]
        exact ⟨(by simp [pickF, hc1, hc10]), N0, rfl⟩
    · skip
      refine Go.st (fun _ k => XS.icmpYes X0.here hx rfl (pc0 := 10) (pc' := 17) rfl (hb hby d_pick_10) rfl (Jvm.Free.XT.ii_ne_t hc10) (by decide) (by decide) k) ?_
      show Go p.tables e below _ (s₁.setTop (mkF m 17 #[.val (.int pi)] []))
      obtain ⟨T3, X3, e3, st3⟩ := getS2 X0 hx hZ hown (host := "") (Or.inl (hw _ (List.mem_of_getElem? (i := 14) rfl))) Via.refl e0 P2 (g := (mkF m 17 #[.val (.int pi)] [])) rfl (hb hby d_pick_17)
      refine Go.st st3 ?_
      show Go p.tables e below _ (T3.setTop (mkF m 20 #[.val (.int pi)] [(.ref aT)]))
      subst hG
      obtain ⟨fs, hr, hrun, hended, hW, hsame⟩ := X3.leave (v := some (.ref aT)) (fun h => by rw [Bd.returns] at h; cases h)
      refine ⟨_, _, ?_, hrun, hended, _, _, rfl, ?_, ⟨_, rfl⟩, hW, hsame.mono (by decide) (by decide)⟩
      · exact retOut X3 hx Bd.returns rfl (Or.inr (Or.inr (Or.inr (Or.inr ⟨rfl, rfl, rfl⟩)))) (hb hby d_pick_20) hr
      · show Q_pick Z pi aI aR aT h0 n0 _ T3.heap _
        rw [e3]
        exact ⟨(by simp [pickF, hc1, hc10]), N0, rfl⟩
theorem pn_1 : plainName "com/example/rivulet/rivulet/lang/Type" = true := by first | (simp [plainName, overriddenIn]; done) | decide +kernel
theorem d_fits_0 : decode prog_199_method_6_code 0 = .ok (.aload_n 0, 1) := by decide +kernel
theorem d_fits_1 : decode prog_199_method_6_code 1 = .ok (.aload_n 1, 1) := by decide +kernel
theorem d_fits_2 : decode prog_199_method_6_code 2 = .ok (.if_acmp .eq 17, 3) := by decide +kernel
theorem d_fits_5 : decode prog_199_method_6_code 5 = .ok (.aload_n 0, 1) := by decide +kernel
theorem d_fits_6 : decode prog_199_method_6_code 6 = .ok (.getstatic 3, 3) := by decide +kernel
theorem d_fits_9 : decode prog_199_method_6_code 9 = .ok (.if_acmp .ne 14, 3) := by decide +kernel
theorem d_fits_12 : decode prog_199_method_6_code 12 = .ok (.aload_n 1, 1) := by decide +kernel
theorem d_fits_13 : decode prog_199_method_6_code 13 = .ok (.getstatic 7, 3) := by decide +kernel
theorem d_fits_16 : decode prog_199_method_6_code 16 = .ok (.if_acmp .ne 7, 3) := by decide +kernel
theorem d_fits_19 : decode prog_199_method_6_code 19 = .ok (.iconst 1, 1) := by decide +kernel
theorem d_fits_20 : decode prog_199_method_6_code 20 = .ok (.goto 4, 3) := by decide +kernel
theorem d_fits_23 : decode prog_199_method_6_code 23 = .ok (.iconst 0, 1) := by decide +kernel
theorem d_fits_24 : decode prog_199_method_6_code 24 = .ok (.ireturn, 1) := by decide +kernel
theorem ef_fits (m : MethodId) (ao : Addr) (bo : Addr) : entryFrame m #[(.ref ao), (.ref bo)] 2 = mkF m 0 #[.val (.ref ao), .val (.ref bo)] [] := by first | (simp [entryFrame, mkF, argsToLocals, Value.category]; done) | rfl
def Q_fits (Z : State) (ao : Addr) (bo : Addr) (aI : Addr) (aR : Addr) (h0 : Heap) (n0 : Nat) (v : Option Value) (h : Heap) (L : List Loc) : Prop := v = some (.int (fitF ao bo aI aR)) ∧ Fr n0 L ∧ h = h0
set_option maxRecDepth 65536 in
set_option maxHeartbeats 40000000 in
theorem rm_fits (l : Launch) (Z : State) (a0 : Array Value) (hw : ∀ d ∈ tables_1, d.before a0 Z = true) (ws : List Jvm.Cond) (ao : Addr) (bo : Addr) (aI : Addr) (aR : Addr) (h0 : Heap) (n0 : Nat) (Z0 : n0 ≤ h0.size) (P0 : Sta Z h0 "com/example/rivulet/rivulet/lang/Type" "INT" "Lcom/example/rivulet/rivulet/lang/Type;" (.ref aI)) (P1 : Sta Z h0 "com/example/rivulet/rivulet/lang/Type" "REAL" "Lcom/example/rivulet/rivulet/lang/Type;" (.ref aR)) :
    MetFree l (⟨"com/example/rivulet/rivulet/lang/Type", "fits", "(Lcom/example/rivulet/rivulet/lang/Type;)Z"⟩ : MethodName) (head1 (Jvm.Cond.code (⟨"com/example/rivulet/rivulet/lang/Type", "fits", "(Lcom/example/rivulet/rivulet/lang/Type;)Z"⟩ : MethodName) prog_199_method_6_code 2 (some .boolean) :: ws) ({ frames := 0, cells := 0, slots := 0, locals := 0 } : Room)) (fun a U => a = #[(.ref ao), (.ref bo)] ∧ Z.Warmed39 U.vm ∧ U.heap = h0) (fun _ _ _ _ _ => True) (fun _ U o U' => ∃ v L, o = .returned v ∧ Q_fits Z ao bo aI aR h0 n0 v U'.heap L ∧ FrameEnd U o U' L ({ frames := 0, cells := 0, slots := 0, locals := 0 } : Room).cells ({ frames := 0, cells := 0, slots := 0, locals := 0 } : Room).slots) := by
  refine MetFree.of_bodySF (plainFor_of_name pn_1) hisR ?_
  intro p e s m args below meth c s₁ Bd hml0 hP hK
  obtain ⟨rfl, hZ, hh⟩ := hP
  have hx := Bd.exec
  have hby := Bd.bytes
  have hml : c.maxLocals = 2 := hml0
  have hown : s.vm.findClass "com/example/rivulet/rivulet/lang/Type" = some m.cls := findClass_of_methodNamed Bd.named
  have hnm := (name_of_methodNamed Bd.named Bd.method).1
  have X0 : Stand p l e ({ frames := 0, cells := 0, slots := 0, locals := 0 } : Room) s m #[(.ref ao), (.ref bo)] below meth c s₁ [] 0 0 := Stand.of_body Bd
  have e0 : s₁.heap = h0 := by rw [← hh, Bd.state]; rfl
  have N0 := Fr.nil n0
  have K0 : Keep h0 h0 [] := Keep.refl h0 []
  show Go p.tables e below _ (s₁.setTop (entryFrame m #[(.ref ao), (.ref bo)] 2))
  refine Go.start ?_
  intro G hG
  refine Go.st (fun t k => castTop (ef_fits m ao bo) k) ?_
  show Go p.tables e below _ (s₁.setTop (mkF m 0 #[.val (.ref ao), .val (.ref bo)] []))
  refine Go.st (fun _ k => XS.aloadN X0.here hx rfl (hb hby d_fits_0) rfl rfl k) ?_
  show Go p.tables e below _ (s₁.setTop (mkF m 1 #[.val (.ref ao), .val (.ref bo)] [(.ref ao)]))
  refine Go.st (fun _ k => XS.aloadN X0.here hx rfl (hb hby d_fits_1) rfl rfl k) ?_
  show Go p.tables e below _ (s₁.setTop (mkF m 2 #[.val (.ref ao), .val (.ref bo)] [(.ref bo), (.ref ao)]))
  by_cases ha2 : ao = bo
  · skip
    refine Go.st (fun _ k => Jvm.RoadKit.acmp (g := (mkF m 2 #[.val (.ref ao), .val (.ref bo)] [(.ref bo), (.ref ao)])) X0 hx rfl rfl rfl (pc0 := 2) (pc' := 19) (same := true) rfl (hb hby d_fits_2) rfl (decide_eq_true (congrArg Value.ref ha2)) (by decide) (by decide) k) ?_
    show Go p.tables e below _ (s₁.setTop (mkF m 19 #[.val (.ref ao), .val (.ref bo)] []))
    refine Go.st (fun _ k => XS.iconst X0.here hx rfl (hb hby d_fits_19) k) ?_
    show Go p.tables e below _ (s₁.setTop (mkF m 20 #[.val (.ref ao), .val (.ref bo)] [(.int (1 : Int32))]))
    refine Go.st (fun _ k => XS.goto X0.here hx rfl (pc0 := 20) (pc' := 24) rfl (hb hby d_fits_20) (by decide) (by decide) k) ?_
    show Go p.tables e below _ (s₁.setTop (mkF m 24 #[.val (.ref ao), .val (.ref bo)] [(.int (1 : Int32))]))
    subst hG
    obtain ⟨fs, hr, hrun, hended, hW, hsame⟩ := X0.leave (v := some (.int (nar .boolean (1 : Int32)))) (fun h => by rw [Bd.returns] at h; cases h)
    refine ⟨_, _, ?_, hrun, hended, _, _, rfl, ?_, ⟨_, rfl⟩, hW, hsame.mono (by decide) (by decide)⟩
    · exact retN X0 hx (t := .boolean) Bd.returns (by simp) (hb hby d_fits_24) hr
    · show Q_fits Z ao bo aI aR h0 n0 _ s₁.heap _
      rw [e0]
      exact ⟨(by show some (Value.int (1 : Int32)) = _; simp only [fitF, if_pos ha2]), N0, rfl⟩
  · skip
    refine Go.st (fun _ k => Jvm.RoadKit.acmp (g := (mkF m 2 #[.val (.ref ao), .val (.ref bo)] [(.ref bo), (.ref ao)])) X0 hx rfl rfl rfl (pc0 := 2) (pc' := 5) (same := false) rfl (hb hby d_fits_2) rfl (decide_eq_false fun q => ha2 (Value.ref.inj q)) (by decide) (by decide) k) ?_
    show Go p.tables e below _ (s₁.setTop (mkF m 5 #[.val (.ref ao), .val (.ref bo)] []))
    refine Go.st (fun _ k => XS.aloadN X0.here hx rfl (hb hby d_fits_5) rfl rfl k) ?_
    show Go p.tables e below _ (s₁.setTop (mkF m 6 #[.val (.ref ao), .val (.ref bo)] [(.ref ao)]))
    obtain ⟨T1, X1, e1, st1⟩ := getS2 X0 hx hZ hown (host := "") (Or.inl (hw _ (List.mem_of_getElem? (i := 18) rfl))) Via.refl e0 P0 (g := (mkF m 6 #[.val (.ref ao), .val (.ref bo)] [(.ref ao)])) rfl (hb hby d_fits_6)
    refine Go.st st1 ?_
    show Go p.tables e below _ (T1.setTop (mkF m 9 #[.val (.ref ao), .val (.ref bo)] [(.ref aI), (.ref ao)]))
    by_cases ha9 : ao = aI
    · skip
      refine Go.st (fun _ k => Jvm.RoadKit.acmp (g := (mkF m 9 #[.val (.ref ao), .val (.ref bo)] [(.ref aI), (.ref ao)])) X1 hx rfl rfl rfl (pc0 := 9) (pc' := 12) (same := true) rfl (hb hby d_fits_9) rfl (decide_eq_true (congrArg Value.ref ha9)) (by decide) (by decide) k) ?_
      show Go p.tables e below _ (T1.setTop (mkF m 12 #[.val (.ref ao), .val (.ref bo)] []))
      refine Go.st (fun _ k => XS.aloadN X1.here hx rfl (hb hby d_fits_12) rfl rfl k) ?_
      show Go p.tables e below _ (T1.setTop (mkF m 13 #[.val (.ref ao), .val (.ref bo)] [(.ref bo)]))
      obtain ⟨T2, X2, e2, st2⟩ := getS2 X1 hx hZ hown (host := "") (Or.inl (hw _ (List.mem_of_getElem? (i := 19) rfl))) Via.refl e1 P1 (g := (mkF m 13 #[.val (.ref ao), .val (.ref bo)] [(.ref bo)])) rfl (hb hby d_fits_13)
      refine Go.st st2 ?_
      show Go p.tables e below _ (T2.setTop (mkF m 16 #[.val (.ref ao), .val (.ref bo)] [(.ref aR), (.ref bo)]))
      by_cases ha16 : bo = aR
      · skip
        refine Go.st (fun _ k => Jvm.RoadKit.acmp (g := (mkF m 16 #[.val (.ref ao), .val (.ref bo)] [(.ref aR), (.ref bo)])) X2 hx rfl rfl rfl (pc0 := 16) (pc' := 19) (same := true) rfl (hb hby d_fits_16) rfl (decide_eq_true (congrArg Value.ref ha16)) (by decide) (by decide) k) ?_
        show Go p.tables e below _ (T2.setTop (mkF m 19 #[.val (.ref ao), .val (.ref bo)] []))
        refine Go.st (fun _ k => XS.iconst X2.here hx rfl (hb hby d_fits_19) k) ?_
        show Go p.tables e below _ (T2.setTop (mkF m 20 #[.val (.ref ao), .val (.ref bo)] [(.int (1 : Int32))]))
        refine Go.st (fun _ k => XS.goto X2.here hx rfl (pc0 := 20) (pc' := 24) rfl (hb hby d_fits_20) (by decide) (by decide) k) ?_
        show Go p.tables e below _ (T2.setTop (mkF m 24 #[.val (.ref ao), .val (.ref bo)] [(.int (1 : Int32))]))
        subst hG
        obtain ⟨fs, hr, hrun, hended, hW, hsame⟩ := X2.leave (v := some (.int (nar .boolean (1 : Int32)))) (fun h => by rw [Bd.returns] at h; cases h)
        refine ⟨_, _, ?_, hrun, hended, _, _, rfl, ?_, ⟨_, rfl⟩, hW, hsame.mono (by decide) (by decide)⟩
        · exact retN X2 hx (t := .boolean) Bd.returns (by simp) (hb hby d_fits_24) hr
        · show Q_fits Z ao bo aI aR h0 n0 _ T2.heap _
          rw [e2]
          exact ⟨(by show some (Value.int (1 : Int32)) = _; simp only [fitF, if_neg ha2, if_pos ha9, if_pos ha16]), N0, rfl⟩
      · skip
        refine Go.st (fun _ k => Jvm.RoadKit.acmp (g := (mkF m 16 #[.val (.ref ao), .val (.ref bo)] [(.ref aR), (.ref bo)])) X2 hx rfl rfl rfl (pc0 := 16) (pc' := 23) (same := false) rfl (hb hby d_fits_16) rfl (decide_eq_false fun q => ha16 (Value.ref.inj q)) (by decide) (by decide) k) ?_
        show Go p.tables e below _ (T2.setTop (mkF m 23 #[.val (.ref ao), .val (.ref bo)] []))
        refine Go.st (fun _ k => XS.iconst X2.here hx rfl (hb hby d_fits_23) k) ?_
        show Go p.tables e below _ (T2.setTop (mkF m 24 #[.val (.ref ao), .val (.ref bo)] [(.int (0 : Int32))]))
        subst hG
        obtain ⟨fs, hr, hrun, hended, hW, hsame⟩ := X2.leave (v := some (.int (nar .boolean (0 : Int32)))) (fun h => by rw [Bd.returns] at h; cases h)
        refine ⟨_, _, ?_, hrun, hended, _, _, rfl, ?_, ⟨_, rfl⟩, hW, hsame.mono (by decide) (by decide)⟩
        · exact retN X2 hx (t := .boolean) Bd.returns (by simp) (hb hby d_fits_24) hr
        · show Q_fits Z ao bo aI aR h0 n0 _ T2.heap _
          rw [e2]
          exact ⟨(by show some (Value.int (0 : Int32)) = _; simp only [fitF, if_neg ha2, if_pos ha9, if_neg ha16]), N0, rfl⟩
    · skip
      refine Go.st (fun _ k => Jvm.RoadKit.acmp (g := (mkF m 9 #[.val (.ref ao), .val (.ref bo)] [(.ref aI), (.ref ao)])) X1 hx rfl rfl rfl (pc0 := 9) (pc' := 23) (same := false) rfl (hb hby d_fits_9) rfl (decide_eq_false fun q => ha9 (Value.ref.inj q)) (by decide) (by decide) k) ?_
      show Go p.tables e below _ (T1.setTop (mkF m 23 #[.val (.ref ao), .val (.ref bo)] []))
      refine Go.st (fun _ k => XS.iconst X1.here hx rfl (hb hby d_fits_23) k) ?_
      show Go p.tables e below _ (T1.setTop (mkF m 24 #[.val (.ref ao), .val (.ref bo)] [(.int (0 : Int32))]))
      subst hG
      obtain ⟨fs, hr, hrun, hended, hW, hsame⟩ := X1.leave (v := some (.int (nar .boolean (0 : Int32)))) (fun h => by rw [Bd.returns] at h; cases h)
      refine ⟨_, _, ?_, hrun, hended, _, _, rfl, ?_, ⟨_, rfl⟩, hW, hsame.mono (by decide) (by decide)⟩
      · exact retN X1 hx (t := .boolean) Bd.returns (by simp) (hb hby d_fits_24) hr
      · show Q_fits Z ao bo aI aR h0 n0 _ T1.heap _
        rw [e1]
        exact ⟨(by show some (Value.int (0 : Int32)) = _; simp only [fitF, if_neg ha2, if_neg ha9]), N0, rfl⟩
theorem pd_0 : parseMethodDescriptor "(I)Lcom/example/rivulet/rivulet/lang/Type;" = some ⟨[.int], some (.object "com/example/rivulet/rivulet/lang/Type")⟩ := by decide +kernel
theorem pd_1 : parseMethodDescriptor "(Lcom/example/rivulet/rivulet/lang/Type;)Z" = some ⟨[(.object "com/example/rivulet/rivulet/lang/Type")], some .boolean⟩ := by decide +kernel
theorem ef_law (m : MethodId) (pa : Int32) (pb : Int32) : entryFrame m #[(.int pa), (.int pb)] maxLocals = mkF m 0 #[.val (.int pa), .val (.int pb), .unset, .unset, .unset, .unset, .unset] [] := by first | (simp [entryFrame, mkF, argsToLocals, Value.category, maxLocals]; done) | rfl
def Q_law (Z : State) (pa : Int32) (pb : Int32) (aI : Addr) (aR : Addr) (aT : Addr) (h0 : Heap) (n0 : Nat) (v : Option Value) (h : Heap) (L : List Loc) : Prop := v = some (.int (1 : Int32)) ∧ Fr n0 L ∧ Keep h0 h []
set_option maxRecDepth 65536 in
set_option maxHeartbeats 40000000 in
theorem rm_law (l : Launch) (Z : State) (a0 : Array Value) (hw : ∀ d ∈ tables_1, d.before a0 Z = true) (ws : List Jvm.Cond) (pa : Int32) (pb : Int32) (aI : Addr) (aR : Addr) (aT : Addr) (h0 : Heap) (n0 : Nat) (Z0 : n0 ≤ h0.size) (P0 : Sta Z h0 "com/example/rivulet/rivulet/lang/Type" "INT" "Lcom/example/rivulet/rivulet/lang/Type;" (.ref aI)) (P1 : Sta Z h0 "com/example/rivulet/rivulet/lang/Type" "REAL" "Lcom/example/rivulet/rivulet/lang/Type;" (.ref aR)) (P2 : Sta Z h0 "com/example/rivulet/rivulet/lang/Type" "TEXT" "Lcom/example/rivulet/rivulet/lang/Type;" (.ref aT)) (P3 : Exa Z h0 aI "com/example/rivulet/rivulet/lang/Type") (P4 : Exa Z h0 aR "com/example/rivulet/rivulet/lang/Type") (P5 : Exa Z h0 aT "com/example/rivulet/rivulet/lang/Type") (hIR : aI ≠ aR) (hIT : aI ≠ aT) (hRT : aR ≠ aT) :
    MetFree l x (head1 (Jvm.Cond.code x code maxLocals ret :: ws) room_1) (fun a U => a = #[(.int pa), (.int pb)] ∧ Z.Warmed39 U.vm ∧ U.heap = h0) (fun _ _ _ _ _ => True) (fun _ U o U' => ∃ v L, o = .returned v ∧ Q_law Z pa pb aI aR aT h0 n0 v U'.heap L ∧ FrameEnd U o U' L room_1.cells room_1.slots) := by
  refine MetFree.of_bodySF (plainFor_of_name pn_0) hisR ?_
  intro p e s m args below meth c s₁ Bd hml0 hP hK
  obtain ⟨rfl, hZ, hh⟩ := hP
  have hx := Bd.exec
  have hby := Bd.bytes
  have hml : c.maxLocals = 7 := hml0
  have hown : s.vm.findClass "com/example/rivulet/rivulet/lang/TypeFitsPinLaw" = some m.cls := findClass_of_methodNamed Bd.named
  have hnm := (name_of_methodNamed Bd.named Bd.method).1
  have X0 : Stand p l e room_1 s m #[(.int pa), (.int pb)] below meth c s₁ [] 0 0 := Stand.of_body Bd
  have e0 : s₁.heap = h0 := by rw [← hh, Bd.state]; rfl
  have N0 := Fr.nil n0
  have K0 : Keep h0 h0 [] := Keep.refl h0 []
  show Go p.tables e below _ (s₁.setTop (entryFrame m #[(.int pa), (.int pb)] maxLocals))
  refine Go.start ?_
  intro G hG
  refine Go.st (fun t k => castTop (ef_law m pa pb) k) ?_
  show Go p.tables e below _ (s₁.setTop (mkF m 0 #[.val (.int pa), .val (.int pb), .unset, .unset, .unset, .unset, .unset] []))
  refine Go.st (fun _ k => XS.iloadN X0.here hx rfl (hb hby at_0) rfl k) ?_
  show Go p.tables e below _ (s₁.setTop (mkF m 1 #[.val (.int pa), .val (.int pb), .unset, .unset, .unset, .unset, .unset] [(.int pa)]))
  refine Go.st (fun _ k => X0.ldcInt hx hown (mvT hZ (hw _ (List.mem_of_getElem? (i := 0) rfl))) (g := (mkF m 1 #[.val (.int pa), .val (.int pb), .unset, .unset, .unset, .unset, .unset] [(.int pa)])) rfl (hb hby at_1) _ k) ?_
  show Go p.tables e below _ (s₁.setTop (mkF m 3 #[.val (.int pa), .val (.int pb), .unset, .unset, .unset, .unset, .unset] [(.int (2147483647 : Int32)), (.int pa)]))
  refine Go.st (fun _ k => XS.iand X0.here hx rfl (hb hby at_3) rfl k) ?_
  show Go p.tables e below _ (s₁.setTop (mkF m 4 #[.val (.int pa), .val (.int pb), .unset, .unset, .unset, .unset, .unset] [(.int (pa &&& (2147483647 : Int32)))]))
  refine Go.st (fun _ k => XS.iconst X0.here hx rfl (hb hby at_4) k) ?_
  show Go p.tables e below _ (s₁.setTop (mkF m 5 #[.val (.int pa), .val (.int pb), .unset, .unset, .unset, .unset, .unset] [(.int (3 : Int32)), (.int (pa &&& (2147483647 : Int32)))]))
  refine Go.st (fun _ k => iremM X0 hx rfl (hb hby at_5) rfl (by decide) k) ?_
  show Go p.tables e below _ (s₁.setTop (mkF m 6 #[.val (.int pa), .val (.int pb), .unset, .unset, .unset, .unset, .unset] [(.int ((pa &&& (2147483647 : Int32)) % (3 : Int32)))]))
  refine Go.st (fun _ k => XS.istoreN X0.here hx rfl (hb hby at_6) rfl (l' := #[.val (.int pa), .val (.int pb), .val (.int ((pa &&& (2147483647 : Int32)) % (3 : Int32))), .unset, .unset, .unset, .unset]) rfl k) ?_
  show Go p.tables e below _ (s₁.setTop (mkF m 7 #[.val (.int pa), .val (.int pb), .val (.int ((pa &&& (2147483647 : Int32)) % (3 : Int32))), .unset, .unset, .unset, .unset] []))
  generalize hqv6 : ((pa &&& (2147483647 : Int32)) % (3 : Int32)) = v6
  show Go p.tables e below _ (s₁.setTop (mkF m 7 #[.val (.int pa), .val (.int pb), .val (.int v6), .unset, .unset, .unset, .unset] []))
  refine Go.st (fun _ k => XS.iloadN X0.here hx rfl (hb hby at_7) rfl k) ?_
  show Go p.tables e below _ (s₁.setTop (mkF m 8 #[.val (.int pa), .val (.int pb), .val (.int v6), .unset, .unset, .unset, .unset] [(.int pb)]))
  refine Go.st (fun _ k => X0.ldcInt hx hown (mvT hZ (hw _ (List.mem_of_getElem? (i := 0) rfl))) (g := (mkF m 8 #[.val (.int pa), .val (.int pb), .val (.int v6), .unset, .unset, .unset, .unset] [(.int pb)])) rfl (hb hby at_8) _ k) ?_
  show Go p.tables e below _ (s₁.setTop (mkF m 10 #[.val (.int pa), .val (.int pb), .val (.int v6), .unset, .unset, .unset, .unset] [(.int (2147483647 : Int32)), (.int pb)]))
  refine Go.st (fun _ k => XS.iand X0.here hx rfl (hb hby at_10) rfl k) ?_
  show Go p.tables e below _ (s₁.setTop (mkF m 11 #[.val (.int pa), .val (.int pb), .val (.int v6), .unset, .unset, .unset, .unset] [(.int (pb &&& (2147483647 : Int32)))]))
  refine Go.st (fun _ k => XS.iconst X0.here hx rfl (hb hby at_11) k) ?_
  show Go p.tables e below _ (s₁.setTop (mkF m 12 #[.val (.int pa), .val (.int pb), .val (.int v6), .unset, .unset, .unset, .unset] [(.int (3 : Int32)), (.int (pb &&& (2147483647 : Int32)))]))
  refine Go.st (fun _ k => iremM X0 hx rfl (hb hby at_12) rfl (by decide) k) ?_
  show Go p.tables e below _ (s₁.setTop (mkF m 13 #[.val (.int pa), .val (.int pb), .val (.int v6), .unset, .unset, .unset, .unset] [(.int ((pb &&& (2147483647 : Int32)) % (3 : Int32)))]))
  refine Go.st (fun _ k => XS.istoreN X0.here hx rfl (hb hby at_13) rfl (l' := #[.val (.int pa), .val (.int pb), .val (.int v6), .val (.int ((pb &&& (2147483647 : Int32)) % (3 : Int32))), .unset, .unset, .unset]) rfl k) ?_
  show Go p.tables e below _ (s₁.setTop (mkF m 14 #[.val (.int pa), .val (.int pb), .val (.int v6), .val (.int ((pb &&& (2147483647 : Int32)) % (3 : Int32))), .unset, .unset, .unset] []))
  generalize hqv13 : ((pb &&& (2147483647 : Int32)) % (3 : Int32)) = v13
  show Go p.tables e below _ (s₁.setTop (mkF m 14 #[.val (.int pa), .val (.int pb), .val (.int v6), .val (.int v13), .unset, .unset, .unset] []))
  refine Go.st (fun _ k => XS.iloadN X0.here hx rfl (hb hby at_14) rfl k) ?_
  show Go p.tables e below _ (s₁.setTop (mkF m 15 #[.val (.int pa), .val (.int pb), .val (.int v6), .val (.int v13), .unset, .unset, .unset] [(.int v6)]))
  obtain ⟨_, _, ⟨T1, L1, k1, n1⟩, -, X1, ⟨Lc1, hQ1, l1, y1, z1⟩, st1⟩ := Jvm.LawKit.callS X0 hx (y := (⟨"com/example/rivulet/rivulet/lang/TypeFitsPinLaw", "pick", "(I)Lcom/example/rivulet/rivulet/lang/Type;"⟩ : MethodName)) hown (mvT hZ (hw _ (List.mem_of_getElem? (i := 1) rfl))) (mvT hZ (hw _ (List.mem_of_getElem? (i := 2) rfl))) (mvT hZ (hw _ (List.mem_of_getElem? (i := 3) rfl))) (mvT hZ (hw _ (List.mem_of_getElem? (i := 4) rfl))) (by decide) (backOf (W := 0) (rm_pick l Z a0 hw [] v6 aI aR aT h0 n0 Z0 P0 P1 P2) hZ (hw _ (List.mem_of_getElem? (i := 4) rfl)) (hw _ (List.mem_of_getElem? (i := 3) rfl)) (by decide) (by decide)) (g := (mkF m 15 #[.val (.int pa), .val (.int pb), .val (.int v6), .val (.int v13), .unset, .unset, .unset] [(.int v6)])) rfl (by rw [hml]; rfl) (argsL := [(.int v6)]) (rest := []) (lenOf pd_0 rfl) rfl (by show 2 * 0 + _ ≤ _; exact Nat.le_of_eq rfl) (hb hby at_15) (fun _ _ => ⟨rfl, e0, (by decide : 0 + 0 ≤ _), (by decide : 0 + 0 ≤ _)⟩)
  dsimp only [Pt.U, Pt.locs, Pt.cells, Pt.slots] at X1 l1 y1 z1 st1 hQ1
  subst l1 y1 z1
  obtain ⟨rfl, N1q, e1⟩ := hQ1
  have N1 := Fr.app N0 N1q
  refine Go.st st1 ?_
  show Go p.tables e below _ (T1.setTop (mkF m 18 #[.val (.int pa), .val (.int pb), .val (.int v6), .val (.int v13), .unset, .unset, .unset] [(.ref (pickF v6 aI aR aT))]))
  refine Go.st (fun _ k => XS.astore X1.here hx rfl (hb hby at_18) rfl rfl (l' := #[.val (.int pa), .val (.int pb), .val (.int v6), .val (.int v13), .val (.ref (pickF v6 aI aR aT)), .unset, .unset]) rfl k) ?_
  show Go p.tables e below _ (T1.setTop (mkF m 20 #[.val (.int pa), .val (.int pb), .val (.int v6), .val (.int v13), .val (.ref (pickF v6 aI aR aT)), .unset, .unset] []))
  show Go p.tables e below _ (T1.setTop (mkF m 20 #[.val (.int pa), .val (.int pb), .val (.int v6), .val (.int v13), .val (.ref (pickF v6 aI aR aT)), .unset, .unset] []))
  refine Go.st (fun _ k => XS.iloadN X1.here hx rfl (hb hby at_20) rfl k) ?_
  show Go p.tables e below _ (T1.setTop (mkF m 21 #[.val (.int pa), .val (.int pb), .val (.int v6), .val (.int v13), .val (.ref (pickF v6 aI aR aT)), .unset, .unset] [(.int v13)]))
  obtain ⟨_, _, ⟨T2, L2, k2, n2⟩, -, X2, ⟨Lc2, hQ2, l2, y2, z2⟩, st2⟩ := Jvm.LawKit.callS X1 hx (y := (⟨"com/example/rivulet/rivulet/lang/TypeFitsPinLaw", "pick", "(I)Lcom/example/rivulet/rivulet/lang/Type;"⟩ : MethodName)) hown (mvT hZ (hw _ (List.mem_of_getElem? (i := 1) rfl))) (mvT hZ (hw _ (List.mem_of_getElem? (i := 2) rfl))) (mvT hZ (hw _ (List.mem_of_getElem? (i := 3) rfl))) (mvT hZ (hw _ (List.mem_of_getElem? (i := 4) rfl))) (by decide) (backOf (W := 0) (rm_pick l Z a0 hw [] v13 aI aR aT h0 n0 Z0 P0 P1 P2) hZ (hw _ (List.mem_of_getElem? (i := 4) rfl)) (hw _ (List.mem_of_getElem? (i := 3) rfl)) (by decide) (by decide)) (g := (mkF m 21 #[.val (.int pa), .val (.int pb), .val (.int v6), .val (.int v13), .val (.ref (pickF v6 aI aR aT)), .unset, .unset] [(.int v13)])) rfl (by rw [hml]; rfl) (argsL := [(.int v13)]) (rest := []) (lenOf pd_0 rfl) rfl (by show 2 * 0 + _ ≤ _; exact Nat.le_of_eq rfl) (hb hby at_21) (fun _ _ => ⟨rfl, e1, (by decide : 0 + 0 ≤ _), (by decide : 0 + 0 ≤ _)⟩)
  dsimp only [Pt.U, Pt.locs, Pt.cells, Pt.slots] at X2 l2 y2 z2 st2 hQ2
  subst l2 y2 z2
  obtain ⟨rfl, N2q, e2⟩ := hQ2
  have N2 := Fr.app N1 N2q
  refine Go.st st2 ?_
  show Go p.tables e below _ (T2.setTop (mkF m 24 #[.val (.int pa), .val (.int pb), .val (.int v6), .val (.int v13), .val (.ref (pickF v6 aI aR aT)), .unset, .unset] [(.ref (pickF v13 aI aR aT))]))
  refine Go.st (fun _ k => XS.astore X2.here hx rfl (hb hby at_24) rfl rfl (l' := #[.val (.int pa), .val (.int pb), .val (.int v6), .val (.int v13), .val (.ref (pickF v6 aI aR aT)), .val (.ref (pickF v13 aI aR aT)), .unset]) rfl k) ?_
  show Go p.tables e below _ (T2.setTop (mkF m 26 #[.val (.int pa), .val (.int pb), .val (.int v6), .val (.int v13), .val (.ref (pickF v6 aI aR aT)), .val (.ref (pickF v13 aI aR aT)), .unset] []))
  show Go p.tables e below _ (T2.setTop (mkF m 26 #[.val (.int pa), .val (.int pb), .val (.int v6), .val (.int v13), .val (.ref (pickF v6 aI aR aT)), .val (.ref (pickF v13 aI aR aT)), .unset] []))
  refine Go.st (fun _ k => XS.bipush X2.here hx rfl (hb hby at_26) k) ?_
  show Go p.tables e below _ (T2.setTop (mkF m 28 #[.val (.int pa), .val (.int pb), .val (.int v6), .val (.int v13), .val (.ref (pickF v6 aI aR aT)), .val (.ref (pickF v13 aI aR aT)), .unset] [(.int (9 : Int32))]))
  obtain ⟨T3, h3, k3, X3, e3, E3, A3, C3, st3⟩ := newPE X2 hx hZ (hw _ (List.mem_of_getElem? (i := 8) rfl)) e2 (g := (mkF m 28 #[.val (.int pa), .val (.int pb), .val (.int v6), .val (.int v13), .val (.ref (pickF v6 aI aR aT)), .val (.ref (pickF v13 aI aR aT)), .unset] [(.int (9 : Int32))])) rfl (hb hby at_28) rfl (by decide) (cap := 9) (by decide) (by decide) (by decide) (by decide) (ad := "[Z") (by decide)
  obtain ⟨b3, g3⟩ : ∃ z, z = h0.size := ⟨_, rfl⟩
  rw [← g3] at A3 C3 st3
  refine Go.st st3 ?_
  have ne4 : aI ≠ b3 := Nat.ne_of_lt (Nat.lt_of_lt_of_le P3.lt (Nat.le_of_eq g3.symm))
  have ne5 : aR ≠ b3 := Nat.ne_of_lt (Nat.lt_of_lt_of_le P4.lt (Nat.le_of_eq g3.symm))
  have ne6 : aT ≠ b3 := Nat.ne_of_lt (Nat.lt_of_lt_of_le P5.lt (Nat.le_of_eq g3.symm))
  have ge7 : n0 ≤ b3 := Nat.le_trans Z0 (Nat.le_of_eq g3.symm)
  have sz8 : h0.size ≤ b3 := Nat.le_trans K0.1 (Nat.le_of_eq g3.symm)
  have Z9 : n0 ≤ h3.size := Nat.le_trans Z0 E3.1
  have K10 : Keep h0 h3 [] := K0.ext E3
  have F11 : Sta Z h3 "com/example/rivulet/rivulet/lang/Type" "INT" "Lcom/example/rivulet/rivulet/lang/Type;" (.ref aI) := P0.ext E3
  have F12 : Sta Z h3 "com/example/rivulet/rivulet/lang/Type" "REAL" "Lcom/example/rivulet/rivulet/lang/Type;" (.ref aR) := P1.ext E3
  have F13 : Sta Z h3 "com/example/rivulet/rivulet/lang/Type" "TEXT" "Lcom/example/rivulet/rivulet/lang/Type;" (.ref aT) := P2.ext E3
  have F14 : Exa Z h3 aI "com/example/rivulet/rivulet/lang/Type" := P3.ext E3
  have F15 : Exa Z h3 aR "com/example/rivulet/rivulet/lang/Type" := P4.ext E3
  have F16 : Exa Z h3 aT "com/example/rivulet/rivulet/lang/Type" := P5.ext E3
  have F17 : Arv Z h3 b3 k3 .boolean (9 : Int32) [(.int (0 : Int32)), (.int (0 : Int32)), (.int (0 : Int32)), (.int (0 : Int32)), (.int (0 : Int32)), (.int (0 : Int32)), (.int (0 : Int32)), (.int (0 : Int32)), (.int (0 : Int32))] (.int (0 : Int32)) := (Arv.new A3 (by decide)).pad (pad_rep [] (.int (0 : Int32)) 9)
  show Go p.tables e below _ (T3.setTop (mkF m 30 #[.val (.int pa), .val (.int pb), .val (.int v6), .val (.int v13), .val (.ref (pickF v6 aI aR aT)), .val (.ref (pickF v13 aI aR aT)), .unset] [(.ref b3)]))
  refine Go.st (fun _ k => XS.dup X3.here hx rfl (hb hby at_30) rfl rfl k) ?_
  show Go p.tables e below _ (T3.setTop (mkF m 31 #[.val (.int pa), .val (.int pb), .val (.int v6), .val (.int v13), .val (.ref (pickF v6 aI aR aT)), .val (.ref (pickF v13 aI aR aT)), .unset] [(.ref b3), (.ref b3)]))
  refine Go.st (fun _ k => XS.iconst X3.here hx rfl (hb hby at_31) k) ?_
  show Go p.tables e below _ (T3.setTop (mkF m 32 #[.val (.int pa), .val (.int pb), .val (.int v6), .val (.int v13), .val (.ref (pickF v6 aI aR aT)), .val (.ref (pickF v13 aI aR aT)), .unset] [(.int (0 : Int32)), (.ref b3), (.ref b3)]))
  refine Go.st (fun _ k => XS.iconst X3.here hx rfl (hb hby at_32) k) ?_
  show Go p.tables e below _ (T3.setTop (mkF m 33 #[.val (.int pa), .val (.int pb), .val (.int v6), .val (.int v13), .val (.ref (pickF v6 aI aR aT)), .val (.ref (pickF v13 aI aR aT)), .unset] [(.int (1 : Int32)), (.int (0 : Int32)), (.ref b3), (.ref b3)]))
  obtain ⟨cl18, Ar18, q18, S18, M18, H18, G18⟩ := id F17
  have hin18 : ¬ ((0 : Int32) < 0 ∨ cl18.slots.size ≤ ((0 : Int32)).toNatClampNeg) := inb_of S18 ⟨by decide, by decide⟩
  obtain ⟨T18, h18, X18, e18, W18, st18⟩ := stZ X3 hx hZ e3 Ar18 (j := (0 : Int32)) hin18 (g := (mkF m 33 #[.val (.int pa), .val (.int pb), .val (.int v6), .val (.int v13), .val (.ref (pickF v6 aI aR aT)), .val (.ref (pickF v13 aI aR aT)), .unset] [(.int (1 : Int32)), (.int (0 : Int32)), (.ref b3), (.ref b3)])) rfl rfl (hb hby at_33)
  refine Go.st st18 ?_
  have F19 : Sta Z h18 "com/example/rivulet/rivulet/lang/Type" "INT" "Lcom/example/rivulet/rivulet/lang/Type;" (.ref aI) := F11.wr W18
  have F20 : Sta Z h18 "com/example/rivulet/rivulet/lang/Type" "REAL" "Lcom/example/rivulet/rivulet/lang/Type;" (.ref aR) := F12.wr W18
  have F21 : Sta Z h18 "com/example/rivulet/rivulet/lang/Type" "TEXT" "Lcom/example/rivulet/rivulet/lang/Type;" (.ref aT) := F13.wr W18
  have F22 : Exa Z h18 aI "com/example/rivulet/rivulet/lang/Type" := F14.wr W18
  have F23 : Exa Z h18 aR "com/example/rivulet/rivulet/lang/Type" := F15.wr W18
  have F24 : Exa Z h18 aT "com/example/rivulet/rivulet/lang/Type" := F16.wr W18
  have F25 : Arv Z h18 b3 k3 .boolean (9 : Int32) [(.int (1 : Int32)), (.int (0 : Int32)), (.int (0 : Int32)), (.int (0 : Int32)), (.int (0 : Int32)), (.int (0 : Int32)), (.int (0 : Int32)), (.int (0 : Int32)), (.int (0 : Int32))] (.int (0 : Int32)) := Arv.set Ar18 q18 S18 M18 H18 G18 (fits_nar_bool _) W18 0 rfl (Nat.le_of_ble_eq_true rfl)
  have F26 : Exa Z h18 b3 "[Z" := C3.wr W18
  have K27 : Keep h0 h18 [] := K10.wr W18 (Or.inr sz8)
  have Z28 : n0 ≤ h18.size := Nat.le_trans Z9 (Nat.le_of_eq W18.size.symm)
  have N29 := Fr.snoc X18 N2 ge7
  show Go p.tables e below _ (T18.setTop (mkF m 34 #[.val (.int pa), .val (.int pb), .val (.int v6), .val (.int v13), .val (.ref (pickF v6 aI aR aT)), .val (.ref (pickF v13 aI aR aT)), .unset] [(.ref b3)]))
  refine Go.st (fun _ k => XS.dup X18.here hx rfl (hb hby at_34) rfl rfl k) ?_
  show Go p.tables e below _ (T18.setTop (mkF m 35 #[.val (.int pa), .val (.int pb), .val (.int v6), .val (.int v13), .val (.ref (pickF v6 aI aR aT)), .val (.ref (pickF v13 aI aR aT)), .unset] [(.ref b3), (.ref b3)]))
  refine Go.st (fun _ k => XS.iconst X18.here hx rfl (hb hby at_35) k) ?_
  show Go p.tables e below _ (T18.setTop (mkF m 36 #[.val (.int pa), .val (.int pb), .val (.int v6), .val (.int v13), .val (.ref (pickF v6 aI aR aT)), .val (.ref (pickF v13 aI aR aT)), .unset] [(.int (1 : Int32)), (.ref b3), (.ref b3)]))
  refine Go.st (fun _ k => XS.iconst X18.here hx rfl (hb hby at_36) k) ?_
  show Go p.tables e below _ (T18.setTop (mkF m 37 #[.val (.int pa), .val (.int pb), .val (.int v6), .val (.int v13), .val (.ref (pickF v6 aI aR aT)), .val (.ref (pickF v13 aI aR aT)), .unset] [(.int (1 : Int32)), (.int (1 : Int32)), (.ref b3), (.ref b3)]))
  obtain ⟨cl30, Ar30, q30, S30, M30, H30, G30⟩ := id F25
  have hin30 : ¬ ((1 : Int32) < 0 ∨ cl30.slots.size ≤ ((1 : Int32)).toNatClampNeg) := inb_of S30 ⟨by decide, by decide⟩
  obtain ⟨T30, h30, X30, e30, W30, st30⟩ := stZ X18 hx hZ e18 Ar30 (j := (1 : Int32)) hin30 (g := (mkF m 37 #[.val (.int pa), .val (.int pb), .val (.int v6), .val (.int v13), .val (.ref (pickF v6 aI aR aT)), .val (.ref (pickF v13 aI aR aT)), .unset] [(.int (1 : Int32)), (.int (1 : Int32)), (.ref b3), (.ref b3)])) rfl rfl (hb hby at_37)
  refine Go.st st30 ?_
  have F31 : Sta Z h30 "com/example/rivulet/rivulet/lang/Type" "INT" "Lcom/example/rivulet/rivulet/lang/Type;" (.ref aI) := F19.wr W30
  have F32 : Sta Z h30 "com/example/rivulet/rivulet/lang/Type" "REAL" "Lcom/example/rivulet/rivulet/lang/Type;" (.ref aR) := F20.wr W30
  have F33 : Sta Z h30 "com/example/rivulet/rivulet/lang/Type" "TEXT" "Lcom/example/rivulet/rivulet/lang/Type;" (.ref aT) := F21.wr W30
  have F34 : Exa Z h30 aI "com/example/rivulet/rivulet/lang/Type" := F22.wr W30
  have F35 : Exa Z h30 aR "com/example/rivulet/rivulet/lang/Type" := F23.wr W30
  have F36 : Exa Z h30 aT "com/example/rivulet/rivulet/lang/Type" := F24.wr W30
  have F37 : Arv Z h30 b3 k3 .boolean (9 : Int32) [(.int (1 : Int32)), (.int (1 : Int32)), (.int (0 : Int32)), (.int (0 : Int32)), (.int (0 : Int32)), (.int (0 : Int32)), (.int (0 : Int32)), (.int (0 : Int32)), (.int (0 : Int32))] (.int (0 : Int32)) := Arv.set Ar30 q30 S30 M30 H30 G30 (fits_nar_bool _) W30 1 rfl (Nat.le_of_ble_eq_true rfl)
  have F38 : Exa Z h30 b3 "[Z" := F26.wr W30
  have K39 : Keep h0 h30 [] := K27.wr W30 (Or.inr sz8)
  have Z40 : n0 ≤ h30.size := Nat.le_trans Z28 (Nat.le_of_eq W30.size.symm)
  have N41 := Fr.snoc X30 N29 ge7
  show Go p.tables e below _ (T30.setTop (mkF m 38 #[.val (.int pa), .val (.int pb), .val (.int v6), .val (.int v13), .val (.ref (pickF v6 aI aR aT)), .val (.ref (pickF v13 aI aR aT)), .unset] [(.ref b3)]))
  refine Go.st (fun _ k => XS.dup X30.here hx rfl (hb hby at_38) rfl rfl k) ?_
  show Go p.tables e below _ (T30.setTop (mkF m 39 #[.val (.int pa), .val (.int pb), .val (.int v6), .val (.int v13), .val (.ref (pickF v6 aI aR aT)), .val (.ref (pickF v13 aI aR aT)), .unset] [(.ref b3), (.ref b3)]))
  refine Go.st (fun _ k => XS.iconst X30.here hx rfl (hb hby at_39) k) ?_
  show Go p.tables e below _ (T30.setTop (mkF m 40 #[.val (.int pa), .val (.int pb), .val (.int v6), .val (.int v13), .val (.ref (pickF v6 aI aR aT)), .val (.ref (pickF v13 aI aR aT)), .unset] [(.int (2 : Int32)), (.ref b3), (.ref b3)]))
  refine Go.st (fun _ k => XS.iconst X30.here hx rfl (hb hby at_40) k) ?_
  show Go p.tables e below _ (T30.setTop (mkF m 41 #[.val (.int pa), .val (.int pb), .val (.int v6), .val (.int v13), .val (.ref (pickF v6 aI aR aT)), .val (.ref (pickF v13 aI aR aT)), .unset] [(.int (0 : Int32)), (.int (2 : Int32)), (.ref b3), (.ref b3)]))
  obtain ⟨cl42, Ar42, q42, S42, M42, H42, G42⟩ := id F37
  have hin42 : ¬ ((2 : Int32) < 0 ∨ cl42.slots.size ≤ ((2 : Int32)).toNatClampNeg) := inb_of S42 ⟨by decide, by decide⟩
  obtain ⟨T42, h42, X42, e42, W42, st42⟩ := stZ X30 hx hZ e30 Ar42 (j := (2 : Int32)) hin42 (g := (mkF m 41 #[.val (.int pa), .val (.int pb), .val (.int v6), .val (.int v13), .val (.ref (pickF v6 aI aR aT)), .val (.ref (pickF v13 aI aR aT)), .unset] [(.int (0 : Int32)), (.int (2 : Int32)), (.ref b3), (.ref b3)])) rfl rfl (hb hby at_41)
  refine Go.st st42 ?_
  have F43 : Sta Z h42 "com/example/rivulet/rivulet/lang/Type" "INT" "Lcom/example/rivulet/rivulet/lang/Type;" (.ref aI) := F31.wr W42
  have F44 : Sta Z h42 "com/example/rivulet/rivulet/lang/Type" "REAL" "Lcom/example/rivulet/rivulet/lang/Type;" (.ref aR) := F32.wr W42
  have F45 : Sta Z h42 "com/example/rivulet/rivulet/lang/Type" "TEXT" "Lcom/example/rivulet/rivulet/lang/Type;" (.ref aT) := F33.wr W42
  have F46 : Exa Z h42 aI "com/example/rivulet/rivulet/lang/Type" := F34.wr W42
  have F47 : Exa Z h42 aR "com/example/rivulet/rivulet/lang/Type" := F35.wr W42
  have F48 : Exa Z h42 aT "com/example/rivulet/rivulet/lang/Type" := F36.wr W42
  have F49 : Arv Z h42 b3 k3 .boolean (9 : Int32) [(.int (1 : Int32)), (.int (1 : Int32)), (.int (0 : Int32)), (.int (0 : Int32)), (.int (0 : Int32)), (.int (0 : Int32)), (.int (0 : Int32)), (.int (0 : Int32)), (.int (0 : Int32))] (.int (0 : Int32)) := Arv.set Ar42 q42 S42 M42 H42 G42 (fits_nar_bool _) W42 2 rfl (Nat.le_of_ble_eq_true rfl)
  have F50 : Exa Z h42 b3 "[Z" := F38.wr W42
  have K51 : Keep h0 h42 [] := K39.wr W42 (Or.inr sz8)
  have Z52 : n0 ≤ h42.size := Nat.le_trans Z40 (Nat.le_of_eq W42.size.symm)
  have N53 := Fr.snoc X42 N41 ge7
  show Go p.tables e below _ (T42.setTop (mkF m 42 #[.val (.int pa), .val (.int pb), .val (.int v6), .val (.int v13), .val (.ref (pickF v6 aI aR aT)), .val (.ref (pickF v13 aI aR aT)), .unset] [(.ref b3)]))
  refine Go.st (fun _ k => XS.dup X42.here hx rfl (hb hby at_42) rfl rfl k) ?_
  show Go p.tables e below _ (T42.setTop (mkF m 43 #[.val (.int pa), .val (.int pb), .val (.int v6), .val (.int v13), .val (.ref (pickF v6 aI aR aT)), .val (.ref (pickF v13 aI aR aT)), .unset] [(.ref b3), (.ref b3)]))
  refine Go.st (fun _ k => XS.iconst X42.here hx rfl (hb hby at_43) k) ?_
  show Go p.tables e below _ (T42.setTop (mkF m 44 #[.val (.int pa), .val (.int pb), .val (.int v6), .val (.int v13), .val (.ref (pickF v6 aI aR aT)), .val (.ref (pickF v13 aI aR aT)), .unset] [(.int (3 : Int32)), (.ref b3), (.ref b3)]))
  refine Go.st (fun _ k => XS.iconst X42.here hx rfl (hb hby at_44) k) ?_
  show Go p.tables e below _ (T42.setTop (mkF m 45 #[.val (.int pa), .val (.int pb), .val (.int v6), .val (.int v13), .val (.ref (pickF v6 aI aR aT)), .val (.ref (pickF v13 aI aR aT)), .unset] [(.int (0 : Int32)), (.int (3 : Int32)), (.ref b3), (.ref b3)]))
  obtain ⟨cl54, Ar54, q54, S54, M54, H54, G54⟩ := id F49
  have hin54 : ¬ ((3 : Int32) < 0 ∨ cl54.slots.size ≤ ((3 : Int32)).toNatClampNeg) := inb_of S54 ⟨by decide, by decide⟩
  obtain ⟨T54, h54, X54, e54, W54, st54⟩ := stZ X42 hx hZ e42 Ar54 (j := (3 : Int32)) hin54 (g := (mkF m 45 #[.val (.int pa), .val (.int pb), .val (.int v6), .val (.int v13), .val (.ref (pickF v6 aI aR aT)), .val (.ref (pickF v13 aI aR aT)), .unset] [(.int (0 : Int32)), (.int (3 : Int32)), (.ref b3), (.ref b3)])) rfl rfl (hb hby at_45)
  refine Go.st st54 ?_
  have F55 : Sta Z h54 "com/example/rivulet/rivulet/lang/Type" "INT" "Lcom/example/rivulet/rivulet/lang/Type;" (.ref aI) := F43.wr W54
  have F56 : Sta Z h54 "com/example/rivulet/rivulet/lang/Type" "REAL" "Lcom/example/rivulet/rivulet/lang/Type;" (.ref aR) := F44.wr W54
  have F57 : Sta Z h54 "com/example/rivulet/rivulet/lang/Type" "TEXT" "Lcom/example/rivulet/rivulet/lang/Type;" (.ref aT) := F45.wr W54
  have F58 : Exa Z h54 aI "com/example/rivulet/rivulet/lang/Type" := F46.wr W54
  have F59 : Exa Z h54 aR "com/example/rivulet/rivulet/lang/Type" := F47.wr W54
  have F60 : Exa Z h54 aT "com/example/rivulet/rivulet/lang/Type" := F48.wr W54
  have F61 : Arv Z h54 b3 k3 .boolean (9 : Int32) [(.int (1 : Int32)), (.int (1 : Int32)), (.int (0 : Int32)), (.int (0 : Int32)), (.int (0 : Int32)), (.int (0 : Int32)), (.int (0 : Int32)), (.int (0 : Int32)), (.int (0 : Int32))] (.int (0 : Int32)) := Arv.set Ar54 q54 S54 M54 H54 G54 (fits_nar_bool _) W54 3 rfl (Nat.le_of_ble_eq_true rfl)
  have F62 : Exa Z h54 b3 "[Z" := F50.wr W54
  have K63 : Keep h0 h54 [] := K51.wr W54 (Or.inr sz8)
  have Z64 : n0 ≤ h54.size := Nat.le_trans Z52 (Nat.le_of_eq W54.size.symm)
  have N65 := Fr.snoc X54 N53 ge7
  show Go p.tables e below _ (T54.setTop (mkF m 46 #[.val (.int pa), .val (.int pb), .val (.int v6), .val (.int v13), .val (.ref (pickF v6 aI aR aT)), .val (.ref (pickF v13 aI aR aT)), .unset] [(.ref b3)]))
  refine Go.st (fun _ k => XS.dup X54.here hx rfl (hb hby at_46) rfl rfl k) ?_
  show Go p.tables e below _ (T54.setTop (mkF m 47 #[.val (.int pa), .val (.int pb), .val (.int v6), .val (.int v13), .val (.ref (pickF v6 aI aR aT)), .val (.ref (pickF v13 aI aR aT)), .unset] [(.ref b3), (.ref b3)]))
  refine Go.st (fun _ k => XS.iconst X54.here hx rfl (hb hby at_47) k) ?_
  show Go p.tables e below _ (T54.setTop (mkF m 48 #[.val (.int pa), .val (.int pb), .val (.int v6), .val (.int v13), .val (.ref (pickF v6 aI aR aT)), .val (.ref (pickF v13 aI aR aT)), .unset] [(.int (4 : Int32)), (.ref b3), (.ref b3)]))
  refine Go.st (fun _ k => XS.iconst X54.here hx rfl (hb hby at_48) k) ?_
  show Go p.tables e below _ (T54.setTop (mkF m 49 #[.val (.int pa), .val (.int pb), .val (.int v6), .val (.int v13), .val (.ref (pickF v6 aI aR aT)), .val (.ref (pickF v13 aI aR aT)), .unset] [(.int (1 : Int32)), (.int (4 : Int32)), (.ref b3), (.ref b3)]))
  obtain ⟨cl66, Ar66, q66, S66, M66, H66, G66⟩ := id F61
  have hin66 : ¬ ((4 : Int32) < 0 ∨ cl66.slots.size ≤ ((4 : Int32)).toNatClampNeg) := inb_of S66 ⟨by decide, by decide⟩
  obtain ⟨T66, h66, X66, e66, W66, st66⟩ := stZ X54 hx hZ e54 Ar66 (j := (4 : Int32)) hin66 (g := (mkF m 49 #[.val (.int pa), .val (.int pb), .val (.int v6), .val (.int v13), .val (.ref (pickF v6 aI aR aT)), .val (.ref (pickF v13 aI aR aT)), .unset] [(.int (1 : Int32)), (.int (4 : Int32)), (.ref b3), (.ref b3)])) rfl rfl (hb hby at_49)
  refine Go.st st66 ?_
  have F67 : Sta Z h66 "com/example/rivulet/rivulet/lang/Type" "INT" "Lcom/example/rivulet/rivulet/lang/Type;" (.ref aI) := F55.wr W66
  have F68 : Sta Z h66 "com/example/rivulet/rivulet/lang/Type" "REAL" "Lcom/example/rivulet/rivulet/lang/Type;" (.ref aR) := F56.wr W66
  have F69 : Sta Z h66 "com/example/rivulet/rivulet/lang/Type" "TEXT" "Lcom/example/rivulet/rivulet/lang/Type;" (.ref aT) := F57.wr W66
  have F70 : Exa Z h66 aI "com/example/rivulet/rivulet/lang/Type" := F58.wr W66
  have F71 : Exa Z h66 aR "com/example/rivulet/rivulet/lang/Type" := F59.wr W66
  have F72 : Exa Z h66 aT "com/example/rivulet/rivulet/lang/Type" := F60.wr W66
  have F73 : Arv Z h66 b3 k3 .boolean (9 : Int32) [(.int (1 : Int32)), (.int (1 : Int32)), (.int (0 : Int32)), (.int (0 : Int32)), (.int (1 : Int32)), (.int (0 : Int32)), (.int (0 : Int32)), (.int (0 : Int32)), (.int (0 : Int32))] (.int (0 : Int32)) := Arv.set Ar66 q66 S66 M66 H66 G66 (fits_nar_bool _) W66 4 rfl (Nat.le_of_ble_eq_true rfl)
  have F74 : Exa Z h66 b3 "[Z" := F62.wr W66
  have K75 : Keep h0 h66 [] := K63.wr W66 (Or.inr sz8)
  have Z76 : n0 ≤ h66.size := Nat.le_trans Z64 (Nat.le_of_eq W66.size.symm)
  have N77 := Fr.snoc X66 N65 ge7
  show Go p.tables e below _ (T66.setTop (mkF m 50 #[.val (.int pa), .val (.int pb), .val (.int v6), .val (.int v13), .val (.ref (pickF v6 aI aR aT)), .val (.ref (pickF v13 aI aR aT)), .unset] [(.ref b3)]))
  refine Go.st (fun _ k => XS.dup X66.here hx rfl (hb hby at_50) rfl rfl k) ?_
  show Go p.tables e below _ (T66.setTop (mkF m 51 #[.val (.int pa), .val (.int pb), .val (.int v6), .val (.int v13), .val (.ref (pickF v6 aI aR aT)), .val (.ref (pickF v13 aI aR aT)), .unset] [(.ref b3), (.ref b3)]))
  refine Go.st (fun _ k => XS.iconst X66.here hx rfl (hb hby at_51) k) ?_
  show Go p.tables e below _ (T66.setTop (mkF m 52 #[.val (.int pa), .val (.int pb), .val (.int v6), .val (.int v13), .val (.ref (pickF v6 aI aR aT)), .val (.ref (pickF v13 aI aR aT)), .unset] [(.int (5 : Int32)), (.ref b3), (.ref b3)]))
  refine Go.st (fun _ k => XS.iconst X66.here hx rfl (hb hby at_52) k) ?_
  show Go p.tables e below _ (T66.setTop (mkF m 53 #[.val (.int pa), .val (.int pb), .val (.int v6), .val (.int v13), .val (.ref (pickF v6 aI aR aT)), .val (.ref (pickF v13 aI aR aT)), .unset] [(.int (0 : Int32)), (.int (5 : Int32)), (.ref b3), (.ref b3)]))
  obtain ⟨cl78, Ar78, q78, S78, M78, H78, G78⟩ := id F73
  have hin78 : ¬ ((5 : Int32) < 0 ∨ cl78.slots.size ≤ ((5 : Int32)).toNatClampNeg) := inb_of S78 ⟨by decide, by decide⟩
  obtain ⟨T78, h78, X78, e78, W78, st78⟩ := stZ X66 hx hZ e66 Ar78 (j := (5 : Int32)) hin78 (g := (mkF m 53 #[.val (.int pa), .val (.int pb), .val (.int v6), .val (.int v13), .val (.ref (pickF v6 aI aR aT)), .val (.ref (pickF v13 aI aR aT)), .unset] [(.int (0 : Int32)), (.int (5 : Int32)), (.ref b3), (.ref b3)])) rfl rfl (hb hby at_53)
  refine Go.st st78 ?_
  have F79 : Sta Z h78 "com/example/rivulet/rivulet/lang/Type" "INT" "Lcom/example/rivulet/rivulet/lang/Type;" (.ref aI) := F67.wr W78
  have F80 : Sta Z h78 "com/example/rivulet/rivulet/lang/Type" "REAL" "Lcom/example/rivulet/rivulet/lang/Type;" (.ref aR) := F68.wr W78
  have F81 : Sta Z h78 "com/example/rivulet/rivulet/lang/Type" "TEXT" "Lcom/example/rivulet/rivulet/lang/Type;" (.ref aT) := F69.wr W78
  have F82 : Exa Z h78 aI "com/example/rivulet/rivulet/lang/Type" := F70.wr W78
  have F83 : Exa Z h78 aR "com/example/rivulet/rivulet/lang/Type" := F71.wr W78
  have F84 : Exa Z h78 aT "com/example/rivulet/rivulet/lang/Type" := F72.wr W78
  have F85 : Arv Z h78 b3 k3 .boolean (9 : Int32) [(.int (1 : Int32)), (.int (1 : Int32)), (.int (0 : Int32)), (.int (0 : Int32)), (.int (1 : Int32)), (.int (0 : Int32)), (.int (0 : Int32)), (.int (0 : Int32)), (.int (0 : Int32))] (.int (0 : Int32)) := Arv.set Ar78 q78 S78 M78 H78 G78 (fits_nar_bool _) W78 5 rfl (Nat.le_of_ble_eq_true rfl)
  have F86 : Exa Z h78 b3 "[Z" := F74.wr W78
  have K87 : Keep h0 h78 [] := K75.wr W78 (Or.inr sz8)
  have Z88 : n0 ≤ h78.size := Nat.le_trans Z76 (Nat.le_of_eq W78.size.symm)
  have N89 := Fr.snoc X78 N77 ge7
  show Go p.tables e below _ (T78.setTop (mkF m 54 #[.val (.int pa), .val (.int pb), .val (.int v6), .val (.int v13), .val (.ref (pickF v6 aI aR aT)), .val (.ref (pickF v13 aI aR aT)), .unset] [(.ref b3)]))
  refine Go.st (fun _ k => XS.dup X78.here hx rfl (hb hby at_54) rfl rfl k) ?_
  show Go p.tables e below _ (T78.setTop (mkF m 55 #[.val (.int pa), .val (.int pb), .val (.int v6), .val (.int v13), .val (.ref (pickF v6 aI aR aT)), .val (.ref (pickF v13 aI aR aT)), .unset] [(.ref b3), (.ref b3)]))
  refine Go.st (fun _ k => XS.bipush X78.here hx rfl (hb hby at_55) k) ?_
  show Go p.tables e below _ (T78.setTop (mkF m 57 #[.val (.int pa), .val (.int pb), .val (.int v6), .val (.int v13), .val (.ref (pickF v6 aI aR aT)), .val (.ref (pickF v13 aI aR aT)), .unset] [(.int (6 : Int32)), (.ref b3), (.ref b3)]))
  refine Go.st (fun _ k => XS.iconst X78.here hx rfl (hb hby at_57) k) ?_
  show Go p.tables e below _ (T78.setTop (mkF m 58 #[.val (.int pa), .val (.int pb), .val (.int v6), .val (.int v13), .val (.ref (pickF v6 aI aR aT)), .val (.ref (pickF v13 aI aR aT)), .unset] [(.int (0 : Int32)), (.int (6 : Int32)), (.ref b3), (.ref b3)]))
  obtain ⟨cl90, Ar90, q90, S90, M90, H90, G90⟩ := id F85
  have hin90 : ¬ ((6 : Int32) < 0 ∨ cl90.slots.size ≤ ((6 : Int32)).toNatClampNeg) := inb_of S90 ⟨by decide, by decide⟩
  obtain ⟨T90, h90, X90, e90, W90, st90⟩ := stZ X78 hx hZ e78 Ar90 (j := (6 : Int32)) hin90 (g := (mkF m 58 #[.val (.int pa), .val (.int pb), .val (.int v6), .val (.int v13), .val (.ref (pickF v6 aI aR aT)), .val (.ref (pickF v13 aI aR aT)), .unset] [(.int (0 : Int32)), (.int (6 : Int32)), (.ref b3), (.ref b3)])) rfl rfl (hb hby at_58)
  refine Go.st st90 ?_
  have F91 : Sta Z h90 "com/example/rivulet/rivulet/lang/Type" "INT" "Lcom/example/rivulet/rivulet/lang/Type;" (.ref aI) := F79.wr W90
  have F92 : Sta Z h90 "com/example/rivulet/rivulet/lang/Type" "REAL" "Lcom/example/rivulet/rivulet/lang/Type;" (.ref aR) := F80.wr W90
  have F93 : Sta Z h90 "com/example/rivulet/rivulet/lang/Type" "TEXT" "Lcom/example/rivulet/rivulet/lang/Type;" (.ref aT) := F81.wr W90
  have F94 : Exa Z h90 aI "com/example/rivulet/rivulet/lang/Type" := F82.wr W90
  have F95 : Exa Z h90 aR "com/example/rivulet/rivulet/lang/Type" := F83.wr W90
  have F96 : Exa Z h90 aT "com/example/rivulet/rivulet/lang/Type" := F84.wr W90
  have F97 : Arv Z h90 b3 k3 .boolean (9 : Int32) [(.int (1 : Int32)), (.int (1 : Int32)), (.int (0 : Int32)), (.int (0 : Int32)), (.int (1 : Int32)), (.int (0 : Int32)), (.int (0 : Int32)), (.int (0 : Int32)), (.int (0 : Int32))] (.int (0 : Int32)) := Arv.set Ar90 q90 S90 M90 H90 G90 (fits_nar_bool _) W90 6 rfl (Nat.le_of_ble_eq_true rfl)
  have F98 : Exa Z h90 b3 "[Z" := F86.wr W90
  have K99 : Keep h0 h90 [] := K87.wr W90 (Or.inr sz8)
  have Z100 : n0 ≤ h90.size := Nat.le_trans Z88 (Nat.le_of_eq W90.size.symm)
  have N101 := Fr.snoc X90 N89 ge7
  show Go p.tables e below _ (T90.setTop (mkF m 59 #[.val (.int pa), .val (.int pb), .val (.int v6), .val (.int v13), .val (.ref (pickF v6 aI aR aT)), .val (.ref (pickF v13 aI aR aT)), .unset] [(.ref b3)]))
  refine Go.st (fun _ k => XS.dup X90.here hx rfl (hb hby at_59) rfl rfl k) ?_
  show Go p.tables e below _ (T90.setTop (mkF m 60 #[.val (.int pa), .val (.int pb), .val (.int v6), .val (.int v13), .val (.ref (pickF v6 aI aR aT)), .val (.ref (pickF v13 aI aR aT)), .unset] [(.ref b3), (.ref b3)]))
  refine Go.st (fun _ k => XS.bipush X90.here hx rfl (hb hby at_60) k) ?_
  show Go p.tables e below _ (T90.setTop (mkF m 62 #[.val (.int pa), .val (.int pb), .val (.int v6), .val (.int v13), .val (.ref (pickF v6 aI aR aT)), .val (.ref (pickF v13 aI aR aT)), .unset] [(.int (7 : Int32)), (.ref b3), (.ref b3)]))
  refine Go.st (fun _ k => XS.iconst X90.here hx rfl (hb hby at_62) k) ?_
  show Go p.tables e below _ (T90.setTop (mkF m 63 #[.val (.int pa), .val (.int pb), .val (.int v6), .val (.int v13), .val (.ref (pickF v6 aI aR aT)), .val (.ref (pickF v13 aI aR aT)), .unset] [(.int (0 : Int32)), (.int (7 : Int32)), (.ref b3), (.ref b3)]))
  obtain ⟨cl102, Ar102, q102, S102, M102, H102, G102⟩ := id F97
  have hin102 : ¬ ((7 : Int32) < 0 ∨ cl102.slots.size ≤ ((7 : Int32)).toNatClampNeg) := inb_of S102 ⟨by decide, by decide⟩
  obtain ⟨T102, h102, X102, e102, W102, st102⟩ := stZ X90 hx hZ e90 Ar102 (j := (7 : Int32)) hin102 (g := (mkF m 63 #[.val (.int pa), .val (.int pb), .val (.int v6), .val (.int v13), .val (.ref (pickF v6 aI aR aT)), .val (.ref (pickF v13 aI aR aT)), .unset] [(.int (0 : Int32)), (.int (7 : Int32)), (.ref b3), (.ref b3)])) rfl rfl (hb hby at_63)
  refine Go.st st102 ?_
  have F103 : Sta Z h102 "com/example/rivulet/rivulet/lang/Type" "INT" "Lcom/example/rivulet/rivulet/lang/Type;" (.ref aI) := F91.wr W102
  have F104 : Sta Z h102 "com/example/rivulet/rivulet/lang/Type" "REAL" "Lcom/example/rivulet/rivulet/lang/Type;" (.ref aR) := F92.wr W102
  have F105 : Sta Z h102 "com/example/rivulet/rivulet/lang/Type" "TEXT" "Lcom/example/rivulet/rivulet/lang/Type;" (.ref aT) := F93.wr W102
  have F106 : Exa Z h102 aI "com/example/rivulet/rivulet/lang/Type" := F94.wr W102
  have F107 : Exa Z h102 aR "com/example/rivulet/rivulet/lang/Type" := F95.wr W102
  have F108 : Exa Z h102 aT "com/example/rivulet/rivulet/lang/Type" := F96.wr W102
  have F109 : Arv Z h102 b3 k3 .boolean (9 : Int32) [(.int (1 : Int32)), (.int (1 : Int32)), (.int (0 : Int32)), (.int (0 : Int32)), (.int (1 : Int32)), (.int (0 : Int32)), (.int (0 : Int32)), (.int (0 : Int32)), (.int (0 : Int32))] (.int (0 : Int32)) := Arv.set Ar102 q102 S102 M102 H102 G102 (fits_nar_bool _) W102 7 rfl (Nat.le_of_ble_eq_true rfl)
  have F110 : Exa Z h102 b3 "[Z" := F98.wr W102
  have K111 : Keep h0 h102 [] := K99.wr W102 (Or.inr sz8)
  have Z112 : n0 ≤ h102.size := Nat.le_trans Z100 (Nat.le_of_eq W102.size.symm)
  have N113 := Fr.snoc X102 N101 ge7
  show Go p.tables e below _ (T102.setTop (mkF m 64 #[.val (.int pa), .val (.int pb), .val (.int v6), .val (.int v13), .val (.ref (pickF v6 aI aR aT)), .val (.ref (pickF v13 aI aR aT)), .unset] [(.ref b3)]))
  refine Go.st (fun _ k => XS.dup X102.here hx rfl (hb hby at_64) rfl rfl k) ?_
  show Go p.tables e below _ (T102.setTop (mkF m 65 #[.val (.int pa), .val (.int pb), .val (.int v6), .val (.int v13), .val (.ref (pickF v6 aI aR aT)), .val (.ref (pickF v13 aI aR aT)), .unset] [(.ref b3), (.ref b3)]))
  refine Go.st (fun _ k => XS.bipush X102.here hx rfl (hb hby at_65) k) ?_
  show Go p.tables e below _ (T102.setTop (mkF m 67 #[.val (.int pa), .val (.int pb), .val (.int v6), .val (.int v13), .val (.ref (pickF v6 aI aR aT)), .val (.ref (pickF v13 aI aR aT)), .unset] [(.int (8 : Int32)), (.ref b3), (.ref b3)]))
  refine Go.st (fun _ k => XS.iconst X102.here hx rfl (hb hby at_67) k) ?_
  show Go p.tables e below _ (T102.setTop (mkF m 68 #[.val (.int pa), .val (.int pb), .val (.int v6), .val (.int v13), .val (.ref (pickF v6 aI aR aT)), .val (.ref (pickF v13 aI aR aT)), .unset] [(.int (1 : Int32)), (.int (8 : Int32)), (.ref b3), (.ref b3)]))
  obtain ⟨cl114, Ar114, q114, S114, M114, H114, G114⟩ := id F109
  have hin114 : ¬ ((8 : Int32) < 0 ∨ cl114.slots.size ≤ ((8 : Int32)).toNatClampNeg) := inb_of S114 ⟨by decide, by decide⟩
  obtain ⟨T114, h114, X114, e114, W114, st114⟩ := stZ X102 hx hZ e102 Ar114 (j := (8 : Int32)) hin114 (g := (mkF m 68 #[.val (.int pa), .val (.int pb), .val (.int v6), .val (.int v13), .val (.ref (pickF v6 aI aR aT)), .val (.ref (pickF v13 aI aR aT)), .unset] [(.int (1 : Int32)), (.int (8 : Int32)), (.ref b3), (.ref b3)])) rfl rfl (hb hby at_68)
  refine Go.st st114 ?_
  have F115 : Sta Z h114 "com/example/rivulet/rivulet/lang/Type" "INT" "Lcom/example/rivulet/rivulet/lang/Type;" (.ref aI) := F103.wr W114
  have F116 : Sta Z h114 "com/example/rivulet/rivulet/lang/Type" "REAL" "Lcom/example/rivulet/rivulet/lang/Type;" (.ref aR) := F104.wr W114
  have F117 : Sta Z h114 "com/example/rivulet/rivulet/lang/Type" "TEXT" "Lcom/example/rivulet/rivulet/lang/Type;" (.ref aT) := F105.wr W114
  have F118 : Exa Z h114 aI "com/example/rivulet/rivulet/lang/Type" := F106.wr W114
  have F119 : Exa Z h114 aR "com/example/rivulet/rivulet/lang/Type" := F107.wr W114
  have F120 : Exa Z h114 aT "com/example/rivulet/rivulet/lang/Type" := F108.wr W114
  have F121 : Arv Z h114 b3 k3 .boolean (9 : Int32) [(.int (1 : Int32)), (.int (1 : Int32)), (.int (0 : Int32)), (.int (0 : Int32)), (.int (1 : Int32)), (.int (0 : Int32)), (.int (0 : Int32)), (.int (0 : Int32)), (.int (1 : Int32))] (.int (0 : Int32)) := Arv.set Ar114 q114 S114 M114 H114 G114 (fits_nar_bool _) W114 8 rfl (Nat.le_of_ble_eq_true rfl)
  have F122 : Exa Z h114 b3 "[Z" := F110.wr W114
  have K123 : Keep h0 h114 [] := K111.wr W114 (Or.inr sz8)
  have Z124 : n0 ≤ h114.size := Nat.le_trans Z112 (Nat.le_of_eq W114.size.symm)
  have N125 := Fr.snoc X114 N113 ge7
  show Go p.tables e below _ (T114.setTop (mkF m 69 #[.val (.int pa), .val (.int pb), .val (.int v6), .val (.int v13), .val (.ref (pickF v6 aI aR aT)), .val (.ref (pickF v13 aI aR aT)), .unset] [(.ref b3)]))
  refine Go.st (fun _ k => XS.astore X114.here hx rfl (hb hby at_69) rfl rfl (l' := #[.val (.int pa), .val (.int pb), .val (.int v6), .val (.int v13), .val (.ref (pickF v6 aI aR aT)), .val (.ref (pickF v13 aI aR aT)), .val (.ref b3)]) rfl k) ?_
  show Go p.tables e below _ (T114.setTop (mkF m 71 #[.val (.int pa), .val (.int pb), .val (.int v6), .val (.int v13), .val (.ref (pickF v6 aI aR aT)), .val (.ref (pickF v13 aI aR aT)), .val (.ref b3)] []))
  show Go p.tables e below _ (T114.setTop (mkF m 71 #[.val (.int pa), .val (.int pb), .val (.int v6), .val (.int v13), .val (.ref (pickF v6 aI aR aT)), .val (.ref (pickF v13 aI aR aT)), .val (.ref b3)] []))
  rcases own_k3 hqv6 with u6 | u6 | u6
  · subst u6
    rcases own_k3 hqv13 with u13 | u13 | u13
    · subst u13
      rw [show pickF (0 : Int32) aI aR aT = aI from by simp [pickF]]
      show Go p.tables e below _ (T114.setTop (mkF m 71 #[.val (.int pa), .val (.int pb), .val (.int (0 : Int32)), .val (.int (0 : Int32)), .val (.ref aI), .val (.ref aI), .val (.ref b3)] []))
      refine Go.st (fun _ k => XS.aload X114.here hx rfl (hb hby at_71) rfl rfl k) ?_
      show Go p.tables e below _ (T114.setTop (mkF m 73 #[.val (.int pa), .val (.int pb), .val (.int (0 : Int32)), .val (.int (0 : Int32)), .val (.ref aI), .val (.ref aI), .val (.ref b3)] [(.ref aI)]))
      refine Go.st (fun _ k => XS.aload X114.here hx rfl (hb hby at_73) rfl rfl k) ?_
      show Go p.tables e below _ (T114.setTop (mkF m 75 #[.val (.int pa), .val (.int pb), .val (.int (0 : Int32)), .val (.int (0 : Int32)), .val (.ref aI), .val (.ref aI), .val (.ref b3)] [(.ref aI), (.ref aI)]))
      obtain ⟨cq126, kq126, q126a, q126b, q126c⟩ := isOf hZ e114 F118
      obtain ⟨_, _, ⟨T126, L126, k126, n126⟩, -, X126, ⟨Lc126, hQ126, l126, y126, z126⟩, st126⟩ := X114.virtualBack hx (y := (⟨"com/example/rivulet/rivulet/lang/Type", "fits", "(Lcom/example/rivulet/rivulet/lang/Type;)Z"⟩ : MethodName)) (z := (⟨"com/example/rivulet/rivulet/lang/Type", "fits", "(Lcom/example/rivulet/rivulet/lang/Type;)Z"⟩ : MethodName)) hown (mvT hZ (hw _ (List.mem_of_getElem? (i := 9) rfl))) (mvT hZ (hw _ (List.mem_of_getElem? (i := 10) rfl))) (notFace_of_selects (args := #[]) (mvT hZ (hw _ (List.mem_of_getElem? (i := 12) rfl)))) (mvT hZ (hw _ (List.mem_of_getElem? (i := 12) rfl))) (mvT hZ (hw _ (List.mem_of_getElem? (i := 11) rfl))) (by decide) (backOf (W := 0) (rm_fits l Z a0 hw [] aI aI aI aR h114 n0 Z124 F115 F116) hZ (hw _ (List.mem_of_getElem? (i := 13) rfl)) (hw _ (List.mem_of_getElem? (i := 6) rfl)) (by decide) (by decide)) q126a q126c (g := (mkF m 75 #[.val (.int pa), .val (.int pb), .val (.int (0 : Int32)), .val (.int (0 : Int32)), .val (.ref aI), .val (.ref aI), .val (.ref b3)] [(.ref aI), (.ref aI)])) rfl (by rw [hml]; rfl) (Steps.refl _) (argsL := [(.ref aI)]) (rest := []) (lenOf pd_1 rfl) rfl (by show 2 * 0 + _ ≤ _; exact Nat.le_of_eq rfl) (hb hby at_75) (fun _ _ => ⟨rfl, e114, (by decide : 1 + 0 ≤ _), (by decide : 9 + 0 ≤ _)⟩)
      dsimp only [Pt.U, Pt.locs, Pt.cells, Pt.slots] at X126 l126 y126 z126 st126 hQ126
      subst l126 y126 z126
      obtain ⟨rfl, N126q, e126⟩ := hQ126
      have N126 := Fr.app N125 N126q
      refine Go.st (fun _ k => st126.trans k) ?_
      show Go p.tables e below _ (T126.setTop (mkF m 78 #[.val (.int pa), .val (.int pb), .val (.int (0 : Int32)), .val (.int (0 : Int32)), .val (.ref aI), .val (.ref aI), .val (.ref b3)] [(.int (fitF aI aI aI aR))]))
      refine Go.st (fun _ k => XS.aload X126.here hx rfl (hb hby at_78) rfl rfl k) ?_
      show Go p.tables e below _ (T126.setTop (mkF m 80 #[.val (.int pa), .val (.int pb), .val (.int (0 : Int32)), .val (.int (0 : Int32)), .val (.ref aI), .val (.ref aI), .val (.ref b3)] [(.ref b3), (.int (fitF aI aI aI aR))]))
      refine Go.st (fun _ k => XS.iloadN X126.here hx rfl (hb hby at_80) rfl k) ?_
      show Go p.tables e below _ (T126.setTop (mkF m 81 #[.val (.int pa), .val (.int pb), .val (.int (0 : Int32)), .val (.int (0 : Int32)), .val (.ref aI), .val (.ref aI), .val (.ref b3)] [(.int (0 : Int32)), (.ref b3), (.int (fitF aI aI aI aR))]))
      refine Go.st (fun _ k => XS.iconst X126.here hx rfl (hb hby at_81) k) ?_
      show Go p.tables e below _ (T126.setTop (mkF m 82 #[.val (.int pa), .val (.int pb), .val (.int (0 : Int32)), .val (.int (0 : Int32)), .val (.ref aI), .val (.ref aI), .val (.ref b3)] [(.int (3 : Int32)), (.int (0 : Int32)), (.ref b3), (.int (fitF aI aI aI aR))]))
      refine Go.st (fun _ k => XS.imul X126.here hx rfl (hb hby at_82) rfl k) ?_
      show Go p.tables e below _ (T126.setTop (mkF m 83 #[.val (.int pa), .val (.int pb), .val (.int (0 : Int32)), .val (.int (0 : Int32)), .val (.ref aI), .val (.ref aI), .val (.ref b3)] [(.int ((0 : Int32) * (3 : Int32))), (.ref b3), (.int (fitF aI aI aI aR))]))
      rw [show ((0 : Int32) * (3 : Int32)) = (0 : Int32) from by decide]
      show Go p.tables e below _ (T126.setTop (mkF m 83 #[.val (.int pa), .val (.int pb), .val (.int (0 : Int32)), .val (.int (0 : Int32)), .val (.ref aI), .val (.ref aI), .val (.ref b3)] [(.int (0 : Int32)), (.ref b3), (.int (fitF aI aI aI aR))]))
      refine Go.st (fun _ k => XS.iloadN X126.here hx rfl (hb hby at_83) rfl k) ?_
      show Go p.tables e below _ (T126.setTop (mkF m 84 #[.val (.int pa), .val (.int pb), .val (.int (0 : Int32)), .val (.int (0 : Int32)), .val (.ref aI), .val (.ref aI), .val (.ref b3)] [(.int (0 : Int32)), (.int (0 : Int32)), (.ref b3), (.int (fitF aI aI aI aR))]))
      refine Go.st (fun _ k => XS.iadd X126.here hx rfl (hb hby at_84) rfl k) ?_
      show Go p.tables e below _ (T126.setTop (mkF m 85 #[.val (.int pa), .val (.int pb), .val (.int (0 : Int32)), .val (.int (0 : Int32)), .val (.ref aI), .val (.ref aI), .val (.ref b3)] [(.int ((0 : Int32) + (0 : Int32))), (.ref b3), (.int (fitF aI aI aI aR))]))
      rw [show ((0 : Int32) + (0 : Int32)) = (0 : Int32) from by decide]
      show Go p.tables e below _ (T126.setTop (mkF m 85 #[.val (.int pa), .val (.int pb), .val (.int (0 : Int32)), .val (.int (0 : Int32)), .val (.ref aI), .val (.ref aI), .val (.ref b3)] [(.int (0 : Int32)), (.ref b3), (.int (fitF aI aI aI aR))]))
      obtain ⟨cl127, Ar127, q127, S127, M127, H127, G127⟩ := id F121
      have hin127 : ¬ ((0 : Int32) < 0 ∨ cl127.slots.size ≤ ((0 : Int32)).toNatClampNeg) := inb_of S127 ⟨by decide, by decide⟩
      have hat127 : cl127.slots[((0 : Int32)).toNatClampNeg]? = some (.int (1 : Int32)) := Has.at H127 hin127 (rfl)
      refine Go.st (fun _ k => X126.baloadBooleans hx (j := (0 : Int32)) (v := (.int (1 : Int32))) (by rw [e126]; exact Ar127.1) (State.isArrayOf_alike hZ.alike Ar127.2.1) Ar127.2.2 hin127 hat127 (g := (mkF m 85 #[.val (.int pa), .val (.int pb), .val (.int (0 : Int32)), .val (.int (0 : Int32)), .val (.ref aI), .val (.ref aI), .val (.ref b3)] [(.int (0 : Int32)), (.ref b3), (.int (fitF aI aI aI aR))])) rfl rfl (hb hby at_85) _ k) ?_
      show Go p.tables e below _ (T126.setTop (mkF m 86 #[.val (.int pa), .val (.int pb), .val (.int (0 : Int32)), .val (.int (0 : Int32)), .val (.ref aI), .val (.ref aI), .val (.ref b3)] [(.int (1 : Int32)), (.int (fitF aI aI aI aR))]))
      have hc86 : (fitF aI aI aI aR) = (1 : Int32) := (by simp [fitF, hIR, hIT, hRT, Ne.symm hIR, Ne.symm hIT, Ne.symm hRT])
      refine Go.st (fun _ k => XS.icmpNo X126.here hx rfl (hb hby at_86) rfl (Jvm.Free.XT.ii_ne_f hc86) k) ?_
      show Go p.tables e below _ (T126.setTop (mkF m 89 #[.val (.int pa), .val (.int pb), .val (.int (0 : Int32)), .val (.int (0 : Int32)), .val (.ref aI), .val (.ref aI), .val (.ref b3)] []))
      refine Go.st (fun _ k => XS.iconst X126.here hx rfl (hb hby at_89) k) ?_
      show Go p.tables e below _ (T126.setTop (mkF m 90 #[.val (.int pa), .val (.int pb), .val (.int (0 : Int32)), .val (.int (0 : Int32)), .val (.ref aI), .val (.ref aI), .val (.ref b3)] [(.int (1 : Int32))]))
      refine Go.st (fun _ k => XS.goto X126.here hx rfl (pc0 := 90) (pc' := 94) rfl (hb hby at_90) (by decide) (by decide) k) ?_
      show Go p.tables e below _ (T126.setTop (mkF m 94 #[.val (.int pa), .val (.int pb), .val (.int (0 : Int32)), .val (.int (0 : Int32)), .val (.ref aI), .val (.ref aI), .val (.ref b3)] [(.int (1 : Int32))]))
      subst hG
      obtain ⟨fs, hr, hrun, hended, hW, hsame⟩ := X126.leave (v := some (.int (nar .boolean (1 : Int32)))) (fun h => by rw [Bd.returns] at h; cases h)
      refine ⟨_, _, ?_, hrun, hended, _, _, rfl, ?_, ⟨_, rfl⟩, hW, hsame.mono (by decide) (by decide)⟩
      · exact retN X126 hx (t := .boolean) Bd.returns (by simp) (hb hby at_94) hr
      · show Q_law Z pa pb aI aR aT h0 n0 _ T126.heap _
        rw [e126]
        exact ⟨rfl, N126, K123⟩
    · subst u13
      rw [show pickF (0 : Int32) aI aR aT = aI from by simp [pickF]]
      rw [show pickF (1 : Int32) aI aR aT = aR from by simp [pickF]]
      show Go p.tables e below _ (T114.setTop (mkF m 71 #[.val (.int pa), .val (.int pb), .val (.int (0 : Int32)), .val (.int (1 : Int32)), .val (.ref aI), .val (.ref aR), .val (.ref b3)] []))
      refine Go.st (fun _ k => XS.aload X114.here hx rfl (hb hby at_71) rfl rfl k) ?_
      show Go p.tables e below _ (T114.setTop (mkF m 73 #[.val (.int pa), .val (.int pb), .val (.int (0 : Int32)), .val (.int (1 : Int32)), .val (.ref aI), .val (.ref aR), .val (.ref b3)] [(.ref aI)]))
      refine Go.st (fun _ k => XS.aload X114.here hx rfl (hb hby at_73) rfl rfl k) ?_
      show Go p.tables e below _ (T114.setTop (mkF m 75 #[.val (.int pa), .val (.int pb), .val (.int (0 : Int32)), .val (.int (1 : Int32)), .val (.ref aI), .val (.ref aR), .val (.ref b3)] [(.ref aR), (.ref aI)]))
      obtain ⟨cq128, kq128, q128a, q128b, q128c⟩ := isOf hZ e114 F118
      obtain ⟨_, _, ⟨T128, L128, k128, n128⟩, -, X128, ⟨Lc128, hQ128, l128, y128, z128⟩, st128⟩ := X114.virtualBack hx (y := (⟨"com/example/rivulet/rivulet/lang/Type", "fits", "(Lcom/example/rivulet/rivulet/lang/Type;)Z"⟩ : MethodName)) (z := (⟨"com/example/rivulet/rivulet/lang/Type", "fits", "(Lcom/example/rivulet/rivulet/lang/Type;)Z"⟩ : MethodName)) hown (mvT hZ (hw _ (List.mem_of_getElem? (i := 9) rfl))) (mvT hZ (hw _ (List.mem_of_getElem? (i := 10) rfl))) (notFace_of_selects (args := #[]) (mvT hZ (hw _ (List.mem_of_getElem? (i := 12) rfl)))) (mvT hZ (hw _ (List.mem_of_getElem? (i := 12) rfl))) (mvT hZ (hw _ (List.mem_of_getElem? (i := 11) rfl))) (by decide) (backOf (W := 0) (rm_fits l Z a0 hw [] aI aR aI aR h114 n0 Z124 F115 F116) hZ (hw _ (List.mem_of_getElem? (i := 13) rfl)) (hw _ (List.mem_of_getElem? (i := 6) rfl)) (by decide) (by decide)) q128a q128c (g := (mkF m 75 #[.val (.int pa), .val (.int pb), .val (.int (0 : Int32)), .val (.int (1 : Int32)), .val (.ref aI), .val (.ref aR), .val (.ref b3)] [(.ref aR), (.ref aI)])) rfl (by rw [hml]; rfl) (Steps.refl _) (argsL := [(.ref aR)]) (rest := []) (lenOf pd_1 rfl) rfl (by show 2 * 0 + _ ≤ _; exact Nat.le_of_eq rfl) (hb hby at_75) (fun _ _ => ⟨rfl, e114, (by decide : 1 + 0 ≤ _), (by decide : 9 + 0 ≤ _)⟩)
      dsimp only [Pt.U, Pt.locs, Pt.cells, Pt.slots] at X128 l128 y128 z128 st128 hQ128
      subst l128 y128 z128
      obtain ⟨rfl, N128q, e128⟩ := hQ128
      have N128 := Fr.app N125 N128q
      refine Go.st (fun _ k => st128.trans k) ?_
      show Go p.tables e below _ (T128.setTop (mkF m 78 #[.val (.int pa), .val (.int pb), .val (.int (0 : Int32)), .val (.int (1 : Int32)), .val (.ref aI), .val (.ref aR), .val (.ref b3)] [(.int (fitF aI aR aI aR))]))
      refine Go.st (fun _ k => XS.aload X128.here hx rfl (hb hby at_78) rfl rfl k) ?_
      show Go p.tables e below _ (T128.setTop (mkF m 80 #[.val (.int pa), .val (.int pb), .val (.int (0 : Int32)), .val (.int (1 : Int32)), .val (.ref aI), .val (.ref aR), .val (.ref b3)] [(.ref b3), (.int (fitF aI aR aI aR))]))
      refine Go.st (fun _ k => XS.iloadN X128.here hx rfl (hb hby at_80) rfl k) ?_
      show Go p.tables e below _ (T128.setTop (mkF m 81 #[.val (.int pa), .val (.int pb), .val (.int (0 : Int32)), .val (.int (1 : Int32)), .val (.ref aI), .val (.ref aR), .val (.ref b3)] [(.int (0 : Int32)), (.ref b3), (.int (fitF aI aR aI aR))]))
      refine Go.st (fun _ k => XS.iconst X128.here hx rfl (hb hby at_81) k) ?_
      show Go p.tables e below _ (T128.setTop (mkF m 82 #[.val (.int pa), .val (.int pb), .val (.int (0 : Int32)), .val (.int (1 : Int32)), .val (.ref aI), .val (.ref aR), .val (.ref b3)] [(.int (3 : Int32)), (.int (0 : Int32)), (.ref b3), (.int (fitF aI aR aI aR))]))
      refine Go.st (fun _ k => XS.imul X128.here hx rfl (hb hby at_82) rfl k) ?_
      show Go p.tables e below _ (T128.setTop (mkF m 83 #[.val (.int pa), .val (.int pb), .val (.int (0 : Int32)), .val (.int (1 : Int32)), .val (.ref aI), .val (.ref aR), .val (.ref b3)] [(.int ((0 : Int32) * (3 : Int32))), (.ref b3), (.int (fitF aI aR aI aR))]))
      rw [show ((0 : Int32) * (3 : Int32)) = (0 : Int32) from by decide]
      show Go p.tables e below _ (T128.setTop (mkF m 83 #[.val (.int pa), .val (.int pb), .val (.int (0 : Int32)), .val (.int (1 : Int32)), .val (.ref aI), .val (.ref aR), .val (.ref b3)] [(.int (0 : Int32)), (.ref b3), (.int (fitF aI aR aI aR))]))
      refine Go.st (fun _ k => XS.iloadN X128.here hx rfl (hb hby at_83) rfl k) ?_
      show Go p.tables e below _ (T128.setTop (mkF m 84 #[.val (.int pa), .val (.int pb), .val (.int (0 : Int32)), .val (.int (1 : Int32)), .val (.ref aI), .val (.ref aR), .val (.ref b3)] [(.int (1 : Int32)), (.int (0 : Int32)), (.ref b3), (.int (fitF aI aR aI aR))]))
      refine Go.st (fun _ k => XS.iadd X128.here hx rfl (hb hby at_84) rfl k) ?_
      show Go p.tables e below _ (T128.setTop (mkF m 85 #[.val (.int pa), .val (.int pb), .val (.int (0 : Int32)), .val (.int (1 : Int32)), .val (.ref aI), .val (.ref aR), .val (.ref b3)] [(.int ((0 : Int32) + (1 : Int32))), (.ref b3), (.int (fitF aI aR aI aR))]))
      rw [show ((0 : Int32) + (1 : Int32)) = (1 : Int32) from by decide]
      show Go p.tables e below _ (T128.setTop (mkF m 85 #[.val (.int pa), .val (.int pb), .val (.int (0 : Int32)), .val (.int (1 : Int32)), .val (.ref aI), .val (.ref aR), .val (.ref b3)] [(.int (1 : Int32)), (.ref b3), (.int (fitF aI aR aI aR))]))
      obtain ⟨cl129, Ar129, q129, S129, M129, H129, G129⟩ := id F121
      have hin129 : ¬ ((1 : Int32) < 0 ∨ cl129.slots.size ≤ ((1 : Int32)).toNatClampNeg) := inb_of S129 ⟨by decide, by decide⟩
      have hat129 : cl129.slots[((1 : Int32)).toNatClampNeg]? = some (.int (1 : Int32)) := Has.at H129 hin129 (rfl)
      refine Go.st (fun _ k => X128.baloadBooleans hx (j := (1 : Int32)) (v := (.int (1 : Int32))) (by rw [e128]; exact Ar129.1) (State.isArrayOf_alike hZ.alike Ar129.2.1) Ar129.2.2 hin129 hat129 (g := (mkF m 85 #[.val (.int pa), .val (.int pb), .val (.int (0 : Int32)), .val (.int (1 : Int32)), .val (.ref aI), .val (.ref aR), .val (.ref b3)] [(.int (1 : Int32)), (.ref b3), (.int (fitF aI aR aI aR))])) rfl rfl (hb hby at_85) _ k) ?_
      show Go p.tables e below _ (T128.setTop (mkF m 86 #[.val (.int pa), .val (.int pb), .val (.int (0 : Int32)), .val (.int (1 : Int32)), .val (.ref aI), .val (.ref aR), .val (.ref b3)] [(.int (1 : Int32)), (.int (fitF aI aR aI aR))]))
      have hc86 : (fitF aI aR aI aR) = (1 : Int32) := (by simp [fitF, hIR, hIT, hRT, Ne.symm hIR, Ne.symm hIT, Ne.symm hRT])
      refine Go.st (fun _ k => XS.icmpNo X128.here hx rfl (hb hby at_86) rfl (Jvm.Free.XT.ii_ne_f hc86) k) ?_
      show Go p.tables e below _ (T128.setTop (mkF m 89 #[.val (.int pa), .val (.int pb), .val (.int (0 : Int32)), .val (.int (1 : Int32)), .val (.ref aI), .val (.ref aR), .val (.ref b3)] []))
      refine Go.st (fun _ k => XS.iconst X128.here hx rfl (hb hby at_89) k) ?_
      show Go p.tables e below _ (T128.setTop (mkF m 90 #[.val (.int pa), .val (.int pb), .val (.int (0 : Int32)), .val (.int (1 : Int32)), .val (.ref aI), .val (.ref aR), .val (.ref b3)] [(.int (1 : Int32))]))
      refine Go.st (fun _ k => XS.goto X128.here hx rfl (pc0 := 90) (pc' := 94) rfl (hb hby at_90) (by decide) (by decide) k) ?_
      show Go p.tables e below _ (T128.setTop (mkF m 94 #[.val (.int pa), .val (.int pb), .val (.int (0 : Int32)), .val (.int (1 : Int32)), .val (.ref aI), .val (.ref aR), .val (.ref b3)] [(.int (1 : Int32))]))
      subst hG
      obtain ⟨fs, hr, hrun, hended, hW, hsame⟩ := X128.leave (v := some (.int (nar .boolean (1 : Int32)))) (fun h => by rw [Bd.returns] at h; cases h)
      refine ⟨_, _, ?_, hrun, hended, _, _, rfl, ?_, ⟨_, rfl⟩, hW, hsame.mono (by decide) (by decide)⟩
      · exact retN X128 hx (t := .boolean) Bd.returns (by simp) (hb hby at_94) hr
      · show Q_law Z pa pb aI aR aT h0 n0 _ T128.heap _
        rw [e128]
        exact ⟨rfl, N128, K123⟩
    · subst u13
      rw [show pickF (0 : Int32) aI aR aT = aI from by simp [pickF]]
      rw [show pickF (2 : Int32) aI aR aT = aT from by simp [pickF]]
      show Go p.tables e below _ (T114.setTop (mkF m 71 #[.val (.int pa), .val (.int pb), .val (.int (0 : Int32)), .val (.int (2 : Int32)), .val (.ref aI), .val (.ref aT), .val (.ref b3)] []))
      refine Go.st (fun _ k => XS.aload X114.here hx rfl (hb hby at_71) rfl rfl k) ?_
      show Go p.tables e below _ (T114.setTop (mkF m 73 #[.val (.int pa), .val (.int pb), .val (.int (0 : Int32)), .val (.int (2 : Int32)), .val (.ref aI), .val (.ref aT), .val (.ref b3)] [(.ref aI)]))
      refine Go.st (fun _ k => XS.aload X114.here hx rfl (hb hby at_73) rfl rfl k) ?_
      show Go p.tables e below _ (T114.setTop (mkF m 75 #[.val (.int pa), .val (.int pb), .val (.int (0 : Int32)), .val (.int (2 : Int32)), .val (.ref aI), .val (.ref aT), .val (.ref b3)] [(.ref aT), (.ref aI)]))
      obtain ⟨cq130, kq130, q130a, q130b, q130c⟩ := isOf hZ e114 F118
      obtain ⟨_, _, ⟨T130, L130, k130, n130⟩, -, X130, ⟨Lc130, hQ130, l130, y130, z130⟩, st130⟩ := X114.virtualBack hx (y := (⟨"com/example/rivulet/rivulet/lang/Type", "fits", "(Lcom/example/rivulet/rivulet/lang/Type;)Z"⟩ : MethodName)) (z := (⟨"com/example/rivulet/rivulet/lang/Type", "fits", "(Lcom/example/rivulet/rivulet/lang/Type;)Z"⟩ : MethodName)) hown (mvT hZ (hw _ (List.mem_of_getElem? (i := 9) rfl))) (mvT hZ (hw _ (List.mem_of_getElem? (i := 10) rfl))) (notFace_of_selects (args := #[]) (mvT hZ (hw _ (List.mem_of_getElem? (i := 12) rfl)))) (mvT hZ (hw _ (List.mem_of_getElem? (i := 12) rfl))) (mvT hZ (hw _ (List.mem_of_getElem? (i := 11) rfl))) (by decide) (backOf (W := 0) (rm_fits l Z a0 hw [] aI aT aI aR h114 n0 Z124 F115 F116) hZ (hw _ (List.mem_of_getElem? (i := 13) rfl)) (hw _ (List.mem_of_getElem? (i := 6) rfl)) (by decide) (by decide)) q130a q130c (g := (mkF m 75 #[.val (.int pa), .val (.int pb), .val (.int (0 : Int32)), .val (.int (2 : Int32)), .val (.ref aI), .val (.ref aT), .val (.ref b3)] [(.ref aT), (.ref aI)])) rfl (by rw [hml]; rfl) (Steps.refl _) (argsL := [(.ref aT)]) (rest := []) (lenOf pd_1 rfl) rfl (by show 2 * 0 + _ ≤ _; exact Nat.le_of_eq rfl) (hb hby at_75) (fun _ _ => ⟨rfl, e114, (by decide : 1 + 0 ≤ _), (by decide : 9 + 0 ≤ _)⟩)
      dsimp only [Pt.U, Pt.locs, Pt.cells, Pt.slots] at X130 l130 y130 z130 st130 hQ130
      subst l130 y130 z130
      obtain ⟨rfl, N130q, e130⟩ := hQ130
      have N130 := Fr.app N125 N130q
      refine Go.st (fun _ k => st130.trans k) ?_
      show Go p.tables e below _ (T130.setTop (mkF m 78 #[.val (.int pa), .val (.int pb), .val (.int (0 : Int32)), .val (.int (2 : Int32)), .val (.ref aI), .val (.ref aT), .val (.ref b3)] [(.int (fitF aI aT aI aR))]))
      refine Go.st (fun _ k => XS.aload X130.here hx rfl (hb hby at_78) rfl rfl k) ?_
      show Go p.tables e below _ (T130.setTop (mkF m 80 #[.val (.int pa), .val (.int pb), .val (.int (0 : Int32)), .val (.int (2 : Int32)), .val (.ref aI), .val (.ref aT), .val (.ref b3)] [(.ref b3), (.int (fitF aI aT aI aR))]))
      refine Go.st (fun _ k => XS.iloadN X130.here hx rfl (hb hby at_80) rfl k) ?_
      show Go p.tables e below _ (T130.setTop (mkF m 81 #[.val (.int pa), .val (.int pb), .val (.int (0 : Int32)), .val (.int (2 : Int32)), .val (.ref aI), .val (.ref aT), .val (.ref b3)] [(.int (0 : Int32)), (.ref b3), (.int (fitF aI aT aI aR))]))
      refine Go.st (fun _ k => XS.iconst X130.here hx rfl (hb hby at_81) k) ?_
      show Go p.tables e below _ (T130.setTop (mkF m 82 #[.val (.int pa), .val (.int pb), .val (.int (0 : Int32)), .val (.int (2 : Int32)), .val (.ref aI), .val (.ref aT), .val (.ref b3)] [(.int (3 : Int32)), (.int (0 : Int32)), (.ref b3), (.int (fitF aI aT aI aR))]))
      refine Go.st (fun _ k => XS.imul X130.here hx rfl (hb hby at_82) rfl k) ?_
      show Go p.tables e below _ (T130.setTop (mkF m 83 #[.val (.int pa), .val (.int pb), .val (.int (0 : Int32)), .val (.int (2 : Int32)), .val (.ref aI), .val (.ref aT), .val (.ref b3)] [(.int ((0 : Int32) * (3 : Int32))), (.ref b3), (.int (fitF aI aT aI aR))]))
      rw [show ((0 : Int32) * (3 : Int32)) = (0 : Int32) from by decide]
      show Go p.tables e below _ (T130.setTop (mkF m 83 #[.val (.int pa), .val (.int pb), .val (.int (0 : Int32)), .val (.int (2 : Int32)), .val (.ref aI), .val (.ref aT), .val (.ref b3)] [(.int (0 : Int32)), (.ref b3), (.int (fitF aI aT aI aR))]))
      refine Go.st (fun _ k => XS.iloadN X130.here hx rfl (hb hby at_83) rfl k) ?_
      show Go p.tables e below _ (T130.setTop (mkF m 84 #[.val (.int pa), .val (.int pb), .val (.int (0 : Int32)), .val (.int (2 : Int32)), .val (.ref aI), .val (.ref aT), .val (.ref b3)] [(.int (2 : Int32)), (.int (0 : Int32)), (.ref b3), (.int (fitF aI aT aI aR))]))
      refine Go.st (fun _ k => XS.iadd X130.here hx rfl (hb hby at_84) rfl k) ?_
      show Go p.tables e below _ (T130.setTop (mkF m 85 #[.val (.int pa), .val (.int pb), .val (.int (0 : Int32)), .val (.int (2 : Int32)), .val (.ref aI), .val (.ref aT), .val (.ref b3)] [(.int ((0 : Int32) + (2 : Int32))), (.ref b3), (.int (fitF aI aT aI aR))]))
      rw [show ((0 : Int32) + (2 : Int32)) = (2 : Int32) from by decide]
      show Go p.tables e below _ (T130.setTop (mkF m 85 #[.val (.int pa), .val (.int pb), .val (.int (0 : Int32)), .val (.int (2 : Int32)), .val (.ref aI), .val (.ref aT), .val (.ref b3)] [(.int (2 : Int32)), (.ref b3), (.int (fitF aI aT aI aR))]))
      obtain ⟨cl131, Ar131, q131, S131, M131, H131, G131⟩ := id F121
      have hin131 : ¬ ((2 : Int32) < 0 ∨ cl131.slots.size ≤ ((2 : Int32)).toNatClampNeg) := inb_of S131 ⟨by decide, by decide⟩
      have hat131 : cl131.slots[((2 : Int32)).toNatClampNeg]? = some (.int (0 : Int32)) := Has.at H131 hin131 (rfl)
      refine Go.st (fun _ k => X130.baloadBooleans hx (j := (2 : Int32)) (v := (.int (0 : Int32))) (by rw [e130]; exact Ar131.1) (State.isArrayOf_alike hZ.alike Ar131.2.1) Ar131.2.2 hin131 hat131 (g := (mkF m 85 #[.val (.int pa), .val (.int pb), .val (.int (0 : Int32)), .val (.int (2 : Int32)), .val (.ref aI), .val (.ref aT), .val (.ref b3)] [(.int (2 : Int32)), (.ref b3), (.int (fitF aI aT aI aR))])) rfl rfl (hb hby at_85) _ k) ?_
      show Go p.tables e below _ (T130.setTop (mkF m 86 #[.val (.int pa), .val (.int pb), .val (.int (0 : Int32)), .val (.int (2 : Int32)), .val (.ref aI), .val (.ref aT), .val (.ref b3)] [(.int (0 : Int32)), (.int (fitF aI aT aI aR))]))
      have hc86 : (fitF aI aT aI aR) = (0 : Int32) := (by simp [fitF, hIR, hIT, hRT, Ne.symm hIR, Ne.symm hIT, Ne.symm hRT])
      refine Go.st (fun _ k => XS.icmpNo X130.here hx rfl (hb hby at_86) rfl (Jvm.Free.XT.ii_ne_f hc86) k) ?_
      show Go p.tables e below _ (T130.setTop (mkF m 89 #[.val (.int pa), .val (.int pb), .val (.int (0 : Int32)), .val (.int (2 : Int32)), .val (.ref aI), .val (.ref aT), .val (.ref b3)] []))
      refine Go.st (fun _ k => XS.iconst X130.here hx rfl (hb hby at_89) k) ?_
      show Go p.tables e below _ (T130.setTop (mkF m 90 #[.val (.int pa), .val (.int pb), .val (.int (0 : Int32)), .val (.int (2 : Int32)), .val (.ref aI), .val (.ref aT), .val (.ref b3)] [(.int (1 : Int32))]))
      refine Go.st (fun _ k => XS.goto X130.here hx rfl (pc0 := 90) (pc' := 94) rfl (hb hby at_90) (by decide) (by decide) k) ?_
      show Go p.tables e below _ (T130.setTop (mkF m 94 #[.val (.int pa), .val (.int pb), .val (.int (0 : Int32)), .val (.int (2 : Int32)), .val (.ref aI), .val (.ref aT), .val (.ref b3)] [(.int (1 : Int32))]))
      subst hG
      obtain ⟨fs, hr, hrun, hended, hW, hsame⟩ := X130.leave (v := some (.int (nar .boolean (1 : Int32)))) (fun h => by rw [Bd.returns] at h; cases h)
      refine ⟨_, _, ?_, hrun, hended, _, _, rfl, ?_, ⟨_, rfl⟩, hW, hsame.mono (by decide) (by decide)⟩
      · exact retN X130 hx (t := .boolean) Bd.returns (by simp) (hb hby at_94) hr
      · show Q_law Z pa pb aI aR aT h0 n0 _ T130.heap _
        rw [e130]
        exact ⟨rfl, N130, K123⟩
  · subst u6
    rcases own_k3 hqv13 with u13 | u13 | u13
    · subst u13
      rw [show pickF (0 : Int32) aI aR aT = aI from by simp [pickF]]
      rw [show pickF (1 : Int32) aI aR aT = aR from by simp [pickF]]
      show Go p.tables e below _ (T114.setTop (mkF m 71 #[.val (.int pa), .val (.int pb), .val (.int (1 : Int32)), .val (.int (0 : Int32)), .val (.ref aR), .val (.ref aI), .val (.ref b3)] []))
      refine Go.st (fun _ k => XS.aload X114.here hx rfl (hb hby at_71) rfl rfl k) ?_
      show Go p.tables e below _ (T114.setTop (mkF m 73 #[.val (.int pa), .val (.int pb), .val (.int (1 : Int32)), .val (.int (0 : Int32)), .val (.ref aR), .val (.ref aI), .val (.ref b3)] [(.ref aR)]))
      refine Go.st (fun _ k => XS.aload X114.here hx rfl (hb hby at_73) rfl rfl k) ?_
      show Go p.tables e below _ (T114.setTop (mkF m 75 #[.val (.int pa), .val (.int pb), .val (.int (1 : Int32)), .val (.int (0 : Int32)), .val (.ref aR), .val (.ref aI), .val (.ref b3)] [(.ref aI), (.ref aR)]))
      obtain ⟨cq132, kq132, q132a, q132b, q132c⟩ := isOf hZ e114 F119
      obtain ⟨_, _, ⟨T132, L132, k132, n132⟩, -, X132, ⟨Lc132, hQ132, l132, y132, z132⟩, st132⟩ := X114.virtualBack hx (y := (⟨"com/example/rivulet/rivulet/lang/Type", "fits", "(Lcom/example/rivulet/rivulet/lang/Type;)Z"⟩ : MethodName)) (z := (⟨"com/example/rivulet/rivulet/lang/Type", "fits", "(Lcom/example/rivulet/rivulet/lang/Type;)Z"⟩ : MethodName)) hown (mvT hZ (hw _ (List.mem_of_getElem? (i := 9) rfl))) (mvT hZ (hw _ (List.mem_of_getElem? (i := 10) rfl))) (notFace_of_selects (args := #[]) (mvT hZ (hw _ (List.mem_of_getElem? (i := 12) rfl)))) (mvT hZ (hw _ (List.mem_of_getElem? (i := 12) rfl))) (mvT hZ (hw _ (List.mem_of_getElem? (i := 11) rfl))) (by decide) (backOf (W := 0) (rm_fits l Z a0 hw [] aR aI aI aR h114 n0 Z124 F115 F116) hZ (hw _ (List.mem_of_getElem? (i := 13) rfl)) (hw _ (List.mem_of_getElem? (i := 6) rfl)) (by decide) (by decide)) q132a q132c (g := (mkF m 75 #[.val (.int pa), .val (.int pb), .val (.int (1 : Int32)), .val (.int (0 : Int32)), .val (.ref aR), .val (.ref aI), .val (.ref b3)] [(.ref aI), (.ref aR)])) rfl (by rw [hml]; rfl) (Steps.refl _) (argsL := [(.ref aI)]) (rest := []) (lenOf pd_1 rfl) rfl (by show 2 * 0 + _ ≤ _; exact Nat.le_of_eq rfl) (hb hby at_75) (fun _ _ => ⟨rfl, e114, (by decide : 1 + 0 ≤ _), (by decide : 9 + 0 ≤ _)⟩)
      dsimp only [Pt.U, Pt.locs, Pt.cells, Pt.slots] at X132 l132 y132 z132 st132 hQ132
      subst l132 y132 z132
      obtain ⟨rfl, N132q, e132⟩ := hQ132
      have N132 := Fr.app N125 N132q
      refine Go.st (fun _ k => st132.trans k) ?_
      show Go p.tables e below _ (T132.setTop (mkF m 78 #[.val (.int pa), .val (.int pb), .val (.int (1 : Int32)), .val (.int (0 : Int32)), .val (.ref aR), .val (.ref aI), .val (.ref b3)] [(.int (fitF aR aI aI aR))]))
      refine Go.st (fun _ k => XS.aload X132.here hx rfl (hb hby at_78) rfl rfl k) ?_
      show Go p.tables e below _ (T132.setTop (mkF m 80 #[.val (.int pa), .val (.int pb), .val (.int (1 : Int32)), .val (.int (0 : Int32)), .val (.ref aR), .val (.ref aI), .val (.ref b3)] [(.ref b3), (.int (fitF aR aI aI aR))]))
      refine Go.st (fun _ k => XS.iloadN X132.here hx rfl (hb hby at_80) rfl k) ?_
      show Go p.tables e below _ (T132.setTop (mkF m 81 #[.val (.int pa), .val (.int pb), .val (.int (1 : Int32)), .val (.int (0 : Int32)), .val (.ref aR), .val (.ref aI), .val (.ref b3)] [(.int (1 : Int32)), (.ref b3), (.int (fitF aR aI aI aR))]))
      refine Go.st (fun _ k => XS.iconst X132.here hx rfl (hb hby at_81) k) ?_
      show Go p.tables e below _ (T132.setTop (mkF m 82 #[.val (.int pa), .val (.int pb), .val (.int (1 : Int32)), .val (.int (0 : Int32)), .val (.ref aR), .val (.ref aI), .val (.ref b3)] [(.int (3 : Int32)), (.int (1 : Int32)), (.ref b3), (.int (fitF aR aI aI aR))]))
      refine Go.st (fun _ k => XS.imul X132.here hx rfl (hb hby at_82) rfl k) ?_
      show Go p.tables e below _ (T132.setTop (mkF m 83 #[.val (.int pa), .val (.int pb), .val (.int (1 : Int32)), .val (.int (0 : Int32)), .val (.ref aR), .val (.ref aI), .val (.ref b3)] [(.int ((1 : Int32) * (3 : Int32))), (.ref b3), (.int (fitF aR aI aI aR))]))
      rw [show ((1 : Int32) * (3 : Int32)) = (3 : Int32) from by decide]
      show Go p.tables e below _ (T132.setTop (mkF m 83 #[.val (.int pa), .val (.int pb), .val (.int (1 : Int32)), .val (.int (0 : Int32)), .val (.ref aR), .val (.ref aI), .val (.ref b3)] [(.int (3 : Int32)), (.ref b3), (.int (fitF aR aI aI aR))]))
      refine Go.st (fun _ k => XS.iloadN X132.here hx rfl (hb hby at_83) rfl k) ?_
      show Go p.tables e below _ (T132.setTop (mkF m 84 #[.val (.int pa), .val (.int pb), .val (.int (1 : Int32)), .val (.int (0 : Int32)), .val (.ref aR), .val (.ref aI), .val (.ref b3)] [(.int (0 : Int32)), (.int (3 : Int32)), (.ref b3), (.int (fitF aR aI aI aR))]))
      refine Go.st (fun _ k => XS.iadd X132.here hx rfl (hb hby at_84) rfl k) ?_
      show Go p.tables e below _ (T132.setTop (mkF m 85 #[.val (.int pa), .val (.int pb), .val (.int (1 : Int32)), .val (.int (0 : Int32)), .val (.ref aR), .val (.ref aI), .val (.ref b3)] [(.int ((3 : Int32) + (0 : Int32))), (.ref b3), (.int (fitF aR aI aI aR))]))
      rw [show ((3 : Int32) + (0 : Int32)) = (3 : Int32) from by decide]
      show Go p.tables e below _ (T132.setTop (mkF m 85 #[.val (.int pa), .val (.int pb), .val (.int (1 : Int32)), .val (.int (0 : Int32)), .val (.ref aR), .val (.ref aI), .val (.ref b3)] [(.int (3 : Int32)), (.ref b3), (.int (fitF aR aI aI aR))]))
      obtain ⟨cl133, Ar133, q133, S133, M133, H133, G133⟩ := id F121
      have hin133 : ¬ ((3 : Int32) < 0 ∨ cl133.slots.size ≤ ((3 : Int32)).toNatClampNeg) := inb_of S133 ⟨by decide, by decide⟩
      have hat133 : cl133.slots[((3 : Int32)).toNatClampNeg]? = some (.int (0 : Int32)) := Has.at H133 hin133 (rfl)
      refine Go.st (fun _ k => X132.baloadBooleans hx (j := (3 : Int32)) (v := (.int (0 : Int32))) (by rw [e132]; exact Ar133.1) (State.isArrayOf_alike hZ.alike Ar133.2.1) Ar133.2.2 hin133 hat133 (g := (mkF m 85 #[.val (.int pa), .val (.int pb), .val (.int (1 : Int32)), .val (.int (0 : Int32)), .val (.ref aR), .val (.ref aI), .val (.ref b3)] [(.int (3 : Int32)), (.ref b3), (.int (fitF aR aI aI aR))])) rfl rfl (hb hby at_85) _ k) ?_
      show Go p.tables e below _ (T132.setTop (mkF m 86 #[.val (.int pa), .val (.int pb), .val (.int (1 : Int32)), .val (.int (0 : Int32)), .val (.ref aR), .val (.ref aI), .val (.ref b3)] [(.int (0 : Int32)), (.int (fitF aR aI aI aR))]))
      have hc86 : (fitF aR aI aI aR) = (0 : Int32) := (by simp [fitF, hIR, hIT, hRT, Ne.symm hIR, Ne.symm hIT, Ne.symm hRT])
      refine Go.st (fun _ k => XS.icmpNo X132.here hx rfl (hb hby at_86) rfl (Jvm.Free.XT.ii_ne_f hc86) k) ?_
      show Go p.tables e below _ (T132.setTop (mkF m 89 #[.val (.int pa), .val (.int pb), .val (.int (1 : Int32)), .val (.int (0 : Int32)), .val (.ref aR), .val (.ref aI), .val (.ref b3)] []))
      refine Go.st (fun _ k => XS.iconst X132.here hx rfl (hb hby at_89) k) ?_
      show Go p.tables e below _ (T132.setTop (mkF m 90 #[.val (.int pa), .val (.int pb), .val (.int (1 : Int32)), .val (.int (0 : Int32)), .val (.ref aR), .val (.ref aI), .val (.ref b3)] [(.int (1 : Int32))]))
      refine Go.st (fun _ k => XS.goto X132.here hx rfl (pc0 := 90) (pc' := 94) rfl (hb hby at_90) (by decide) (by decide) k) ?_
      show Go p.tables e below _ (T132.setTop (mkF m 94 #[.val (.int pa), .val (.int pb), .val (.int (1 : Int32)), .val (.int (0 : Int32)), .val (.ref aR), .val (.ref aI), .val (.ref b3)] [(.int (1 : Int32))]))
      subst hG
      obtain ⟨fs, hr, hrun, hended, hW, hsame⟩ := X132.leave (v := some (.int (nar .boolean (1 : Int32)))) (fun h => by rw [Bd.returns] at h; cases h)
      refine ⟨_, _, ?_, hrun, hended, _, _, rfl, ?_, ⟨_, rfl⟩, hW, hsame.mono (by decide) (by decide)⟩
      · exact retN X132 hx (t := .boolean) Bd.returns (by simp) (hb hby at_94) hr
      · show Q_law Z pa pb aI aR aT h0 n0 _ T132.heap _
        rw [e132]
        exact ⟨rfl, N132, K123⟩
    · subst u13
      rw [show pickF (1 : Int32) aI aR aT = aR from by simp [pickF]]
      show Go p.tables e below _ (T114.setTop (mkF m 71 #[.val (.int pa), .val (.int pb), .val (.int (1 : Int32)), .val (.int (1 : Int32)), .val (.ref aR), .val (.ref aR), .val (.ref b3)] []))
      refine Go.st (fun _ k => XS.aload X114.here hx rfl (hb hby at_71) rfl rfl k) ?_
      show Go p.tables e below _ (T114.setTop (mkF m 73 #[.val (.int pa), .val (.int pb), .val (.int (1 : Int32)), .val (.int (1 : Int32)), .val (.ref aR), .val (.ref aR), .val (.ref b3)] [(.ref aR)]))
      refine Go.st (fun _ k => XS.aload X114.here hx rfl (hb hby at_73) rfl rfl k) ?_
      show Go p.tables e below _ (T114.setTop (mkF m 75 #[.val (.int pa), .val (.int pb), .val (.int (1 : Int32)), .val (.int (1 : Int32)), .val (.ref aR), .val (.ref aR), .val (.ref b3)] [(.ref aR), (.ref aR)]))
      obtain ⟨cq134, kq134, q134a, q134b, q134c⟩ := isOf hZ e114 F119
      obtain ⟨_, _, ⟨T134, L134, k134, n134⟩, -, X134, ⟨Lc134, hQ134, l134, y134, z134⟩, st134⟩ := X114.virtualBack hx (y := (⟨"com/example/rivulet/rivulet/lang/Type", "fits", "(Lcom/example/rivulet/rivulet/lang/Type;)Z"⟩ : MethodName)) (z := (⟨"com/example/rivulet/rivulet/lang/Type", "fits", "(Lcom/example/rivulet/rivulet/lang/Type;)Z"⟩ : MethodName)) hown (mvT hZ (hw _ (List.mem_of_getElem? (i := 9) rfl))) (mvT hZ (hw _ (List.mem_of_getElem? (i := 10) rfl))) (notFace_of_selects (args := #[]) (mvT hZ (hw _ (List.mem_of_getElem? (i := 12) rfl)))) (mvT hZ (hw _ (List.mem_of_getElem? (i := 12) rfl))) (mvT hZ (hw _ (List.mem_of_getElem? (i := 11) rfl))) (by decide) (backOf (W := 0) (rm_fits l Z a0 hw [] aR aR aI aR h114 n0 Z124 F115 F116) hZ (hw _ (List.mem_of_getElem? (i := 13) rfl)) (hw _ (List.mem_of_getElem? (i := 6) rfl)) (by decide) (by decide)) q134a q134c (g := (mkF m 75 #[.val (.int pa), .val (.int pb), .val (.int (1 : Int32)), .val (.int (1 : Int32)), .val (.ref aR), .val (.ref aR), .val (.ref b3)] [(.ref aR), (.ref aR)])) rfl (by rw [hml]; rfl) (Steps.refl _) (argsL := [(.ref aR)]) (rest := []) (lenOf pd_1 rfl) rfl (by show 2 * 0 + _ ≤ _; exact Nat.le_of_eq rfl) (hb hby at_75) (fun _ _ => ⟨rfl, e114, (by decide : 1 + 0 ≤ _), (by decide : 9 + 0 ≤ _)⟩)
      dsimp only [Pt.U, Pt.locs, Pt.cells, Pt.slots] at X134 l134 y134 z134 st134 hQ134
      subst l134 y134 z134
      obtain ⟨rfl, N134q, e134⟩ := hQ134
      have N134 := Fr.app N125 N134q
      refine Go.st (fun _ k => st134.trans k) ?_
      show Go p.tables e below _ (T134.setTop (mkF m 78 #[.val (.int pa), .val (.int pb), .val (.int (1 : Int32)), .val (.int (1 : Int32)), .val (.ref aR), .val (.ref aR), .val (.ref b3)] [(.int (fitF aR aR aI aR))]))
      refine Go.st (fun _ k => XS.aload X134.here hx rfl (hb hby at_78) rfl rfl k) ?_
      show Go p.tables e below _ (T134.setTop (mkF m 80 #[.val (.int pa), .val (.int pb), .val (.int (1 : Int32)), .val (.int (1 : Int32)), .val (.ref aR), .val (.ref aR), .val (.ref b3)] [(.ref b3), (.int (fitF aR aR aI aR))]))
      refine Go.st (fun _ k => XS.iloadN X134.here hx rfl (hb hby at_80) rfl k) ?_
      show Go p.tables e below _ (T134.setTop (mkF m 81 #[.val (.int pa), .val (.int pb), .val (.int (1 : Int32)), .val (.int (1 : Int32)), .val (.ref aR), .val (.ref aR), .val (.ref b3)] [(.int (1 : Int32)), (.ref b3), (.int (fitF aR aR aI aR))]))
      refine Go.st (fun _ k => XS.iconst X134.here hx rfl (hb hby at_81) k) ?_
      show Go p.tables e below _ (T134.setTop (mkF m 82 #[.val (.int pa), .val (.int pb), .val (.int (1 : Int32)), .val (.int (1 : Int32)), .val (.ref aR), .val (.ref aR), .val (.ref b3)] [(.int (3 : Int32)), (.int (1 : Int32)), (.ref b3), (.int (fitF aR aR aI aR))]))
      refine Go.st (fun _ k => XS.imul X134.here hx rfl (hb hby at_82) rfl k) ?_
      show Go p.tables e below _ (T134.setTop (mkF m 83 #[.val (.int pa), .val (.int pb), .val (.int (1 : Int32)), .val (.int (1 : Int32)), .val (.ref aR), .val (.ref aR), .val (.ref b3)] [(.int ((1 : Int32) * (3 : Int32))), (.ref b3), (.int (fitF aR aR aI aR))]))
      rw [show ((1 : Int32) * (3 : Int32)) = (3 : Int32) from by decide]
      show Go p.tables e below _ (T134.setTop (mkF m 83 #[.val (.int pa), .val (.int pb), .val (.int (1 : Int32)), .val (.int (1 : Int32)), .val (.ref aR), .val (.ref aR), .val (.ref b3)] [(.int (3 : Int32)), (.ref b3), (.int (fitF aR aR aI aR))]))
      refine Go.st (fun _ k => XS.iloadN X134.here hx rfl (hb hby at_83) rfl k) ?_
      show Go p.tables e below _ (T134.setTop (mkF m 84 #[.val (.int pa), .val (.int pb), .val (.int (1 : Int32)), .val (.int (1 : Int32)), .val (.ref aR), .val (.ref aR), .val (.ref b3)] [(.int (1 : Int32)), (.int (3 : Int32)), (.ref b3), (.int (fitF aR aR aI aR))]))
      refine Go.st (fun _ k => XS.iadd X134.here hx rfl (hb hby at_84) rfl k) ?_
      show Go p.tables e below _ (T134.setTop (mkF m 85 #[.val (.int pa), .val (.int pb), .val (.int (1 : Int32)), .val (.int (1 : Int32)), .val (.ref aR), .val (.ref aR), .val (.ref b3)] [(.int ((3 : Int32) + (1 : Int32))), (.ref b3), (.int (fitF aR aR aI aR))]))
      rw [show ((3 : Int32) + (1 : Int32)) = (4 : Int32) from by decide]
      show Go p.tables e below _ (T134.setTop (mkF m 85 #[.val (.int pa), .val (.int pb), .val (.int (1 : Int32)), .val (.int (1 : Int32)), .val (.ref aR), .val (.ref aR), .val (.ref b3)] [(.int (4 : Int32)), (.ref b3), (.int (fitF aR aR aI aR))]))
      obtain ⟨cl135, Ar135, q135, S135, M135, H135, G135⟩ := id F121
      have hin135 : ¬ ((4 : Int32) < 0 ∨ cl135.slots.size ≤ ((4 : Int32)).toNatClampNeg) := inb_of S135 ⟨by decide, by decide⟩
      have hat135 : cl135.slots[((4 : Int32)).toNatClampNeg]? = some (.int (1 : Int32)) := Has.at H135 hin135 (rfl)
      refine Go.st (fun _ k => X134.baloadBooleans hx (j := (4 : Int32)) (v := (.int (1 : Int32))) (by rw [e134]; exact Ar135.1) (State.isArrayOf_alike hZ.alike Ar135.2.1) Ar135.2.2 hin135 hat135 (g := (mkF m 85 #[.val (.int pa), .val (.int pb), .val (.int (1 : Int32)), .val (.int (1 : Int32)), .val (.ref aR), .val (.ref aR), .val (.ref b3)] [(.int (4 : Int32)), (.ref b3), (.int (fitF aR aR aI aR))])) rfl rfl (hb hby at_85) _ k) ?_
      show Go p.tables e below _ (T134.setTop (mkF m 86 #[.val (.int pa), .val (.int pb), .val (.int (1 : Int32)), .val (.int (1 : Int32)), .val (.ref aR), .val (.ref aR), .val (.ref b3)] [(.int (1 : Int32)), (.int (fitF aR aR aI aR))]))
      have hc86 : (fitF aR aR aI aR) = (1 : Int32) := (by simp [fitF, hIR, hIT, hRT, Ne.symm hIR, Ne.symm hIT, Ne.symm hRT])
      refine Go.st (fun _ k => XS.icmpNo X134.here hx rfl (hb hby at_86) rfl (Jvm.Free.XT.ii_ne_f hc86) k) ?_
      show Go p.tables e below _ (T134.setTop (mkF m 89 #[.val (.int pa), .val (.int pb), .val (.int (1 : Int32)), .val (.int (1 : Int32)), .val (.ref aR), .val (.ref aR), .val (.ref b3)] []))
      refine Go.st (fun _ k => XS.iconst X134.here hx rfl (hb hby at_89) k) ?_
      show Go p.tables e below _ (T134.setTop (mkF m 90 #[.val (.int pa), .val (.int pb), .val (.int (1 : Int32)), .val (.int (1 : Int32)), .val (.ref aR), .val (.ref aR), .val (.ref b3)] [(.int (1 : Int32))]))
      refine Go.st (fun _ k => XS.goto X134.here hx rfl (pc0 := 90) (pc' := 94) rfl (hb hby at_90) (by decide) (by decide) k) ?_
      show Go p.tables e below _ (T134.setTop (mkF m 94 #[.val (.int pa), .val (.int pb), .val (.int (1 : Int32)), .val (.int (1 : Int32)), .val (.ref aR), .val (.ref aR), .val (.ref b3)] [(.int (1 : Int32))]))
      subst hG
      obtain ⟨fs, hr, hrun, hended, hW, hsame⟩ := X134.leave (v := some (.int (nar .boolean (1 : Int32)))) (fun h => by rw [Bd.returns] at h; cases h)
      refine ⟨_, _, ?_, hrun, hended, _, _, rfl, ?_, ⟨_, rfl⟩, hW, hsame.mono (by decide) (by decide)⟩
      · exact retN X134 hx (t := .boolean) Bd.returns (by simp) (hb hby at_94) hr
      · show Q_law Z pa pb aI aR aT h0 n0 _ T134.heap _
        rw [e134]
        exact ⟨rfl, N134, K123⟩
    · subst u13
      rw [show pickF (1 : Int32) aI aR aT = aR from by simp [pickF]]
      rw [show pickF (2 : Int32) aI aR aT = aT from by simp [pickF]]
      show Go p.tables e below _ (T114.setTop (mkF m 71 #[.val (.int pa), .val (.int pb), .val (.int (1 : Int32)), .val (.int (2 : Int32)), .val (.ref aR), .val (.ref aT), .val (.ref b3)] []))
      refine Go.st (fun _ k => XS.aload X114.here hx rfl (hb hby at_71) rfl rfl k) ?_
      show Go p.tables e below _ (T114.setTop (mkF m 73 #[.val (.int pa), .val (.int pb), .val (.int (1 : Int32)), .val (.int (2 : Int32)), .val (.ref aR), .val (.ref aT), .val (.ref b3)] [(.ref aR)]))
      refine Go.st (fun _ k => XS.aload X114.here hx rfl (hb hby at_73) rfl rfl k) ?_
      show Go p.tables e below _ (T114.setTop (mkF m 75 #[.val (.int pa), .val (.int pb), .val (.int (1 : Int32)), .val (.int (2 : Int32)), .val (.ref aR), .val (.ref aT), .val (.ref b3)] [(.ref aT), (.ref aR)]))
      obtain ⟨cq136, kq136, q136a, q136b, q136c⟩ := isOf hZ e114 F119
      obtain ⟨_, _, ⟨T136, L136, k136, n136⟩, -, X136, ⟨Lc136, hQ136, l136, y136, z136⟩, st136⟩ := X114.virtualBack hx (y := (⟨"com/example/rivulet/rivulet/lang/Type", "fits", "(Lcom/example/rivulet/rivulet/lang/Type;)Z"⟩ : MethodName)) (z := (⟨"com/example/rivulet/rivulet/lang/Type", "fits", "(Lcom/example/rivulet/rivulet/lang/Type;)Z"⟩ : MethodName)) hown (mvT hZ (hw _ (List.mem_of_getElem? (i := 9) rfl))) (mvT hZ (hw _ (List.mem_of_getElem? (i := 10) rfl))) (notFace_of_selects (args := #[]) (mvT hZ (hw _ (List.mem_of_getElem? (i := 12) rfl)))) (mvT hZ (hw _ (List.mem_of_getElem? (i := 12) rfl))) (mvT hZ (hw _ (List.mem_of_getElem? (i := 11) rfl))) (by decide) (backOf (W := 0) (rm_fits l Z a0 hw [] aR aT aI aR h114 n0 Z124 F115 F116) hZ (hw _ (List.mem_of_getElem? (i := 13) rfl)) (hw _ (List.mem_of_getElem? (i := 6) rfl)) (by decide) (by decide)) q136a q136c (g := (mkF m 75 #[.val (.int pa), .val (.int pb), .val (.int (1 : Int32)), .val (.int (2 : Int32)), .val (.ref aR), .val (.ref aT), .val (.ref b3)] [(.ref aT), (.ref aR)])) rfl (by rw [hml]; rfl) (Steps.refl _) (argsL := [(.ref aT)]) (rest := []) (lenOf pd_1 rfl) rfl (by show 2 * 0 + _ ≤ _; exact Nat.le_of_eq rfl) (hb hby at_75) (fun _ _ => ⟨rfl, e114, (by decide : 1 + 0 ≤ _), (by decide : 9 + 0 ≤ _)⟩)
      dsimp only [Pt.U, Pt.locs, Pt.cells, Pt.slots] at X136 l136 y136 z136 st136 hQ136
      subst l136 y136 z136
      obtain ⟨rfl, N136q, e136⟩ := hQ136
      have N136 := Fr.app N125 N136q
      refine Go.st (fun _ k => st136.trans k) ?_
      show Go p.tables e below _ (T136.setTop (mkF m 78 #[.val (.int pa), .val (.int pb), .val (.int (1 : Int32)), .val (.int (2 : Int32)), .val (.ref aR), .val (.ref aT), .val (.ref b3)] [(.int (fitF aR aT aI aR))]))
      refine Go.st (fun _ k => XS.aload X136.here hx rfl (hb hby at_78) rfl rfl k) ?_
      show Go p.tables e below _ (T136.setTop (mkF m 80 #[.val (.int pa), .val (.int pb), .val (.int (1 : Int32)), .val (.int (2 : Int32)), .val (.ref aR), .val (.ref aT), .val (.ref b3)] [(.ref b3), (.int (fitF aR aT aI aR))]))
      refine Go.st (fun _ k => XS.iloadN X136.here hx rfl (hb hby at_80) rfl k) ?_
      show Go p.tables e below _ (T136.setTop (mkF m 81 #[.val (.int pa), .val (.int pb), .val (.int (1 : Int32)), .val (.int (2 : Int32)), .val (.ref aR), .val (.ref aT), .val (.ref b3)] [(.int (1 : Int32)), (.ref b3), (.int (fitF aR aT aI aR))]))
      refine Go.st (fun _ k => XS.iconst X136.here hx rfl (hb hby at_81) k) ?_
      show Go p.tables e below _ (T136.setTop (mkF m 82 #[.val (.int pa), .val (.int pb), .val (.int (1 : Int32)), .val (.int (2 : Int32)), .val (.ref aR), .val (.ref aT), .val (.ref b3)] [(.int (3 : Int32)), (.int (1 : Int32)), (.ref b3), (.int (fitF aR aT aI aR))]))
      refine Go.st (fun _ k => XS.imul X136.here hx rfl (hb hby at_82) rfl k) ?_
      show Go p.tables e below _ (T136.setTop (mkF m 83 #[.val (.int pa), .val (.int pb), .val (.int (1 : Int32)), .val (.int (2 : Int32)), .val (.ref aR), .val (.ref aT), .val (.ref b3)] [(.int ((1 : Int32) * (3 : Int32))), (.ref b3), (.int (fitF aR aT aI aR))]))
      rw [show ((1 : Int32) * (3 : Int32)) = (3 : Int32) from by decide]
      show Go p.tables e below _ (T136.setTop (mkF m 83 #[.val (.int pa), .val (.int pb), .val (.int (1 : Int32)), .val (.int (2 : Int32)), .val (.ref aR), .val (.ref aT), .val (.ref b3)] [(.int (3 : Int32)), (.ref b3), (.int (fitF aR aT aI aR))]))
      refine Go.st (fun _ k => XS.iloadN X136.here hx rfl (hb hby at_83) rfl k) ?_
      show Go p.tables e below _ (T136.setTop (mkF m 84 #[.val (.int pa), .val (.int pb), .val (.int (1 : Int32)), .val (.int (2 : Int32)), .val (.ref aR), .val (.ref aT), .val (.ref b3)] [(.int (2 : Int32)), (.int (3 : Int32)), (.ref b3), (.int (fitF aR aT aI aR))]))
      refine Go.st (fun _ k => XS.iadd X136.here hx rfl (hb hby at_84) rfl k) ?_
      show Go p.tables e below _ (T136.setTop (mkF m 85 #[.val (.int pa), .val (.int pb), .val (.int (1 : Int32)), .val (.int (2 : Int32)), .val (.ref aR), .val (.ref aT), .val (.ref b3)] [(.int ((3 : Int32) + (2 : Int32))), (.ref b3), (.int (fitF aR aT aI aR))]))
      rw [show ((3 : Int32) + (2 : Int32)) = (5 : Int32) from by decide]
      show Go p.tables e below _ (T136.setTop (mkF m 85 #[.val (.int pa), .val (.int pb), .val (.int (1 : Int32)), .val (.int (2 : Int32)), .val (.ref aR), .val (.ref aT), .val (.ref b3)] [(.int (5 : Int32)), (.ref b3), (.int (fitF aR aT aI aR))]))
      obtain ⟨cl137, Ar137, q137, S137, M137, H137, G137⟩ := id F121
      have hin137 : ¬ ((5 : Int32) < 0 ∨ cl137.slots.size ≤ ((5 : Int32)).toNatClampNeg) := inb_of S137 ⟨by decide, by decide⟩
      have hat137 : cl137.slots[((5 : Int32)).toNatClampNeg]? = some (.int (0 : Int32)) := Has.at H137 hin137 (rfl)
      refine Go.st (fun _ k => X136.baloadBooleans hx (j := (5 : Int32)) (v := (.int (0 : Int32))) (by rw [e136]; exact Ar137.1) (State.isArrayOf_alike hZ.alike Ar137.2.1) Ar137.2.2 hin137 hat137 (g := (mkF m 85 #[.val (.int pa), .val (.int pb), .val (.int (1 : Int32)), .val (.int (2 : Int32)), .val (.ref aR), .val (.ref aT), .val (.ref b3)] [(.int (5 : Int32)), (.ref b3), (.int (fitF aR aT aI aR))])) rfl rfl (hb hby at_85) _ k) ?_
      show Go p.tables e below _ (T136.setTop (mkF m 86 #[.val (.int pa), .val (.int pb), .val (.int (1 : Int32)), .val (.int (2 : Int32)), .val (.ref aR), .val (.ref aT), .val (.ref b3)] [(.int (0 : Int32)), (.int (fitF aR aT aI aR))]))
      have hc86 : (fitF aR aT aI aR) = (0 : Int32) := (by simp [fitF, hIR, hIT, hRT, Ne.symm hIR, Ne.symm hIT, Ne.symm hRT])
      refine Go.st (fun _ k => XS.icmpNo X136.here hx rfl (hb hby at_86) rfl (Jvm.Free.XT.ii_ne_f hc86) k) ?_
      show Go p.tables e below _ (T136.setTop (mkF m 89 #[.val (.int pa), .val (.int pb), .val (.int (1 : Int32)), .val (.int (2 : Int32)), .val (.ref aR), .val (.ref aT), .val (.ref b3)] []))
      refine Go.st (fun _ k => XS.iconst X136.here hx rfl (hb hby at_89) k) ?_
      show Go p.tables e below _ (T136.setTop (mkF m 90 #[.val (.int pa), .val (.int pb), .val (.int (1 : Int32)), .val (.int (2 : Int32)), .val (.ref aR), .val (.ref aT), .val (.ref b3)] [(.int (1 : Int32))]))
      refine Go.st (fun _ k => XS.goto X136.here hx rfl (pc0 := 90) (pc' := 94) rfl (hb hby at_90) (by decide) (by decide) k) ?_
      show Go p.tables e below _ (T136.setTop (mkF m 94 #[.val (.int pa), .val (.int pb), .val (.int (1 : Int32)), .val (.int (2 : Int32)), .val (.ref aR), .val (.ref aT), .val (.ref b3)] [(.int (1 : Int32))]))
      subst hG
      obtain ⟨fs, hr, hrun, hended, hW, hsame⟩ := X136.leave (v := some (.int (nar .boolean (1 : Int32)))) (fun h => by rw [Bd.returns] at h; cases h)
      refine ⟨_, _, ?_, hrun, hended, _, _, rfl, ?_, ⟨_, rfl⟩, hW, hsame.mono (by decide) (by decide)⟩
      · exact retN X136 hx (t := .boolean) Bd.returns (by simp) (hb hby at_94) hr
      · show Q_law Z pa pb aI aR aT h0 n0 _ T136.heap _
        rw [e136]
        exact ⟨rfl, N136, K123⟩
  · subst u6
    rcases own_k3 hqv13 with u13 | u13 | u13
    · subst u13
      rw [show pickF (0 : Int32) aI aR aT = aI from by simp [pickF]]
      rw [show pickF (2 : Int32) aI aR aT = aT from by simp [pickF]]
      show Go p.tables e below _ (T114.setTop (mkF m 71 #[.val (.int pa), .val (.int pb), .val (.int (2 : Int32)), .val (.int (0 : Int32)), .val (.ref aT), .val (.ref aI), .val (.ref b3)] []))
      refine Go.st (fun _ k => XS.aload X114.here hx rfl (hb hby at_71) rfl rfl k) ?_
      show Go p.tables e below _ (T114.setTop (mkF m 73 #[.val (.int pa), .val (.int pb), .val (.int (2 : Int32)), .val (.int (0 : Int32)), .val (.ref aT), .val (.ref aI), .val (.ref b3)] [(.ref aT)]))
      refine Go.st (fun _ k => XS.aload X114.here hx rfl (hb hby at_73) rfl rfl k) ?_
      show Go p.tables e below _ (T114.setTop (mkF m 75 #[.val (.int pa), .val (.int pb), .val (.int (2 : Int32)), .val (.int (0 : Int32)), .val (.ref aT), .val (.ref aI), .val (.ref b3)] [(.ref aI), (.ref aT)]))
      obtain ⟨cq138, kq138, q138a, q138b, q138c⟩ := isOf hZ e114 F120
      obtain ⟨_, _, ⟨T138, L138, k138, n138⟩, -, X138, ⟨Lc138, hQ138, l138, y138, z138⟩, st138⟩ := X114.virtualBack hx (y := (⟨"com/example/rivulet/rivulet/lang/Type", "fits", "(Lcom/example/rivulet/rivulet/lang/Type;)Z"⟩ : MethodName)) (z := (⟨"com/example/rivulet/rivulet/lang/Type", "fits", "(Lcom/example/rivulet/rivulet/lang/Type;)Z"⟩ : MethodName)) hown (mvT hZ (hw _ (List.mem_of_getElem? (i := 9) rfl))) (mvT hZ (hw _ (List.mem_of_getElem? (i := 10) rfl))) (notFace_of_selects (args := #[]) (mvT hZ (hw _ (List.mem_of_getElem? (i := 12) rfl)))) (mvT hZ (hw _ (List.mem_of_getElem? (i := 12) rfl))) (mvT hZ (hw _ (List.mem_of_getElem? (i := 11) rfl))) (by decide) (backOf (W := 0) (rm_fits l Z a0 hw [] aT aI aI aR h114 n0 Z124 F115 F116) hZ (hw _ (List.mem_of_getElem? (i := 13) rfl)) (hw _ (List.mem_of_getElem? (i := 6) rfl)) (by decide) (by decide)) q138a q138c (g := (mkF m 75 #[.val (.int pa), .val (.int pb), .val (.int (2 : Int32)), .val (.int (0 : Int32)), .val (.ref aT), .val (.ref aI), .val (.ref b3)] [(.ref aI), (.ref aT)])) rfl (by rw [hml]; rfl) (Steps.refl _) (argsL := [(.ref aI)]) (rest := []) (lenOf pd_1 rfl) rfl (by show 2 * 0 + _ ≤ _; exact Nat.le_of_eq rfl) (hb hby at_75) (fun _ _ => ⟨rfl, e114, (by decide : 1 + 0 ≤ _), (by decide : 9 + 0 ≤ _)⟩)
      dsimp only [Pt.U, Pt.locs, Pt.cells, Pt.slots] at X138 l138 y138 z138 st138 hQ138
      subst l138 y138 z138
      obtain ⟨rfl, N138q, e138⟩ := hQ138
      have N138 := Fr.app N125 N138q
      refine Go.st (fun _ k => st138.trans k) ?_
      show Go p.tables e below _ (T138.setTop (mkF m 78 #[.val (.int pa), .val (.int pb), .val (.int (2 : Int32)), .val (.int (0 : Int32)), .val (.ref aT), .val (.ref aI), .val (.ref b3)] [(.int (fitF aT aI aI aR))]))
      refine Go.st (fun _ k => XS.aload X138.here hx rfl (hb hby at_78) rfl rfl k) ?_
      show Go p.tables e below _ (T138.setTop (mkF m 80 #[.val (.int pa), .val (.int pb), .val (.int (2 : Int32)), .val (.int (0 : Int32)), .val (.ref aT), .val (.ref aI), .val (.ref b3)] [(.ref b3), (.int (fitF aT aI aI aR))]))
      refine Go.st (fun _ k => XS.iloadN X138.here hx rfl (hb hby at_80) rfl k) ?_
      show Go p.tables e below _ (T138.setTop (mkF m 81 #[.val (.int pa), .val (.int pb), .val (.int (2 : Int32)), .val (.int (0 : Int32)), .val (.ref aT), .val (.ref aI), .val (.ref b3)] [(.int (2 : Int32)), (.ref b3), (.int (fitF aT aI aI aR))]))
      refine Go.st (fun _ k => XS.iconst X138.here hx rfl (hb hby at_81) k) ?_
      show Go p.tables e below _ (T138.setTop (mkF m 82 #[.val (.int pa), .val (.int pb), .val (.int (2 : Int32)), .val (.int (0 : Int32)), .val (.ref aT), .val (.ref aI), .val (.ref b3)] [(.int (3 : Int32)), (.int (2 : Int32)), (.ref b3), (.int (fitF aT aI aI aR))]))
      refine Go.st (fun _ k => XS.imul X138.here hx rfl (hb hby at_82) rfl k) ?_
      show Go p.tables e below _ (T138.setTop (mkF m 83 #[.val (.int pa), .val (.int pb), .val (.int (2 : Int32)), .val (.int (0 : Int32)), .val (.ref aT), .val (.ref aI), .val (.ref b3)] [(.int ((2 : Int32) * (3 : Int32))), (.ref b3), (.int (fitF aT aI aI aR))]))
      rw [show ((2 : Int32) * (3 : Int32)) = (6 : Int32) from by decide]
      show Go p.tables e below _ (T138.setTop (mkF m 83 #[.val (.int pa), .val (.int pb), .val (.int (2 : Int32)), .val (.int (0 : Int32)), .val (.ref aT), .val (.ref aI), .val (.ref b3)] [(.int (6 : Int32)), (.ref b3), (.int (fitF aT aI aI aR))]))
      refine Go.st (fun _ k => XS.iloadN X138.here hx rfl (hb hby at_83) rfl k) ?_
      show Go p.tables e below _ (T138.setTop (mkF m 84 #[.val (.int pa), .val (.int pb), .val (.int (2 : Int32)), .val (.int (0 : Int32)), .val (.ref aT), .val (.ref aI), .val (.ref b3)] [(.int (0 : Int32)), (.int (6 : Int32)), (.ref b3), (.int (fitF aT aI aI aR))]))
      refine Go.st (fun _ k => XS.iadd X138.here hx rfl (hb hby at_84) rfl k) ?_
      show Go p.tables e below _ (T138.setTop (mkF m 85 #[.val (.int pa), .val (.int pb), .val (.int (2 : Int32)), .val (.int (0 : Int32)), .val (.ref aT), .val (.ref aI), .val (.ref b3)] [(.int ((6 : Int32) + (0 : Int32))), (.ref b3), (.int (fitF aT aI aI aR))]))
      rw [show ((6 : Int32) + (0 : Int32)) = (6 : Int32) from by decide]
      show Go p.tables e below _ (T138.setTop (mkF m 85 #[.val (.int pa), .val (.int pb), .val (.int (2 : Int32)), .val (.int (0 : Int32)), .val (.ref aT), .val (.ref aI), .val (.ref b3)] [(.int (6 : Int32)), (.ref b3), (.int (fitF aT aI aI aR))]))
      obtain ⟨cl139, Ar139, q139, S139, M139, H139, G139⟩ := id F121
      have hin139 : ¬ ((6 : Int32) < 0 ∨ cl139.slots.size ≤ ((6 : Int32)).toNatClampNeg) := inb_of S139 ⟨by decide, by decide⟩
      have hat139 : cl139.slots[((6 : Int32)).toNatClampNeg]? = some (.int (0 : Int32)) := Has.at H139 hin139 (rfl)
      refine Go.st (fun _ k => X138.baloadBooleans hx (j := (6 : Int32)) (v := (.int (0 : Int32))) (by rw [e138]; exact Ar139.1) (State.isArrayOf_alike hZ.alike Ar139.2.1) Ar139.2.2 hin139 hat139 (g := (mkF m 85 #[.val (.int pa), .val (.int pb), .val (.int (2 : Int32)), .val (.int (0 : Int32)), .val (.ref aT), .val (.ref aI), .val (.ref b3)] [(.int (6 : Int32)), (.ref b3), (.int (fitF aT aI aI aR))])) rfl rfl (hb hby at_85) _ k) ?_
      show Go p.tables e below _ (T138.setTop (mkF m 86 #[.val (.int pa), .val (.int pb), .val (.int (2 : Int32)), .val (.int (0 : Int32)), .val (.ref aT), .val (.ref aI), .val (.ref b3)] [(.int (0 : Int32)), (.int (fitF aT aI aI aR))]))
      have hc86 : (fitF aT aI aI aR) = (0 : Int32) := (by simp [fitF, hIR, hIT, hRT, Ne.symm hIR, Ne.symm hIT, Ne.symm hRT])
      refine Go.st (fun _ k => XS.icmpNo X138.here hx rfl (hb hby at_86) rfl (Jvm.Free.XT.ii_ne_f hc86) k) ?_
      show Go p.tables e below _ (T138.setTop (mkF m 89 #[.val (.int pa), .val (.int pb), .val (.int (2 : Int32)), .val (.int (0 : Int32)), .val (.ref aT), .val (.ref aI), .val (.ref b3)] []))
      refine Go.st (fun _ k => XS.iconst X138.here hx rfl (hb hby at_89) k) ?_
      show Go p.tables e below _ (T138.setTop (mkF m 90 #[.val (.int pa), .val (.int pb), .val (.int (2 : Int32)), .val (.int (0 : Int32)), .val (.ref aT), .val (.ref aI), .val (.ref b3)] [(.int (1 : Int32))]))
      refine Go.st (fun _ k => XS.goto X138.here hx rfl (pc0 := 90) (pc' := 94) rfl (hb hby at_90) (by decide) (by decide) k) ?_
      show Go p.tables e below _ (T138.setTop (mkF m 94 #[.val (.int pa), .val (.int pb), .val (.int (2 : Int32)), .val (.int (0 : Int32)), .val (.ref aT), .val (.ref aI), .val (.ref b3)] [(.int (1 : Int32))]))
      subst hG
      obtain ⟨fs, hr, hrun, hended, hW, hsame⟩ := X138.leave (v := some (.int (nar .boolean (1 : Int32)))) (fun h => by rw [Bd.returns] at h; cases h)
      refine ⟨_, _, ?_, hrun, hended, _, _, rfl, ?_, ⟨_, rfl⟩, hW, hsame.mono (by decide) (by decide)⟩
      · exact retN X138 hx (t := .boolean) Bd.returns (by simp) (hb hby at_94) hr
      · show Q_law Z pa pb aI aR aT h0 n0 _ T138.heap _
        rw [e138]
        exact ⟨rfl, N138, K123⟩
    · subst u13
      rw [show pickF (1 : Int32) aI aR aT = aR from by simp [pickF]]
      rw [show pickF (2 : Int32) aI aR aT = aT from by simp [pickF]]
      show Go p.tables e below _ (T114.setTop (mkF m 71 #[.val (.int pa), .val (.int pb), .val (.int (2 : Int32)), .val (.int (1 : Int32)), .val (.ref aT), .val (.ref aR), .val (.ref b3)] []))
      refine Go.st (fun _ k => XS.aload X114.here hx rfl (hb hby at_71) rfl rfl k) ?_
      show Go p.tables e below _ (T114.setTop (mkF m 73 #[.val (.int pa), .val (.int pb), .val (.int (2 : Int32)), .val (.int (1 : Int32)), .val (.ref aT), .val (.ref aR), .val (.ref b3)] [(.ref aT)]))
      refine Go.st (fun _ k => XS.aload X114.here hx rfl (hb hby at_73) rfl rfl k) ?_
      show Go p.tables e below _ (T114.setTop (mkF m 75 #[.val (.int pa), .val (.int pb), .val (.int (2 : Int32)), .val (.int (1 : Int32)), .val (.ref aT), .val (.ref aR), .val (.ref b3)] [(.ref aR), (.ref aT)]))
      obtain ⟨cq140, kq140, q140a, q140b, q140c⟩ := isOf hZ e114 F120
      obtain ⟨_, _, ⟨T140, L140, k140, n140⟩, -, X140, ⟨Lc140, hQ140, l140, y140, z140⟩, st140⟩ := X114.virtualBack hx (y := (⟨"com/example/rivulet/rivulet/lang/Type", "fits", "(Lcom/example/rivulet/rivulet/lang/Type;)Z"⟩ : MethodName)) (z := (⟨"com/example/rivulet/rivulet/lang/Type", "fits", "(Lcom/example/rivulet/rivulet/lang/Type;)Z"⟩ : MethodName)) hown (mvT hZ (hw _ (List.mem_of_getElem? (i := 9) rfl))) (mvT hZ (hw _ (List.mem_of_getElem? (i := 10) rfl))) (notFace_of_selects (args := #[]) (mvT hZ (hw _ (List.mem_of_getElem? (i := 12) rfl)))) (mvT hZ (hw _ (List.mem_of_getElem? (i := 12) rfl))) (mvT hZ (hw _ (List.mem_of_getElem? (i := 11) rfl))) (by decide) (backOf (W := 0) (rm_fits l Z a0 hw [] aT aR aI aR h114 n0 Z124 F115 F116) hZ (hw _ (List.mem_of_getElem? (i := 13) rfl)) (hw _ (List.mem_of_getElem? (i := 6) rfl)) (by decide) (by decide)) q140a q140c (g := (mkF m 75 #[.val (.int pa), .val (.int pb), .val (.int (2 : Int32)), .val (.int (1 : Int32)), .val (.ref aT), .val (.ref aR), .val (.ref b3)] [(.ref aR), (.ref aT)])) rfl (by rw [hml]; rfl) (Steps.refl _) (argsL := [(.ref aR)]) (rest := []) (lenOf pd_1 rfl) rfl (by show 2 * 0 + _ ≤ _; exact Nat.le_of_eq rfl) (hb hby at_75) (fun _ _ => ⟨rfl, e114, (by decide : 1 + 0 ≤ _), (by decide : 9 + 0 ≤ _)⟩)
      dsimp only [Pt.U, Pt.locs, Pt.cells, Pt.slots] at X140 l140 y140 z140 st140 hQ140
      subst l140 y140 z140
      obtain ⟨rfl, N140q, e140⟩ := hQ140
      have N140 := Fr.app N125 N140q
      refine Go.st (fun _ k => st140.trans k) ?_
      show Go p.tables e below _ (T140.setTop (mkF m 78 #[.val (.int pa), .val (.int pb), .val (.int (2 : Int32)), .val (.int (1 : Int32)), .val (.ref aT), .val (.ref aR), .val (.ref b3)] [(.int (fitF aT aR aI aR))]))
      refine Go.st (fun _ k => XS.aload X140.here hx rfl (hb hby at_78) rfl rfl k) ?_
      show Go p.tables e below _ (T140.setTop (mkF m 80 #[.val (.int pa), .val (.int pb), .val (.int (2 : Int32)), .val (.int (1 : Int32)), .val (.ref aT), .val (.ref aR), .val (.ref b3)] [(.ref b3), (.int (fitF aT aR aI aR))]))
      refine Go.st (fun _ k => XS.iloadN X140.here hx rfl (hb hby at_80) rfl k) ?_
      show Go p.tables e below _ (T140.setTop (mkF m 81 #[.val (.int pa), .val (.int pb), .val (.int (2 : Int32)), .val (.int (1 : Int32)), .val (.ref aT), .val (.ref aR), .val (.ref b3)] [(.int (2 : Int32)), (.ref b3), (.int (fitF aT aR aI aR))]))
      refine Go.st (fun _ k => XS.iconst X140.here hx rfl (hb hby at_81) k) ?_
      show Go p.tables e below _ (T140.setTop (mkF m 82 #[.val (.int pa), .val (.int pb), .val (.int (2 : Int32)), .val (.int (1 : Int32)), .val (.ref aT), .val (.ref aR), .val (.ref b3)] [(.int (3 : Int32)), (.int (2 : Int32)), (.ref b3), (.int (fitF aT aR aI aR))]))
      refine Go.st (fun _ k => XS.imul X140.here hx rfl (hb hby at_82) rfl k) ?_
      show Go p.tables e below _ (T140.setTop (mkF m 83 #[.val (.int pa), .val (.int pb), .val (.int (2 : Int32)), .val (.int (1 : Int32)), .val (.ref aT), .val (.ref aR), .val (.ref b3)] [(.int ((2 : Int32) * (3 : Int32))), (.ref b3), (.int (fitF aT aR aI aR))]))
      rw [show ((2 : Int32) * (3 : Int32)) = (6 : Int32) from by decide]
      show Go p.tables e below _ (T140.setTop (mkF m 83 #[.val (.int pa), .val (.int pb), .val (.int (2 : Int32)), .val (.int (1 : Int32)), .val (.ref aT), .val (.ref aR), .val (.ref b3)] [(.int (6 : Int32)), (.ref b3), (.int (fitF aT aR aI aR))]))
      refine Go.st (fun _ k => XS.iloadN X140.here hx rfl (hb hby at_83) rfl k) ?_
      show Go p.tables e below _ (T140.setTop (mkF m 84 #[.val (.int pa), .val (.int pb), .val (.int (2 : Int32)), .val (.int (1 : Int32)), .val (.ref aT), .val (.ref aR), .val (.ref b3)] [(.int (1 : Int32)), (.int (6 : Int32)), (.ref b3), (.int (fitF aT aR aI aR))]))
      refine Go.st (fun _ k => XS.iadd X140.here hx rfl (hb hby at_84) rfl k) ?_
      show Go p.tables e below _ (T140.setTop (mkF m 85 #[.val (.int pa), .val (.int pb), .val (.int (2 : Int32)), .val (.int (1 : Int32)), .val (.ref aT), .val (.ref aR), .val (.ref b3)] [(.int ((6 : Int32) + (1 : Int32))), (.ref b3), (.int (fitF aT aR aI aR))]))
      rw [show ((6 : Int32) + (1 : Int32)) = (7 : Int32) from by decide]
      show Go p.tables e below _ (T140.setTop (mkF m 85 #[.val (.int pa), .val (.int pb), .val (.int (2 : Int32)), .val (.int (1 : Int32)), .val (.ref aT), .val (.ref aR), .val (.ref b3)] [(.int (7 : Int32)), (.ref b3), (.int (fitF aT aR aI aR))]))
      obtain ⟨cl141, Ar141, q141, S141, M141, H141, G141⟩ := id F121
      have hin141 : ¬ ((7 : Int32) < 0 ∨ cl141.slots.size ≤ ((7 : Int32)).toNatClampNeg) := inb_of S141 ⟨by decide, by decide⟩
      have hat141 : cl141.slots[((7 : Int32)).toNatClampNeg]? = some (.int (0 : Int32)) := Has.at H141 hin141 (rfl)
      refine Go.st (fun _ k => X140.baloadBooleans hx (j := (7 : Int32)) (v := (.int (0 : Int32))) (by rw [e140]; exact Ar141.1) (State.isArrayOf_alike hZ.alike Ar141.2.1) Ar141.2.2 hin141 hat141 (g := (mkF m 85 #[.val (.int pa), .val (.int pb), .val (.int (2 : Int32)), .val (.int (1 : Int32)), .val (.ref aT), .val (.ref aR), .val (.ref b3)] [(.int (7 : Int32)), (.ref b3), (.int (fitF aT aR aI aR))])) rfl rfl (hb hby at_85) _ k) ?_
      show Go p.tables e below _ (T140.setTop (mkF m 86 #[.val (.int pa), .val (.int pb), .val (.int (2 : Int32)), .val (.int (1 : Int32)), .val (.ref aT), .val (.ref aR), .val (.ref b3)] [(.int (0 : Int32)), (.int (fitF aT aR aI aR))]))
      have hc86 : (fitF aT aR aI aR) = (0 : Int32) := (by simp [fitF, hIR, hIT, hRT, Ne.symm hIR, Ne.symm hIT, Ne.symm hRT])
      refine Go.st (fun _ k => XS.icmpNo X140.here hx rfl (hb hby at_86) rfl (Jvm.Free.XT.ii_ne_f hc86) k) ?_
      show Go p.tables e below _ (T140.setTop (mkF m 89 #[.val (.int pa), .val (.int pb), .val (.int (2 : Int32)), .val (.int (1 : Int32)), .val (.ref aT), .val (.ref aR), .val (.ref b3)] []))
      refine Go.st (fun _ k => XS.iconst X140.here hx rfl (hb hby at_89) k) ?_
      show Go p.tables e below _ (T140.setTop (mkF m 90 #[.val (.int pa), .val (.int pb), .val (.int (2 : Int32)), .val (.int (1 : Int32)), .val (.ref aT), .val (.ref aR), .val (.ref b3)] [(.int (1 : Int32))]))
      refine Go.st (fun _ k => XS.goto X140.here hx rfl (pc0 := 90) (pc' := 94) rfl (hb hby at_90) (by decide) (by decide) k) ?_
      show Go p.tables e below _ (T140.setTop (mkF m 94 #[.val (.int pa), .val (.int pb), .val (.int (2 : Int32)), .val (.int (1 : Int32)), .val (.ref aT), .val (.ref aR), .val (.ref b3)] [(.int (1 : Int32))]))
      subst hG
      obtain ⟨fs, hr, hrun, hended, hW, hsame⟩ := X140.leave (v := some (.int (nar .boolean (1 : Int32)))) (fun h => by rw [Bd.returns] at h; cases h)
      refine ⟨_, _, ?_, hrun, hended, _, _, rfl, ?_, ⟨_, rfl⟩, hW, hsame.mono (by decide) (by decide)⟩
      · exact retN X140 hx (t := .boolean) Bd.returns (by simp) (hb hby at_94) hr
      · show Q_law Z pa pb aI aR aT h0 n0 _ T140.heap _
        rw [e140]
        exact ⟨rfl, N140, K123⟩
    · subst u13
      rw [show pickF (2 : Int32) aI aR aT = aT from by simp [pickF]]
      show Go p.tables e below _ (T114.setTop (mkF m 71 #[.val (.int pa), .val (.int pb), .val (.int (2 : Int32)), .val (.int (2 : Int32)), .val (.ref aT), .val (.ref aT), .val (.ref b3)] []))
      refine Go.st (fun _ k => XS.aload X114.here hx rfl (hb hby at_71) rfl rfl k) ?_
      show Go p.tables e below _ (T114.setTop (mkF m 73 #[.val (.int pa), .val (.int pb), .val (.int (2 : Int32)), .val (.int (2 : Int32)), .val (.ref aT), .val (.ref aT), .val (.ref b3)] [(.ref aT)]))
      refine Go.st (fun _ k => XS.aload X114.here hx rfl (hb hby at_73) rfl rfl k) ?_
      show Go p.tables e below _ (T114.setTop (mkF m 75 #[.val (.int pa), .val (.int pb), .val (.int (2 : Int32)), .val (.int (2 : Int32)), .val (.ref aT), .val (.ref aT), .val (.ref b3)] [(.ref aT), (.ref aT)]))
      obtain ⟨cq142, kq142, q142a, q142b, q142c⟩ := isOf hZ e114 F120
      obtain ⟨_, _, ⟨T142, L142, k142, n142⟩, -, X142, ⟨Lc142, hQ142, l142, y142, z142⟩, st142⟩ := X114.virtualBack hx (y := (⟨"com/example/rivulet/rivulet/lang/Type", "fits", "(Lcom/example/rivulet/rivulet/lang/Type;)Z"⟩ : MethodName)) (z := (⟨"com/example/rivulet/rivulet/lang/Type", "fits", "(Lcom/example/rivulet/rivulet/lang/Type;)Z"⟩ : MethodName)) hown (mvT hZ (hw _ (List.mem_of_getElem? (i := 9) rfl))) (mvT hZ (hw _ (List.mem_of_getElem? (i := 10) rfl))) (notFace_of_selects (args := #[]) (mvT hZ (hw _ (List.mem_of_getElem? (i := 12) rfl)))) (mvT hZ (hw _ (List.mem_of_getElem? (i := 12) rfl))) (mvT hZ (hw _ (List.mem_of_getElem? (i := 11) rfl))) (by decide) (backOf (W := 0) (rm_fits l Z a0 hw [] aT aT aI aR h114 n0 Z124 F115 F116) hZ (hw _ (List.mem_of_getElem? (i := 13) rfl)) (hw _ (List.mem_of_getElem? (i := 6) rfl)) (by decide) (by decide)) q142a q142c (g := (mkF m 75 #[.val (.int pa), .val (.int pb), .val (.int (2 : Int32)), .val (.int (2 : Int32)), .val (.ref aT), .val (.ref aT), .val (.ref b3)] [(.ref aT), (.ref aT)])) rfl (by rw [hml]; rfl) (Steps.refl _) (argsL := [(.ref aT)]) (rest := []) (lenOf pd_1 rfl) rfl (by show 2 * 0 + _ ≤ _; exact Nat.le_of_eq rfl) (hb hby at_75) (fun _ _ => ⟨rfl, e114, (by decide : 1 + 0 ≤ _), (by decide : 9 + 0 ≤ _)⟩)
      dsimp only [Pt.U, Pt.locs, Pt.cells, Pt.slots] at X142 l142 y142 z142 st142 hQ142
      subst l142 y142 z142
      obtain ⟨rfl, N142q, e142⟩ := hQ142
      have N142 := Fr.app N125 N142q
      refine Go.st (fun _ k => st142.trans k) ?_
      show Go p.tables e below _ (T142.setTop (mkF m 78 #[.val (.int pa), .val (.int pb), .val (.int (2 : Int32)), .val (.int (2 : Int32)), .val (.ref aT), .val (.ref aT), .val (.ref b3)] [(.int (fitF aT aT aI aR))]))
      refine Go.st (fun _ k => XS.aload X142.here hx rfl (hb hby at_78) rfl rfl k) ?_
      show Go p.tables e below _ (T142.setTop (mkF m 80 #[.val (.int pa), .val (.int pb), .val (.int (2 : Int32)), .val (.int (2 : Int32)), .val (.ref aT), .val (.ref aT), .val (.ref b3)] [(.ref b3), (.int (fitF aT aT aI aR))]))
      refine Go.st (fun _ k => XS.iloadN X142.here hx rfl (hb hby at_80) rfl k) ?_
      show Go p.tables e below _ (T142.setTop (mkF m 81 #[.val (.int pa), .val (.int pb), .val (.int (2 : Int32)), .val (.int (2 : Int32)), .val (.ref aT), .val (.ref aT), .val (.ref b3)] [(.int (2 : Int32)), (.ref b3), (.int (fitF aT aT aI aR))]))
      refine Go.st (fun _ k => XS.iconst X142.here hx rfl (hb hby at_81) k) ?_
      show Go p.tables e below _ (T142.setTop (mkF m 82 #[.val (.int pa), .val (.int pb), .val (.int (2 : Int32)), .val (.int (2 : Int32)), .val (.ref aT), .val (.ref aT), .val (.ref b3)] [(.int (3 : Int32)), (.int (2 : Int32)), (.ref b3), (.int (fitF aT aT aI aR))]))
      refine Go.st (fun _ k => XS.imul X142.here hx rfl (hb hby at_82) rfl k) ?_
      show Go p.tables e below _ (T142.setTop (mkF m 83 #[.val (.int pa), .val (.int pb), .val (.int (2 : Int32)), .val (.int (2 : Int32)), .val (.ref aT), .val (.ref aT), .val (.ref b3)] [(.int ((2 : Int32) * (3 : Int32))), (.ref b3), (.int (fitF aT aT aI aR))]))
      rw [show ((2 : Int32) * (3 : Int32)) = (6 : Int32) from by decide]
      show Go p.tables e below _ (T142.setTop (mkF m 83 #[.val (.int pa), .val (.int pb), .val (.int (2 : Int32)), .val (.int (2 : Int32)), .val (.ref aT), .val (.ref aT), .val (.ref b3)] [(.int (6 : Int32)), (.ref b3), (.int (fitF aT aT aI aR))]))
      refine Go.st (fun _ k => XS.iloadN X142.here hx rfl (hb hby at_83) rfl k) ?_
      show Go p.tables e below _ (T142.setTop (mkF m 84 #[.val (.int pa), .val (.int pb), .val (.int (2 : Int32)), .val (.int (2 : Int32)), .val (.ref aT), .val (.ref aT), .val (.ref b3)] [(.int (2 : Int32)), (.int (6 : Int32)), (.ref b3), (.int (fitF aT aT aI aR))]))
      refine Go.st (fun _ k => XS.iadd X142.here hx rfl (hb hby at_84) rfl k) ?_
      show Go p.tables e below _ (T142.setTop (mkF m 85 #[.val (.int pa), .val (.int pb), .val (.int (2 : Int32)), .val (.int (2 : Int32)), .val (.ref aT), .val (.ref aT), .val (.ref b3)] [(.int ((6 : Int32) + (2 : Int32))), (.ref b3), (.int (fitF aT aT aI aR))]))
      rw [show ((6 : Int32) + (2 : Int32)) = (8 : Int32) from by decide]
      show Go p.tables e below _ (T142.setTop (mkF m 85 #[.val (.int pa), .val (.int pb), .val (.int (2 : Int32)), .val (.int (2 : Int32)), .val (.ref aT), .val (.ref aT), .val (.ref b3)] [(.int (8 : Int32)), (.ref b3), (.int (fitF aT aT aI aR))]))
      obtain ⟨cl143, Ar143, q143, S143, M143, H143, G143⟩ := id F121
      have hin143 : ¬ ((8 : Int32) < 0 ∨ cl143.slots.size ≤ ((8 : Int32)).toNatClampNeg) := inb_of S143 ⟨by decide, by decide⟩
      have hat143 : cl143.slots[((8 : Int32)).toNatClampNeg]? = some (.int (1 : Int32)) := Has.at H143 hin143 (rfl)
      refine Go.st (fun _ k => X142.baloadBooleans hx (j := (8 : Int32)) (v := (.int (1 : Int32))) (by rw [e142]; exact Ar143.1) (State.isArrayOf_alike hZ.alike Ar143.2.1) Ar143.2.2 hin143 hat143 (g := (mkF m 85 #[.val (.int pa), .val (.int pb), .val (.int (2 : Int32)), .val (.int (2 : Int32)), .val (.ref aT), .val (.ref aT), .val (.ref b3)] [(.int (8 : Int32)), (.ref b3), (.int (fitF aT aT aI aR))])) rfl rfl (hb hby at_85) _ k) ?_
      show Go p.tables e below _ (T142.setTop (mkF m 86 #[.val (.int pa), .val (.int pb), .val (.int (2 : Int32)), .val (.int (2 : Int32)), .val (.ref aT), .val (.ref aT), .val (.ref b3)] [(.int (1 : Int32)), (.int (fitF aT aT aI aR))]))
      have hc86 : (fitF aT aT aI aR) = (1 : Int32) := (by simp [fitF, hIR, hIT, hRT, Ne.symm hIR, Ne.symm hIT, Ne.symm hRT])
      refine Go.st (fun _ k => XS.icmpNo X142.here hx rfl (hb hby at_86) rfl (Jvm.Free.XT.ii_ne_f hc86) k) ?_
      show Go p.tables e below _ (T142.setTop (mkF m 89 #[.val (.int pa), .val (.int pb), .val (.int (2 : Int32)), .val (.int (2 : Int32)), .val (.ref aT), .val (.ref aT), .val (.ref b3)] []))
      refine Go.st (fun _ k => XS.iconst X142.here hx rfl (hb hby at_89) k) ?_
      show Go p.tables e below _ (T142.setTop (mkF m 90 #[.val (.int pa), .val (.int pb), .val (.int (2 : Int32)), .val (.int (2 : Int32)), .val (.ref aT), .val (.ref aT), .val (.ref b3)] [(.int (1 : Int32))]))
      refine Go.st (fun _ k => XS.goto X142.here hx rfl (pc0 := 90) (pc' := 94) rfl (hb hby at_90) (by decide) (by decide) k) ?_
      show Go p.tables e below _ (T142.setTop (mkF m 94 #[.val (.int pa), .val (.int pb), .val (.int (2 : Int32)), .val (.int (2 : Int32)), .val (.ref aT), .val (.ref aT), .val (.ref b3)] [(.int (1 : Int32))]))
      subst hG
      obtain ⟨fs, hr, hrun, hended, hW, hsame⟩ := X142.leave (v := some (.int (nar .boolean (1 : Int32)))) (fun h => by rw [Bd.returns] at h; cases h)
      refine ⟨_, _, ?_, hrun, hended, _, _, rfl, ?_, ⟨_, rfl⟩, hW, hsame.mono (by decide) (by decide)⟩
      · exact retN X142 hx (t := .boolean) Bd.returns (by simp) (hb hby at_94) hr
      · show Q_law Z pa pb aI aR aT h0 n0 _ T142.heap _
        rw [e142]
        exact ⟨rfl, N142, K123⟩
set_option maxRecDepth 65536 in
set_option maxHeartbeats 40000000 in
theorem comes_1 {Post : Tables → Env → Array Value → State → Outcome → State → Prop} (hpost : ∀ tb e args s v u, (limb_1_1.after args s (.returned v) u = true ∧ limb_1_2.after args s (.returned v) u = true ∧ True) → FrameEnd s (.returned v) u (Jvm.fieldLocs frame_1_writes args s ++ Jvm.arrayLocs frame_1_arrays args s ++ Jvm.staticLocs frame_1_statics s) 16 128 → Post tb e args s (.returned v) u) :
    ArmFor flags0 classFile x code maxLocals ret World_1 tables_1 room_1 Calls_1 rest_1 Pre_1 Post := by
  intro l hfl _ _ p e ha hc hk s m args below hf hA hF happ hP
  obtain ⟨hcalls, hrest, hpre⟩ := hP
  obtain ⟨-, -, -, hnamed, -, -, -, hat⟩ := (Spec.applies_iff hf).mp happ
  obtain ⟨hg, hn⟩ := and_e (Cond.before_iff.mp (show (Jvm.Cond.and given_1 narrow_1).before args s = true from hpre))
  obtain ⟨hcount, hg0⟩ := and_e hg
  obtain ⟨hv0, hg1⟩ := and_e hg0
  obtain ⟨w0, w1, rfl⟩ : ∃ w0 w1 : Value, args = #[w0, w1] := by
    have hs : args.size = 2 := by simpa [Cond.value, given_1] using hcount
    obtain ⟨L⟩ := args
    match L, hs with
    | [w0, w1], _ => exact ⟨w0, w1, rfl⟩
  have hw := fun d (hd : d ∈ tables_1) => atoms_spec (ws := Jvm.Cond.code x code maxLocals ret :: tables_1) hat d (List.mem_cons_of_mem _ hd)
  have hfit : Fit s := fun {y c} hc i hi => by
    obtain ⟨ha, rfl⟩ := Array.getElem?_eq_some_iff.mp hc
    have q := List.all_eq_true.mp ((Array.all_eq_true_iff_forall_mem.mp hF) _ (Array.getElem_mem ha)) i (List.mem_range.mpr hi)
    simpa [Array.getElem?_eq_getElem hi] using q
  obtain ⟨i0, ei0⟩ := is_v hv0
  obtain rfl : w0 = (.int i0) := Option.some.inj ei0
  obtain ⟨i1, ei1⟩ := is_v hg1
  obtain rfl : w1 = (.int i1) := Option.some.inj ei1
  obtain ⟨m1, hn1⟩ := and_e hn
  obtain ⟨m2, hn2⟩ := and_e hn1
  obtain ⟨m3, hn3⟩ := and_e hn2
  obtain ⟨m4, hn4⟩ := and_e hn3
  obtain ⟨m5, m6⟩ := and_e hn4
  obtain ⟨aI, evaI⟩ := exa_v m1
  have EaI := Exa.start evaI m1
  have SaI := Sta.start evaI (Or.inr ⟨(hw _ (List.mem_of_getElem? (i := 6) rfl)), (hw _ (List.mem_of_getElem? (i := 7) rfl))⟩)
  obtain ⟨aT, evaT⟩ := exa_v m2
  have EaT := Exa.start evaT m2
  have SaT := Sta.start evaT (Or.inr ⟨(hw _ (List.mem_of_getElem? (i := 6) rfl)), (hw _ (List.mem_of_getElem? (i := 15) rfl))⟩)
  obtain ⟨aR, evaR⟩ := exa_v m3
  have EaR := Exa.start evaR m3
  have SaR := Sta.start evaR (Or.inr ⟨(hw _ (List.mem_of_getElem? (i := 6) rfl)), (hw _ (List.mem_of_getElem? (i := 17) rfl))⟩)
  have oaT := eqv_i (Term.int_eval 2) m4
  rw [fld_at evaT] at oaT
  have oaR := eqv_i (Term.int_eval 1) m5
  rw [fld_at evaR] at oaR
  have oaI := eqv_i (Term.int_eval 0) m6
  rw [fld_at evaI] at oaI
  have hIR : aI ≠ aR := fun z => absurd (Value.int.inj (Option.some.inj (oaR.symm.trans (z ▸ oaI)))) (by decide)
  have hIT : aI ≠ aT := fun z => absurd (Value.int.inj (Option.some.inj (oaT.symm.trans (z ▸ oaI)))) (by decide)
  have hRT : aR ≠ aT := fun z => absurd (Value.int.inj (Option.some.inj (oaT.symm.trans (z ▸ oaR)))) (by decide)
  obtain ⟨n, o, h1, h2, h3, _, L, rfl, ⟨rfl, N, -⟩, hq⟩ := rm_law l s _ hw tables_1 i0 i1 aI aR aT s.heap s.heap.size (Nat.le_refl _) SaI SaR SaT EaI EaR EaT hIR hIT hRT p e ha hc hk s m _ below hf ((Spec.applies_iff_loose hf).mp happ).1 ⟨rfl, State.Warmed39.refl s, rfl⟩ trivial
  refine ⟨n, _, h1, h2, h3, hpost _ _ _ _ _ _ ⟨Cond.after_iff.mpr rfl, Cond.after_iff.mpr (eq_i res_at (Term.int_eval (1)) rfl), trivial⟩ ⟨hq.1, hq.2.1, (hq.2.2.sift fun y hy => Or.inr (N y hy)).mono (by decide) (by decide)⟩⟩
theorem main_1_1 : Claimed_1_1 := comes_1 fun _ _ _ _ _ _ h hF => ⟨h.1, hF⟩
theorem main_1_2 : Claimed_1_2 := comes_1 fun _ _ _ _ _ _ h hF => ⟨h.2.1, hF⟩
end Jvm.Pilot.@@N@@
namespace Jvm.Pilot.@@N@@
open Jvm Jvm.ClassFile Sem Op Lib Jvm.Free Jvm.Stand Jvm.Pilot.@@N@@.Jvm.D
/-! MADE BY PROGRAM (witnessworld.py) out of the Statement's table words and the real class files: 14 classes; the members and pool entries that the words name. The judged class is class 1, her method 2. -/
namespace start1
open Jvm.ClassFile
def u (s : String) : CpInfo := .utf8 (stringToUtf16 s)
/-- a pool by its gaps: so many unusable entries, then the entry; so many at the end -/
def gap : Nat → List CpInfo → List CpInfo
  | 0, r => r
  | n + 1, r => .unusable :: gap n r
def poolList (es : List (Nat × CpInfo)) (last : Nat) : List CpInfo := es.foldr (fun e r => gap e.1 (e.2 :: r)) (gap last [])
def pool (es : List (Nat × CpInfo)) (last : Nat) : Array CpInfo := ⟨poolList es last⟩
def fileOf (pool : Array CpInfo) (this : Nat) (attrs : Array Attribute := #[]) (ms : Array MethodInfo := #[]) (fl : Nat := 33) (sup : Nat := 0) (ifs : Array Nat := #[]) (fds : Array FieldInfo := #[]) : ClassFile where
  minorVersion := 0
  majorVersion := 65
  constantPool := pool
  accessFlags := fl
  thisClass := this
  superClass := sup
  interfaces := ifs
  fields := fds
  methods := ms
  attributes := attrs
def plain (name : String) (sup : Option ClassId) : Class where
  name := name
  kind := .ordinary
  loader := none
  accessFlags := 33
  super := sup
  interfaces := #[]
  cf := none
  fields := #[]
  methods := #[]
  instanceTypes := #[]
  staticTypes := #[]
  resolved := #[]
  callSites := []
  init := .initialized
  statics := none
  mirror := none

def pool0 : Array CpInfo := pool [(5, u "<init>"), (0, u "()V"), (1, .class_ 10), (1, u "java/lang/Object")] 113

def k0m0 : Method := { name := "<init>", desc := "()V", sig := { parameters := [], returnType := none }, accessFlags := 1, code := none }
/-- java/lang/Object -/
def k0 : Class := { plain "java/lang/Object" none with
  accessFlags := 33
  interfaces := #[]
  cf := some (fileOf pool0 8 #[] #[{ accessFlags := 1, nameIndex := 5, descriptorIndex := 6, attributes := #[] }] 33 0 #[] #[])
  fields := #[]
  methods := #[k0m0]
  instanceTypes := #[]
  staticTypes := #[]
  resolved := Array.replicate 124 none
  statics := none }

def pool1 : Array CpInfo := pool [(2, .class_ 4), (1, u "java/lang/Object"), (0, u "<init>"), (0, u "()V"), (0, .fieldref 8 9), (0, .class_ 10), (0, .nameAndType 11 12), (0, u "com/example/rivulet/rivulet/lang/Type"), (0, u "INT"), (0, u "Lcom/example/rivulet/rivulet/lang/Type;"), (0, .fieldref 8 14), (0, .nameAndType 15 12), (0, u "REAL"), (0, .fieldref 8 17), (0, .nameAndType 18 12), (0, u "TEXT"), (0, .integer 2147483647), (0, .methodref 21 22), (0, .class_ 23), (0, .nameAndType 24 25), (0, u "com/example/rivulet/rivulet/lang/TypeFitsPinLaw"), (0, u "pick"), (0, u "(I)Lcom/example/rivulet/rivulet/lang/Type;"), (0, .methodref 8 27), (0, .nameAndType 28 29), (0, u "fits"), (0, u "(Lcom/example/rivulet/rivulet/lang/Type;)Z"), (3, u "law"), (0, u "(II)Z")] 4

def k1m0 : Method := { name := "<init>", desc := "()V", sig := { parameters := [], returnType := none }, accessFlags := 1, code := none }
def k1c1 : Code := { maxStack := 2, maxLocals := 1, code := method_2_code, exceptionTable := #[], attributes := #[] }
def k1m1 : Method := { name := "pick", desc := "(I)Lcom/example/rivulet/rivulet/lang/Type;", sig := { parameters := [.int], returnType := some (.object "com/example/rivulet/rivulet/lang/Type") }, accessFlags := 10, code := some k1c1 }
def k1c2 : Code := { maxStack := 4, maxLocals := 7, code := code, exceptionTable := #[], attributes := #[] }
def k1m2 : Method := { name := "law", desc := "(II)Z", sig := { parameters := [.int, .int], returnType := some .boolean }, accessFlags := 9, code := some k1c2 }
/-- com/example/rivulet/rivulet/lang/TypeFitsPinLaw -/
def k1 : Class := { plain "com/example/rivulet/rivulet/lang/TypeFitsPinLaw" (some 0) with
  accessFlags := 49
  interfaces := #[]
  cf := some (fileOf pool1 21 #[] #[{ accessFlags := 1, nameIndex := 5, descriptorIndex := 6, attributes := #[] }, { accessFlags := 10, nameIndex := 24, descriptorIndex := 25, attributes := #[] }, { accessFlags := 9, nameIndex := 33, descriptorIndex := 34, attributes := #[] }] 49 2 #[] #[])
  fields := #[]
  methods := #[k1m0, k1m1, k1m2]
  instanceTypes := #[]
  staticTypes := #[]
  resolved := Array.replicate 39 none
  statics := none }

def pool2 : Array CpInfo := pool [(1, .class_ 2), (0, u "java/lang/constant/Constable"), (0, .class_ 4), (0, u "java/lang/Object")] 6

/-- java/lang/constant/Constable -/
def k2 : Class := { plain "java/lang/constant/Constable" (some 0) with
  accessFlags := 1537
  interfaces := #[]
  cf := some (fileOf pool2 1 #[] #[] 1537 3 #[] #[])
  fields := #[]
  methods := #[]
  instanceTypes := #[]
  staticTypes := #[]
  resolved := Array.replicate 11 none
  statics := none }

def pool3 : Array CpInfo := pool [(1, .class_ 2), (0, u "java/lang/Comparable"), (0, .class_ 4), (0, u "java/lang/Object")] 7

/-- java/lang/Comparable -/
def k3 : Class := { plain "java/lang/Comparable" (some 0) with
  accessFlags := 1537
  interfaces := #[]
  cf := some (fileOf pool3 1 #[] #[] 1537 3 #[] #[])
  fields := #[]
  methods := #[]
  instanceTypes := #[]
  staticTypes := #[]
  resolved := Array.replicate 12 none
  statics := none }

def pool4 : Array CpInfo := pool [(1, .class_ 2), (0, u "java/io/Serializable"), (0, .class_ 4), (0, u "java/lang/Object")] 2

/-- java/io/Serializable -/
def k4 : Class := { plain "java/io/Serializable" (some 0) with
  accessFlags := 1537
  interfaces := #[]
  cf := some (fileOf pool4 1 #[] #[] 1537 3 #[] #[])
  fields := #[]
  methods := #[]
  instanceTypes := #[]
  staticTypes := #[]
  resolved := Array.replicate 7 none
  statics := none }

def pool5 : Array CpInfo := pool [(2, .class_ 4), (1, u "java/lang/Enum"), (0, u "name"), (0, u "Ljava/lang/String;"), (2, u "ordinal"), (0, u "I"), (1, .class_ 14), (1, u "java/lang/Object"), (4, u "hash"), (86, .class_ 108), (1, u "java/lang/Enum$EnumDesc"), (2, .class_ 112), (0, u "java/lang/constant/Constable"), (0, .class_ 114), (0, u "java/lang/Comparable"), (0, .class_ 116), (0, u "java/io/Serializable")] 87

/-- java/lang/Enum -/
def k5 : Class := { plain "java/lang/Enum" (some 0) with
  accessFlags := 1057
  interfaces := #[2, 3, 4]
  cf := some (fileOf pool5 2 #[.nestMembers #[106]] #[] 1057 12 #[111, 113, 115] #[{ accessFlags := 18, nameIndex := 5, descriptorIndex := 6, attributes := #[] }, { accessFlags := 18, nameIndex := 9, descriptorIndex := 10, attributes := #[] }, { accessFlags := 2, nameIndex := 19, descriptorIndex := 10, attributes := #[] }])
  fields := #[{ name := "name", type := (.object "java/lang/String"), accessFlags := 18, slot := 0, constantValue := 0 }, { name := "ordinal", type := .int, accessFlags := 18, slot := 1, constantValue := 0 }, { name := "hash", type := .int, accessFlags := 2, slot := 2, constantValue := 0 }]
  methods := #[]
  instanceTypes := #[(.object "java/lang/String"), .int, .int]
  staticTypes := #[]
  resolved := Array.replicate 204 none
  statics := none }

def pool6 : Array CpInfo := pool [(1, .class_ 2), (0, u "com/example/rivulet/rivulet/lang/Type"), (0, .fieldref 1 4), (0, .nameAndType 5 6), (0, u "INT"), (0, u "Lcom/example/rivulet/rivulet/lang/Type;"), (0, .fieldref 1 8), (0, .nameAndType 9 6), (0, u "REAL"), (2, u "TEXT"), (2, u "$VALUES"), (0, u "[Lcom/example/rivulet/rivulet/lang/Type;"), (6, .class_ 25), (1, u "java/lang/Enum"), (8, u "name"), (0, u "Ljava/lang/String;"), (144, u "fits"), (0, u "(Lcom/example/rivulet/rivulet/lang/Type;)Z")] 27

def k6c0 : Code := { maxStack := 2, maxLocals := 2, code := prog_199_method_6_code, exceptionTable := #[], attributes := #[] }
def k6m0 : Method := { name := "fits", desc := "(Lcom/example/rivulet/rivulet/lang/Type;)Z", sig := { parameters := [(.object "com/example/rivulet/rivulet/lang/Type")], returnType := some .boolean }, accessFlags := 1, code := some k6c0 }
/-- com/example/rivulet/rivulet/lang/Type -/
def k6 : Class := { plain "com/example/rivulet/rivulet/lang/Type" (some 5) with
  accessFlags := 16433
  interfaces := #[]
  cf := some (fileOf pool6 1 #[] #[{ accessFlags := 1, nameIndex := 180, descriptorIndex := 181, attributes := #[] }] 16433 23 #[] #[{ accessFlags := 16409, nameIndex := 5, descriptorIndex := 6, attributes := #[] }, { accessFlags := 16409, nameIndex := 9, descriptorIndex := 6, attributes := #[] }, { accessFlags := 16409, nameIndex := 12, descriptorIndex := 6, attributes := #[] }, { accessFlags := 18, nameIndex := 34, descriptorIndex := 35, attributes := #[] }, { accessFlags := 4122, nameIndex := 15, descriptorIndex := 16, attributes := #[] }])
  fields := #[{ name := "INT", type := (.object "com/example/rivulet/rivulet/lang/Type"), accessFlags := 16409, slot := 0, constantValue := 0 }, { name := "REAL", type := (.object "com/example/rivulet/rivulet/lang/Type"), accessFlags := 16409, slot := 1, constantValue := 0 }, { name := "TEXT", type := (.object "com/example/rivulet/rivulet/lang/Type"), accessFlags := 16409, slot := 2, constantValue := 0 }, { name := "name", type := (.object "java/lang/String"), accessFlags := 18, slot := 3, constantValue := 0 }, { name := "$VALUES", type := (.array (.object "com/example/rivulet/rivulet/lang/Type")), accessFlags := 4122, slot := 3, constantValue := 0 }]
  methods := #[k6m0]
  instanceTypes := #[(.object "java/lang/String"), .int, .int, (.object "java/lang/String")]
  staticTypes := #[(.object "com/example/rivulet/rivulet/lang/Type"), (.object "com/example/rivulet/rivulet/lang/Type"), (.object "com/example/rivulet/rivulet/lang/Type"), (.array (.object "com/example/rivulet/rivulet/lang/Type"))]
  resolved := Array.replicate 209 none
  statics := some 0 }

def pool7 : Array CpInfo := pool [(1, u "java/lang/Cloneable"), (0, .class_ 1), (0, u "java/lang/Object"), (0, .class_ 3)] 3

/-- java/lang/Cloneable -/
def k7 : Class := { plain "java/lang/Cloneable" (some 0) with
  accessFlags := 1537
  interfaces := #[]
  cf := some (fileOf pool7 2 #[] #[] 1537 4 #[] #[])
  fields := #[]
  methods := #[]
  instanceTypes := #[]
  staticTypes := #[]
  resolved := Array.replicate 8 none
  statics := none }

/-- the primitive boolean -/
def k8 : Class := { plain "boolean" none with kind := .primitive 'Z', accessFlags := 0x411 }
/-- [Z -/
def k9 : Class := { plain "[Z" (some 0) with kind := .array 8 .boolean, interfaces := #[7, 4], accessFlags := 1041 }

/-- the primitive byte -/
def k10 : Class := { plain "byte" none with kind := .primitive 'B', accessFlags := 0x411 }
/-- [B -/
def k11 : Class := { plain "[B" (some 0) with kind := .array 10 .byte, interfaces := #[7, 4], accessFlags := 1041 }

/-- the primitive int -/
def k12 : Class := { plain "int" none with kind := .primitive 'I', accessFlags := 0x411 }
/-- [I -/
def k13 : Class := { plain "[I" (some 0) with kind := .array 12 .int, interfaces := #[7, 4], accessFlags := 1041 }

def heap : Heap := #[{ cls := 6, slots := #[.ref 1, .ref 2, .ref 3, .null], vm := .statics 6 },
  { cls := 6, slots := #[.null, .int 0, .int 0, .null], vm := .none },
  { cls := 6, slots := #[.null, .int 1, .int 0, .null], vm := .none },
  { cls := 6, slots := #[.null, .int 2, .int 0, .null], vm := .none }]
def classes : Array Class := #[k0, k1, k2, k3, k4, k5, k6, k7, k8, k9, k10, k11, k12, k13]
def interned : List (Array UInt16 × Addr) := []
def slotsUsed : Nat := 16
def theMethod : MethodId := ⟨1, 2⟩
def args0 : Array Value := #[.int 5, .int 7]
def aboutOver (below : List Frame) : State where
  vm := { classes := classes, interned := interned.toArray }
  heap := heap
  slotsUsed := slotsUsed
  threads := #[{ frames := .invoking theMethod args0 :: below }]
def below0 : List Frame := [.native { method := ⟨0, 0⟩, args := #[] }]
def about1 : State := aboutOver below0
def p0 : Program := .bare "" "" ""
def e0 : Env := launch0.env 0 0 0
theorem w_frames : about1.frames = Frame.invoking theMethod args0 :: below0 := rfl
set_option maxRecDepth 65536 in
theorem w_args : argsFit about1.vm theMethod args0 = true := by decide +kernel
set_option maxRecDepth 65536 in
theorem w_heap : heapFits about1 = true := by decide +kernel
set_option maxRecDepth 65536 in
theorem w_runnable : about1.curStatus? = some .runnable := by decide +kernel
set_option maxRecDepth 65536 in
theorem w_alone : about1.alone = true := by decide +kernel
set_option maxRecDepth 65536 in
theorem w_named : about1.methodNamed? x = some theMethod := by decide +kernel
set_option maxRecDepth 65536 in
theorem w_hears : about1.hears theMethod below0 = true := by decide +kernel
set_option maxRecDepth 65536 in
theorem w_ripe : about1.ripe theMethod args0 below0 = true := by decide +kernel
theorem w_running : about1.status = .running := rfl
set_option maxRecDepth 65536 in
theorem w_room : about1.hasRoom e0.platform room_1 = true :=
  launch0.hasRoom_least _ room_1 (by decide +kernel) (by decide +kernel) (by decide +kernel) (by decide +kernel) (by decide +kernel) (by decide +kernel)
theorem allAtoms_all (ts : List Jvm.Cond) (a : Array Jvm.Value) (st : Jvm.State) : (allAtoms ts).before a st = ts.all (fun c => c.before a st) := by
  induction ts with
  | nil => rfl
  | cons c t ih =>
    show (Jvm.Cond.and c (allAtoms t)).before a st = _
    rw [Jvm.Cond.before_and, ih, List.all_cons]
def words1 : List Jvm.Cond := Jvm.Cond.code x code maxLocals ret :: tables_1
/-- a 'code' word, met by the world's own term for the bytes: nothing is compared byte by byte -/
theorem code_word {y : MethodName} {bytes : ByteArray} {mx : Nat} {rt : Option FieldType} {a : Array Value} {s : State} {m : MethodId} {meth : Method} {c : Code} (h1 : s.methodNamed? y = some m) (h2 : s.vm.method? m = some meth) (h3 : meth.code = some c) (h4 : c.code = bytes)
    (h5 : (c.maxLocals == mx && c.exceptionTable.isEmpty && decide (c.maxStack ≤ mostOperands) && decide (meth.sig.returnType = rt) && !meth.locks && decide (parseMethodDescriptor y.desc = some meth.sig)) = true) : (Jvm.Cond.code y bytes mx rt).before a s = true := by
  simp only [Bool.and_eq_true, beq_iff_eq, Bool.not_eq_true', decide_eq_true_eq] at h5
  obtain ⟨⟨⟨⟨⟨g1, g2⟩, g3⟩, g4⟩, g5⟩, g6⟩ := h5
  simp [Cond.before, Cond.holds, Cond.value, h1, h2, h3, h4, g1, g2, g3, g4, g5, g6]
def isCode : Jvm.Cond → Bool
  | .code _ _ _ _ => true
  | _ => false
theorem all_split {L : List Jvm.Cond} {P : Jvm.Cond → Bool} (h1 : L.all (fun c => isCode c || P c) = true) (h2 : ∀ c ∈ L.filter isCode, P c = true) : L.all P = true := by
  refine List.all_eq_true.mpr fun c hc => ?_
  have h := List.all_eq_true.mp h1 c hc
  rcases Bool.eq_false_or_eq_true (isCode c) with hi | hi
  · exact h2 c (List.mem_filter.mpr ⟨hc, hi⟩)
  · simpa [hi] using h
set_option maxRecDepth 65536 in
theorem w_c0 : (Jvm.Cond.code x code maxLocals ret).before args0 about1 = true := code_word (m := ⟨1, 2⟩) (meth := k1m2) (c := k1c2) (by decide +kernel) rfl rfl rfl (by decide +kernel)
set_option maxRecDepth 65536 in
theorem w_c1 : (Jvm.Cond.code ({ cls := "com/example/rivulet/rivulet/lang/TypeFitsPinLaw", name := "pick", desc := "(I)Lcom/example/rivulet/rivulet/lang/Type;" } : Jvm.MethodName) method_2_code (1 : Nat) (Option.some (Jvm.ClassFile.FieldType.object "com/example/rivulet/rivulet/lang/Type"))).before args0 about1 = true := code_word (m := ⟨1, 1⟩) (meth := k1m1) (c := k1c1) (by decide +kernel) rfl rfl rfl (by decide +kernel)
set_option maxRecDepth 65536 in
theorem w_c2 : (Jvm.Cond.code ({ cls := "com/example/rivulet/rivulet/lang/Type", name := "fits", desc := "(Lcom/example/rivulet/rivulet/lang/Type;)Z" } : Jvm.MethodName) prog_199_method_6_code (2 : Nat) (Option.some Jvm.ClassFile.FieldType.boolean)).before args0 about1 = true := code_word (m := ⟨6, 0⟩) (meth := k6m0) (c := k6c0) (by decide +kernel) rfl rfl rfl (by decide +kernel)
def codes1 : List Jvm.Cond := [Jvm.Cond.code x code maxLocals ret, Jvm.Cond.code ({ cls := "com/example/rivulet/rivulet/lang/TypeFitsPinLaw", name := "pick", desc := "(I)Lcom/example/rivulet/rivulet/lang/Type;" } : Jvm.MethodName) method_2_code (1 : Nat) (Option.some (Jvm.ClassFile.FieldType.object "com/example/rivulet/rivulet/lang/Type")), Jvm.Cond.code ({ cls := "com/example/rivulet/rivulet/lang/Type", name := "fits", desc := "(Lcom/example/rivulet/rivulet/lang/Type;)Z" } : Jvm.MethodName) prog_199_method_6_code (2 : Nat) (Option.some Jvm.ClassFile.FieldType.boolean)]
set_option maxRecDepth 65536 in
theorem codes_eq : words1.filter isCode = codes1 := rfl
theorem w_codes : ∀ c ∈ words1.filter isCode, c.before args0 about1 = true := by
  rw [codes_eq]
  intro c hc
  simp only [codes1, List.mem_cons, List.not_mem_nil, or_false] at hc
  rcases hc with rfl | rfl | rfl
  · exact w_c0
  · exact w_c1
  · exact w_c2
set_option maxRecDepth 65536 in
theorem w_t1 : words1.all (fun c => isCode c || c.before args0 about1) = true := by decide +kernel
theorem w_tables : (allAtoms (Jvm.Cond.code x code maxLocals ret :: tables_1)).before args0 about1 = true := by
  rw [allAtoms_all]
  show words1.all (fun c => c.before args0 about1) = true
  refine all_split ?_ w_codes
  rw [w_t1]
set_option maxRecDepth 65536 in
theorem w_case : (Jvm.Cond.and given_1 narrow_1).before args0 about1 = true := by decide +kernel
theorem w_applies : (headSpec (Jvm.Cond.code x code maxLocals ret :: tables_1) room_1).applies x e0.platform about1 = true :=
  (Spec.applies_iff w_frames).mpr ⟨w_running, w_runnable, w_alone, w_named, w_hears, w_ripe, w_room, w_tables⟩
theorem atStart : AtStart classFile x code maxLocals ret World_1 tables_1 room_1 Calls_1 rest_1 Pre_1 launch0 p0 e0 about1 theMethod args0 below0 :=
  ⟨lists_1, trivial, launch0.admits_env _ _ _, launch0.least_env, fairChoices_fair.cas, fairChoices_fair.clock, w_frames, w_args, w_heap, w_applies, trivial, trivial, w_case⟩
end start1
theorem witness_1 : WitnessClaimed_1 := ⟨start1.p0, start1.e0, start1.about1, start1.theMethod, start1.args0, start1.below0, start1.atStart⟩
end Jvm.Pilot.@@N@@
