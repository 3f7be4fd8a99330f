import JvmDerived
import JvmDerived.Pilot.@@N@@Statement
import JvmDerived.Pilot.@@N@@Code
set_option linter.unusedVariables false
set_option linter.unusedSimpArgs false
@@BLOCK:NumsL.lean.txt@@
namespace Jvm.RoadKit
open Sem ClassFile Op Lib Jvm.Stand Jvm.Free Jvm.LawKit
section New
variable {p : Program} {l : Launch} {e : Env} {R : Room} {s : State} {m : MethodId} {args : Array Value} {below : List Frame} {meth : Method} {c : Code} {T : State} {locs : List Loc} {cells slots : Nat}
theorem retI (X : Stand p l e R s m args below meth c T locs cells slots) (hx : p.tables.exec = Jvm.exec) {pc : Nat} {Ls : Array Slot} {z : Int32} {rest : List Value} (hret : meth.sig.returnType = some .int) (hd : decode c.code pc = .ok (.ireturn, 1)) {fs : List Frame}
    (hl : ∀ (f : JFrame) (acts : List Action), f.method = m → f.locked = none → f.entered = [] → (doReturn e (T.setTop f) acts (some (.int z))).1 = T.setFrames fs) : Steps p.tables e below (T.setTop (mkF m pc Ls (.int z :: rest))) (T.setFrames fs) := by
  have hm' : T.vm.method? m = some meth := X.method'
  have hn : narrow .int (.int z) = .int z := rfl
  show Steps p.tables e below (T.setTop { method := m, pc := pc, locals := Ls, stack := _ :: rest, locked := none }) _
  jvm_step X.here [X.here.top, hx, hd, hm', hret, hn]
  first | (intro acts; rw [hl _ acts rfl rfl rfl]) | rw [hl _ _ rfl rfl rfl]
  exact Steps.refl _
end New
end Jvm.RoadKit
namespace Jvm.Pilot.@@N@@
open Jvm Jvm.ClassFile Sem Op Lib Jvm.Free Jvm.Stand Jvm.LawKit Jvm.RoadKit Bundle Jvm.Pilot.@@N@@.Jvm.D
/-- from here the run comes to an end of which G holds -/
def Go (tb : Tables) (e : Env) (below : List Frame) (G : State → Outcome → Prop) (U : State) : Prop := ∃ t o, Steps tb e below U t ∧ G t o
theorem Go.st {tb : Tables} {e : Env} {below : List Frame} {G : State → Outcome → Prop} {U U' : State} (h : ∀ t, Steps tb e below U' t → Steps tb e below U t) (k : Go tb e below G U') : Go tb e below G U :=
  let ⟨t, o, a, b⟩ := k
  ⟨t, o, h t a, b⟩
theorem Go.start {tb : Tables} {e : Env} {below : List Frame} {G0 : State → Outcome → Prop} {U : State} (h : ∀ G, G = G0 → Go tb e below G U) : Go tb e below G0 U := h _ rfl
theorem Go.join {tb : Tables} {e : Env} {below : List Frame} {G : State → Outcome → Prop} {U : State} {α : Type} {F : α → State} (k : ∀ z, Go tb e below G (F z)) (h : (∀ z, Go tb e below G (F z)) → Go tb e below G U) : Go tb e below G U := h k
theorem Go.joinR {tb : Tables} {e : Env} {below : List Frame} {G : State → Outcome → Prop} {U : State} {α : Type} {F : α → State} {R : α → Prop} (k : ∀ z, R z → Go tb e below G (F z)) (h : (∀ z, R z → Go tb e below G (F z)) → Go tb e below G U) : Go tb e below G U := h k
theorem own_lrem {tb : Tables} {e : Env} {below : List Frame} {T target : State} {g : JFrame} {n : Nat} {x y : Int64} {rest : List Value} (k : Steps tb e below (T.setTop { g with pc := n, stack := .long (x % y) :: rest }) target) :
    Steps tb e below (T.setTop { g with pc := n, stack := .long (x - (x / y) * y) :: rest }) target := by
  rw [lrem_mod]
  exact k
theorem i64_addc (x y : Int64) : (x + y).toInt = x.toInt + y.toInt ∧ -2 ^ 63 ≤ x.toInt + y.toInt ∧ x.toInt + y.toInt < 2 ^ 63 ∨ (x + y).toInt = x.toInt + y.toInt - 2 ^ 64 ∧ 2 ^ 63 ≤ x.toInt + y.toInt ∨ (x + y).toInt = x.toInt + y.toInt + 2 ^ 64 ∧ x.toInt + y.toInt < -2 ^ 63 := by
  have h := Int64.toInt_add x y
  have a1 := Int64.le_toInt x
  have a2 := Int64.toInt_lt x
  have b1 := Int64.le_toInt y
  have b2 := Int64.toInt_lt y
  rw [Int.bmod_def] at h
  split at h <;> omega
theorem i64_subc (x y : Int64) : (x - y).toInt = x.toInt - y.toInt ∧ -2 ^ 63 ≤ x.toInt - y.toInt ∧ x.toInt - y.toInt < 2 ^ 63 ∨ (x - y).toInt = x.toInt - y.toInt - 2 ^ 64 ∧ 2 ^ 63 ≤ x.toInt - y.toInt ∨ (x - y).toInt = x.toInt - y.toInt + 2 ^ 64 ∧ x.toInt - y.toInt < -2 ^ 63 := by
  have h := Int64.toInt_sub x y
  have a1 := Int64.le_toInt x
  have a2 := Int64.toInt_lt x
  have b1 := Int64.le_toInt y
  have b2 := Int64.toInt_lt y
  rw [Int.bmod_def] at h
  split at h <;> omega
theorem i32_i2c (x : Int32) : (x.toUInt32.toUInt16.toUInt32.toInt32).toInt = x.toInt % 65536 := by
  have h1 : (x.toUInt32.toUInt16.toUInt32.toInt32).toInt = ((x.toUInt32.toUInt16.toUInt32).toNat : Int).bmod (2 ^ 32) := by
    rw [← Int32.toInt_toBitVec, BitVec.toInt_eq_toNat_bmod]; rfl
  have h2 : (x.toUInt32.toUInt16.toUInt32).toNat = x.toBitVec.toNat % 65536 := by
    simp [UInt32.toNat_toUInt16, UInt16.toNat_toUInt32]; rfl
  have h3 : x.toInt = (x.toBitVec.toNat : Int).bmod (2 ^ 32) := by
    rw [← Int32.toInt_toBitVec, BitVec.toInt_eq_toNat_bmod]
  have h4 := x.toBitVec.isLt
  rw [h1, h2, h3, Int.bmod_def, Int.bmod_def]
  split <;> split <;> omega
theorem i32_addc (x y : Int32) : (x + y).toInt = x.toInt + y.toInt ∧ -2 ^ 31 ≤ x.toInt + y.toInt ∧ x.toInt + y.toInt < 2 ^ 31 ∨ (x + y).toInt = x.toInt + y.toInt - 2 ^ 32 ∧ 2 ^ 31 ≤ x.toInt + y.toInt ∨ (x + y).toInt = x.toInt + y.toInt + 2 ^ 32 ∧ x.toInt + y.toInt < -2 ^ 31 := by
  have h := Int32.toInt_add x y
  have a1 := Int32.le_toInt x
  have a2 := Int32.toInt_lt x
  have b1 := Int32.le_toInt y
  have b2 := Int32.toInt_lt y
  rw [Int.bmod_def] at h
  split at h <;> omega
theorem i32_subc (x y : Int32) : (x - y).toInt = x.toInt - y.toInt ∧ -2 ^ 31 ≤ x.toInt - y.toInt ∧ x.toInt - y.toInt < 2 ^ 31 ∨ (x - y).toInt = x.toInt - y.toInt - 2 ^ 32 ∧ 2 ^ 31 ≤ x.toInt - y.toInt ∨ (x - y).toInt = x.toInt - y.toInt + 2 ^ 32 ∧ x.toInt - y.toInt < -2 ^ 31 := by
  have h := Int32.toInt_sub x y
  have a1 := Int32.le_toInt x
  have a2 := Int32.toInt_lt x
  have b1 := Int32.le_toInt y
  have b2 := Int32.toInt_lt y
  rw [Int.bmod_def] at h
  split at h <;> omega
theorem own_eq32 {a b : Int32} (h : a.toInt = b.toInt) : a = b := Int32.toInt_inj.mp h
theorem own_eq64 {a b : Int64} (h : a.toInt = b.toInt) : a = b := Int64.toInt_inj.mp h
theorem own_lt64 {a b : Int64} (h : a.toInt < b.toInt) : a < b := Int64.lt_iff_toInt_lt.mpr h
theorem own_lt32 {a b : Int32} (h : a.toInt < b.toInt) : a < b := Int32.lt_iff_toInt_lt.mpr h
theorem own_nlt64 {a b : Int64} (h : b.toInt ≤ a.toInt) : ¬ a < b := fun z => by have := Int64.lt_iff_toInt_lt.mp z; omega
theorem own_nlt32 {a b : Int32} (h : b.toInt ≤ a.toInt) : ¬ a < b := fun z => by have := Int32.lt_iff_toInt_lt.mp z; omega
theorem own_ne32 {a b : Int32} (h : a.toInt ≠ b.toInt) : ¬ a = b := fun z => h (by rw [z])
theorem own_ne64 {a b : Int64} (h : a.toInt ≠ b.toInt) : ¬ a = b := fun z => h (by rw [z])
theorem own_narb (y : Int32) : nar .byte (nar .byte y) = nar .byte y := by
  show (y.toInt8.toInt32).toInt8.toInt32 = y.toInt8.toInt32
  simp
def prF (x : Int32) : Int32 := if x = 1 then 124 else x
def shF (i o : Int32) : Int32 := if i = 1 then if o = 124 then 1 else 0 else if o = i then 1 else 0
theorem own_sh (x : Int32) : shF x (prF x) = 1 := by
  by_cases h : x = 1
  · simp [shF, prF, h]
  · simp [shF, prF, h]
theorem pn_0 : plainName "com/example/gapmend/gapmend/MessagePrintablePinLaw" = true := by first | (simp [plainName, overriddenIn]; done) | decide +kernel
theorem d_draw_0 : decode method_2_code 0 = .ok (.iload_n 0, 1) := by decide +kernel
theorem d_draw_1 : decode method_2_code 1 = .ok (.sipush 256, 3) := by decide +kernel
theorem d_draw_4 : decode method_2_code 4 = .ok (.iand, 1) := by decide +kernel
theorem d_draw_5 : decode method_2_code 5 = .ok (.ifCond .eq 7, 3) := by decide +kernel
theorem d_draw_8 : decode method_2_code 8 = .ok (.iconst 1, 1) := by decide +kernel
theorem d_draw_9 : decode method_2_code 9 = .ok (.goto 5, 3) := by decide +kernel
theorem d_draw_12 : decode method_2_code 12 = .ok (.iload_n 0, 1) := by decide +kernel
theorem d_draw_13 : decode method_2_code 13 = .ok (.i2b, 1) := by decide +kernel
theorem d_draw_14 : decode method_2_code 14 = .ok (.ireturn, 1) := by decide +kernel
theorem ef_draw (m : MethodId) (px : Int32) : entryFrame m #[(.int px)] 1 = mkF m 0 #[.val (.int px)] [] := by first | (simp [entryFrame, mkF, argsToLocals, Value.category]; done) | rfl
def Q_draw (Z : State) (px : Int32) (h0 : Heap) (n0 : Nat) (v : Option Value) (h : Heap) (L : List Loc) : Prop := ∃ rr : Int32, v = some (.int rr) ∧ Fr n0 L ∧ h = h0 ∧ nar .byte rr = rr
set_option maxRecDepth 65536 in
set_option maxHeartbeats 40000000 in
theorem rm_draw (l : Launch) (Z : State) (a0 : Array Value) (hw : ∀ d ∈ tables_1, d.before a0 Z = true) (ws : List Jvm.Cond) (px : Int32) (h0 : Heap) (n0 : Nat) (Z0 : n0 ≤ h0.size)  :
    MetFree l (⟨"com/example/gapmend/gapmend/MessagePrintablePinLaw", "draw", "(I)B"⟩ : MethodName) (head1 (Jvm.Cond.code (⟨"com/example/gapmend/gapmend/MessagePrintablePinLaw", "draw", "(I)B"⟩ : MethodName) method_2_code 1 (some .byte) :: ws) ({ frames := 0, cells := 0, slots := 0, locals := 0 } : Room)) (fun a U => a = #[(.int px)] ∧ Z.Warmed39 U.vm ∧ U.heap = h0) (fun _ _ _ _ _ => True) (fun _ U o U' => ∃ v L, o = .returned v ∧ Q_draw Z px h0 n0 v U'.heap L ∧ FrameEnd U o U' L ({ frames := 0, cells := 0, slots := 0, locals := 0 } : Room).cells ({ frames := 0, cells := 0, slots := 0, locals := 0 } : Room).slots) := by
  refine MetFree.of_bodySF (plainFor_of_name pn_0) hisR ?_
  intro p e s m args below meth c s₁ Bd hml0 hP hK
  obtain ⟨rfl, hZ, hh⟩ := hP
  have hx := Bd.exec
  have hby := Bd.bytes
  have hml : c.maxLocals = 1 := hml0
  have hown : s.vm.findClass "com/example/gapmend/gapmend/MessagePrintablePinLaw" = some m.cls := findClass_of_methodNamed Bd.named
  have hnm := (name_of_methodNamed Bd.named Bd.method).1
  have X0 : Stand p l e ({ frames := 0, cells := 0, slots := 0, locals := 0 } : Room) s m #[(.int px)] below meth c s₁ [] 0 0 := Stand.of_body Bd
  have e0 : s₁.heap = h0 := by rw [← hh, Bd.state]; rfl
  have N0 := Fr.nil n0
  have K0 : Keep h0 h0 [] := Keep.refl h0 []
  show Go p.tables e below _ (s₁.setTop (entryFrame m #[(.int px)] 1))
  refine Go.start ?_
  intro G hG
  refine Go.st (fun t k => castTop (ef_draw m px) k) ?_
  show Go p.tables e below _ (s₁.setTop (mkF m 0 #[.val (.int px)] []))
  refine Go.st (fun _ k => XS.iloadN X0.here hx rfl (hb hby d_draw_0) rfl k) ?_
  show Go p.tables e below _ (s₁.setTop (mkF m 1 #[.val (.int px)] [(.int px)]))
  refine Go.st (fun _ k => XS.sipush X0.here hx rfl (hb hby d_draw_1) k) ?_
  show Go p.tables e below _ (s₁.setTop (mkF m 4 #[.val (.int px)] [(.int (256 : Int32)), (.int px)]))
  refine Go.st (fun _ k => XS.iand X0.here hx rfl (hb hby d_draw_4) rfl k) ?_
  show Go p.tables e below _ (s₁.setTop (mkF m 5 #[.val (.int px)] [(.int (px &&& (256 : Int32)))]))
  by_cases hc5 : (px &&& (256 : Int32)) = (0 : Int32)
  · skip
    refine Go.st (fun _ k => XS.ifYes X0.here hx rfl (pc0 := 5) (pc' := 12) rfl (hb hby d_draw_5) rfl (Jvm.Free.XT.i0_eq_t hc5) (by decide) (by decide) k) ?_
    show Go p.tables e below _ (s₁.setTop (mkF m 12 #[.val (.int px)] []))
    refine Go.st (fun _ k => XS.iloadN X0.here hx rfl (hb hby d_draw_12) rfl k) ?_
    show Go p.tables e below _ (s₁.setTop (mkF m 13 #[.val (.int px)] [(.int px)]))
    refine Go.st (fun _ k => XS.i2b X0.here hx rfl (hb hby d_draw_13) rfl k) ?_
    show Go p.tables e below _ (s₁.setTop (mkF m 14 #[.val (.int px)] [(.int (px.toInt8.toInt32))]))
    subst hG
    obtain ⟨fs, hr, hrun, hended, hW, hsame⟩ := X0.leave (v := some (.int (nar .byte (px.toInt8.toInt32)))) (fun h => by rw [Bd.returns] at h; cases h)
    refine ⟨_, _, ?_, hrun, hended, _, _, rfl, ?_, ⟨_, rfl⟩, hW, hsame.mono (by decide) (by decide)⟩
    · exact retN X0 hx (t := .byte) Bd.returns (by simp) (hb hby d_draw_14) hr
    · show Q_draw Z px h0 n0 _ s₁.heap _
      rw [e0]
      exact ⟨(nar .byte (px.toInt8.toInt32)), rfl, N0, rfl, (own_narb _)⟩
  · skip
    refine Go.st (fun _ k => XS.ifNo X0.here hx rfl (hb hby d_draw_5) rfl (Jvm.Free.XT.i0_eq_f hc5) k) ?_
    show Go p.tables e below _ (s₁.setTop (mkF m 8 #[.val (.int px)] []))
    refine Go.st (fun _ k => XS.iconst X0.here hx rfl (hb hby d_draw_8) k) ?_
    show Go p.tables e below _ (s₁.setTop (mkF m 9 #[.val (.int px)] [(.int (1 : Int32))]))
    refine Go.st (fun _ k => XS.goto X0.here hx rfl (pc0 := 9) (pc' := 14) rfl (hb hby d_draw_9) (by decide) (by decide) k) ?_
    show Go p.tables e below _ (s₁.setTop (mkF m 14 #[.val (.int px)] [(.int (1 : Int32))]))
    have lt_132 : (1 : Int32).toInt = 1 := by decide
    subst hG
    obtain ⟨fs, hr, hrun, hended, hW, hsame⟩ := X0.leave (v := some (.int (nar .byte (1 : Int32)))) (fun h => by rw [Bd.returns] at h; cases h)
    refine ⟨_, _, ?_, hrun, hended, _, _, rfl, ?_, ⟨_, rfl⟩, hW, hsame.mono (by decide) (by decide)⟩
    · exact retN X0 hx (t := .byte) Bd.returns (by simp) (hb hby d_draw_14) hr
    · show Q_draw Z px h0 n0 _ s₁.heap _
      rw [e0]
      exact ⟨(nar .byte (1 : Int32)), rfl, N0, rfl, (own_narb _)⟩
theorem d_shown_0 : decode method_3_code 0 = .ok (.iload_n 0, 1) := by decide +kernel
theorem d_shown_1 : decode method_3_code 1 = .ok (.iconst 1, 1) := by decide +kernel
theorem d_shown_2 : decode method_3_code 2 = .ok (.if_icmp .ne 15, 3) := by decide +kernel
theorem d_shown_5 : decode method_3_code 5 = .ok (.iload_n 1, 1) := by decide +kernel
theorem d_shown_6 : decode method_3_code 6 = .ok (.bipush 124, 2) := by decide +kernel
theorem d_shown_8 : decode method_3_code 8 = .ok (.if_icmp .ne 7, 3) := by decide +kernel
theorem d_shown_11 : decode method_3_code 11 = .ok (.iconst 1, 1) := by decide +kernel
theorem d_shown_12 : decode method_3_code 12 = .ok (.goto 4, 3) := by decide +kernel
theorem d_shown_15 : decode method_3_code 15 = .ok (.iconst 0, 1) := by decide +kernel
theorem d_shown_16 : decode method_3_code 16 = .ok (.ireturn, 1) := by decide +kernel
theorem d_shown_17 : decode method_3_code 17 = .ok (.iload_n 1, 1) := by decide +kernel
theorem d_shown_18 : decode method_3_code 18 = .ok (.iload_n 0, 1) := by decide +kernel
theorem d_shown_19 : decode method_3_code 19 = .ok (.if_icmp .ne 7, 3) := by decide +kernel
theorem d_shown_22 : decode method_3_code 22 = .ok (.iconst 1, 1) := by decide +kernel
theorem d_shown_23 : decode method_3_code 23 = .ok (.goto 4, 3) := by decide +kernel
theorem d_shown_26 : decode method_3_code 26 = .ok (.iconst 0, 1) := by decide +kernel
theorem d_shown_27 : decode method_3_code 27 = .ok (.ireturn, 1) := by decide +kernel
theorem ef_shown (m : MethodId) (pi : Int32) (po : Int32) : entryFrame m #[(.int pi), (.int po)] 2 = mkF m 0 #[.val (.int pi), .val (.int po)] [] := by first | (simp [entryFrame, mkF, argsToLocals, Value.category]; done) | rfl
def Q_shown (Z : State) (pi : Int32) (po : Int32) (h0 : Heap) (n0 : Nat) (v : Option Value) (h : Heap) (L : List Loc) : Prop := v = some (.int (shF pi po)) ∧ Fr n0 L ∧ h = h0
set_option maxRecDepth 65536 in
set_option maxHeartbeats 40000000 in
theorem rm_shown (l : Launch) (Z : State) (a0 : Array Value) (hw : ∀ d ∈ tables_1, d.before a0 Z = true) (ws : List Jvm.Cond) (pi : Int32) (po : Int32) (h0 : Heap) (n0 : Nat) (Z0 : n0 ≤ h0.size)  :
    MetFree l (⟨"com/example/gapmend/gapmend/MessagePrintablePinLaw", "shown", "(BB)Z"⟩ : MethodName) (head1 (Jvm.Cond.code (⟨"com/example/gapmend/gapmend/MessagePrintablePinLaw", "shown", "(BB)Z"⟩ : MethodName) method_3_code 2 (some .boolean) :: ws) ({ frames := 0, cells := 0, slots := 0, locals := 0 } : Room)) (fun a U => a = #[(.int pi), (.int po)] ∧ Z.Warmed39 U.vm ∧ U.heap = h0) (fun _ _ _ _ _ => True) (fun _ U o U' => ∃ v L, o = .returned v ∧ Q_shown Z pi po h0 n0 v U'.heap L ∧ FrameEnd U o U' L ({ frames := 0, cells := 0, slots := 0, locals := 0 } : Room).cells ({ frames := 0, cells := 0, slots := 0, locals := 0 } : Room).slots) := by
  refine MetFree.of_bodySF (plainFor_of_name pn_0) hisR ?_
  intro p e s m args below meth c s₁ Bd hml0 hP hK
  obtain ⟨rfl, hZ, hh⟩ := hP
  have hx := Bd.exec
  have hby := Bd.bytes
  have hml : c.maxLocals = 2 := hml0
  have hown : s.vm.findClass "com/example/gapmend/gapmend/MessagePrintablePinLaw" = some m.cls := findClass_of_methodNamed Bd.named
  have hnm := (name_of_methodNamed Bd.named Bd.method).1
  have X0 : Stand p l e ({ frames := 0, cells := 0, slots := 0, locals := 0 } : Room) s m #[(.int pi), (.int po)] below meth c s₁ [] 0 0 := Stand.of_body Bd
  have e0 : s₁.heap = h0 := by rw [← hh, Bd.state]; rfl
  have N0 := Fr.nil n0
  have K0 : Keep h0 h0 [] := Keep.refl h0 []
  show Go p.tables e below _ (s₁.setTop (entryFrame m #[(.int pi), (.int po)] 2))
  refine Go.start ?_
  intro G hG
  refine Go.st (fun t k => castTop (ef_shown m pi po) k) ?_
  show Go p.tables e below _ (s₁.setTop (mkF m 0 #[.val (.int pi), .val (.int po)] []))
  refine Go.st (fun _ k => XS.iloadN X0.here hx rfl (hb hby d_shown_0) rfl k) ?_
  show Go p.tables e below _ (s₁.setTop (mkF m 1 #[.val (.int pi), .val (.int po)] [(.int pi)]))
  refine Go.st (fun _ k => XS.iconst X0.here hx rfl (hb hby d_shown_1) k) ?_
  show Go p.tables e below _ (s₁.setTop (mkF m 2 #[.val (.int pi), .val (.int po)] [(.int (1 : Int32)), (.int pi)]))
  by_cases hc2 : pi = (1 : Int32)
  · skip
    refine Go.st (fun _ k => XS.icmpNo X0.here hx rfl (hb hby d_shown_2) rfl (Jvm.Free.XT.ii_ne_f hc2) k) ?_
    show Go p.tables e below _ (s₁.setTop (mkF m 5 #[.val (.int pi), .val (.int po)] []))
    refine Go.st (fun _ k => XS.iloadN X0.here hx rfl (hb hby d_shown_5) rfl k) ?_
    show Go p.tables e below _ (s₁.setTop (mkF m 6 #[.val (.int pi), .val (.int po)] [(.int po)]))
    refine Go.st (fun _ k => XS.bipush X0.here hx rfl (hb hby d_shown_6) k) ?_
    show Go p.tables e below _ (s₁.setTop (mkF m 8 #[.val (.int pi), .val (.int po)] [(.int (124 : Int32)), (.int po)]))
    by_cases hc8 : po = (124 : Int32)
    · skip
      refine Go.st (fun _ k => XS.icmpNo X0.here hx rfl (hb hby d_shown_8) rfl (Jvm.Free.XT.ii_ne_f hc8) k) ?_
      show Go p.tables e below _ (s₁.setTop (mkF m 11 #[.val (.int pi), .val (.int po)] []))
      refine Go.st (fun _ k => XS.iconst X0.here hx rfl (hb hby d_shown_11) k) ?_
      show Go p.tables e below _ (s₁.setTop (mkF m 12 #[.val (.int pi), .val (.int po)] [(.int (1 : Int32))]))
      refine Go.st (fun _ k => XS.goto X0.here hx rfl (pc0 := 12) (pc' := 16) rfl (hb hby d_shown_12) (by decide) (by decide) k) ?_
      show Go p.tables e below _ (s₁.setTop (mkF m 16 #[.val (.int pi), .val (.int po)] [(.int (1 : Int32))]))
      subst hG
      obtain ⟨fs, hr, hrun, hended, hW, hsame⟩ := X0.leave (v := some (.int (nar .boolean (1 : Int32)))) (fun h => by rw [Bd.returns] at h; cases h)
      refine ⟨_, _, ?_, hrun, hended, _, _, rfl, ?_, ⟨_, rfl⟩, hW, hsame.mono (by decide) (by decide)⟩
      · exact retN X0 hx (t := .boolean) Bd.returns (by simp) (hb hby d_shown_16) hr
      · show Q_shown Z pi po h0 n0 _ s₁.heap _
        rw [e0]
        exact ⟨(by show some (Value.int (1 : Int32)) = _; simp [shF, hc2, hc8]), N0, rfl⟩
    · skip
      refine Go.st (fun _ k => XS.icmpYes X0.here hx rfl (pc0 := 8) (pc' := 15) rfl (hb hby d_shown_8) rfl (Jvm.Free.XT.ii_ne_t hc8) (by decide) (by decide) k) ?_
      show Go p.tables e below _ (s₁.setTop (mkF m 15 #[.val (.int pi), .val (.int po)] []))
      refine Go.st (fun _ k => XS.iconst X0.here hx rfl (hb hby d_shown_15) k) ?_
      show Go p.tables e below _ (s₁.setTop (mkF m 16 #[.val (.int pi), .val (.int po)] [(.int (0 : Int32))]))
      subst hG
      obtain ⟨fs, hr, hrun, hended, hW, hsame⟩ := X0.leave (v := some (.int (nar .boolean (0 : Int32)))) (fun h => by rw [Bd.returns] at h; cases h)
      refine ⟨_, _, ?_, hrun, hended, _, _, rfl, ?_, ⟨_, rfl⟩, hW, hsame.mono (by decide) (by decide)⟩
      · exact retN X0 hx (t := .boolean) Bd.returns (by simp) (hb hby d_shown_16) hr
      · show Q_shown Z pi po h0 n0 _ s₁.heap _
        rw [e0]
        exact ⟨(by show some (Value.int (0 : Int32)) = _; simp [shF, hc2, hc8]), N0, rfl⟩
  · skip
    refine Go.st (fun _ k => XS.icmpYes X0.here hx rfl (pc0 := 2) (pc' := 17) rfl (hb hby d_shown_2) rfl (Jvm.Free.XT.ii_ne_t hc2) (by decide) (by decide) k) ?_
    show Go p.tables e below _ (s₁.setTop (mkF m 17 #[.val (.int pi), .val (.int po)] []))
    refine Go.st (fun _ k => XS.iloadN X0.here hx rfl (hb hby d_shown_17) rfl k) ?_
    show Go p.tables e below _ (s₁.setTop (mkF m 18 #[.val (.int pi), .val (.int po)] [(.int po)]))
    refine Go.st (fun _ k => XS.iloadN X0.here hx rfl (hb hby d_shown_18) rfl k) ?_
    show Go p.tables e below _ (s₁.setTop (mkF m 19 #[.val (.int pi), .val (.int po)] [(.int pi), (.int po)]))
    by_cases hc19 : po = pi
    · skip
      refine Go.st (fun _ k => XS.icmpNo X0.here hx rfl (hb hby d_shown_19) rfl (Jvm.Free.XT.ii_ne_f hc19) k) ?_
      show Go p.tables e below _ (s₁.setTop (mkF m 22 #[.val (.int pi), .val (.int po)] []))
      refine Go.st (fun _ k => XS.iconst X0.here hx rfl (hb hby d_shown_22) k) ?_
      show Go p.tables e below _ (s₁.setTop (mkF m 23 #[.val (.int pi), .val (.int po)] [(.int (1 : Int32))]))
      refine Go.st (fun _ k => XS.goto X0.here hx rfl (pc0 := 23) (pc' := 27) rfl (hb hby d_shown_23) (by decide) (by decide) k) ?_
      show Go p.tables e below _ (s₁.setTop (mkF m 27 #[.val (.int pi), .val (.int po)] [(.int (1 : Int32))]))
      subst hG
      obtain ⟨fs, hr, hrun, hended, hW, hsame⟩ := X0.leave (v := some (.int (nar .boolean (1 : Int32)))) (fun h => by rw [Bd.returns] at h; cases h)
      refine ⟨_, _, ?_, hrun, hended, _, _, rfl, ?_, ⟨_, rfl⟩, hW, hsame.mono (by decide) (by decide)⟩
      · exact retN X0 hx (t := .boolean) Bd.returns (by simp) (hb hby d_shown_27) hr
      · show Q_shown Z pi po h0 n0 _ s₁.heap _
        rw [e0]
        exact ⟨(by show some (Value.int (1 : Int32)) = _; simp [shF, hc2, hc19]), N0, rfl⟩
    · skip
      refine Go.st (fun _ k => XS.icmpYes X0.here hx rfl (pc0 := 19) (pc' := 26) rfl (hb hby d_shown_19) rfl (Jvm.Free.XT.ii_ne_t hc19) (by decide) (by decide) k) ?_
      show Go p.tables e below _ (s₁.setTop (mkF m 26 #[.val (.int pi), .val (.int po)] []))
      refine Go.st (fun _ k => XS.iconst X0.here hx rfl (hb hby d_shown_26) k) ?_
      show Go p.tables e below _ (s₁.setTop (mkF m 27 #[.val (.int pi), .val (.int po)] [(.int (0 : Int32))]))
      subst hG
      obtain ⟨fs, hr, hrun, hended, hW, hsame⟩ := X0.leave (v := some (.int (nar .boolean (0 : Int32)))) (fun h => by rw [Bd.returns] at h; cases h)
      refine ⟨_, _, ?_, hrun, hended, _, _, rfl, ?_, ⟨_, rfl⟩, hW, hsame.mono (by decide) (by decide)⟩
      · exact retN X0 hx (t := .boolean) Bd.returns (by simp) (hb hby d_shown_27) hr
      · show Q_shown Z pi po h0 n0 _ s₁.heap _
        rw [e0]
        exact ⟨(by show some (Value.int (0 : Int32)) = _; simp [shF, hc2, hc19]), N0, rfl⟩
theorem pn_1 : plainName "com/example/gapmend/gapmend/Message" = true := by first | (simp [plainName, overriddenIn]; done) | decide +kernel
theorem d_print4_0 : decode prog_18_method_13_code 0 = .ok (.aload_n 0, 1) := by decide +kernel
theorem d_print4_1 : decode prog_18_method_13_code 1 = .ok (.invokevirtual 144, 3) := by decide +kernel
theorem d_print4_4 : decode prog_18_method_13_code 4 = .ok (.checkcast 145, 3) := by decide +kernel
theorem d_print4_7 : decode prog_18_method_13_code 7 = .ok (.astore_n 1, 1) := by decide +kernel
theorem d_print4_8 : decode prog_18_method_13_code 8 = .ok (.iconst 0, 1) := by decide +kernel
theorem d_print4_9 : decode prog_18_method_13_code 9 = .ok (.istore_n 2, 1) := by decide +kernel
theorem d_print4_10 : decode prog_18_method_13_code 10 = .ok (.iload_n 2, 1) := by decide +kernel
theorem d_print4_11 : decode prog_18_method_13_code 11 = .ok (.aload_n 1, 1) := by decide +kernel
theorem d_print4_12 : decode prog_18_method_13_code 12 = .ok (.arraylength, 1) := by decide +kernel
theorem d_print4_13 : decode prog_18_method_13_code 13 = .ok (.if_icmp .ge 21, 3) := by decide +kernel
theorem d_print4_16 : decode prog_18_method_13_code 16 = .ok (.aload_n 1, 1) := by decide +kernel
theorem d_print4_17 : decode prog_18_method_13_code 17 = .ok (.iload_n 2, 1) := by decide +kernel
theorem d_print4_18 : decode prog_18_method_13_code 18 = .ok (.baload, 1) := by decide +kernel
theorem d_print4_19 : decode prog_18_method_13_code 19 = .ok (.iconst 1, 1) := by decide +kernel
theorem d_print4_20 : decode prog_18_method_13_code 20 = .ok (.if_icmp .ne 8, 3) := by decide +kernel
theorem d_print4_23 : decode prog_18_method_13_code 23 = .ok (.aload_n 1, 1) := by decide +kernel
theorem d_print4_24 : decode prog_18_method_13_code 24 = .ok (.iload_n 2, 1) := by decide +kernel
theorem d_print4_25 : decode prog_18_method_13_code 25 = .ok (.bipush 124, 2) := by decide +kernel
theorem d_print4_27 : decode prog_18_method_13_code 27 = .ok (.bastore, 1) := by decide +kernel
theorem d_print4_28 : decode prog_18_method_13_code 28 = .ok (.iinc 2 1, 3) := by decide +kernel
theorem d_print4_31 : decode prog_18_method_13_code 31 = .ok (.goto (-21), 3) := by decide +kernel
theorem d_print4_34 : decode prog_18_method_13_code 34 = .ok (.aload_n 1, 1) := by decide +kernel
theorem d_print4_35 : decode prog_18_method_13_code 35 = .ok (.areturn, 1) := by decide +kernel
theorem ef_print4 (m : MethodId) (ao : Addr) : entryFrame m #[(.ref ao)] 3 = mkF m 0 #[.val (.ref ao), .unset, .unset] [] := by first | (simp [entryFrame, mkF, argsToLocals, Value.category]; done) | rfl
def Q_print4 (Z : State) (ao : Addr) (kk : ClassId) (u0 : Int32) (u1 : Int32) (u2 : Int32) (u3 : Int32) (h0 : Heap) (n0 : Nat) (v : Option Value) (h : Heap) (L : List Loc) : Prop := ∃ fr : Addr, v = some (.ref fr) ∧ Fr n0 L ∧ Keep h0 h [] ∧ n0 ≤ fr ∧ h0.size ≤ fr ∧ Arv Z h fr kk .byte (4 : Int32) [(.int (prF u0)), (.int (prF u1)), (.int (prF u2)), (.int (prF u3))] (.int (0 : Int32))
set_option maxRecDepth 65536 in
set_option maxHeartbeats 40000000 in
theorem rm_print4 (l : Launch) (Z : State) (a0 : Array Value) (hw : ∀ d ∈ tables_1, d.before a0 Z = true) (ws : List Jvm.Cond) (ao : Addr) (kk : ClassId) (u0 : Int32) (u1 : Int32) (u2 : Int32) (u3 : Int32) (h0 : Heap) (n0 : Nat) (Z0 : n0 ≤ h0.size) (P0 : Arv Z h0 ao kk .byte (4 : Int32) [(.int u0), (.int u1), (.int u2), (.int u3)] (.int (0 : Int32))) (P1 : Exa Z h0 ao "[B") :
    MetFree l (⟨"com/example/gapmend/gapmend/Message", "printable", "([B)[B"⟩ : MethodName) (head1 (Jvm.Cond.code (⟨"com/example/gapmend/gapmend/Message", "printable", "([B)[B"⟩ : MethodName) prog_18_method_13_code 3 (some (.array .byte)) :: ws) ({ frames := 1, cells := 1, slots := 4, locals := 14 } : Room)) (fun a U => a = #[(.ref ao)] ∧ Z.Warmed39 U.vm ∧ U.heap = h0) (fun _ _ _ _ _ => True) (fun _ U o U' => ∃ v L, o = .returned v ∧ Q_print4 Z ao kk u0 u1 u2 u3 h0 n0 v U'.heap L ∧ FrameEnd U o U' L ({ frames := 1, cells := 1, slots := 4, locals := 14 } : Room).cells ({ frames := 1, cells := 1, slots := 4, locals := 14 } : Room).slots) := by
  refine MetFree.of_bodySF (plainFor_of_name pn_1) hisR ?_
  intro p e s m args below meth c s₁ Bd hml0 hP hK
  obtain ⟨rfl, hZ, hh⟩ := hP
  have hx := Bd.exec
  have hby := Bd.bytes
  have hml : c.maxLocals = 3 := hml0
  have hown : s.vm.findClass "com/example/gapmend/gapmend/Message" = some m.cls := findClass_of_methodNamed Bd.named
  have hnm := (name_of_methodNamed Bd.named Bd.method).1
  have X0 : Stand p l e ({ frames := 1, cells := 1, slots := 4, locals := 14 } : Room) s m #[(.ref ao)] below meth c s₁ [] 0 0 := Stand.of_body Bd
  have e0 : s₁.heap = h0 := by rw [← hh, Bd.state]; rfl
  have N0 := Fr.nil n0
  have K0 : Keep h0 h0 [] := Keep.refl h0 []
  show Go p.tables e below _ (s₁.setTop (entryFrame m #[(.ref ao)] 3))
  refine Go.start ?_
  intro G hG
  refine Go.st (fun t k => castTop (ef_print4 m ao) k) ?_
  show Go p.tables e below _ (s₁.setTop (mkF m 0 #[.val (.ref ao), .unset, .unset] []))
  refine Go.st (fun _ k => XS.aloadN X0.here hx rfl (hb hby d_print4_0) rfl rfl k) ?_
  show Go p.tables e below _ (s₁.setTop (mkF m 1 #[.val (.ref ao), .unset, .unset] [(.ref ao)]))
  obtain ⟨T1, h1, X1, e1, E1, R1, C1, st1⟩ := cloneH X0 hx hZ (ad := "[B") hown (hw _ (List.mem_of_getElem? (i := 9) rfl)) (hw _ (List.mem_of_getElem? (i := 10) rfl)) (hw _ (List.mem_of_getElem? (i := 14) rfl)) (hw _ (List.mem_of_getElem? (i := 12) rfl)) (hw _ (List.mem_of_getElem? (i := 13) rfl)) (hw _ (List.mem_of_getElem? (i := 15) rfl)) e0 P0.arh P1 (g := (mkF m 1 #[.val (.ref ao), .unset, .unset] [(.ref ao)])) rfl (by rw [hml]; rfl) rfl (hb hby d_print4_1) (by decide) (W := 0) (cap := 4) (by show 2 * 0 + _ ≤ _; exact Nat.le_of_eq rfl) (by decide) (by decide) (by decide) (by decide)
  obtain ⟨b1, g1⟩ : ∃ z, z = h0.size := ⟨_, rfl⟩
  rw [← g1] at R1 C1 st1
  refine Go.st st1 ?_
  have ne2 : ao ≠ b1 := Nat.ne_of_lt (Nat.lt_of_lt_of_le P0.lt (Nat.le_of_eq g1.symm))
  have ge3 : n0 ≤ b1 := Nat.le_trans Z0 (Nat.le_of_eq g1.symm)
  have sz4 : h0.size ≤ b1 := Nat.le_trans K0.1 (Nat.le_of_eq g1.symm)
  have Z5 : n0 ≤ h1.size := Nat.le_trans Z0 E1.1
  have K6 : Keep h0 h1 [] := K0.ext E1
  have F7 : Arv Z h1 ao kk .byte (4 : Int32) [(.int u0), (.int u1), (.int u2), (.int u3)] (.int (0 : Int32)) := P0.ext E1
  have F8 : Exa Z h1 ao "[B" := P1.ext E1
  have F9 : Arv Z h1 b1 kk .byte (4 : Int32) [(.int u0), (.int u1), (.int u2), (.int u3)] (.int (0 : Int32)) := by
    obtain ⟨c_, A_, q_, S_, N_, H_, G_⟩ := R1
    exact ⟨c_, A_, q_, S_, N_, H_, G_⟩
  show Go p.tables e below _ (T1.setTop (mkF m 4 #[.val (.ref ao), .unset, .unset] [(.ref b1)]))
  obtain ⟨T10, X10, e10, st10⟩ := castY X1 hx hZ hown (hw _ (List.mem_of_getElem? (i := 16) rfl)) e1 (Ins.self C1) (g := (mkF m 4 #[.val (.ref ao), .unset, .unset] [(.ref b1)])) rfl rfl (hb hby d_print4_4)
  refine Go.st st10 ?_
  show Go p.tables e below _ (T10.setTop (mkF m 7 #[.val (.ref ao), .unset, .unset] [(.ref b1)]))
  refine Go.st (fun _ k => XS.astoreN X10.here hx rfl (hb hby d_print4_7) rfl rfl (l' := #[.val (.ref ao), .val (.ref b1), .unset]) rfl k) ?_
  show Go p.tables e below _ (T10.setTop (mkF m 8 #[.val (.ref ao), .val (.ref b1), .unset] []))
  show Go p.tables e below _ (T10.setTop (mkF m 8 #[.val (.ref ao), .val (.ref b1), .unset] []))
  refine Go.st (fun _ k => XS.iconst X10.here hx rfl (hb hby d_print4_8) k) ?_
  show Go p.tables e below _ (T10.setTop (mkF m 9 #[.val (.ref ao), .val (.ref b1), .unset] [(.int (0 : Int32))]))
  refine Go.st (fun _ k => XS.istoreN X10.here hx rfl (hb hby d_print4_9) rfl (l' := #[.val (.ref ao), .val (.ref b1), .val (.int (0 : Int32))]) rfl k) ?_
  show Go p.tables e below _ (T10.setTop (mkF m 10 #[.val (.ref ao), .val (.ref b1), .val (.int (0 : Int32))] []))
  show Go p.tables e below _ (T10.setTop (mkF m 10 #[.val (.ref ao), .val (.ref b1), .val (.int (0 : Int32))] []))
  refine Go.st (fun _ k => XS.iloadN X10.here hx rfl (hb hby d_print4_10) rfl k) ?_
  show Go p.tables e below _ (T10.setTop (mkF m 11 #[.val (.ref ao), .val (.ref b1), .val (.int (0 : Int32))] [(.int (0 : Int32))]))
  refine Go.st (fun _ k => XS.aloadN X10.here hx rfl (hb hby d_print4_11) rfl rfl k) ?_
  show Go p.tables e below _ (T10.setTop (mkF m 12 #[.val (.ref ao), .val (.ref b1), .val (.int (0 : Int32))] [(.ref b1), (.int (0 : Int32))]))
  obtain ⟨cl11, Ar11, -, S11, M11, -, -⟩ := id F9
  refine Go.st (fun _ k => X10.arraylength hx (by rw [e10]; exact Ar11.1) (State.isArrayOf_alike hZ.alike Ar11.2.1) (g := (mkF m 12 #[.val (.ref ao), .val (.ref b1), .val (.int (0 : Int32))] [(.ref b1), (.int (0 : Int32))])) rfl rfl (hb hby d_print4_12) _ k) ?_
  rw [len_of S11 M11]
  show Go p.tables e below _ (T10.setTop (mkF m 13 #[.val (.ref ao), .val (.ref b1), .val (.int (0 : Int32))] [(.int (4 : Int32)), (.int (0 : Int32))]))
  have hl12 : (0 : Int32) < (4 : Int32) := by decide
  refine Go.st (fun _ k => XS.icmpNo X10.here hx rfl (hb hby d_print4_13) rfl (Jvm.Free.XT.ii_ge_f hl12) k) ?_
  show Go p.tables e below _ (T10.setTop (mkF m 16 #[.val (.ref ao), .val (.ref b1), .val (.int (0 : Int32))] []))
  refine Go.st (fun _ k => XS.aloadN X10.here hx rfl (hb hby d_print4_16) rfl rfl k) ?_
  show Go p.tables e below _ (T10.setTop (mkF m 17 #[.val (.ref ao), .val (.ref b1), .val (.int (0 : Int32))] [(.ref b1)]))
  refine Go.st (fun _ k => XS.iloadN X10.here hx rfl (hb hby d_print4_17) rfl k) ?_
  show Go p.tables e below _ (T10.setTop (mkF m 18 #[.val (.ref ao), .val (.ref b1), .val (.int (0 : Int32))] [(.int (0 : Int32)), (.ref b1)]))
  obtain ⟨cl13, Ar13, q13, S13, M13, H13, G13⟩ := id F9
  have hin13 : ¬ ((0 : Int32) < 0 ∨ cl13.slots.size ≤ ((0 : Int32)).toNatClampNeg) := inb_of S13 ⟨by decide, by decide⟩
  have hat13 : cl13.slots[((0 : Int32)).toNatClampNeg]? = some (.int u0) := Has.at H13 hin13 (rfl)
  refine Go.st (fun _ k => X10.baloadBytes hx (j := (0 : Int32)) (v := (.int u0)) (by rw [e10]; exact Ar13.1) (State.isArrayOf_alike hZ.alike Ar13.2.1) Ar13.2.2 hin13 hat13 (g := (mkF m 18 #[.val (.ref ao), .val (.ref b1), .val (.int (0 : Int32))] [(.int (0 : Int32)), (.ref b1)])) rfl rfl (hb hby d_print4_18) _ k) ?_
  show Go p.tables e below _ (T10.setTop (mkF m 19 #[.val (.ref ao), .val (.ref b1), .val (.int (0 : Int32))] [(.int u0)]))
  refine Go.st (fun _ k => XS.iconst X10.here hx rfl (hb hby d_print4_19) k) ?_
  show Go p.tables e below _ (T10.setTop (mkF m 20 #[.val (.ref ao), .val (.ref b1), .val (.int (0 : Int32))] [(.int (1 : Int32)), (.int u0)]))
  by_cases hc20 : u0 = (1 : Int32)
  · skip
    refine Go.st (fun _ k => XS.icmpNo X10.here hx rfl (hb hby d_print4_20) rfl (Jvm.Free.XT.ii_ne_f hc20) k) ?_
    show Go p.tables e below _ (T10.setTop (mkF m 23 #[.val (.ref ao), .val (.ref b1), .val (.int (0 : Int32))] []))
    refine Go.st (fun _ k => XS.aloadN X10.here hx rfl (hb hby d_print4_23) rfl rfl k) ?_
    show Go p.tables e below _ (T10.setTop (mkF m 24 #[.val (.ref ao), .val (.ref b1), .val (.int (0 : Int32))] [(.ref b1)]))
    refine Go.st (fun _ k => XS.iloadN X10.here hx rfl (hb hby d_print4_24) rfl k) ?_
    show Go p.tables e below _ (T10.setTop (mkF m 25 #[.val (.ref ao), .val (.ref b1), .val (.int (0 : Int32))] [(.int (0 : Int32)), (.ref b1)]))
    refine Go.st (fun _ k => XS.bipush X10.here hx rfl (hb hby d_print4_25) k) ?_
    show Go p.tables e below _ (T10.setTop (mkF m 27 #[.val (.ref ao), .val (.ref b1), .val (.int (0 : Int32))] [(.int (124 : Int32)), (.int (0 : Int32)), (.ref b1)]))
    obtain ⟨cl14, Ar14, q14, S14, M14, H14, G14⟩ := id F9
    have hin14 : ¬ ((0 : Int32) < 0 ∨ cl14.slots.size ≤ ((0 : Int32)).toNatClampNeg) := inb_of S14 ⟨by decide, by decide⟩
    obtain ⟨T14, h14, X14, e14, W14, st14⟩ := stB X10 hx hZ e10 Ar14 (j := (0 : Int32)) hin14 (g := (mkF m 27 #[.val (.ref ao), .val (.ref b1), .val (.int (0 : Int32))] [(.int (124 : Int32)), (.int (0 : Int32)), (.ref b1)])) rfl rfl (hb hby d_print4_27)
    refine Go.st st14 ?_
    have F15 : Arv Z h14 ao kk .byte (4 : Int32) [(.int u0), (.int u1), (.int u2), (.int u3)] (.int (0 : Int32)) := F7.other W14 ne2
    have F16 : Exa Z h14 ao "[B" := F8.wr W14
    have F17 : Arv Z h14 b1 kk .byte (4 : Int32) [(.int (124 : Int32)), (.int u1), (.int u2), (.int u3)] (.int (0 : Int32)) := Arv.set Ar14 q14 S14 M14 H14 G14 (fits_nar_byte _) W14 0 rfl (Nat.le_of_ble_eq_true rfl)
    have F18 : Exa Z h14 b1 "[B" := C1.wr W14
    have K19 : Keep h0 h14 [] := K6.wr W14 (Or.inr sz4)
    have Z20 : n0 ≤ h14.size := Nat.le_trans Z5 (Nat.le_of_eq W14.size.symm)
    have N21 := Fr.snoc X14 N0 ge3
    show Go p.tables e below _ (T14.setTop (mkF m 28 #[.val (.ref ao), .val (.ref b1), .val (.int (0 : Int32))] []))
    refine Go.st (fun _ k => XS.iinc X14.here hx rfl (hb hby d_print4_28) rfl (l' := #[.val (.ref ao), .val (.ref b1), .val (.int ((0 : Int32) + (1 : Int32)))]) rfl k) ?_
    show Go p.tables e below _ (T14.setTop (mkF m 31 #[.val (.ref ao), .val (.ref b1), .val (.int ((0 : Int32) + (1 : Int32)))] []))
    rw [show ((0 : Int32) + (1 : Int32)) = (1 : Int32) from by decide]
    show Go p.tables e below _ (T14.setTop (mkF m 31 #[.val (.ref ao), .val (.ref b1), .val (.int (1 : Int32))] []))
    refine Go.st (fun _ k => XS.goto X14.here hx rfl (pc0 := 31) (pc' := 10) rfl (hb hby d_print4_31) (by decide) (by decide) k) ?_
    show Go p.tables e below _ (T14.setTop (mkF m 10 #[.val (.ref ao), .val (.ref b1), .val (.int (1 : Int32))] []))
    refine Go.st (fun _ k => XS.iloadN X14.here hx rfl (hb hby d_print4_10) rfl k) ?_
    show Go p.tables e below _ (T14.setTop (mkF m 11 #[.val (.ref ao), .val (.ref b1), .val (.int (1 : Int32))] [(.int (1 : Int32))]))
    refine Go.st (fun _ k => XS.aloadN X14.here hx rfl (hb hby d_print4_11) rfl rfl k) ?_
    show Go p.tables e below _ (T14.setTop (mkF m 12 #[.val (.ref ao), .val (.ref b1), .val (.int (1 : Int32))] [(.ref b1), (.int (1 : Int32))]))
    obtain ⟨cl22, Ar22, -, S22, M22, -, -⟩ := id F17
    refine Go.st (fun _ k => X14.arraylength hx (by rw [e14]; exact Ar22.1) (State.isArrayOf_alike hZ.alike Ar22.2.1) (g := (mkF m 12 #[.val (.ref ao), .val (.ref b1), .val (.int (1 : Int32))] [(.ref b1), (.int (1 : Int32))])) rfl rfl (hb hby d_print4_12) _ k) ?_
    rw [len_of S22 M22]
    show Go p.tables e below _ (T14.setTop (mkF m 13 #[.val (.ref ao), .val (.ref b1), .val (.int (1 : Int32))] [(.int (4 : Int32)), (.int (1 : Int32))]))
    have hl23 : (1 : Int32) < (4 : Int32) := by decide
    refine Go.st (fun _ k => XS.icmpNo X14.here hx rfl (hb hby d_print4_13) rfl (Jvm.Free.XT.ii_ge_f hl23) k) ?_
    show Go p.tables e below _ (T14.setTop (mkF m 16 #[.val (.ref ao), .val (.ref b1), .val (.int (1 : Int32))] []))
    refine Go.st (fun _ k => XS.aloadN X14.here hx rfl (hb hby d_print4_16) rfl rfl k) ?_
    show Go p.tables e below _ (T14.setTop (mkF m 17 #[.val (.ref ao), .val (.ref b1), .val (.int (1 : Int32))] [(.ref b1)]))
    refine Go.st (fun _ k => XS.iloadN X14.here hx rfl (hb hby d_print4_17) rfl k) ?_
    show Go p.tables e below _ (T14.setTop (mkF m 18 #[.val (.ref ao), .val (.ref b1), .val (.int (1 : Int32))] [(.int (1 : Int32)), (.ref b1)]))
    obtain ⟨cl24, Ar24, q24, S24, M24, H24, G24⟩ := id F17
    have hin24 : ¬ ((1 : Int32) < 0 ∨ cl24.slots.size ≤ ((1 : Int32)).toNatClampNeg) := inb_of S24 ⟨by decide, by decide⟩
    have hat24 : cl24.slots[((1 : Int32)).toNatClampNeg]? = some (.int u1) := Has.at H24 hin24 (rfl)
    refine Go.st (fun _ k => X14.baloadBytes hx (j := (1 : Int32)) (v := (.int u1)) (by rw [e14]; exact Ar24.1) (State.isArrayOf_alike hZ.alike Ar24.2.1) Ar24.2.2 hin24 hat24 (g := (mkF m 18 #[.val (.ref ao), .val (.ref b1), .val (.int (1 : Int32))] [(.int (1 : Int32)), (.ref b1)])) rfl rfl (hb hby d_print4_18) _ k) ?_
    show Go p.tables e below _ (T14.setTop (mkF m 19 #[.val (.ref ao), .val (.ref b1), .val (.int (1 : Int32))] [(.int u1)]))
    refine Go.st (fun _ k => XS.iconst X14.here hx rfl (hb hby d_print4_19) k) ?_
    show Go p.tables e below _ (T14.setTop (mkF m 20 #[.val (.ref ao), .val (.ref b1), .val (.int (1 : Int32))] [(.int (1 : Int32)), (.int u1)]))
    by_cases hc20_25 : u1 = (1 : Int32)
    · skip
      refine Go.st (fun _ k => XS.icmpNo X14.here hx rfl (hb hby d_print4_20) rfl (Jvm.Free.XT.ii_ne_f hc20_25) k) ?_
      show Go p.tables e below _ (T14.setTop (mkF m 23 #[.val (.ref ao), .val (.ref b1), .val (.int (1 : Int32))] []))
      refine Go.st (fun _ k => XS.aloadN X14.here hx rfl (hb hby d_print4_23) rfl rfl k) ?_
      show Go p.tables e below _ (T14.setTop (mkF m 24 #[.val (.ref ao), .val (.ref b1), .val (.int (1 : Int32))] [(.ref b1)]))
      refine Go.st (fun _ k => XS.iloadN X14.here hx rfl (hb hby d_print4_24) rfl k) ?_
      show Go p.tables e below _ (T14.setTop (mkF m 25 #[.val (.ref ao), .val (.ref b1), .val (.int (1 : Int32))] [(.int (1 : Int32)), (.ref b1)]))
      refine Go.st (fun _ k => XS.bipush X14.here hx rfl (hb hby d_print4_25) k) ?_
      show Go p.tables e below _ (T14.setTop (mkF m 27 #[.val (.ref ao), .val (.ref b1), .val (.int (1 : Int32))] [(.int (124 : Int32)), (.int (1 : Int32)), (.ref b1)]))
      obtain ⟨cl26, Ar26, q26, S26, M26, H26, G26⟩ := id F17
      have hin26 : ¬ ((1 : Int32) < 0 ∨ cl26.slots.size ≤ ((1 : Int32)).toNatClampNeg) := inb_of S26 ⟨by decide, by decide⟩
      obtain ⟨T26, h26, X26, e26, W26, st26⟩ := stB X14 hx hZ e14 Ar26 (j := (1 : Int32)) hin26 (g := (mkF m 27 #[.val (.ref ao), .val (.ref b1), .val (.int (1 : Int32))] [(.int (124 : Int32)), (.int (1 : Int32)), (.ref b1)])) rfl rfl (hb hby d_print4_27)
      refine Go.st st26 ?_
      have F27 : Arv Z h26 ao kk .byte (4 : Int32) [(.int u0), (.int u1), (.int u2), (.int u3)] (.int (0 : Int32)) := F15.other W26 ne2
      have F28 : Exa Z h26 ao "[B" := F16.wr W26
      have F29 : Arv Z h26 b1 kk .byte (4 : Int32) [(.int (124 : Int32)), (.int (124 : Int32)), (.int u2), (.int u3)] (.int (0 : Int32)) := Arv.set Ar26 q26 S26 M26 H26 G26 (fits_nar_byte _) W26 1 rfl (Nat.le_of_ble_eq_true rfl)
      have F30 : Exa Z h26 b1 "[B" := F18.wr W26
      have K31 : Keep h0 h26 [] := K19.wr W26 (Or.inr sz4)
      have Z32 : n0 ≤ h26.size := Nat.le_trans Z20 (Nat.le_of_eq W26.size.symm)
      have N33 := Fr.snoc X26 N21 ge3
      show Go p.tables e below _ (T26.setTop (mkF m 28 #[.val (.ref ao), .val (.ref b1), .val (.int (1 : Int32))] []))
      refine Go.st (fun _ k => XS.iinc X26.here hx rfl (hb hby d_print4_28) rfl (l' := #[.val (.ref ao), .val (.ref b1), .val (.int ((1 : Int32) + (1 : Int32)))]) rfl k) ?_
      show Go p.tables e below _ (T26.setTop (mkF m 31 #[.val (.ref ao), .val (.ref b1), .val (.int ((1 : Int32) + (1 : Int32)))] []))
      rw [show ((1 : Int32) + (1 : Int32)) = (2 : Int32) from by decide]
      show Go p.tables e below _ (T26.setTop (mkF m 31 #[.val (.ref ao), .val (.ref b1), .val (.int (2 : Int32))] []))
      refine Go.st (fun _ k => XS.goto X26.here hx rfl (pc0 := 31) (pc' := 10) rfl (hb hby d_print4_31) (by decide) (by decide) k) ?_
      show Go p.tables e below _ (T26.setTop (mkF m 10 #[.val (.ref ao), .val (.ref b1), .val (.int (2 : Int32))] []))
      refine Go.st (fun _ k => XS.iloadN X26.here hx rfl (hb hby d_print4_10) rfl k) ?_
      show Go p.tables e below _ (T26.setTop (mkF m 11 #[.val (.ref ao), .val (.ref b1), .val (.int (2 : Int32))] [(.int (2 : Int32))]))
      refine Go.st (fun _ k => XS.aloadN X26.here hx rfl (hb hby d_print4_11) rfl rfl k) ?_
      show Go p.tables e below _ (T26.setTop (mkF m 12 #[.val (.ref ao), .val (.ref b1), .val (.int (2 : Int32))] [(.ref b1), (.int (2 : Int32))]))
      obtain ⟨cl34, Ar34, -, S34, M34, -, -⟩ := id F29
      refine Go.st (fun _ k => X26.arraylength hx (by rw [e26]; exact Ar34.1) (State.isArrayOf_alike hZ.alike Ar34.2.1) (g := (mkF m 12 #[.val (.ref ao), .val (.ref b1), .val (.int (2 : Int32))] [(.ref b1), (.int (2 : Int32))])) rfl rfl (hb hby d_print4_12) _ k) ?_
      rw [len_of S34 M34]
      show Go p.tables e below _ (T26.setTop (mkF m 13 #[.val (.ref ao), .val (.ref b1), .val (.int (2 : Int32))] [(.int (4 : Int32)), (.int (2 : Int32))]))
      have hl35 : (2 : Int32) < (4 : Int32) := by decide
      refine Go.st (fun _ k => XS.icmpNo X26.here hx rfl (hb hby d_print4_13) rfl (Jvm.Free.XT.ii_ge_f hl35) k) ?_
      show Go p.tables e below _ (T26.setTop (mkF m 16 #[.val (.ref ao), .val (.ref b1), .val (.int (2 : Int32))] []))
      refine Go.st (fun _ k => XS.aloadN X26.here hx rfl (hb hby d_print4_16) rfl rfl k) ?_
      show Go p.tables e below _ (T26.setTop (mkF m 17 #[.val (.ref ao), .val (.ref b1), .val (.int (2 : Int32))] [(.ref b1)]))
      refine Go.st (fun _ k => XS.iloadN X26.here hx rfl (hb hby d_print4_17) rfl k) ?_
      show Go p.tables e below _ (T26.setTop (mkF m 18 #[.val (.ref ao), .val (.ref b1), .val (.int (2 : Int32))] [(.int (2 : Int32)), (.ref b1)]))
      obtain ⟨cl36, Ar36, q36, S36, M36, H36, G36⟩ := id F29
      have hin36 : ¬ ((2 : Int32) < 0 ∨ cl36.slots.size ≤ ((2 : Int32)).toNatClampNeg) := inb_of S36 ⟨by decide, by decide⟩
      have hat36 : cl36.slots[((2 : Int32)).toNatClampNeg]? = some (.int u2) := Has.at H36 hin36 (rfl)
      refine Go.st (fun _ k => X26.baloadBytes hx (j := (2 : Int32)) (v := (.int u2)) (by rw [e26]; exact Ar36.1) (State.isArrayOf_alike hZ.alike Ar36.2.1) Ar36.2.2 hin36 hat36 (g := (mkF m 18 #[.val (.ref ao), .val (.ref b1), .val (.int (2 : Int32))] [(.int (2 : Int32)), (.ref b1)])) rfl rfl (hb hby d_print4_18) _ k) ?_
      show Go p.tables e below _ (T26.setTop (mkF m 19 #[.val (.ref ao), .val (.ref b1), .val (.int (2 : Int32))] [(.int u2)]))
      refine Go.st (fun _ k => XS.iconst X26.here hx rfl (hb hby d_print4_19) k) ?_
      show Go p.tables e below _ (T26.setTop (mkF m 20 #[.val (.ref ao), .val (.ref b1), .val (.int (2 : Int32))] [(.int (1 : Int32)), (.int u2)]))
      by_cases hc20_37 : u2 = (1 : Int32)
      · skip
        refine Go.st (fun _ k => XS.icmpNo X26.here hx rfl (hb hby d_print4_20) rfl (Jvm.Free.XT.ii_ne_f hc20_37) k) ?_
        show Go p.tables e below _ (T26.setTop (mkF m 23 #[.val (.ref ao), .val (.ref b1), .val (.int (2 : Int32))] []))
        refine Go.st (fun _ k => XS.aloadN X26.here hx rfl (hb hby d_print4_23) rfl rfl k) ?_
        show Go p.tables e below _ (T26.setTop (mkF m 24 #[.val (.ref ao), .val (.ref b1), .val (.int (2 : Int32))] [(.ref b1)]))
        refine Go.st (fun _ k => XS.iloadN X26.here hx rfl (hb hby d_print4_24) rfl k) ?_
        show Go p.tables e below _ (T26.setTop (mkF m 25 #[.val (.ref ao), .val (.ref b1), .val (.int (2 : Int32))] [(.int (2 : Int32)), (.ref b1)]))
        refine Go.st (fun _ k => XS.bipush X26.here hx rfl (hb hby d_print4_25) k) ?_
        show Go p.tables e below _ (T26.setTop (mkF m 27 #[.val (.ref ao), .val (.ref b1), .val (.int (2 : Int32))] [(.int (124 : Int32)), (.int (2 : Int32)), (.ref b1)]))
        obtain ⟨cl38, Ar38, q38, S38, M38, H38, G38⟩ := id F29
        have hin38 : ¬ ((2 : Int32) < 0 ∨ cl38.slots.size ≤ ((2 : Int32)).toNatClampNeg) := inb_of S38 ⟨by decide, by decide⟩
        obtain ⟨T38, h38, X38, e38, W38, st38⟩ := stB X26 hx hZ e26 Ar38 (j := (2 : Int32)) hin38 (g := (mkF m 27 #[.val (.ref ao), .val (.ref b1), .val (.int (2 : Int32))] [(.int (124 : Int32)), (.int (2 : Int32)), (.ref b1)])) rfl rfl (hb hby d_print4_27)
        refine Go.st st38 ?_
        have F39 : Arv Z h38 ao kk .byte (4 : Int32) [(.int u0), (.int u1), (.int u2), (.int u3)] (.int (0 : Int32)) := F27.other W38 ne2
        have F40 : Exa Z h38 ao "[B" := F28.wr W38
        have F41 : Arv Z h38 b1 kk .byte (4 : Int32) [(.int (124 : Int32)), (.int (124 : Int32)), (.int (124 : Int32)), (.int u3)] (.int (0 : Int32)) := Arv.set Ar38 q38 S38 M38 H38 G38 (fits_nar_byte _) W38 2 rfl (Nat.le_of_ble_eq_true rfl)
        have F42 : Exa Z h38 b1 "[B" := F30.wr W38
        have K43 : Keep h0 h38 [] := K31.wr W38 (Or.inr sz4)
        have Z44 : n0 ≤ h38.size := Nat.le_trans Z32 (Nat.le_of_eq W38.size.symm)
        have N45 := Fr.snoc X38 N33 ge3
        show Go p.tables e below _ (T38.setTop (mkF m 28 #[.val (.ref ao), .val (.ref b1), .val (.int (2 : Int32))] []))
        refine Go.st (fun _ k => XS.iinc X38.here hx rfl (hb hby d_print4_28) rfl (l' := #[.val (.ref ao), .val (.ref b1), .val (.int ((2 : Int32) + (1 : Int32)))]) rfl k) ?_
        show Go p.tables e below _ (T38.setTop (mkF m 31 #[.val (.ref ao), .val (.ref b1), .val (.int ((2 : Int32) + (1 : Int32)))] []))
        rw [show ((2 : Int32) + (1 : Int32)) = (3 : Int32) from by decide]
        show Go p.tables e below _ (T38.setTop (mkF m 31 #[.val (.ref ao), .val (.ref b1), .val (.int (3 : Int32))] []))
        refine Go.st (fun _ k => XS.goto X38.here hx rfl (pc0 := 31) (pc' := 10) rfl (hb hby d_print4_31) (by decide) (by decide) k) ?_
        show Go p.tables e below _ (T38.setTop (mkF m 10 #[.val (.ref ao), .val (.ref b1), .val (.int (3 : Int32))] []))
        refine Go.st (fun _ k => XS.iloadN X38.here hx rfl (hb hby d_print4_10) rfl k) ?_
        show Go p.tables e below _ (T38.setTop (mkF m 11 #[.val (.ref ao), .val (.ref b1), .val (.int (3 : Int32))] [(.int (3 : Int32))]))
        refine Go.st (fun _ k => XS.aloadN X38.here hx rfl (hb hby d_print4_11) rfl rfl k) ?_
        show Go p.tables e below _ (T38.setTop (mkF m 12 #[.val (.ref ao), .val (.ref b1), .val (.int (3 : Int32))] [(.ref b1), (.int (3 : Int32))]))
        obtain ⟨cl46, Ar46, -, S46, M46, -, -⟩ := id F41
        refine Go.st (fun _ k => X38.arraylength hx (by rw [e38]; exact Ar46.1) (State.isArrayOf_alike hZ.alike Ar46.2.1) (g := (mkF m 12 #[.val (.ref ao), .val (.ref b1), .val (.int (3 : Int32))] [(.ref b1), (.int (3 : Int32))])) rfl rfl (hb hby d_print4_12) _ k) ?_
        rw [len_of S46 M46]
        show Go p.tables e below _ (T38.setTop (mkF m 13 #[.val (.ref ao), .val (.ref b1), .val (.int (3 : Int32))] [(.int (4 : Int32)), (.int (3 : Int32))]))
        have hl47 : (3 : Int32) < (4 : Int32) := by decide
        refine Go.st (fun _ k => XS.icmpNo X38.here hx rfl (hb hby d_print4_13) rfl (Jvm.Free.XT.ii_ge_f hl47) k) ?_
        show Go p.tables e below _ (T38.setTop (mkF m 16 #[.val (.ref ao), .val (.ref b1), .val (.int (3 : Int32))] []))
        refine Go.st (fun _ k => XS.aloadN X38.here hx rfl (hb hby d_print4_16) rfl rfl k) ?_
        show Go p.tables e below _ (T38.setTop (mkF m 17 #[.val (.ref ao), .val (.ref b1), .val (.int (3 : Int32))] [(.ref b1)]))
        refine Go.st (fun _ k => XS.iloadN X38.here hx rfl (hb hby d_print4_17) rfl k) ?_
        show Go p.tables e below _ (T38.setTop (mkF m 18 #[.val (.ref ao), .val (.ref b1), .val (.int (3 : Int32))] [(.int (3 : Int32)), (.ref b1)]))
        obtain ⟨cl48, Ar48, q48, S48, M48, H48, G48⟩ := id F41
        have hin48 : ¬ ((3 : Int32) < 0 ∨ cl48.slots.size ≤ ((3 : Int32)).toNatClampNeg) := inb_of S48 ⟨by decide, by decide⟩
        have hat48 : cl48.slots[((3 : Int32)).toNatClampNeg]? = some (.int u3) := Has.at H48 hin48 (rfl)
        refine Go.st (fun _ k => X38.baloadBytes hx (j := (3 : Int32)) (v := (.int u3)) (by rw [e38]; exact Ar48.1) (State.isArrayOf_alike hZ.alike Ar48.2.1) Ar48.2.2 hin48 hat48 (g := (mkF m 18 #[.val (.ref ao), .val (.ref b1), .val (.int (3 : Int32))] [(.int (3 : Int32)), (.ref b1)])) rfl rfl (hb hby d_print4_18) _ k) ?_
        show Go p.tables e below _ (T38.setTop (mkF m 19 #[.val (.ref ao), .val (.ref b1), .val (.int (3 : Int32))] [(.int u3)]))
        refine Go.st (fun _ k => XS.iconst X38.here hx rfl (hb hby d_print4_19) k) ?_
        show Go p.tables e below _ (T38.setTop (mkF m 20 #[.val (.ref ao), .val (.ref b1), .val (.int (3 : Int32))] [(.int (1 : Int32)), (.int u3)]))
        by_cases hc20_49 : u3 = (1 : Int32)
        · skip
          refine Go.st (fun _ k => XS.icmpNo X38.here hx rfl (hb hby d_print4_20) rfl (Jvm.Free.XT.ii_ne_f hc20_49) k) ?_
          show Go p.tables e below _ (T38.setTop (mkF m 23 #[.val (.ref ao), .val (.ref b1), .val (.int (3 : Int32))] []))
          refine Go.st (fun _ k => XS.aloadN X38.here hx rfl (hb hby d_print4_23) rfl rfl k) ?_
          show Go p.tables e below _ (T38.setTop (mkF m 24 #[.val (.ref ao), .val (.ref b1), .val (.int (3 : Int32))] [(.ref b1)]))
          refine Go.st (fun _ k => XS.iloadN X38.here hx rfl (hb hby d_print4_24) rfl k) ?_
          show Go p.tables e below _ (T38.setTop (mkF m 25 #[.val (.ref ao), .val (.ref b1), .val (.int (3 : Int32))] [(.int (3 : Int32)), (.ref b1)]))
          refine Go.st (fun _ k => XS.bipush X38.here hx rfl (hb hby d_print4_25) k) ?_
          show Go p.tables e below _ (T38.setTop (mkF m 27 #[.val (.ref ao), .val (.ref b1), .val (.int (3 : Int32))] [(.int (124 : Int32)), (.int (3 : Int32)), (.ref b1)]))
          obtain ⟨cl50, Ar50, q50, S50, M50, H50, G50⟩ := id F41
          have hin50 : ¬ ((3 : Int32) < 0 ∨ cl50.slots.size ≤ ((3 : Int32)).toNatClampNeg) := inb_of S50 ⟨by decide, by decide⟩
          obtain ⟨T50, h50, X50, e50, W50, st50⟩ := stB X38 hx hZ e38 Ar50 (j := (3 : Int32)) hin50 (g := (mkF m 27 #[.val (.ref ao), .val (.ref b1), .val (.int (3 : Int32))] [(.int (124 : Int32)), (.int (3 : Int32)), (.ref b1)])) rfl rfl (hb hby d_print4_27)
          refine Go.st st50 ?_
          have F51 : Arv Z h50 ao kk .byte (4 : Int32) [(.int u0), (.int u1), (.int u2), (.int u3)] (.int (0 : Int32)) := F39.other W50 ne2
          have F52 : Exa Z h50 ao "[B" := F40.wr W50
          have F53 : Arv Z h50 b1 kk .byte (4 : Int32) [(.int (124 : Int32)), (.int (124 : Int32)), (.int (124 : Int32)), (.int (124 : Int32))] (.int (0 : Int32)) := Arv.set Ar50 q50 S50 M50 H50 G50 (fits_nar_byte _) W50 3 rfl (Nat.le_of_ble_eq_true rfl)
          have F54 : Exa Z h50 b1 "[B" := F42.wr W50
          have K55 : Keep h0 h50 [] := K43.wr W50 (Or.inr sz4)
          have Z56 : n0 ≤ h50.size := Nat.le_trans Z44 (Nat.le_of_eq W50.size.symm)
          have N57 := Fr.snoc X50 N45 ge3
          show Go p.tables e below _ (T50.setTop (mkF m 28 #[.val (.ref ao), .val (.ref b1), .val (.int (3 : Int32))] []))
          refine Go.st (fun _ k => XS.iinc X50.here hx rfl (hb hby d_print4_28) rfl (l' := #[.val (.ref ao), .val (.ref b1), .val (.int ((3 : Int32) + (1 : Int32)))]) rfl k) ?_
          show Go p.tables e below _ (T50.setTop (mkF m 31 #[.val (.ref ao), .val (.ref b1), .val (.int ((3 : Int32) + (1 : Int32)))] []))
          rw [show ((3 : Int32) + (1 : Int32)) = (4 : Int32) from by decide]
          show Go p.tables e below _ (T50.setTop (mkF m 31 #[.val (.ref ao), .val (.ref b1), .val (.int (4 : Int32))] []))
          refine Go.st (fun _ k => XS.goto X50.here hx rfl (pc0 := 31) (pc' := 10) rfl (hb hby d_print4_31) (by decide) (by decide) k) ?_
          show Go p.tables e below _ (T50.setTop (mkF m 10 #[.val (.ref ao), .val (.ref b1), .val (.int (4 : Int32))] []))
          refine Go.st (fun _ k => XS.iloadN X50.here hx rfl (hb hby d_print4_10) rfl k) ?_
          show Go p.tables e below _ (T50.setTop (mkF m 11 #[.val (.ref ao), .val (.ref b1), .val (.int (4 : Int32))] [(.int (4 : Int32))]))
          refine Go.st (fun _ k => XS.aloadN X50.here hx rfl (hb hby d_print4_11) rfl rfl k) ?_
          show Go p.tables e below _ (T50.setTop (mkF m 12 #[.val (.ref ao), .val (.ref b1), .val (.int (4 : Int32))] [(.ref b1), (.int (4 : Int32))]))
          obtain ⟨cl58, Ar58, -, S58, M58, -, -⟩ := id F53
          refine Go.st (fun _ k => X50.arraylength hx (by rw [e50]; exact Ar58.1) (State.isArrayOf_alike hZ.alike Ar58.2.1) (g := (mkF m 12 #[.val (.ref ao), .val (.ref b1), .val (.int (4 : Int32))] [(.ref b1), (.int (4 : Int32))])) rfl rfl (hb hby d_print4_12) _ k) ?_
          rw [len_of S58 M58]
          show Go p.tables e below _ (T50.setTop (mkF m 13 #[.val (.ref ao), .val (.ref b1), .val (.int (4 : Int32))] [(.int (4 : Int32)), (.int (4 : Int32))]))
          have hl59 : ¬ ((4 : Int32) < (4 : Int32)) := by decide
          refine Go.st (fun _ k => XS.icmpYes X50.here hx rfl (pc0 := 13) (pc' := 34) rfl (hb hby d_print4_13) rfl (Jvm.Free.XT.ii_ge_t hl59) (by decide) (by decide) k) ?_
          show Go p.tables e below _ (T50.setTop (mkF m 34 #[.val (.ref ao), .val (.ref b1), .val (.int (4 : Int32))] []))
          refine Go.st (fun _ k => XS.aloadN X50.here hx rfl (hb hby d_print4_34) rfl rfl k) ?_
          show Go p.tables e below _ (T50.setTop (mkF m 35 #[.val (.ref ao), .val (.ref b1), .val (.int (4 : Int32))] [(.ref b1)]))
          subst hG
          obtain ⟨fs, hr, hrun, hended, hW, hsame⟩ := X50.leave (v := some (.ref b1)) (fun h => by rw [Bd.returns] at h; cases h)
          refine ⟨_, _, ?_, hrun, hended, _, _, rfl, ?_, ⟨_, rfl⟩, hW, hsame.mono (by decide) (by decide)⟩
          · exact retOut X50 hx Bd.returns rfl (Or.inr (Or.inr (Or.inr (Or.inr ⟨rfl, rfl, rfl⟩)))) (hb hby d_print4_35) hr
          · show Q_print4 Z ao kk u0 u1 u2 u3 h0 n0 _ T50.heap _
            rw [e50]
            exact ⟨b1, rfl, N57, K55, ge3, sz4, (by rw [show prF u0 = (124 : Int32) from by simp [prF, hc20], show prF u1 = (124 : Int32) from by simp [prF, hc20_25], show prF u2 = (124 : Int32) from by simp [prF, hc20_37], show prF u3 = (124 : Int32) from by simp [prF, hc20_49]]; exact F53)⟩
        · skip
          refine Go.st (fun _ k => XS.icmpYes X38.here hx rfl (pc0 := 20) (pc' := 28) rfl (hb hby d_print4_20) rfl (Jvm.Free.XT.ii_ne_t hc20_49) (by decide) (by decide) k) ?_
          show Go p.tables e below _ (T38.setTop (mkF m 28 #[.val (.ref ao), .val (.ref b1), .val (.int (3 : Int32))] []))
          refine Go.st (fun _ k => XS.iinc X38.here hx rfl (hb hby d_print4_28) rfl (l' := #[.val (.ref ao), .val (.ref b1), .val (.int ((3 : Int32) + (1 : Int32)))]) rfl k) ?_
          show Go p.tables e below _ (T38.setTop (mkF m 31 #[.val (.ref ao), .val (.ref b1), .val (.int ((3 : Int32) + (1 : Int32)))] []))
          rw [show ((3 : Int32) + (1 : Int32)) = (4 : Int32) from by decide]
          show Go p.tables e below _ (T38.setTop (mkF m 31 #[.val (.ref ao), .val (.ref b1), .val (.int (4 : Int32))] []))
          refine Go.st (fun _ k => XS.goto X38.here hx rfl (pc0 := 31) (pc' := 10) rfl (hb hby d_print4_31) (by decide) (by decide) k) ?_
          show Go p.tables e below _ (T38.setTop (mkF m 10 #[.val (.ref ao), .val (.ref b1), .val (.int (4 : Int32))] []))
          refine Go.st (fun _ k => XS.iloadN X38.here hx rfl (hb hby d_print4_10) rfl k) ?_
          show Go p.tables e below _ (T38.setTop (mkF m 11 #[.val (.ref ao), .val (.ref b1), .val (.int (4 : Int32))] [(.int (4 : Int32))]))
          refine Go.st (fun _ k => XS.aloadN X38.here hx rfl (hb hby d_print4_11) rfl rfl k) ?_
          show Go p.tables e below _ (T38.setTop (mkF m 12 #[.val (.ref ao), .val (.ref b1), .val (.int (4 : Int32))] [(.ref b1), (.int (4 : Int32))]))
          obtain ⟨cl60, Ar60, -, S60, M60, -, -⟩ := id F41
          refine Go.st (fun _ k => X38.arraylength hx (by rw [e38]; exact Ar60.1) (State.isArrayOf_alike hZ.alike Ar60.2.1) (g := (mkF m 12 #[.val (.ref ao), .val (.ref b1), .val (.int (4 : Int32))] [(.ref b1), (.int (4 : Int32))])) rfl rfl (hb hby d_print4_12) _ k) ?_
          rw [len_of S60 M60]
          show Go p.tables e below _ (T38.setTop (mkF m 13 #[.val (.ref ao), .val (.ref b1), .val (.int (4 : Int32))] [(.int (4 : Int32)), (.int (4 : Int32))]))
          have hl61 : ¬ ((4 : Int32) < (4 : Int32)) := by decide
          refine Go.st (fun _ k => XS.icmpYes X38.here hx rfl (pc0 := 13) (pc' := 34) rfl (hb hby d_print4_13) rfl (Jvm.Free.XT.ii_ge_t hl61) (by decide) (by decide) k) ?_
          show Go p.tables e below _ (T38.setTop (mkF m 34 #[.val (.ref ao), .val (.ref b1), .val (.int (4 : Int32))] []))
          refine Go.st (fun _ k => XS.aloadN X38.here hx rfl (hb hby d_print4_34) rfl rfl k) ?_
          show Go p.tables e below _ (T38.setTop (mkF m 35 #[.val (.ref ao), .val (.ref b1), .val (.int (4 : Int32))] [(.ref b1)]))
          subst hG
          obtain ⟨fs, hr, hrun, hended, hW, hsame⟩ := X38.leave (v := some (.ref b1)) (fun h => by rw [Bd.returns] at h; cases h)
          refine ⟨_, _, ?_, hrun, hended, _, _, rfl, ?_, ⟨_, rfl⟩, hW, hsame.mono (by decide) (by decide)⟩
          · exact retOut X38 hx Bd.returns rfl (Or.inr (Or.inr (Or.inr (Or.inr ⟨rfl, rfl, rfl⟩)))) (hb hby d_print4_35) hr
          · show Q_print4 Z ao kk u0 u1 u2 u3 h0 n0 _ T38.heap _
            rw [e38]
            exact ⟨b1, rfl, N45, K43, ge3, sz4, (by rw [show prF u0 = (124 : Int32) from by simp [prF, hc20], show prF u1 = (124 : Int32) from by simp [prF, hc20_25], show prF u2 = (124 : Int32) from by simp [prF, hc20_37], show prF u3 = u3 from by simp [prF, hc20_49]]; exact F41)⟩
      · skip
        refine Go.st (fun _ k => XS.icmpYes X26.here hx rfl (pc0 := 20) (pc' := 28) rfl (hb hby d_print4_20) rfl (Jvm.Free.XT.ii_ne_t hc20_37) (by decide) (by decide) k) ?_
        show Go p.tables e below _ (T26.setTop (mkF m 28 #[.val (.ref ao), .val (.ref b1), .val (.int (2 : Int32))] []))
        refine Go.st (fun _ k => XS.iinc X26.here hx rfl (hb hby d_print4_28) rfl (l' := #[.val (.ref ao), .val (.ref b1), .val (.int ((2 : Int32) + (1 : Int32)))]) rfl k) ?_
        show Go p.tables e below _ (T26.setTop (mkF m 31 #[.val (.ref ao), .val (.ref b1), .val (.int ((2 : Int32) + (1 : Int32)))] []))
        rw [show ((2 : Int32) + (1 : Int32)) = (3 : Int32) from by decide]
        show Go p.tables e below _ (T26.setTop (mkF m 31 #[.val (.ref ao), .val (.ref b1), .val (.int (3 : Int32))] []))
        refine Go.st (fun _ k => XS.goto X26.here hx rfl (pc0 := 31) (pc' := 10) rfl (hb hby d_print4_31) (by decide) (by decide) k) ?_
        show Go p.tables e below _ (T26.setTop (mkF m 10 #[.val (.ref ao), .val (.ref b1), .val (.int (3 : Int32))] []))
        refine Go.st (fun _ k => XS.iloadN X26.here hx rfl (hb hby d_print4_10) rfl k) ?_
        show Go p.tables e below _ (T26.setTop (mkF m 11 #[.val (.ref ao), .val (.ref b1), .val (.int (3 : Int32))] [(.int (3 : Int32))]))
        refine Go.st (fun _ k => XS.aloadN X26.here hx rfl (hb hby d_print4_11) rfl rfl k) ?_
        show Go p.tables e below _ (T26.setTop (mkF m 12 #[.val (.ref ao), .val (.ref b1), .val (.int (3 : Int32))] [(.ref b1), (.int (3 : Int32))]))
        obtain ⟨cl62, Ar62, -, S62, M62, -, -⟩ := id F29
        refine Go.st (fun _ k => X26.arraylength hx (by rw [e26]; exact Ar62.1) (State.isArrayOf_alike hZ.alike Ar62.2.1) (g := (mkF m 12 #[.val (.ref ao), .val (.ref b1), .val (.int (3 : Int32))] [(.ref b1), (.int (3 : Int32))])) rfl rfl (hb hby d_print4_12) _ k) ?_
        rw [len_of S62 M62]
        show Go p.tables e below _ (T26.setTop (mkF m 13 #[.val (.ref ao), .val (.ref b1), .val (.int (3 : Int32))] [(.int (4 : Int32)), (.int (3 : Int32))]))
        have hl63 : (3 : Int32) < (4 : Int32) := by decide
        refine Go.st (fun _ k => XS.icmpNo X26.here hx rfl (hb hby d_print4_13) rfl (Jvm.Free.XT.ii_ge_f hl63) k) ?_
        show Go p.tables e below _ (T26.setTop (mkF m 16 #[.val (.ref ao), .val (.ref b1), .val (.int (3 : Int32))] []))
        refine Go.st (fun _ k => XS.aloadN X26.here hx rfl (hb hby d_print4_16) rfl rfl k) ?_
        show Go p.tables e below _ (T26.setTop (mkF m 17 #[.val (.ref ao), .val (.ref b1), .val (.int (3 : Int32))] [(.ref b1)]))
        refine Go.st (fun _ k => XS.iloadN X26.here hx rfl (hb hby d_print4_17) rfl k) ?_
        show Go p.tables e below _ (T26.setTop (mkF m 18 #[.val (.ref ao), .val (.ref b1), .val (.int (3 : Int32))] [(.int (3 : Int32)), (.ref b1)]))
        obtain ⟨cl64, Ar64, q64, S64, M64, H64, G64⟩ := id F29
        have hin64 : ¬ ((3 : Int32) < 0 ∨ cl64.slots.size ≤ ((3 : Int32)).toNatClampNeg) := inb_of S64 ⟨by decide, by decide⟩
        have hat64 : cl64.slots[((3 : Int32)).toNatClampNeg]? = some (.int u3) := Has.at H64 hin64 (rfl)
        refine Go.st (fun _ k => X26.baloadBytes hx (j := (3 : Int32)) (v := (.int u3)) (by rw [e26]; exact Ar64.1) (State.isArrayOf_alike hZ.alike Ar64.2.1) Ar64.2.2 hin64 hat64 (g := (mkF m 18 #[.val (.ref ao), .val (.ref b1), .val (.int (3 : Int32))] [(.int (3 : Int32)), (.ref b1)])) rfl rfl (hb hby d_print4_18) _ k) ?_
        show Go p.tables e below _ (T26.setTop (mkF m 19 #[.val (.ref ao), .val (.ref b1), .val (.int (3 : Int32))] [(.int u3)]))
        refine Go.st (fun _ k => XS.iconst X26.here hx rfl (hb hby d_print4_19) k) ?_
        show Go p.tables e below _ (T26.setTop (mkF m 20 #[.val (.ref ao), .val (.ref b1), .val (.int (3 : Int32))] [(.int (1 : Int32)), (.int u3)]))
        by_cases hc20_65 : u3 = (1 : Int32)
        · skip
          refine Go.st (fun _ k => XS.icmpNo X26.here hx rfl (hb hby d_print4_20) rfl (Jvm.Free.XT.ii_ne_f hc20_65) k) ?_
          show Go p.tables e below _ (T26.setTop (mkF m 23 #[.val (.ref ao), .val (.ref b1), .val (.int (3 : Int32))] []))
          refine Go.st (fun _ k => XS.aloadN X26.here hx rfl (hb hby d_print4_23) rfl rfl k) ?_
          show Go p.tables e below _ (T26.setTop (mkF m 24 #[.val (.ref ao), .val (.ref b1), .val (.int (3 : Int32))] [(.ref b1)]))
          refine Go.st (fun _ k => XS.iloadN X26.here hx rfl (hb hby d_print4_24) rfl k) ?_
          show Go p.tables e below _ (T26.setTop (mkF m 25 #[.val (.ref ao), .val (.ref b1), .val (.int (3 : Int32))] [(.int (3 : Int32)), (.ref b1)]))
          refine Go.st (fun _ k => XS.bipush X26.here hx rfl (hb hby d_print4_25) k) ?_
          show Go p.tables e below _ (T26.setTop (mkF m 27 #[.val (.ref ao), .val (.ref b1), .val (.int (3 : Int32))] [(.int (124 : Int32)), (.int (3 : Int32)), (.ref b1)]))
          obtain ⟨cl66, Ar66, q66, S66, M66, H66, G66⟩ := id F29
          have hin66 : ¬ ((3 : Int32) < 0 ∨ cl66.slots.size ≤ ((3 : Int32)).toNatClampNeg) := inb_of S66 ⟨by decide, by decide⟩
          obtain ⟨T66, h66, X66, e66, W66, st66⟩ := stB X26 hx hZ e26 Ar66 (j := (3 : Int32)) hin66 (g := (mkF m 27 #[.val (.ref ao), .val (.ref b1), .val (.int (3 : Int32))] [(.int (124 : Int32)), (.int (3 : Int32)), (.ref b1)])) rfl rfl (hb hby d_print4_27)
          refine Go.st st66 ?_
          have F67 : Arv Z h66 ao kk .byte (4 : Int32) [(.int u0), (.int u1), (.int u2), (.int u3)] (.int (0 : Int32)) := F27.other W66 ne2
          have F68 : Exa Z h66 ao "[B" := F28.wr W66
          have F69 : Arv Z h66 b1 kk .byte (4 : Int32) [(.int (124 : Int32)), (.int (124 : Int32)), (.int u2), (.int (124 : Int32))] (.int (0 : Int32)) := Arv.set Ar66 q66 S66 M66 H66 G66 (fits_nar_byte _) W66 3 rfl (Nat.le_of_ble_eq_true rfl)
          have F70 : Exa Z h66 b1 "[B" := F30.wr W66
          have K71 : Keep h0 h66 [] := K31.wr W66 (Or.inr sz4)
          have Z72 : n0 ≤ h66.size := Nat.le_trans Z32 (Nat.le_of_eq W66.size.symm)
          have N73 := Fr.snoc X66 N33 ge3
          show Go p.tables e below _ (T66.setTop (mkF m 28 #[.val (.ref ao), .val (.ref b1), .val (.int (3 : Int32))] []))
          refine Go.st (fun _ k => XS.iinc X66.here hx rfl (hb hby d_print4_28) rfl (l' := #[.val (.ref ao), .val (.ref b1), .val (.int ((3 : Int32) + (1 : Int32)))]) rfl k) ?_
          show Go p.tables e below _ (T66.setTop (mkF m 31 #[.val (.ref ao), .val (.ref b1), .val (.int ((3 : Int32) + (1 : Int32)))] []))
          rw [show ((3 : Int32) + (1 : Int32)) = (4 : Int32) from by decide]
          show Go p.tables e below _ (T66.setTop (mkF m 31 #[.val (.ref ao), .val (.ref b1), .val (.int (4 : Int32))] []))
          refine Go.st (fun _ k => XS.goto X66.here hx rfl (pc0 := 31) (pc' := 10) rfl (hb hby d_print4_31) (by decide) (by decide) k) ?_
          show Go p.tables e below _ (T66.setTop (mkF m 10 #[.val (.ref ao), .val (.ref b1), .val (.int (4 : Int32))] []))
          refine Go.st (fun _ k => XS.iloadN X66.here hx rfl (hb hby d_print4_10) rfl k) ?_
          show Go p.tables e below _ (T66.setTop (mkF m 11 #[.val (.ref ao), .val (.ref b1), .val (.int (4 : Int32))] [(.int (4 : Int32))]))
          refine Go.st (fun _ k => XS.aloadN X66.here hx rfl (hb hby d_print4_11) rfl rfl k) ?_
          show Go p.tables e below _ (T66.setTop (mkF m 12 #[.val (.ref ao), .val (.ref b1), .val (.int (4 : Int32))] [(.ref b1), (.int (4 : Int32))]))
          obtain ⟨cl74, Ar74, -, S74, M74, -, -⟩ := id F69
          refine Go.st (fun _ k => X66.arraylength hx (by rw [e66]; exact Ar74.1) (State.isArrayOf_alike hZ.alike Ar74.2.1) (g := (mkF m 12 #[.val (.ref ao), .val (.ref b1), .val (.int (4 : Int32))] [(.ref b1), (.int (4 : Int32))])) rfl rfl (hb hby d_print4_12) _ k) ?_
          rw [len_of S74 M74]
          show Go p.tables e below _ (T66.setTop (mkF m 13 #[.val (.ref ao), .val (.ref b1), .val (.int (4 : Int32))] [(.int (4 : Int32)), (.int (4 : Int32))]))
          have hl75 : ¬ ((4 : Int32) < (4 : Int32)) := by decide
          refine Go.st (fun _ k => XS.icmpYes X66.here hx rfl (pc0 := 13) (pc' := 34) rfl (hb hby d_print4_13) rfl (Jvm.Free.XT.ii_ge_t hl75) (by decide) (by decide) k) ?_
          show Go p.tables e below _ (T66.setTop (mkF m 34 #[.val (.ref ao), .val (.ref b1), .val (.int (4 : Int32))] []))
          refine Go.st (fun _ k => XS.aloadN X66.here hx rfl (hb hby d_print4_34) rfl rfl k) ?_
          show Go p.tables e below _ (T66.setTop (mkF m 35 #[.val (.ref ao), .val (.ref b1), .val (.int (4 : Int32))] [(.ref b1)]))
          subst hG
          obtain ⟨fs, hr, hrun, hended, hW, hsame⟩ := X66.leave (v := some (.ref b1)) (fun h => by rw [Bd.returns] at h; cases h)
          refine ⟨_, _, ?_, hrun, hended, _, _, rfl, ?_, ⟨_, rfl⟩, hW, hsame.mono (by decide) (by decide)⟩
          · exact retOut X66 hx Bd.returns rfl (Or.inr (Or.inr (Or.inr (Or.inr ⟨rfl, rfl, rfl⟩)))) (hb hby d_print4_35) hr
          · show Q_print4 Z ao kk u0 u1 u2 u3 h0 n0 _ T66.heap _
            rw [e66]
            exact ⟨b1, rfl, N73, K71, ge3, sz4, (by rw [show prF u0 = (124 : Int32) from by simp [prF, hc20], show prF u1 = (124 : Int32) from by simp [prF, hc20_25], show prF u2 = u2 from by simp [prF, hc20_37], show prF u3 = (124 : Int32) from by simp [prF, hc20_65]]; exact F69)⟩
        · skip
          refine Go.st (fun _ k => XS.icmpYes X26.here hx rfl (pc0 := 20) (pc' := 28) rfl (hb hby d_print4_20) rfl (Jvm.Free.XT.ii_ne_t hc20_65) (by decide) (by decide) k) ?_
          show Go p.tables e below _ (T26.setTop (mkF m 28 #[.val (.ref ao), .val (.ref b1), .val (.int (3 : Int32))] []))
          refine Go.st (fun _ k => XS.iinc X26.here hx rfl (hb hby d_print4_28) rfl (l' := #[.val (.ref ao), .val (.ref b1), .val (.int ((3 : Int32) + (1 : Int32)))]) rfl k) ?_
          show Go p.tables e below _ (T26.setTop (mkF m 31 #[.val (.ref ao), .val (.ref b1), .val (.int ((3 : Int32) + (1 : Int32)))] []))
          rw [show ((3 : Int32) + (1 : Int32)) = (4 : Int32) from by decide]
          show Go p.tables e below _ (T26.setTop (mkF m 31 #[.val (.ref ao), .val (.ref b1), .val (.int (4 : Int32))] []))
          refine Go.st (fun _ k => XS.goto X26.here hx rfl (pc0 := 31) (pc' := 10) rfl (hb hby d_print4_31) (by decide) (by decide) k) ?_
          show Go p.tables e below _ (T26.setTop (mkF m 10 #[.val (.ref ao), .val (.ref b1), .val (.int (4 : Int32))] []))
          refine Go.st (fun _ k => XS.iloadN X26.here hx rfl (hb hby d_print4_10) rfl k) ?_
          show Go p.tables e below _ (T26.setTop (mkF m 11 #[.val (.ref ao), .val (.ref b1), .val (.int (4 : Int32))] [(.int (4 : Int32))]))
          refine Go.st (fun _ k => XS.aloadN X26.here hx rfl (hb hby d_print4_11) rfl rfl k) ?_
          show Go p.tables e below _ (T26.setTop (mkF m 12 #[.val (.ref ao), .val (.ref b1), .val (.int (4 : Int32))] [(.ref b1), (.int (4 : Int32))]))
          obtain ⟨cl76, Ar76, -, S76, M76, -, -⟩ := id F29
          refine Go.st (fun _ k => X26.arraylength hx (by rw [e26]; exact Ar76.1) (State.isArrayOf_alike hZ.alike Ar76.2.1) (g := (mkF m 12 #[.val (.ref ao), .val (.ref b1), .val (.int (4 : Int32))] [(.ref b1), (.int (4 : Int32))])) rfl rfl (hb hby d_print4_12) _ k) ?_
          rw [len_of S76 M76]
          show Go p.tables e below _ (T26.setTop (mkF m 13 #[.val (.ref ao), .val (.ref b1), .val (.int (4 : Int32))] [(.int (4 : Int32)), (.int (4 : Int32))]))
          have hl77 : ¬ ((4 : Int32) < (4 : Int32)) := by decide
          refine Go.st (fun _ k => XS.icmpYes X26.here hx rfl (pc0 := 13) (pc' := 34) rfl (hb hby d_print4_13) rfl (Jvm.Free.XT.ii_ge_t hl77) (by decide) (by decide) k) ?_
          show Go p.tables e below _ (T26.setTop (mkF m 34 #[.val (.ref ao), .val (.ref b1), .val (.int (4 : Int32))] []))
          refine Go.st (fun _ k => XS.aloadN X26.here hx rfl (hb hby d_print4_34) rfl rfl k) ?_
          show Go p.tables e below _ (T26.setTop (mkF m 35 #[.val (.ref ao), .val (.ref b1), .val (.int (4 : Int32))] [(.ref b1)]))
          subst hG
          obtain ⟨fs, hr, hrun, hended, hW, hsame⟩ := X26.leave (v := some (.ref b1)) (fun h => by rw [Bd.returns] at h; cases h)
          refine ⟨_, _, ?_, hrun, hended, _, _, rfl, ?_, ⟨_, rfl⟩, hW, hsame.mono (by decide) (by decide)⟩
          · exact retOut X26 hx Bd.returns rfl (Or.inr (Or.inr (Or.inr (Or.inr ⟨rfl, rfl, rfl⟩)))) (hb hby d_print4_35) hr
          · show Q_print4 Z ao kk u0 u1 u2 u3 h0 n0 _ T26.heap _
            rw [e26]
            exact ⟨b1, rfl, N33, K31, ge3, sz4, (by rw [show prF u0 = (124 : Int32) from by simp [prF, hc20], show prF u1 = (124 : Int32) from by simp [prF, hc20_25], show prF u2 = u2 from by simp [prF, hc20_37], show prF u3 = u3 from by simp [prF, hc20_65]]; exact F29)⟩
    · skip
      refine Go.st (fun _ k => XS.icmpYes X14.here hx rfl (pc0 := 20) (pc' := 28) rfl (hb hby d_print4_20) rfl (Jvm.Free.XT.ii_ne_t hc20_25) (by decide) (by decide) k) ?_
      show Go p.tables e below _ (T14.setTop (mkF m 28 #[.val (.ref ao), .val (.ref b1), .val (.int (1 : Int32))] []))
      refine Go.st (fun _ k => XS.iinc X14.here hx rfl (hb hby d_print4_28) rfl (l' := #[.val (.ref ao), .val (.ref b1), .val (.int ((1 : Int32) + (1 : Int32)))]) rfl k) ?_
      show Go p.tables e below _ (T14.setTop (mkF m 31 #[.val (.ref ao), .val (.ref b1), .val (.int ((1 : Int32) + (1 : Int32)))] []))
      rw [show ((1 : Int32) + (1 : Int32)) = (2 : Int32) from by decide]
      show Go p.tables e below _ (T14.setTop (mkF m 31 #[.val (.ref ao), .val (.ref b1), .val (.int (2 : Int32))] []))
      refine Go.st (fun _ k => XS.goto X14.here hx rfl (pc0 := 31) (pc' := 10) rfl (hb hby d_print4_31) (by decide) (by decide) k) ?_
      show Go p.tables e below _ (T14.setTop (mkF m 10 #[.val (.ref ao), .val (.ref b1), .val (.int (2 : Int32))] []))
      refine Go.st (fun _ k => XS.iloadN X14.here hx rfl (hb hby d_print4_10) rfl k) ?_
      show Go p.tables e below _ (T14.setTop (mkF m 11 #[.val (.ref ao), .val (.ref b1), .val (.int (2 : Int32))] [(.int (2 : Int32))]))
      refine Go.st (fun _ k => XS.aloadN X14.here hx rfl (hb hby d_print4_11) rfl rfl k) ?_
      show Go p.tables e below _ (T14.setTop (mkF m 12 #[.val (.ref ao), .val (.ref b1), .val (.int (2 : Int32))] [(.ref b1), (.int (2 : Int32))]))
      obtain ⟨cl78, Ar78, -, S78, M78, -, -⟩ := id F17
      refine Go.st (fun _ k => X14.arraylength hx (by rw [e14]; exact Ar78.1) (State.isArrayOf_alike hZ.alike Ar78.2.1) (g := (mkF m 12 #[.val (.ref ao), .val (.ref b1), .val (.int (2 : Int32))] [(.ref b1), (.int (2 : Int32))])) rfl rfl (hb hby d_print4_12) _ k) ?_
      rw [len_of S78 M78]
      show Go p.tables e below _ (T14.setTop (mkF m 13 #[.val (.ref ao), .val (.ref b1), .val (.int (2 : Int32))] [(.int (4 : Int32)), (.int (2 : Int32))]))
      have hl79 : (2 : Int32) < (4 : Int32) := by decide
      refine Go.st (fun _ k => XS.icmpNo X14.here hx rfl (hb hby d_print4_13) rfl (Jvm.Free.XT.ii_ge_f hl79) k) ?_
      show Go p.tables e below _ (T14.setTop (mkF m 16 #[.val (.ref ao), .val (.ref b1), .val (.int (2 : Int32))] []))
      refine Go.st (fun _ k => XS.aloadN X14.here hx rfl (hb hby d_print4_16) rfl rfl k) ?_
      show Go p.tables e below _ (T14.setTop (mkF m 17 #[.val (.ref ao), .val (.ref b1), .val (.int (2 : Int32))] [(.ref b1)]))
      refine Go.st (fun _ k => XS.iloadN X14.here hx rfl (hb hby d_print4_17) rfl k) ?_
      show Go p.tables e below _ (T14.setTop (mkF m 18 #[.val (.ref ao), .val (.ref b1), .val (.int (2 : Int32))] [(.int (2 : Int32)), (.ref b1)]))
      obtain ⟨cl80, Ar80, q80, S80, M80, H80, G80⟩ := id F17
      have hin80 : ¬ ((2 : Int32) < 0 ∨ cl80.slots.size ≤ ((2 : Int32)).toNatClampNeg) := inb_of S80 ⟨by decide, by decide⟩
      have hat80 : cl80.slots[((2 : Int32)).toNatClampNeg]? = some (.int u2) := Has.at H80 hin80 (rfl)
      refine Go.st (fun _ k => X14.baloadBytes hx (j := (2 : Int32)) (v := (.int u2)) (by rw [e14]; exact Ar80.1) (State.isArrayOf_alike hZ.alike Ar80.2.1) Ar80.2.2 hin80 hat80 (g := (mkF m 18 #[.val (.ref ao), .val (.ref b1), .val (.int (2 : Int32))] [(.int (2 : Int32)), (.ref b1)])) rfl rfl (hb hby d_print4_18) _ k) ?_
      show Go p.tables e below _ (T14.setTop (mkF m 19 #[.val (.ref ao), .val (.ref b1), .val (.int (2 : Int32))] [(.int u2)]))
      refine Go.st (fun _ k => XS.iconst X14.here hx rfl (hb hby d_print4_19) k) ?_
      show Go p.tables e below _ (T14.setTop (mkF m 20 #[.val (.ref ao), .val (.ref b1), .val (.int (2 : Int32))] [(.int (1 : Int32)), (.int u2)]))
      by_cases hc20_81 : u2 = (1 : Int32)
      · skip
        refine Go.st (fun _ k => XS.icmpNo X14.here hx rfl (hb hby d_print4_20) rfl (Jvm.Free.XT.ii_ne_f hc20_81) k) ?_
        show Go p.tables e below _ (T14.setTop (mkF m 23 #[.val (.ref ao), .val (.ref b1), .val (.int (2 : Int32))] []))
        refine Go.st (fun _ k => XS.aloadN X14.here hx rfl (hb hby d_print4_23) rfl rfl k) ?_
        show Go p.tables e below _ (T14.setTop (mkF m 24 #[.val (.ref ao), .val (.ref b1), .val (.int (2 : Int32))] [(.ref b1)]))
        refine Go.st (fun _ k => XS.iloadN X14.here hx rfl (hb hby d_print4_24) rfl k) ?_
        show Go p.tables e below _ (T14.setTop (mkF m 25 #[.val (.ref ao), .val (.ref b1), .val (.int (2 : Int32))] [(.int (2 : Int32)), (.ref b1)]))
        refine Go.st (fun _ k => XS.bipush X14.here hx rfl (hb hby d_print4_25) k) ?_
        show Go p.tables e below _ (T14.setTop (mkF m 27 #[.val (.ref ao), .val (.ref b1), .val (.int (2 : Int32))] [(.int (124 : Int32)), (.int (2 : Int32)), (.ref b1)]))
        obtain ⟨cl82, Ar82, q82, S82, M82, H82, G82⟩ := id F17
        have hin82 : ¬ ((2 : Int32) < 0 ∨ cl82.slots.size ≤ ((2 : Int32)).toNatClampNeg) := inb_of S82 ⟨by decide, by decide⟩
        obtain ⟨T82, h82, X82, e82, W82, st82⟩ := stB X14 hx hZ e14 Ar82 (j := (2 : Int32)) hin82 (g := (mkF m 27 #[.val (.ref ao), .val (.ref b1), .val (.int (2 : Int32))] [(.int (124 : Int32)), (.int (2 : Int32)), (.ref b1)])) rfl rfl (hb hby d_print4_27)
        refine Go.st st82 ?_
        have F83 : Arv Z h82 ao kk .byte (4 : Int32) [(.int u0), (.int u1), (.int u2), (.int u3)] (.int (0 : Int32)) := F15.other W82 ne2
        have F84 : Exa Z h82 ao "[B" := F16.wr W82
        have F85 : Arv Z h82 b1 kk .byte (4 : Int32) [(.int (124 : Int32)), (.int u1), (.int (124 : Int32)), (.int u3)] (.int (0 : Int32)) := Arv.set Ar82 q82 S82 M82 H82 G82 (fits_nar_byte _) W82 2 rfl (Nat.le_of_ble_eq_true rfl)
        have F86 : Exa Z h82 b1 "[B" := F18.wr W82
        have K87 : Keep h0 h82 [] := K19.wr W82 (Or.inr sz4)
        have Z88 : n0 ≤ h82.size := Nat.le_trans Z20 (Nat.le_of_eq W82.size.symm)
        have N89 := Fr.snoc X82 N21 ge3
        show Go p.tables e below _ (T82.setTop (mkF m 28 #[.val (.ref ao), .val (.ref b1), .val (.int (2 : Int32))] []))
        refine Go.st (fun _ k => XS.iinc X82.here hx rfl (hb hby d_print4_28) rfl (l' := #[.val (.ref ao), .val (.ref b1), .val (.int ((2 : Int32) + (1 : Int32)))]) rfl k) ?_
        show Go p.tables e below _ (T82.setTop (mkF m 31 #[.val (.ref ao), .val (.ref b1), .val (.int ((2 : Int32) + (1 : Int32)))] []))
        rw [show ((2 : Int32) + (1 : Int32)) = (3 : Int32) from by decide]
        show Go p.tables e below _ (T82.setTop (mkF m 31 #[.val (.ref ao), .val (.ref b1), .val (.int (3 : Int32))] []))
        refine Go.st (fun _ k => XS.goto X82.here hx rfl (pc0 := 31) (pc' := 10) rfl (hb hby d_print4_31) (by decide) (by decide) k) ?_
        show Go p.tables e below _ (T82.setTop (mkF m 10 #[.val (.ref ao), .val (.ref b1), .val (.int (3 : Int32))] []))
        refine Go.st (fun _ k => XS.iloadN X82.here hx rfl (hb hby d_print4_10) rfl k) ?_
        show Go p.tables e below _ (T82.setTop (mkF m 11 #[.val (.ref ao), .val (.ref b1), .val (.int (3 : Int32))] [(.int (3 : Int32))]))
        refine Go.st (fun _ k => XS.aloadN X82.here hx rfl (hb hby d_print4_11) rfl rfl k) ?_
        show Go p.tables e below _ (T82.setTop (mkF m 12 #[.val (.ref ao), .val (.ref b1), .val (.int (3 : Int32))] [(.ref b1), (.int (3 : Int32))]))
        obtain ⟨cl90, Ar90, -, S90, M90, -, -⟩ := id F85
        refine Go.st (fun _ k => X82.arraylength hx (by rw [e82]; exact Ar90.1) (State.isArrayOf_alike hZ.alike Ar90.2.1) (g := (mkF m 12 #[.val (.ref ao), .val (.ref b1), .val (.int (3 : Int32))] [(.ref b1), (.int (3 : Int32))])) rfl rfl (hb hby d_print4_12) _ k) ?_
        rw [len_of S90 M90]
        show Go p.tables e below _ (T82.setTop (mkF m 13 #[.val (.ref ao), .val (.ref b1), .val (.int (3 : Int32))] [(.int (4 : Int32)), (.int (3 : Int32))]))
        have hl91 : (3 : Int32) < (4 : Int32) := by decide
        refine Go.st (fun _ k => XS.icmpNo X82.here hx rfl (hb hby d_print4_13) rfl (Jvm.Free.XT.ii_ge_f hl91) k) ?_
        show Go p.tables e below _ (T82.setTop (mkF m 16 #[.val (.ref ao), .val (.ref b1), .val (.int (3 : Int32))] []))
        refine Go.st (fun _ k => XS.aloadN X82.here hx rfl (hb hby d_print4_16) rfl rfl k) ?_
        show Go p.tables e below _ (T82.setTop (mkF m 17 #[.val (.ref ao), .val (.ref b1), .val (.int (3 : Int32))] [(.ref b1)]))
        refine Go.st (fun _ k => XS.iloadN X82.here hx rfl (hb hby d_print4_17) rfl k) ?_
        show Go p.tables e below _ (T82.setTop (mkF m 18 #[.val (.ref ao), .val (.ref b1), .val (.int (3 : Int32))] [(.int (3 : Int32)), (.ref b1)]))
        obtain ⟨cl92, Ar92, q92, S92, M92, H92, G92⟩ := id F85
        have hin92 : ¬ ((3 : Int32) < 0 ∨ cl92.slots.size ≤ ((3 : Int32)).toNatClampNeg) := inb_of S92 ⟨by decide, by decide⟩
        have hat92 : cl92.slots[((3 : Int32)).toNatClampNeg]? = some (.int u3) := Has.at H92 hin92 (rfl)
        refine Go.st (fun _ k => X82.baloadBytes hx (j := (3 : Int32)) (v := (.int u3)) (by rw [e82]; exact Ar92.1) (State.isArrayOf_alike hZ.alike Ar92.2.1) Ar92.2.2 hin92 hat92 (g := (mkF m 18 #[.val (.ref ao), .val (.ref b1), .val (.int (3 : Int32))] [(.int (3 : Int32)), (.ref b1)])) rfl rfl (hb hby d_print4_18) _ k) ?_
        show Go p.tables e below _ (T82.setTop (mkF m 19 #[.val (.ref ao), .val (.ref b1), .val (.int (3 : Int32))] [(.int u3)]))
        refine Go.st (fun _ k => XS.iconst X82.here hx rfl (hb hby d_print4_19) k) ?_
        show Go p.tables e below _ (T82.setTop (mkF m 20 #[.val (.ref ao), .val (.ref b1), .val (.int (3 : Int32))] [(.int (1 : Int32)), (.int u3)]))
        by_cases hc20_93 : u3 = (1 : Int32)
        · skip
          refine Go.st (fun _ k => XS.icmpNo X82.here hx rfl (hb hby d_print4_20) rfl (Jvm.Free.XT.ii_ne_f hc20_93) k) ?_
          show Go p.tables e below _ (T82.setTop (mkF m 23 #[.val (.ref ao), .val (.ref b1), .val (.int (3 : Int32))] []))
          refine Go.st (fun _ k => XS.aloadN X82.here hx rfl (hb hby d_print4_23) rfl rfl k) ?_
          show Go p.tables e below _ (T82.setTop (mkF m 24 #[.val (.ref ao), .val (.ref b1), .val (.int (3 : Int32))] [(.ref b1)]))
          refine Go.st (fun _ k => XS.iloadN X82.here hx rfl (hb hby d_print4_24) rfl k) ?_
          show Go p.tables e below _ (T82.setTop (mkF m 25 #[.val (.ref ao), .val (.ref b1), .val (.int (3 : Int32))] [(.int (3 : Int32)), (.ref b1)]))
          refine Go.st (fun _ k => XS.bipush X82.here hx rfl (hb hby d_print4_25) k) ?_
          show Go p.tables e below _ (T82.setTop (mkF m 27 #[.val (.ref ao), .val (.ref b1), .val (.int (3 : Int32))] [(.int (124 : Int32)), (.int (3 : Int32)), (.ref b1)]))
          obtain ⟨cl94, Ar94, q94, S94, M94, H94, G94⟩ := id F85
          have hin94 : ¬ ((3 : Int32) < 0 ∨ cl94.slots.size ≤ ((3 : Int32)).toNatClampNeg) := inb_of S94 ⟨by decide, by decide⟩
          obtain ⟨T94, h94, X94, e94, W94, st94⟩ := stB X82 hx hZ e82 Ar94 (j := (3 : Int32)) hin94 (g := (mkF m 27 #[.val (.ref ao), .val (.ref b1), .val (.int (3 : Int32))] [(.int (124 : Int32)), (.int (3 : Int32)), (.ref b1)])) rfl rfl (hb hby d_print4_27)
          refine Go.st st94 ?_
          have F95 : Arv Z h94 ao kk .byte (4 : Int32) [(.int u0), (.int u1), (.int u2), (.int u3)] (.int (0 : Int32)) := F83.other W94 ne2
          have F96 : Exa Z h94 ao "[B" := F84.wr W94
          have F97 : Arv Z h94 b1 kk .byte (4 : Int32) [(.int (124 : Int32)), (.int u1), (.int (124 : Int32)), (.int (124 : Int32))] (.int (0 : Int32)) := Arv.set Ar94 q94 S94 M94 H94 G94 (fits_nar_byte _) W94 3 rfl (Nat.le_of_ble_eq_true rfl)
          have F98 : Exa Z h94 b1 "[B" := F86.wr W94
          have K99 : Keep h0 h94 [] := K87.wr W94 (Or.inr sz4)
          have Z100 : n0 ≤ h94.size := Nat.le_trans Z88 (Nat.le_of_eq W94.size.symm)
          have N101 := Fr.snoc X94 N89 ge3
          show Go p.tables e below _ (T94.setTop (mkF m 28 #[.val (.ref ao), .val (.ref b1), .val (.int (3 : Int32))] []))
          refine Go.st (fun _ k => XS.iinc X94.here hx rfl (hb hby d_print4_28) rfl (l' := #[.val (.ref ao), .val (.ref b1), .val (.int ((3 : Int32) + (1 : Int32)))]) rfl k) ?_
          show Go p.tables e below _ (T94.setTop (mkF m 31 #[.val (.ref ao), .val (.ref b1), .val (.int ((3 : Int32) + (1 : Int32)))] []))
          rw [show ((3 : Int32) + (1 : Int32)) = (4 : Int32) from by decide]
          show Go p.tables e below _ (T94.setTop (mkF m 31 #[.val (.ref ao), .val (.ref b1), .val (.int (4 : Int32))] []))
          refine Go.st (fun _ k => XS.goto X94.here hx rfl (pc0 := 31) (pc' := 10) rfl (hb hby d_print4_31) (by decide) (by decide) k) ?_
          show Go p.tables e below _ (T94.setTop (mkF m 10 #[.val (.ref ao), .val (.ref b1), .val (.int (4 : Int32))] []))
          refine Go.st (fun _ k => XS.iloadN X94.here hx rfl (hb hby d_print4_10) rfl k) ?_
          show Go p.tables e below _ (T94.setTop (mkF m 11 #[.val (.ref ao), .val (.ref b1), .val (.int (4 : Int32))] [(.int (4 : Int32))]))
          refine Go.st (fun _ k => XS.aloadN X94.here hx rfl (hb hby d_print4_11) rfl rfl k) ?_
          show Go p.tables e below _ (T94.setTop (mkF m 12 #[.val (.ref ao), .val (.ref b1), .val (.int (4 : Int32))] [(.ref b1), (.int (4 : Int32))]))
          obtain ⟨cl102, Ar102, -, S102, M102, -, -⟩ := id F97
          refine Go.st (fun _ k => X94.arraylength hx (by rw [e94]; exact Ar102.1) (State.isArrayOf_alike hZ.alike Ar102.2.1) (g := (mkF m 12 #[.val (.ref ao), .val (.ref b1), .val (.int (4 : Int32))] [(.ref b1), (.int (4 : Int32))])) rfl rfl (hb hby d_print4_12) _ k) ?_
          rw [len_of S102 M102]
          show Go p.tables e below _ (T94.setTop (mkF m 13 #[.val (.ref ao), .val (.ref b1), .val (.int (4 : Int32))] [(.int (4 : Int32)), (.int (4 : Int32))]))
          have hl103 : ¬ ((4 : Int32) < (4 : Int32)) := by decide
          refine Go.st (fun _ k => XS.icmpYes X94.here hx rfl (pc0 := 13) (pc' := 34) rfl (hb hby d_print4_13) rfl (Jvm.Free.XT.ii_ge_t hl103) (by decide) (by decide) k) ?_
          show Go p.tables e below _ (T94.setTop (mkF m 34 #[.val (.ref ao), .val (.ref b1), .val (.int (4 : Int32))] []))
          refine Go.st (fun _ k => XS.aloadN X94.here hx rfl (hb hby d_print4_34) rfl rfl k) ?_
          show Go p.tables e below _ (T94.setTop (mkF m 35 #[.val (.ref ao), .val (.ref b1), .val (.int (4 : Int32))] [(.ref b1)]))
          subst hG
          obtain ⟨fs, hr, hrun, hended, hW, hsame⟩ := X94.leave (v := some (.ref b1)) (fun h => by rw [Bd.returns] at h; cases h)
          refine ⟨_, _, ?_, hrun, hended, _, _, rfl, ?_, ⟨_, rfl⟩, hW, hsame.mono (by decide) (by decide)⟩
          · exact retOut X94 hx Bd.returns rfl (Or.inr (Or.inr (Or.inr (Or.inr ⟨rfl, rfl, rfl⟩)))) (hb hby d_print4_35) hr
          · show Q_print4 Z ao kk u0 u1 u2 u3 h0 n0 _ T94.heap _
            rw [e94]
            exact ⟨b1, rfl, N101, K99, ge3, sz4, (by rw [show prF u0 = (124 : Int32) from by simp [prF, hc20], show prF u1 = u1 from by simp [prF, hc20_25], show prF u2 = (124 : Int32) from by simp [prF, hc20_81], show prF u3 = (124 : Int32) from by simp [prF, hc20_93]]; exact F97)⟩
        · skip
          refine Go.st (fun _ k => XS.icmpYes X82.here hx rfl (pc0 := 20) (pc' := 28) rfl (hb hby d_print4_20) rfl (Jvm.Free.XT.ii_ne_t hc20_93) (by decide) (by decide) k) ?_
          show Go p.tables e below _ (T82.setTop (mkF m 28 #[.val (.ref ao), .val (.ref b1), .val (.int (3 : Int32))] []))
          refine Go.st (fun _ k => XS.iinc X82.here hx rfl (hb hby d_print4_28) rfl (l' := #[.val (.ref ao), .val (.ref b1), .val (.int ((3 : Int32) + (1 : Int32)))]) rfl k) ?_
          show Go p.tables e below _ (T82.setTop (mkF m 31 #[.val (.ref ao), .val (.ref b1), .val (.int ((3 : Int32) + (1 : Int32)))] []))
          rw [show ((3 : Int32) + (1 : Int32)) = (4 : Int32) from by decide]
          show Go p.tables e below _ (T82.setTop (mkF m 31 #[.val (.ref ao), .val (.ref b1), .val (.int (4 : Int32))] []))
          refine Go.st (fun _ k => XS.goto X82.here hx rfl (pc0 := 31) (pc' := 10) rfl (hb hby d_print4_31) (by decide) (by decide) k) ?_
          show Go p.tables e below _ (T82.setTop (mkF m 10 #[.val (.ref ao), .val (.ref b1), .val (.int (4 : Int32))] []))
          refine Go.st (fun _ k => XS.iloadN X82.here hx rfl (hb hby d_print4_10) rfl k) ?_
          show Go p.tables e below _ (T82.setTop (mkF m 11 #[.val (.ref ao), .val (.ref b1), .val (.int (4 : Int32))] [(.int (4 : Int32))]))
          refine Go.st (fun _ k => XS.aloadN X82.here hx rfl (hb hby d_print4_11) rfl rfl k) ?_
          show Go p.tables e below _ (T82.setTop (mkF m 12 #[.val (.ref ao), .val (.ref b1), .val (.int (4 : Int32))] [(.ref b1), (.int (4 : Int32))]))
          obtain ⟨cl104, Ar104, -, S104, M104, -, -⟩ := id F85
          refine Go.st (fun _ k => X82.arraylength hx (by rw [e82]; exact Ar104.1) (State.isArrayOf_alike hZ.alike Ar104.2.1) (g := (mkF m 12 #[.val (.ref ao), .val (.ref b1), .val (.int (4 : Int32))] [(.ref b1), (.int (4 : Int32))])) rfl rfl (hb hby d_print4_12) _ k) ?_
          rw [len_of S104 M104]
          show Go p.tables e below _ (T82.setTop (mkF m 13 #[.val (.ref ao), .val (.ref b1), .val (.int (4 : Int32))] [(.int (4 : Int32)), (.int (4 : Int32))]))
          have hl105 : ¬ ((4 : Int32) < (4 : Int32)) := by decide
          refine Go.st (fun _ k => XS.icmpYes X82.here hx rfl (pc0 := 13) (pc' := 34) rfl (hb hby d_print4_13) rfl (Jvm.Free.XT.ii_ge_t hl105) (by decide) (by decide) k) ?_
          show Go p.tables e below _ (T82.setTop (mkF m 34 #[.val (.ref ao), .val (.ref b1), .val (.int (4 : Int32))] []))
          refine Go.st (fun _ k => XS.aloadN X82.here hx rfl (hb hby d_print4_34) rfl rfl k) ?_
          show Go p.tables e below _ (T82.setTop (mkF m 35 #[.val (.ref ao), .val (.ref b1), .val (.int (4 : Int32))] [(.ref b1)]))
          subst hG
          obtain ⟨fs, hr, hrun, hended, hW, hsame⟩ := X82.leave (v := some (.ref b1)) (fun h => by rw [Bd.returns] at h; cases h)
          refine ⟨_, _, ?_, hrun, hended, _, _, rfl, ?_, ⟨_, rfl⟩, hW, hsame.mono (by decide) (by decide)⟩
          · exact retOut X82 hx Bd.returns rfl (Or.inr (Or.inr (Or.inr (Or.inr ⟨rfl, rfl, rfl⟩)))) (hb hby d_print4_35) hr
          · show Q_print4 Z ao kk u0 u1 u2 u3 h0 n0 _ T82.heap _
            rw [e82]
            exact ⟨b1, rfl, N89, K87, ge3, sz4, (by rw [show prF u0 = (124 : Int32) from by simp [prF, hc20], show prF u1 = u1 from by simp [prF, hc20_25], show prF u2 = (124 : Int32) from by simp [prF, hc20_81], show prF u3 = u3 from by simp [prF, hc20_93]]; exact F85)⟩
      · skip
        refine Go.st (fun _ k => XS.icmpYes X14.here hx rfl (pc0 := 20) (pc' := 28) rfl (hb hby d_print4_20) rfl (Jvm.Free.XT.ii_ne_t hc20_81) (by decide) (by decide) k) ?_
        show Go p.tables e below _ (T14.setTop (mkF m 28 #[.val (.ref ao), .val (.ref b1), .val (.int (2 : Int32))] []))
        refine Go.st (fun _ k => XS.iinc X14.here hx rfl (hb hby d_print4_28) rfl (l' := #[.val (.ref ao), .val (.ref b1), .val (.int ((2 : Int32) + (1 : Int32)))]) rfl k) ?_
        show Go p.tables e below _ (T14.setTop (mkF m 31 #[.val (.ref ao), .val (.ref b1), .val (.int ((2 : Int32) + (1 : Int32)))] []))
        rw [show ((2 : Int32) + (1 : Int32)) = (3 : Int32) from by decide]
        show Go p.tables e below _ (T14.setTop (mkF m 31 #[.val (.ref ao), .val (.ref b1), .val (.int (3 : Int32))] []))
        refine Go.st (fun _ k => XS.goto X14.here hx rfl (pc0 := 31) (pc' := 10) rfl (hb hby d_print4_31) (by decide) (by decide) k) ?_
        show Go p.tables e below _ (T14.setTop (mkF m 10 #[.val (.ref ao), .val (.ref b1), .val (.int (3 : Int32))] []))
        refine Go.st (fun _ k => XS.iloadN X14.here hx rfl (hb hby d_print4_10) rfl k) ?_
        show Go p.tables e below _ (T14.setTop (mkF m 11 #[.val (.ref ao), .val (.ref b1), .val (.int (3 : Int32))] [(.int (3 : Int32))]))
        refine Go.st (fun _ k => XS.aloadN X14.here hx rfl (hb hby d_print4_11) rfl rfl k) ?_
        show Go p.tables e below _ (T14.setTop (mkF m 12 #[.val (.ref ao), .val (.ref b1), .val (.int (3 : Int32))] [(.ref b1), (.int (3 : Int32))]))
        obtain ⟨cl106, Ar106, -, S106, M106, -, -⟩ := id F17
        refine Go.st (fun _ k => X14.arraylength hx (by rw [e14]; exact Ar106.1) (State.isArrayOf_alike hZ.alike Ar106.2.1) (g := (mkF m 12 #[.val (.ref ao), .val (.ref b1), .val (.int (3 : Int32))] [(.ref b1), (.int (3 : Int32))])) rfl rfl (hb hby d_print4_12) _ k) ?_
        rw [len_of S106 M106]
        show Go p.tables e below _ (T14.setTop (mkF m 13 #[.val (.ref ao), .val (.ref b1), .val (.int (3 : Int32))] [(.int (4 : Int32)), (.int (3 : Int32))]))
        have hl107 : (3 : Int32) < (4 : Int32) := by decide
        refine Go.st (fun _ k => XS.icmpNo X14.here hx rfl (hb hby d_print4_13) rfl (Jvm.Free.XT.ii_ge_f hl107) k) ?_
        show Go p.tables e below _ (T14.setTop (mkF m 16 #[.val (.ref ao), .val (.ref b1), .val (.int (3 : Int32))] []))
        refine Go.st (fun _ k => XS.aloadN X14.here hx rfl (hb hby d_print4_16) rfl rfl k) ?_
        show Go p.tables e below _ (T14.setTop (mkF m 17 #[.val (.ref ao), .val (.ref b1), .val (.int (3 : Int32))] [(.ref b1)]))
        refine Go.st (fun _ k => XS.iloadN X14.here hx rfl (hb hby d_print4_17) rfl k) ?_
        show Go p.tables e below _ (T14.setTop (mkF m 18 #[.val (.ref ao), .val (.ref b1), .val (.int (3 : Int32))] [(.int (3 : Int32)), (.ref b1)]))
        obtain ⟨cl108, Ar108, q108, S108, M108, H108, G108⟩ := id F17
        have hin108 : ¬ ((3 : Int32) < 0 ∨ cl108.slots.size ≤ ((3 : Int32)).toNatClampNeg) := inb_of S108 ⟨by decide, by decide⟩
        have hat108 : cl108.slots[((3 : Int32)).toNatClampNeg]? = some (.int u3) := Has.at H108 hin108 (rfl)
        refine Go.st (fun _ k => X14.baloadBytes hx (j := (3 : Int32)) (v := (.int u3)) (by rw [e14]; exact Ar108.1) (State.isArrayOf_alike hZ.alike Ar108.2.1) Ar108.2.2 hin108 hat108 (g := (mkF m 18 #[.val (.ref ao), .val (.ref b1), .val (.int (3 : Int32))] [(.int (3 : Int32)), (.ref b1)])) rfl rfl (hb hby d_print4_18) _ k) ?_
        show Go p.tables e below _ (T14.setTop (mkF m 19 #[.val (.ref ao), .val (.ref b1), .val (.int (3 : Int32))] [(.int u3)]))
        refine Go.st (fun _ k => XS.iconst X14.here hx rfl (hb hby d_print4_19) k) ?_
        show Go p.tables e below _ (T14.setTop (mkF m 20 #[.val (.ref ao), .val (.ref b1), .val (.int (3 : Int32))] [(.int (1 : Int32)), (.int u3)]))
        by_cases hc20_109 : u3 = (1 : Int32)
        · skip
          refine Go.st (fun _ k => XS.icmpNo X14.here hx rfl (hb hby d_print4_20) rfl (Jvm.Free.XT.ii_ne_f hc20_109) k) ?_
          show Go p.tables e below _ (T14.setTop (mkF m 23 #[.val (.ref ao), .val (.ref b1), .val (.int (3 : Int32))] []))
          refine Go.st (fun _ k => XS.aloadN X14.here hx rfl (hb hby d_print4_23) rfl rfl k) ?_
          show Go p.tables e below _ (T14.setTop (mkF m 24 #[.val (.ref ao), .val (.ref b1), .val (.int (3 : Int32))] [(.ref b1)]))
          refine Go.st (fun _ k => XS.iloadN X14.here hx rfl (hb hby d_print4_24) rfl k) ?_
          show Go p.tables e below _ (T14.setTop (mkF m 25 #[.val (.ref ao), .val (.ref b1), .val (.int (3 : Int32))] [(.int (3 : Int32)), (.ref b1)]))
          refine Go.st (fun _ k => XS.bipush X14.here hx rfl (hb hby d_print4_25) k) ?_
          show Go p.tables e below _ (T14.setTop (mkF m 27 #[.val (.ref ao), .val (.ref b1), .val (.int (3 : Int32))] [(.int (124 : Int32)), (.int (3 : Int32)), (.ref b1)]))
          obtain ⟨cl110, Ar110, q110, S110, M110, H110, G110⟩ := id F17
          have hin110 : ¬ ((3 : Int32) < 0 ∨ cl110.slots.size ≤ ((3 : Int32)).toNatClampNeg) := inb_of S110 ⟨by decide, by decide⟩
          obtain ⟨T110, h110, X110, e110, W110, st110⟩ := stB X14 hx hZ e14 Ar110 (j := (3 : Int32)) hin110 (g := (mkF m 27 #[.val (.ref ao), .val (.ref b1), .val (.int (3 : Int32))] [(.int (124 : Int32)), (.int (3 : Int32)), (.ref b1)])) rfl rfl (hb hby d_print4_27)
          refine Go.st st110 ?_
          have F111 : Arv Z h110 ao kk .byte (4 : Int32) [(.int u0), (.int u1), (.int u2), (.int u3)] (.int (0 : Int32)) := F15.other W110 ne2
          have F112 : Exa Z h110 ao "[B" := F16.wr W110
          have F113 : Arv Z h110 b1 kk .byte (4 : Int32) [(.int (124 : Int32)), (.int u1), (.int u2), (.int (124 : Int32))] (.int (0 : Int32)) := Arv.set Ar110 q110 S110 M110 H110 G110 (fits_nar_byte _) W110 3 rfl (Nat.le_of_ble_eq_true rfl)
          have F114 : Exa Z h110 b1 "[B" := F18.wr W110
          have K115 : Keep h0 h110 [] := K19.wr W110 (Or.inr sz4)
          have Z116 : n0 ≤ h110.size := Nat.le_trans Z20 (Nat.le_of_eq W110.size.symm)
          have N117 := Fr.snoc X110 N21 ge3
          show Go p.tables e below _ (T110.setTop (mkF m 28 #[.val (.ref ao), .val (.ref b1), .val (.int (3 : Int32))] []))
          refine Go.st (fun _ k => XS.iinc X110.here hx rfl (hb hby d_print4_28) rfl (l' := #[.val (.ref ao), .val (.ref b1), .val (.int ((3 : Int32) + (1 : Int32)))]) rfl k) ?_
          show Go p.tables e below _ (T110.setTop (mkF m 31 #[.val (.ref ao), .val (.ref b1), .val (.int ((3 : Int32) + (1 : Int32)))] []))
          rw [show ((3 : Int32) + (1 : Int32)) = (4 : Int32) from by decide]
          show Go p.tables e below _ (T110.setTop (mkF m 31 #[.val (.ref ao), .val (.ref b1), .val (.int (4 : Int32))] []))
          refine Go.st (fun _ k => XS.goto X110.here hx rfl (pc0 := 31) (pc' := 10) rfl (hb hby d_print4_31) (by decide) (by decide) k) ?_
          show Go p.tables e below _ (T110.setTop (mkF m 10 #[.val (.ref ao), .val (.ref b1), .val (.int (4 : Int32))] []))
          refine Go.st (fun _ k => XS.iloadN X110.here hx rfl (hb hby d_print4_10) rfl k) ?_
          show Go p.tables e below _ (T110.setTop (mkF m 11 #[.val (.ref ao), .val (.ref b1), .val (.int (4 : Int32))] [(.int (4 : Int32))]))
          refine Go.st (fun _ k => XS.aloadN X110.here hx rfl (hb hby d_print4_11) rfl rfl k) ?_
          show Go p.tables e below _ (T110.setTop (mkF m 12 #[.val (.ref ao), .val (.ref b1), .val (.int (4 : Int32))] [(.ref b1), (.int (4 : Int32))]))
          obtain ⟨cl118, Ar118, -, S118, M118, -, -⟩ := id F113
          refine Go.st (fun _ k => X110.arraylength hx (by rw [e110]; exact Ar118.1) (State.isArrayOf_alike hZ.alike Ar118.2.1) (g := (mkF m 12 #[.val (.ref ao), .val (.ref b1), .val (.int (4 : Int32))] [(.ref b1), (.int (4 : Int32))])) rfl rfl (hb hby d_print4_12) _ k) ?_
          rw [len_of S118 M118]
          show Go p.tables e below _ (T110.setTop (mkF m 13 #[.val (.ref ao), .val (.ref b1), .val (.int (4 : Int32))] [(.int (4 : Int32)), (.int (4 : Int32))]))
          have hl119 : ¬ ((4 : Int32) < (4 : Int32)) := by decide
          refine Go.st (fun _ k => XS.icmpYes X110.here hx rfl (pc0 := 13) (pc' := 34) rfl (hb hby d_print4_13) rfl (Jvm.Free.XT.ii_ge_t hl119) (by decide) (by decide) k) ?_
          show Go p.tables e below _ (T110.setTop (mkF m 34 #[.val (.ref ao), .val (.ref b1), .val (.int (4 : Int32))] []))
          refine Go.st (fun _ k => XS.aloadN X110.here hx rfl (hb hby d_print4_34) rfl rfl k) ?_
          show Go p.tables e below _ (T110.setTop (mkF m 35 #[.val (.ref ao), .val (.ref b1), .val (.int (4 : Int32))] [(.ref b1)]))
          subst hG
          obtain ⟨fs, hr, hrun, hended, hW, hsame⟩ := X110.leave (v := some (.ref b1)) (fun h => by rw [Bd.returns] at h; cases h)
          refine ⟨_, _, ?_, hrun, hended, _, _, rfl, ?_, ⟨_, rfl⟩, hW, hsame.mono (by decide) (by decide)⟩
          · exact retOut X110 hx Bd.returns rfl (Or.inr (Or.inr (Or.inr (Or.inr ⟨rfl, rfl, rfl⟩)))) (hb hby d_print4_35) hr
          · show Q_print4 Z ao kk u0 u1 u2 u3 h0 n0 _ T110.heap _
            rw [e110]
            exact ⟨b1, rfl, N117, K115, ge3, sz4, (by rw [show prF u0 = (124 : Int32) from by simp [prF, hc20], show prF u1 = u1 from by simp [prF, hc20_25], show prF u2 = u2 from by simp [prF, hc20_81], show prF u3 = (124 : Int32) from by simp [prF, hc20_109]]; exact F113)⟩
        · skip
          refine Go.st (fun _ k => XS.icmpYes X14.here hx rfl (pc0 := 20) (pc' := 28) rfl (hb hby d_print4_20) rfl (Jvm.Free.XT.ii_ne_t hc20_109) (by decide) (by decide) k) ?_
          show Go p.tables e below _ (T14.setTop (mkF m 28 #[.val (.ref ao), .val (.ref b1), .val (.int (3 : Int32))] []))
          refine Go.st (fun _ k => XS.iinc X14.here hx rfl (hb hby d_print4_28) rfl (l' := #[.val (.ref ao), .val (.ref b1), .val (.int ((3 : Int32) + (1 : Int32)))]) rfl k) ?_
          show Go p.tables e below _ (T14.setTop (mkF m 31 #[.val (.ref ao), .val (.ref b1), .val (.int ((3 : Int32) + (1 : Int32)))] []))
          rw [show ((3 : Int32) + (1 : Int32)) = (4 : Int32) from by decide]
          show Go p.tables e below _ (T14.setTop (mkF m 31 #[.val (.ref ao), .val (.ref b1), .val (.int (4 : Int32))] []))
          refine Go.st (fun _ k => XS.goto X14.here hx rfl (pc0 := 31) (pc' := 10) rfl (hb hby d_print4_31) (by decide) (by decide) k) ?_
          show Go p.tables e below _ (T14.setTop (mkF m 10 #[.val (.ref ao), .val (.ref b1), .val (.int (4 : Int32))] []))
          refine Go.st (fun _ k => XS.iloadN X14.here hx rfl (hb hby d_print4_10) rfl k) ?_
          show Go p.tables e below _ (T14.setTop (mkF m 11 #[.val (.ref ao), .val (.ref b1), .val (.int (4 : Int32))] [(.int (4 : Int32))]))
          refine Go.st (fun _ k => XS.aloadN X14.here hx rfl (hb hby d_print4_11) rfl rfl k) ?_
          show Go p.tables e below _ (T14.setTop (mkF m 12 #[.val (.ref ao), .val (.ref b1), .val (.int (4 : Int32))] [(.ref b1), (.int (4 : Int32))]))
          obtain ⟨cl120, Ar120, -, S120, M120, -, -⟩ := id F17
          refine Go.st (fun _ k => X14.arraylength hx (by rw [e14]; exact Ar120.1) (State.isArrayOf_alike hZ.alike Ar120.2.1) (g := (mkF m 12 #[.val (.ref ao), .val (.ref b1), .val (.int (4 : Int32))] [(.ref b1), (.int (4 : Int32))])) rfl rfl (hb hby d_print4_12) _ k) ?_
          rw [len_of S120 M120]
          show Go p.tables e below _ (T14.setTop (mkF m 13 #[.val (.ref ao), .val (.ref b1), .val (.int (4 : Int32))] [(.int (4 : Int32)), (.int (4 : Int32))]))
          have hl121 : ¬ ((4 : Int32) < (4 : Int32)) := by decide
          refine Go.st (fun _ k => XS.icmpYes X14.here hx rfl (pc0 := 13) (pc' := 34) rfl (hb hby d_print4_13) rfl (Jvm.Free.XT.ii_ge_t hl121) (by decide) (by decide) k) ?_
          show Go p.tables e below _ (T14.setTop (mkF m 34 #[.val (.ref ao), .val (.ref b1), .val (.int (4 : Int32))] []))
          refine Go.st (fun _ k => XS.aloadN X14.here hx rfl (hb hby d_print4_34) rfl rfl k) ?_
          show Go p.tables e below _ (T14.setTop (mkF m 35 #[.val (.ref ao), .val (.ref b1), .val (.int (4 : Int32))] [(.ref b1)]))
          subst hG
          obtain ⟨fs, hr, hrun, hended, hW, hsame⟩ := X14.leave (v := some (.ref b1)) (fun h => by rw [Bd.returns] at h; cases h)
          refine ⟨_, _, ?_, hrun, hended, _, _, rfl, ?_, ⟨_, rfl⟩, hW, hsame.mono (by decide) (by decide)⟩
          · exact retOut X14 hx Bd.returns rfl (Or.inr (Or.inr (Or.inr (Or.inr ⟨rfl, rfl, rfl⟩)))) (hb hby d_print4_35) hr
          · show Q_print4 Z ao kk u0 u1 u2 u3 h0 n0 _ T14.heap _
            rw [e14]
            exact ⟨b1, rfl, N21, K19, ge3, sz4, (by rw [show prF u0 = (124 : Int32) from by simp [prF, hc20], show prF u1 = u1 from by simp [prF, hc20_25], show prF u2 = u2 from by simp [prF, hc20_81], show prF u3 = u3 from by simp [prF, hc20_109]]; exact F17)⟩
  · skip
    refine Go.st (fun _ k => XS.icmpYes X10.here hx rfl (pc0 := 20) (pc' := 28) rfl (hb hby d_print4_20) rfl (Jvm.Free.XT.ii_ne_t hc20) (by decide) (by decide) k) ?_
    show Go p.tables e below _ (T10.setTop (mkF m 28 #[.val (.ref ao), .val (.ref b1), .val (.int (0 : Int32))] []))
    refine Go.st (fun _ k => XS.iinc X10.here hx rfl (hb hby d_print4_28) rfl (l' := #[.val (.ref ao), .val (.ref b1), .val (.int ((0 : Int32) + (1 : Int32)))]) rfl k) ?_
    show Go p.tables e below _ (T10.setTop (mkF m 31 #[.val (.ref ao), .val (.ref b1), .val (.int ((0 : Int32) + (1 : Int32)))] []))
    rw [show ((0 : Int32) + (1 : Int32)) = (1 : Int32) from by decide]
    show Go p.tables e below _ (T10.setTop (mkF m 31 #[.val (.ref ao), .val (.ref b1), .val (.int (1 : Int32))] []))
    refine Go.st (fun _ k => XS.goto X10.here hx rfl (pc0 := 31) (pc' := 10) rfl (hb hby d_print4_31) (by decide) (by decide) k) ?_
    show Go p.tables e below _ (T10.setTop (mkF m 10 #[.val (.ref ao), .val (.ref b1), .val (.int (1 : Int32))] []))
    refine Go.st (fun _ k => XS.iloadN X10.here hx rfl (hb hby d_print4_10) rfl k) ?_
    show Go p.tables e below _ (T10.setTop (mkF m 11 #[.val (.ref ao), .val (.ref b1), .val (.int (1 : Int32))] [(.int (1 : Int32))]))
    refine Go.st (fun _ k => XS.aloadN X10.here hx rfl (hb hby d_print4_11) rfl rfl k) ?_
    show Go p.tables e below _ (T10.setTop (mkF m 12 #[.val (.ref ao), .val (.ref b1), .val (.int (1 : Int32))] [(.ref b1), (.int (1 : Int32))]))
    obtain ⟨cl122, Ar122, -, S122, M122, -, -⟩ := id F9
    refine Go.st (fun _ k => X10.arraylength hx (by rw [e10]; exact Ar122.1) (State.isArrayOf_alike hZ.alike Ar122.2.1) (g := (mkF m 12 #[.val (.ref ao), .val (.ref b1), .val (.int (1 : Int32))] [(.ref b1), (.int (1 : Int32))])) rfl rfl (hb hby d_print4_12) _ k) ?_
    rw [len_of S122 M122]
    show Go p.tables e below _ (T10.setTop (mkF m 13 #[.val (.ref ao), .val (.ref b1), .val (.int (1 : Int32))] [(.int (4 : Int32)), (.int (1 : Int32))]))
    have hl123 : (1 : Int32) < (4 : Int32) := by decide
    refine Go.st (fun _ k => XS.icmpNo X10.here hx rfl (hb hby d_print4_13) rfl (Jvm.Free.XT.ii_ge_f hl123) k) ?_
    show Go p.tables e below _ (T10.setTop (mkF m 16 #[.val (.ref ao), .val (.ref b1), .val (.int (1 : Int32))] []))
    refine Go.st (fun _ k => XS.aloadN X10.here hx rfl (hb hby d_print4_16) rfl rfl k) ?_
    show Go p.tables e below _ (T10.setTop (mkF m 17 #[.val (.ref ao), .val (.ref b1), .val (.int (1 : Int32))] [(.ref b1)]))
    refine Go.st (fun _ k => XS.iloadN X10.here hx rfl (hb hby d_print4_17) rfl k) ?_
    show Go p.tables e below _ (T10.setTop (mkF m 18 #[.val (.ref ao), .val (.ref b1), .val (.int (1 : Int32))] [(.int (1 : Int32)), (.ref b1)]))
    obtain ⟨cl124, Ar124, q124, S124, M124, H124, G124⟩ := id F9
    have hin124 : ¬ ((1 : Int32) < 0 ∨ cl124.slots.size ≤ ((1 : Int32)).toNatClampNeg) := inb_of S124 ⟨by decide, by decide⟩
    have hat124 : cl124.slots[((1 : Int32)).toNatClampNeg]? = some (.int u1) := Has.at H124 hin124 (rfl)
    refine Go.st (fun _ k => X10.baloadBytes hx (j := (1 : Int32)) (v := (.int u1)) (by rw [e10]; exact Ar124.1) (State.isArrayOf_alike hZ.alike Ar124.2.1) Ar124.2.2 hin124 hat124 (g := (mkF m 18 #[.val (.ref ao), .val (.ref b1), .val (.int (1 : Int32))] [(.int (1 : Int32)), (.ref b1)])) rfl rfl (hb hby d_print4_18) _ k) ?_
    show Go p.tables e below _ (T10.setTop (mkF m 19 #[.val (.ref ao), .val (.ref b1), .val (.int (1 : Int32))] [(.int u1)]))
    refine Go.st (fun _ k => XS.iconst X10.here hx rfl (hb hby d_print4_19) k) ?_
    show Go p.tables e below _ (T10.setTop (mkF m 20 #[.val (.ref ao), .val (.ref b1), .val (.int (1 : Int32))] [(.int (1 : Int32)), (.int u1)]))
    by_cases hc20_125 : u1 = (1 : Int32)
    · skip
      refine Go.st (fun _ k => XS.icmpNo X10.here hx rfl (hb hby d_print4_20) rfl (Jvm.Free.XT.ii_ne_f hc20_125) k) ?_
      show Go p.tables e below _ (T10.setTop (mkF m 23 #[.val (.ref ao), .val (.ref b1), .val (.int (1 : Int32))] []))
      refine Go.st (fun _ k => XS.aloadN X10.here hx rfl (hb hby d_print4_23) rfl rfl k) ?_
      show Go p.tables e below _ (T10.setTop (mkF m 24 #[.val (.ref ao), .val (.ref b1), .val (.int (1 : Int32))] [(.ref b1)]))
      refine Go.st (fun _ k => XS.iloadN X10.here hx rfl (hb hby d_print4_24) rfl k) ?_
      show Go p.tables e below _ (T10.setTop (mkF m 25 #[.val (.ref ao), .val (.ref b1), .val (.int (1 : Int32))] [(.int (1 : Int32)), (.ref b1)]))
      refine Go.st (fun _ k => XS.bipush X10.here hx rfl (hb hby d_print4_25) k) ?_
      show Go p.tables e below _ (T10.setTop (mkF m 27 #[.val (.ref ao), .val (.ref b1), .val (.int (1 : Int32))] [(.int (124 : Int32)), (.int (1 : Int32)), (.ref b1)]))
      obtain ⟨cl126, Ar126, q126, S126, M126, H126, G126⟩ := id F9
      have hin126 : ¬ ((1 : Int32) < 0 ∨ cl126.slots.size ≤ ((1 : Int32)).toNatClampNeg) := inb_of S126 ⟨by decide, by decide⟩
      obtain ⟨T126, h126, X126, e126, W126, st126⟩ := stB X10 hx hZ e10 Ar126 (j := (1 : Int32)) hin126 (g := (mkF m 27 #[.val (.ref ao), .val (.ref b1), .val (.int (1 : Int32))] [(.int (124 : Int32)), (.int (1 : Int32)), (.ref b1)])) rfl rfl (hb hby d_print4_27)
      refine Go.st st126 ?_
      have F127 : Arv Z h126 ao kk .byte (4 : Int32) [(.int u0), (.int u1), (.int u2), (.int u3)] (.int (0 : Int32)) := F7.other W126 ne2
      have F128 : Exa Z h126 ao "[B" := F8.wr W126
      have F129 : Arv Z h126 b1 kk .byte (4 : Int32) [(.int u0), (.int (124 : Int32)), (.int u2), (.int u3)] (.int (0 : Int32)) := Arv.set Ar126 q126 S126 M126 H126 G126 (fits_nar_byte _) W126 1 rfl (Nat.le_of_ble_eq_true rfl)
      have F130 : Exa Z h126 b1 "[B" := C1.wr W126
      have K131 : Keep h0 h126 [] := K6.wr W126 (Or.inr sz4)
      have Z132 : n0 ≤ h126.size := Nat.le_trans Z5 (Nat.le_of_eq W126.size.symm)
      have N133 := Fr.snoc X126 N0 ge3
      show Go p.tables e below _ (T126.setTop (mkF m 28 #[.val (.ref ao), .val (.ref b1), .val (.int (1 : Int32))] []))
      refine Go.st (fun _ k => XS.iinc X126.here hx rfl (hb hby d_print4_28) rfl (l' := #[.val (.ref ao), .val (.ref b1), .val (.int ((1 : Int32) + (1 : Int32)))]) rfl k) ?_
      show Go p.tables e below _ (T126.setTop (mkF m 31 #[.val (.ref ao), .val (.ref b1), .val (.int ((1 : Int32) + (1 : Int32)))] []))
      rw [show ((1 : Int32) + (1 : Int32)) = (2 : Int32) from by decide]
      show Go p.tables e below _ (T126.setTop (mkF m 31 #[.val (.ref ao), .val (.ref b1), .val (.int (2 : Int32))] []))
      refine Go.st (fun _ k => XS.goto X126.here hx rfl (pc0 := 31) (pc' := 10) rfl (hb hby d_print4_31) (by decide) (by decide) k) ?_
      show Go p.tables e below _ (T126.setTop (mkF m 10 #[.val (.ref ao), .val (.ref b1), .val (.int (2 : Int32))] []))
      refine Go.st (fun _ k => XS.iloadN X126.here hx rfl (hb hby d_print4_10) rfl k) ?_
      show Go p.tables e below _ (T126.setTop (mkF m 11 #[.val (.ref ao), .val (.ref b1), .val (.int (2 : Int32))] [(.int (2 : Int32))]))
      refine Go.st (fun _ k => XS.aloadN X126.here hx rfl (hb hby d_print4_11) rfl rfl k) ?_
      show Go p.tables e below _ (T126.setTop (mkF m 12 #[.val (.ref ao), .val (.ref b1), .val (.int (2 : Int32))] [(.ref b1), (.int (2 : Int32))]))
      obtain ⟨cl134, Ar134, -, S134, M134, -, -⟩ := id F129
      refine Go.st (fun _ k => X126.arraylength hx (by rw [e126]; exact Ar134.1) (State.isArrayOf_alike hZ.alike Ar134.2.1) (g := (mkF m 12 #[.val (.ref ao), .val (.ref b1), .val (.int (2 : Int32))] [(.ref b1), (.int (2 : Int32))])) rfl rfl (hb hby d_print4_12) _ k) ?_
      rw [len_of S134 M134]
      show Go p.tables e below _ (T126.setTop (mkF m 13 #[.val (.ref ao), .val (.ref b1), .val (.int (2 : Int32))] [(.int (4 : Int32)), (.int (2 : Int32))]))
      have hl135 : (2 : Int32) < (4 : Int32) := by decide
      refine Go.st (fun _ k => XS.icmpNo X126.here hx rfl (hb hby d_print4_13) rfl (Jvm.Free.XT.ii_ge_f hl135) k) ?_
      show Go p.tables e below _ (T126.setTop (mkF m 16 #[.val (.ref ao), .val (.ref b1), .val (.int (2 : Int32))] []))
      refine Go.st (fun _ k => XS.aloadN X126.here hx rfl (hb hby d_print4_16) rfl rfl k) ?_
      show Go p.tables e below _ (T126.setTop (mkF m 17 #[.val (.ref ao), .val (.ref b1), .val (.int (2 : Int32))] [(.ref b1)]))
      refine Go.st (fun _ k => XS.iloadN X126.here hx rfl (hb hby d_print4_17) rfl k) ?_
      show Go p.tables e below _ (T126.setTop (mkF m 18 #[.val (.ref ao), .val (.ref b1), .val (.int (2 : Int32))] [(.int (2 : Int32)), (.ref b1)]))
      obtain ⟨cl136, Ar136, q136, S136, M136, H136, G136⟩ := id F129
      have hin136 : ¬ ((2 : Int32) < 0 ∨ cl136.slots.size ≤ ((2 : Int32)).toNatClampNeg) := inb_of S136 ⟨by decide, by decide⟩
      have hat136 : cl136.slots[((2 : Int32)).toNatClampNeg]? = some (.int u2) := Has.at H136 hin136 (rfl)
      refine Go.st (fun _ k => X126.baloadBytes hx (j := (2 : Int32)) (v := (.int u2)) (by rw [e126]; exact Ar136.1) (State.isArrayOf_alike hZ.alike Ar136.2.1) Ar136.2.2 hin136 hat136 (g := (mkF m 18 #[.val (.ref ao), .val (.ref b1), .val (.int (2 : Int32))] [(.int (2 : Int32)), (.ref b1)])) rfl rfl (hb hby d_print4_18) _ k) ?_
      show Go p.tables e below _ (T126.setTop (mkF m 19 #[.val (.ref ao), .val (.ref b1), .val (.int (2 : Int32))] [(.int u2)]))
      refine Go.st (fun _ k => XS.iconst X126.here hx rfl (hb hby d_print4_19) k) ?_
      show Go p.tables e below _ (T126.setTop (mkF m 20 #[.val (.ref ao), .val (.ref b1), .val (.int (2 : Int32))] [(.int (1 : Int32)), (.int u2)]))
      by_cases hc20_137 : u2 = (1 : Int32)
      · skip
        refine Go.st (fun _ k => XS.icmpNo X126.here hx rfl (hb hby d_print4_20) rfl (Jvm.Free.XT.ii_ne_f hc20_137) k) ?_
        show Go p.tables e below _ (T126.setTop (mkF m 23 #[.val (.ref ao), .val (.ref b1), .val (.int (2 : Int32))] []))
        refine Go.st (fun _ k => XS.aloadN X126.here hx rfl (hb hby d_print4_23) rfl rfl k) ?_
        show Go p.tables e below _ (T126.setTop (mkF m 24 #[.val (.ref ao), .val (.ref b1), .val (.int (2 : Int32))] [(.ref b1)]))
        refine Go.st (fun _ k => XS.iloadN X126.here hx rfl (hb hby d_print4_24) rfl k) ?_
        show Go p.tables e below _ (T126.setTop (mkF m 25 #[.val (.ref ao), .val (.ref b1), .val (.int (2 : Int32))] [(.int (2 : Int32)), (.ref b1)]))
        refine Go.st (fun _ k => XS.bipush X126.here hx rfl (hb hby d_print4_25) k) ?_
        show Go p.tables e below _ (T126.setTop (mkF m 27 #[.val (.ref ao), .val (.ref b1), .val (.int (2 : Int32))] [(.int (124 : Int32)), (.int (2 : Int32)), (.ref b1)]))
        obtain ⟨cl138, Ar138, q138, S138, M138, H138, G138⟩ := id F129
        have hin138 : ¬ ((2 : Int32) < 0 ∨ cl138.slots.size ≤ ((2 : Int32)).toNatClampNeg) := inb_of S138 ⟨by decide, by decide⟩
        obtain ⟨T138, h138, X138, e138, W138, st138⟩ := stB X126 hx hZ e126 Ar138 (j := (2 : Int32)) hin138 (g := (mkF m 27 #[.val (.ref ao), .val (.ref b1), .val (.int (2 : Int32))] [(.int (124 : Int32)), (.int (2 : Int32)), (.ref b1)])) rfl rfl (hb hby d_print4_27)
        refine Go.st st138 ?_
        have F139 : Arv Z h138 ao kk .byte (4 : Int32) [(.int u0), (.int u1), (.int u2), (.int u3)] (.int (0 : Int32)) := F127.other W138 ne2
        have F140 : Exa Z h138 ao "[B" := F128.wr W138
        have F141 : Arv Z h138 b1 kk .byte (4 : Int32) [(.int u0), (.int (124 : Int32)), (.int (124 : Int32)), (.int u3)] (.int (0 : Int32)) := Arv.set Ar138 q138 S138 M138 H138 G138 (fits_nar_byte _) W138 2 rfl (Nat.le_of_ble_eq_true rfl)
        have F142 : Exa Z h138 b1 "[B" := F130.wr W138
        have K143 : Keep h0 h138 [] := K131.wr W138 (Or.inr sz4)
        have Z144 : n0 ≤ h138.size := Nat.le_trans Z132 (Nat.le_of_eq W138.size.symm)
        have N145 := Fr.snoc X138 N133 ge3
        show Go p.tables e below _ (T138.setTop (mkF m 28 #[.val (.ref ao), .val (.ref b1), .val (.int (2 : Int32))] []))
        refine Go.st (fun _ k => XS.iinc X138.here hx rfl (hb hby d_print4_28) rfl (l' := #[.val (.ref ao), .val (.ref b1), .val (.int ((2 : Int32) + (1 : Int32)))]) rfl k) ?_
        show Go p.tables e below _ (T138.setTop (mkF m 31 #[.val (.ref ao), .val (.ref b1), .val (.int ((2 : Int32) + (1 : Int32)))] []))
        rw [show ((2 : Int32) + (1 : Int32)) = (3 : Int32) from by decide]
        show Go p.tables e below _ (T138.setTop (mkF m 31 #[.val (.ref ao), .val (.ref b1), .val (.int (3 : Int32))] []))
        refine Go.st (fun _ k => XS.goto X138.here hx rfl (pc0 := 31) (pc' := 10) rfl (hb hby d_print4_31) (by decide) (by decide) k) ?_
        show Go p.tables e below _ (T138.setTop (mkF m 10 #[.val (.ref ao), .val (.ref b1), .val (.int (3 : Int32))] []))
        refine Go.st (fun _ k => XS.iloadN X138.here hx rfl (hb hby d_print4_10) rfl k) ?_
        show Go p.tables e below _ (T138.setTop (mkF m 11 #[.val (.ref ao), .val (.ref b1), .val (.int (3 : Int32))] [(.int (3 : Int32))]))
        refine Go.st (fun _ k => XS.aloadN X138.here hx rfl (hb hby d_print4_11) rfl rfl k) ?_
        show Go p.tables e below _ (T138.setTop (mkF m 12 #[.val (.ref ao), .val (.ref b1), .val (.int (3 : Int32))] [(.ref b1), (.int (3 : Int32))]))
        obtain ⟨cl146, Ar146, -, S146, M146, -, -⟩ := id F141
        refine Go.st (fun _ k => X138.arraylength hx (by rw [e138]; exact Ar146.1) (State.isArrayOf_alike hZ.alike Ar146.2.1) (g := (mkF m 12 #[.val (.ref ao), .val (.ref b1), .val (.int (3 : Int32))] [(.ref b1), (.int (3 : Int32))])) rfl rfl (hb hby d_print4_12) _ k) ?_
        rw [len_of S146 M146]
        show Go p.tables e below _ (T138.setTop (mkF m 13 #[.val (.ref ao), .val (.ref b1), .val (.int (3 : Int32))] [(.int (4 : Int32)), (.int (3 : Int32))]))
        have hl147 : (3 : Int32) < (4 : Int32) := by decide
        refine Go.st (fun _ k => XS.icmpNo X138.here hx rfl (hb hby d_print4_13) rfl (Jvm.Free.XT.ii_ge_f hl147) k) ?_
        show Go p.tables e below _ (T138.setTop (mkF m 16 #[.val (.ref ao), .val (.ref b1), .val (.int (3 : Int32))] []))
        refine Go.st (fun _ k => XS.aloadN X138.here hx rfl (hb hby d_print4_16) rfl rfl k) ?_
        show Go p.tables e below _ (T138.setTop (mkF m 17 #[.val (.ref ao), .val (.ref b1), .val (.int (3 : Int32))] [(.ref b1)]))
        refine Go.st (fun _ k => XS.iloadN X138.here hx rfl (hb hby d_print4_17) rfl k) ?_
        show Go p.tables e below _ (T138.setTop (mkF m 18 #[.val (.ref ao), .val (.ref b1), .val (.int (3 : Int32))] [(.int (3 : Int32)), (.ref b1)]))
        obtain ⟨cl148, Ar148, q148, S148, M148, H148, G148⟩ := id F141
        have hin148 : ¬ ((3 : Int32) < 0 ∨ cl148.slots.size ≤ ((3 : Int32)).toNatClampNeg) := inb_of S148 ⟨by decide, by decide⟩
        have hat148 : cl148.slots[((3 : Int32)).toNatClampNeg]? = some (.int u3) := Has.at H148 hin148 (rfl)
        refine Go.st (fun _ k => X138.baloadBytes hx (j := (3 : Int32)) (v := (.int u3)) (by rw [e138]; exact Ar148.1) (State.isArrayOf_alike hZ.alike Ar148.2.1) Ar148.2.2 hin148 hat148 (g := (mkF m 18 #[.val (.ref ao), .val (.ref b1), .val (.int (3 : Int32))] [(.int (3 : Int32)), (.ref b1)])) rfl rfl (hb hby d_print4_18) _ k) ?_
        show Go p.tables e below _ (T138.setTop (mkF m 19 #[.val (.ref ao), .val (.ref b1), .val (.int (3 : Int32))] [(.int u3)]))
        refine Go.st (fun _ k => XS.iconst X138.here hx rfl (hb hby d_print4_19) k) ?_
        show Go p.tables e below _ (T138.setTop (mkF m 20 #[.val (.ref ao), .val (.ref b1), .val (.int (3 : Int32))] [(.int (1 : Int32)), (.int u3)]))
        by_cases hc20_149 : u3 = (1 : Int32)
        · skip
          refine Go.st (fun _ k => XS.icmpNo X138.here hx rfl (hb hby d_print4_20) rfl (Jvm.Free.XT.ii_ne_f hc20_149) k) ?_
          show Go p.tables e below _ (T138.setTop (mkF m 23 #[.val (.ref ao), .val (.ref b1), .val (.int (3 : Int32))] []))
          refine Go.st (fun _ k => XS.aloadN X138.here hx rfl (hb hby d_print4_23) rfl rfl k) ?_
          show Go p.tables e below _ (T138.setTop (mkF m 24 #[.val (.ref ao), .val (.ref b1), .val (.int (3 : Int32))] [(.ref b1)]))
          refine Go.st (fun _ k => XS.iloadN X138.here hx rfl (hb hby d_print4_24) rfl k) ?_
          show Go p.tables e below _ (T138.setTop (mkF m 25 #[.val (.ref ao), .val (.ref b1), .val (.int (3 : Int32))] [(.int (3 : Int32)), (.ref b1)]))
          refine Go.st (fun _ k => XS.bipush X138.here hx rfl (hb hby d_print4_25) k) ?_
          show Go p.tables e below _ (T138.setTop (mkF m 27 #[.val (.ref ao), .val (.ref b1), .val (.int (3 : Int32))] [(.int (124 : Int32)), (.int (3 : Int32)), (.ref b1)]))
          obtain ⟨cl150, Ar150, q150, S150, M150, H150, G150⟩ := id F141
          have hin150 : ¬ ((3 : Int32) < 0 ∨ cl150.slots.size ≤ ((3 : Int32)).toNatClampNeg) := inb_of S150 ⟨by decide, by decide⟩
          obtain ⟨T150, h150, X150, e150, W150, st150⟩ := stB X138 hx hZ e138 Ar150 (j := (3 : Int32)) hin150 (g := (mkF m 27 #[.val (.ref ao), .val (.ref b1), .val (.int (3 : Int32))] [(.int (124 : Int32)), (.int (3 : Int32)), (.ref b1)])) rfl rfl (hb hby d_print4_27)
          refine Go.st st150 ?_
          have F151 : Arv Z h150 ao kk .byte (4 : Int32) [(.int u0), (.int u1), (.int u2), (.int u3)] (.int (0 : Int32)) := F139.other W150 ne2
          have F152 : Exa Z h150 ao "[B" := F140.wr W150
          have F153 : Arv Z h150 b1 kk .byte (4 : Int32) [(.int u0), (.int (124 : Int32)), (.int (124 : Int32)), (.int (124 : Int32))] (.int (0 : Int32)) := Arv.set Ar150 q150 S150 M150 H150 G150 (fits_nar_byte _) W150 3 rfl (Nat.le_of_ble_eq_true rfl)
          have F154 : Exa Z h150 b1 "[B" := F142.wr W150
          have K155 : Keep h0 h150 [] := K143.wr W150 (Or.inr sz4)
          have Z156 : n0 ≤ h150.size := Nat.le_trans Z144 (Nat.le_of_eq W150.size.symm)
          have N157 := Fr.snoc X150 N145 ge3
          show Go p.tables e below _ (T150.setTop (mkF m 28 #[.val (.ref ao), .val (.ref b1), .val (.int (3 : Int32))] []))
          refine Go.st (fun _ k => XS.iinc X150.here hx rfl (hb hby d_print4_28) rfl (l' := #[.val (.ref ao), .val (.ref b1), .val (.int ((3 : Int32) + (1 : Int32)))]) rfl k) ?_
          show Go p.tables e below _ (T150.setTop (mkF m 31 #[.val (.ref ao), .val (.ref b1), .val (.int ((3 : Int32) + (1 : Int32)))] []))
          rw [show ((3 : Int32) + (1 : Int32)) = (4 : Int32) from by decide]
          show Go p.tables e below _ (T150.setTop (mkF m 31 #[.val (.ref ao), .val (.ref b1), .val (.int (4 : Int32))] []))
          refine Go.st (fun _ k => XS.goto X150.here hx rfl (pc0 := 31) (pc' := 10) rfl (hb hby d_print4_31) (by decide) (by decide) k) ?_
          show Go p.tables e below _ (T150.setTop (mkF m 10 #[.val (.ref ao), .val (.ref b1), .val (.int (4 : Int32))] []))
          refine Go.st (fun _ k => XS.iloadN X150.here hx rfl (hb hby d_print4_10) rfl k) ?_
          show Go p.tables e below _ (T150.setTop (mkF m 11 #[.val (.ref ao), .val (.ref b1), .val (.int (4 : Int32))] [(.int (4 : Int32))]))
          refine Go.st (fun _ k => XS.aloadN X150.here hx rfl (hb hby d_print4_11) rfl rfl k) ?_
          show Go p.tables e below _ (T150.setTop (mkF m 12 #[.val (.ref ao), .val (.ref b1), .val (.int (4 : Int32))] [(.ref b1), (.int (4 : Int32))]))
          obtain ⟨cl158, Ar158, -, S158, M158, -, -⟩ := id F153
          refine Go.st (fun _ k => X150.arraylength hx (by rw [e150]; exact Ar158.1) (State.isArrayOf_alike hZ.alike Ar158.2.1) (g := (mkF m 12 #[.val (.ref ao), .val (.ref b1), .val (.int (4 : Int32))] [(.ref b1), (.int (4 : Int32))])) rfl rfl (hb hby d_print4_12) _ k) ?_
          rw [len_of S158 M158]
          show Go p.tables e below _ (T150.setTop (mkF m 13 #[.val (.ref ao), .val (.ref b1), .val (.int (4 : Int32))] [(.int (4 : Int32)), (.int (4 : Int32))]))
          have hl159 : ¬ ((4 : Int32) < (4 : Int32)) := by decide
          refine Go.st (fun _ k => XS.icmpYes X150.here hx rfl (pc0 := 13) (pc' := 34) rfl (hb hby d_print4_13) rfl (Jvm.Free.XT.ii_ge_t hl159) (by decide) (by decide) k) ?_
          show Go p.tables e below _ (T150.setTop (mkF m 34 #[.val (.ref ao), .val (.ref b1), .val (.int (4 : Int32))] []))
          refine Go.st (fun _ k => XS.aloadN X150.here hx rfl (hb hby d_print4_34) rfl rfl k) ?_
          show Go p.tables e below _ (T150.setTop (mkF m 35 #[.val (.ref ao), .val (.ref b1), .val (.int (4 : Int32))] [(.ref b1)]))
          subst hG
          obtain ⟨fs, hr, hrun, hended, hW, hsame⟩ := X150.leave (v := some (.ref b1)) (fun h => by rw [Bd.returns] at h; cases h)
          refine ⟨_, _, ?_, hrun, hended, _, _, rfl, ?_, ⟨_, rfl⟩, hW, hsame.mono (by decide) (by decide)⟩
          · exact retOut X150 hx Bd.returns rfl (Or.inr (Or.inr (Or.inr (Or.inr ⟨rfl, rfl, rfl⟩)))) (hb hby d_print4_35) hr
          · show Q_print4 Z ao kk u0 u1 u2 u3 h0 n0 _ T150.heap _
            rw [e150]
            exact ⟨b1, rfl, N157, K155, ge3, sz4, (by rw [show prF u0 = u0 from by simp [prF, hc20], show prF u1 = (124 : Int32) from by simp [prF, hc20_125], show prF u2 = (124 : Int32) from by simp [prF, hc20_137], show prF u3 = (124 : Int32) from by simp [prF, hc20_149]]; exact F153)⟩
        · skip
          refine Go.st (fun _ k => XS.icmpYes X138.here hx rfl (pc0 := 20) (pc' := 28) rfl (hb hby d_print4_20) rfl (Jvm.Free.XT.ii_ne_t hc20_149) (by decide) (by decide) k) ?_
          show Go p.tables e below _ (T138.setTop (mkF m 28 #[.val (.ref ao), .val (.ref b1), .val (.int (3 : Int32))] []))
          refine Go.st (fun _ k => XS.iinc X138.here hx rfl (hb hby d_print4_28) rfl (l' := #[.val (.ref ao), .val (.ref b1), .val (.int ((3 : Int32) + (1 : Int32)))]) rfl k) ?_
          show Go p.tables e below _ (T138.setTop (mkF m 31 #[.val (.ref ao), .val (.ref b1), .val (.int ((3 : Int32) + (1 : Int32)))] []))
          rw [show ((3 : Int32) + (1 : Int32)) = (4 : Int32) from by decide]
          show Go p.tables e below _ (T138.setTop (mkF m 31 #[.val (.ref ao), .val (.ref b1), .val (.int (4 : Int32))] []))
          refine Go.st (fun _ k => XS.goto X138.here hx rfl (pc0 := 31) (pc' := 10) rfl (hb hby d_print4_31) (by decide) (by decide) k) ?_
          show Go p.tables e below _ (T138.setTop (mkF m 10 #[.val (.ref ao), .val (.ref b1), .val (.int (4 : Int32))] []))
          refine Go.st (fun _ k => XS.iloadN X138.here hx rfl (hb hby d_print4_10) rfl k) ?_
          show Go p.tables e below _ (T138.setTop (mkF m 11 #[.val (.ref ao), .val (.ref b1), .val (.int (4 : Int32))] [(.int (4 : Int32))]))
          refine Go.st (fun _ k => XS.aloadN X138.here hx rfl (hb hby d_print4_11) rfl rfl k) ?_
          show Go p.tables e below _ (T138.setTop (mkF m 12 #[.val (.ref ao), .val (.ref b1), .val (.int (4 : Int32))] [(.ref b1), (.int (4 : Int32))]))
          obtain ⟨cl160, Ar160, -, S160, M160, -, -⟩ := id F141
          refine Go.st (fun _ k => X138.arraylength hx (by rw [e138]; exact Ar160.1) (State.isArrayOf_alike hZ.alike Ar160.2.1) (g := (mkF m 12 #[.val (.ref ao), .val (.ref b1), .val (.int (4 : Int32))] [(.ref b1), (.int (4 : Int32))])) rfl rfl (hb hby d_print4_12) _ k) ?_
          rw [len_of S160 M160]
          show Go p.tables e below _ (T138.setTop (mkF m 13 #[.val (.ref ao), .val (.ref b1), .val (.int (4 : Int32))] [(.int (4 : Int32)), (.int (4 : Int32))]))
          have hl161 : ¬ ((4 : Int32) < (4 : Int32)) := by decide
          refine Go.st (fun _ k => XS.icmpYes X138.here hx rfl (pc0 := 13) (pc' := 34) rfl (hb hby d_print4_13) rfl (Jvm.Free.XT.ii_ge_t hl161) (by decide) (by decide) k) ?_
          show Go p.tables e below _ (T138.setTop (mkF m 34 #[.val (.ref ao), .val (.ref b1), .val (.int (4 : Int32))] []))
          refine Go.st (fun _ k => XS.aloadN X138.here hx rfl (hb hby d_print4_34) rfl rfl k) ?_
          show Go p.tables e below _ (T138.setTop (mkF m 35 #[.val (.ref ao), .val (.ref b1), .val (.int (4 : Int32))] [(.ref b1)]))
          subst hG
          obtain ⟨fs, hr, hrun, hended, hW, hsame⟩ := X138.leave (v := some (.ref b1)) (fun h => by rw [Bd.returns] at h; cases h)
          refine ⟨_, _, ?_, hrun, hended, _, _, rfl, ?_, ⟨_, rfl⟩, hW, hsame.mono (by decide) (by decide)⟩
          · exact retOut X138 hx Bd.returns rfl (Or.inr (Or.inr (Or.inr (Or.inr ⟨rfl, rfl, rfl⟩)))) (hb hby d_print4_35) hr
          · show Q_print4 Z ao kk u0 u1 u2 u3 h0 n0 _ T138.heap _
            rw [e138]
            exact ⟨b1, rfl, N145, K143, ge3, sz4, (by rw [show prF u0 = u0 from by simp [prF, hc20], show prF u1 = (124 : Int32) from by simp [prF, hc20_125], show prF u2 = (124 : Int32) from by simp [prF, hc20_137], show prF u3 = u3 from by simp [prF, hc20_149]]; exact F141)⟩
      · skip
        refine Go.st (fun _ k => XS.icmpYes X126.here hx rfl (pc0 := 20) (pc' := 28) rfl (hb hby d_print4_20) rfl (Jvm.Free.XT.ii_ne_t hc20_137) (by decide) (by decide) k) ?_
        show Go p.tables e below _ (T126.setTop (mkF m 28 #[.val (.ref ao), .val (.ref b1), .val (.int (2 : Int32))] []))
        refine Go.st (fun _ k => XS.iinc X126.here hx rfl (hb hby d_print4_28) rfl (l' := #[.val (.ref ao), .val (.ref b1), .val (.int ((2 : Int32) + (1 : Int32)))]) rfl k) ?_
        show Go p.tables e below _ (T126.setTop (mkF m 31 #[.val (.ref ao), .val (.ref b1), .val (.int ((2 : Int32) + (1 : Int32)))] []))
        rw [show ((2 : Int32) + (1 : Int32)) = (3 : Int32) from by decide]
        show Go p.tables e below _ (T126.setTop (mkF m 31 #[.val (.ref ao), .val (.ref b1), .val (.int (3 : Int32))] []))
        refine Go.st (fun _ k => XS.goto X126.here hx rfl (pc0 := 31) (pc' := 10) rfl (hb hby d_print4_31) (by decide) (by decide) k) ?_
        show Go p.tables e below _ (T126.setTop (mkF m 10 #[.val (.ref ao), .val (.ref b1), .val (.int (3 : Int32))] []))
        refine Go.st (fun _ k => XS.iloadN X126.here hx rfl (hb hby d_print4_10) rfl k) ?_
        show Go p.tables e below _ (T126.setTop (mkF m 11 #[.val (.ref ao), .val (.ref b1), .val (.int (3 : Int32))] [(.int (3 : Int32))]))
        refine Go.st (fun _ k => XS.aloadN X126.here hx rfl (hb hby d_print4_11) rfl rfl k) ?_
        show Go p.tables e below _ (T126.setTop (mkF m 12 #[.val (.ref ao), .val (.ref b1), .val (.int (3 : Int32))] [(.ref b1), (.int (3 : Int32))]))
        obtain ⟨cl162, Ar162, -, S162, M162, -, -⟩ := id F129
        refine Go.st (fun _ k => X126.arraylength hx (by rw [e126]; exact Ar162.1) (State.isArrayOf_alike hZ.alike Ar162.2.1) (g := (mkF m 12 #[.val (.ref ao), .val (.ref b1), .val (.int (3 : Int32))] [(.ref b1), (.int (3 : Int32))])) rfl rfl (hb hby d_print4_12) _ k) ?_
        rw [len_of S162 M162]
        show Go p.tables e below _ (T126.setTop (mkF m 13 #[.val (.ref ao), .val (.ref b1), .val (.int (3 : Int32))] [(.int (4 : Int32)), (.int (3 : Int32))]))
        have hl163 : (3 : Int32) < (4 : Int32) := by decide
        refine Go.st (fun _ k => XS.icmpNo X126.here hx rfl (hb hby d_print4_13) rfl (Jvm.Free.XT.ii_ge_f hl163) k) ?_
        show Go p.tables e below _ (T126.setTop (mkF m 16 #[.val (.ref ao), .val (.ref b1), .val (.int (3 : Int32))] []))
        refine Go.st (fun _ k => XS.aloadN X126.here hx rfl (hb hby d_print4_16) rfl rfl k) ?_
        show Go p.tables e below _ (T126.setTop (mkF m 17 #[.val (.ref ao), .val (.ref b1), .val (.int (3 : Int32))] [(.ref b1)]))
        refine Go.st (fun _ k => XS.iloadN X126.here hx rfl (hb hby d_print4_17) rfl k) ?_
        show Go p.tables e below _ (T126.setTop (mkF m 18 #[.val (.ref ao), .val (.ref b1), .val (.int (3 : Int32))] [(.int (3 : Int32)), (.ref b1)]))
        obtain ⟨cl164, Ar164, q164, S164, M164, H164, G164⟩ := id F129
        have hin164 : ¬ ((3 : Int32) < 0 ∨ cl164.slots.size ≤ ((3 : Int32)).toNatClampNeg) := inb_of S164 ⟨by decide, by decide⟩
        have hat164 : cl164.slots[((3 : Int32)).toNatClampNeg]? = some (.int u3) := Has.at H164 hin164 (rfl)
        refine Go.st (fun _ k => X126.baloadBytes hx (j := (3 : Int32)) (v := (.int u3)) (by rw [e126]; exact Ar164.1) (State.isArrayOf_alike hZ.alike Ar164.2.1) Ar164.2.2 hin164 hat164 (g := (mkF m 18 #[.val (.ref ao), .val (.ref b1), .val (.int (3 : Int32))] [(.int (3 : Int32)), (.ref b1)])) rfl rfl (hb hby d_print4_18) _ k) ?_
        show Go p.tables e below _ (T126.setTop (mkF m 19 #[.val (.ref ao), .val (.ref b1), .val (.int (3 : Int32))] [(.int u3)]))
        refine Go.st (fun _ k => XS.iconst X126.here hx rfl (hb hby d_print4_19) k) ?_
        show Go p.tables e below _ (T126.setTop (mkF m 20 #[.val (.ref ao), .val (.ref b1), .val (.int (3 : Int32))] [(.int (1 : Int32)), (.int u3)]))
        by_cases hc20_165 : u3 = (1 : Int32)
        · skip
          refine Go.st (fun _ k => XS.icmpNo X126.here hx rfl (hb hby d_print4_20) rfl (Jvm.Free.XT.ii_ne_f hc20_165) k) ?_
          show Go p.tables e below _ (T126.setTop (mkF m 23 #[.val (.ref ao), .val (.ref b1), .val (.int (3 : Int32))] []))
          refine Go.st (fun _ k => XS.aloadN X126.here hx rfl (hb hby d_print4_23) rfl rfl k) ?_
          show Go p.tables e below _ (T126.setTop (mkF m 24 #[.val (.ref ao), .val (.ref b1), .val (.int (3 : Int32))] [(.ref b1)]))
          refine Go.st (fun _ k => XS.iloadN X126.here hx rfl (hb hby d_print4_24) rfl k) ?_
          show Go p.tables e below _ (T126.setTop (mkF m 25 #[.val (.ref ao), .val (.ref b1), .val (.int (3 : Int32))] [(.int (3 : Int32)), (.ref b1)]))
          refine Go.st (fun _ k => XS.bipush X126.here hx rfl (hb hby d_print4_25) k) ?_
          show Go p.tables e below _ (T126.setTop (mkF m 27 #[.val (.ref ao), .val (.ref b1), .val (.int (3 : Int32))] [(.int (124 : Int32)), (.int (3 : Int32)), (.ref b1)]))
          obtain ⟨cl166, Ar166, q166, S166, M166, H166, G166⟩ := id F129
          have hin166 : ¬ ((3 : Int32) < 0 ∨ cl166.slots.size ≤ ((3 : Int32)).toNatClampNeg) := inb_of S166 ⟨by decide, by decide⟩
          obtain ⟨T166, h166, X166, e166, W166, st166⟩ := stB X126 hx hZ e126 Ar166 (j := (3 : Int32)) hin166 (g := (mkF m 27 #[.val (.ref ao), .val (.ref b1), .val (.int (3 : Int32))] [(.int (124 : Int32)), (.int (3 : Int32)), (.ref b1)])) rfl rfl (hb hby d_print4_27)
          refine Go.st st166 ?_
          have F167 : Arv Z h166 ao kk .byte (4 : Int32) [(.int u0), (.int u1), (.int u2), (.int u3)] (.int (0 : Int32)) := F127.other W166 ne2
          have F168 : Exa Z h166 ao "[B" := F128.wr W166
          have F169 : Arv Z h166 b1 kk .byte (4 : Int32) [(.int u0), (.int (124 : Int32)), (.int u2), (.int (124 : Int32))] (.int (0 : Int32)) := Arv.set Ar166 q166 S166 M166 H166 G166 (fits_nar_byte _) W166 3 rfl (Nat.le_of_ble_eq_true rfl)
          have F170 : Exa Z h166 b1 "[B" := F130.wr W166
          have K171 : Keep h0 h166 [] := K131.wr W166 (Or.inr sz4)
          have Z172 : n0 ≤ h166.size := Nat.le_trans Z132 (Nat.le_of_eq W166.size.symm)
          have N173 := Fr.snoc X166 N133 ge3
          show Go p.tables e below _ (T166.setTop (mkF m 28 #[.val (.ref ao), .val (.ref b1), .val (.int (3 : Int32))] []))
          refine Go.st (fun _ k => XS.iinc X166.here hx rfl (hb hby d_print4_28) rfl (l' := #[.val (.ref ao), .val (.ref b1), .val (.int ((3 : Int32) + (1 : Int32)))]) rfl k) ?_
          show Go p.tables e below _ (T166.setTop (mkF m 31 #[.val (.ref ao), .val (.ref b1), .val (.int ((3 : Int32) + (1 : Int32)))] []))
          rw [show ((3 : Int32) + (1 : Int32)) = (4 : Int32) from by decide]
          show Go p.tables e below _ (T166.setTop (mkF m 31 #[.val (.ref ao), .val (.ref b1), .val (.int (4 : Int32))] []))
          refine Go.st (fun _ k => XS.goto X166.here hx rfl (pc0 := 31) (pc' := 10) rfl (hb hby d_print4_31) (by decide) (by decide) k) ?_
          show Go p.tables e below _ (T166.setTop (mkF m 10 #[.val (.ref ao), .val (.ref b1), .val (.int (4 : Int32))] []))
          refine Go.st (fun _ k => XS.iloadN X166.here hx rfl (hb hby d_print4_10) rfl k) ?_
          show Go p.tables e below _ (T166.setTop (mkF m 11 #[.val (.ref ao), .val (.ref b1), .val (.int (4 : Int32))] [(.int (4 : Int32))]))
          refine Go.st (fun _ k => XS.aloadN X166.here hx rfl (hb hby d_print4_11) rfl rfl k) ?_
          show Go p.tables e below _ (T166.setTop (mkF m 12 #[.val (.ref ao), .val (.ref b1), .val (.int (4 : Int32))] [(.ref b1), (.int (4 : Int32))]))
          obtain ⟨cl174, Ar174, -, S174, M174, -, -⟩ := id F169
          refine Go.st (fun _ k => X166.arraylength hx (by rw [e166]; exact Ar174.1) (State.isArrayOf_alike hZ.alike Ar174.2.1) (g := (mkF m 12 #[.val (.ref ao), .val (.ref b1), .val (.int (4 : Int32))] [(.ref b1), (.int (4 : Int32))])) rfl rfl (hb hby d_print4_12) _ k) ?_
          rw [len_of S174 M174]
          show Go p.tables e below _ (T166.setTop (mkF m 13 #[.val (.ref ao), .val (.ref b1), .val (.int (4 : Int32))] [(.int (4 : Int32)), (.int (4 : Int32))]))
          have hl175 : ¬ ((4 : Int32) < (4 : Int32)) := by decide
          refine Go.st (fun _ k => XS.icmpYes X166.here hx rfl (pc0 := 13) (pc' := 34) rfl (hb hby d_print4_13) rfl (Jvm.Free.XT.ii_ge_t hl175) (by decide) (by decide) k) ?_
          show Go p.tables e below _ (T166.setTop (mkF m 34 #[.val (.ref ao), .val (.ref b1), .val (.int (4 : Int32))] []))
          refine Go.st (fun _ k => XS.aloadN X166.here hx rfl (hb hby d_print4_34) rfl rfl k) ?_
          show Go p.tables e below _ (T166.setTop (mkF m 35 #[.val (.ref ao), .val (.ref b1), .val (.int (4 : Int32))] [(.ref b1)]))
          subst hG
          obtain ⟨fs, hr, hrun, hended, hW, hsame⟩ := X166.leave (v := some (.ref b1)) (fun h => by rw [Bd.returns] at h; cases h)
          refine ⟨_, _, ?_, hrun, hended, _, _, rfl, ?_, ⟨_, rfl⟩, hW, hsame.mono (by decide) (by decide)⟩
          · exact retOut X166 hx Bd.returns rfl (Or.inr (Or.inr (Or.inr (Or.inr ⟨rfl, rfl, rfl⟩)))) (hb hby d_print4_35) hr
          · show Q_print4 Z ao kk u0 u1 u2 u3 h0 n0 _ T166.heap _
            rw [e166]
            exact ⟨b1, rfl, N173, K171, ge3, sz4, (by rw [show prF u0 = u0 from by simp [prF, hc20], show prF u1 = (124 : Int32) from by simp [prF, hc20_125], show prF u2 = u2 from by simp [prF, hc20_137], show prF u3 = (124 : Int32) from by simp [prF, hc20_165]]; exact F169)⟩
        · skip
          refine Go.st (fun _ k => XS.icmpYes X126.here hx rfl (pc0 := 20) (pc' := 28) rfl (hb hby d_print4_20) rfl (Jvm.Free.XT.ii_ne_t hc20_165) (by decide) (by decide) k) ?_
          show Go p.tables e below _ (T126.setTop (mkF m 28 #[.val (.ref ao), .val (.ref b1), .val (.int (3 : Int32))] []))
          refine Go.st (fun _ k => XS.iinc X126.here hx rfl (hb hby d_print4_28) rfl (l' := #[.val (.ref ao), .val (.ref b1), .val (.int ((3 : Int32) + (1 : Int32)))]) rfl k) ?_
          show Go p.tables e below _ (T126.setTop (mkF m 31 #[.val (.ref ao), .val (.ref b1), .val (.int ((3 : Int32) + (1 : Int32)))] []))
          rw [show ((3 : Int32) + (1 : Int32)) = (4 : Int32) from by decide]
          show Go p.tables e below _ (T126.setTop (mkF m 31 #[.val (.ref ao), .val (.ref b1), .val (.int (4 : Int32))] []))
          refine Go.st (fun _ k => XS.goto X126.here hx rfl (pc0 := 31) (pc' := 10) rfl (hb hby d_print4_31) (by decide) (by decide) k) ?_
          show Go p.tables e below _ (T126.setTop (mkF m 10 #[.val (.ref ao), .val (.ref b1), .val (.int (4 : Int32))] []))
          refine Go.st (fun _ k => XS.iloadN X126.here hx rfl (hb hby d_print4_10) rfl k) ?_
          show Go p.tables e below _ (T126.setTop (mkF m 11 #[.val (.ref ao), .val (.ref b1), .val (.int (4 : Int32))] [(.int (4 : Int32))]))
          refine Go.st (fun _ k => XS.aloadN X126.here hx rfl (hb hby d_print4_11) rfl rfl k) ?_
          show Go p.tables e below _ (T126.setTop (mkF m 12 #[.val (.ref ao), .val (.ref b1), .val (.int (4 : Int32))] [(.ref b1), (.int (4 : Int32))]))
          obtain ⟨cl176, Ar176, -, S176, M176, -, -⟩ := id F129
          refine Go.st (fun _ k => X126.arraylength hx (by rw [e126]; exact Ar176.1) (State.isArrayOf_alike hZ.alike Ar176.2.1) (g := (mkF m 12 #[.val (.ref ao), .val (.ref b1), .val (.int (4 : Int32))] [(.ref b1), (.int (4 : Int32))])) rfl rfl (hb hby d_print4_12) _ k) ?_
          rw [len_of S176 M176]
          show Go p.tables e below _ (T126.setTop (mkF m 13 #[.val (.ref ao), .val (.ref b1), .val (.int (4 : Int32))] [(.int (4 : Int32)), (.int (4 : Int32))]))
          have hl177 : ¬ ((4 : Int32) < (4 : Int32)) := by decide
          refine Go.st (fun _ k => XS.icmpYes X126.here hx rfl (pc0 := 13) (pc' := 34) rfl (hb hby d_print4_13) rfl (Jvm.Free.XT.ii_ge_t hl177) (by decide) (by decide) k) ?_
          show Go p.tables e below _ (T126.setTop (mkF m 34 #[.val (.ref ao), .val (.ref b1), .val (.int (4 : Int32))] []))
          refine Go.st (fun _ k => XS.aloadN X126.here hx rfl (hb hby d_print4_34) rfl rfl k) ?_
          show Go p.tables e below _ (T126.setTop (mkF m 35 #[.val (.ref ao), .val (.ref b1), .val (.int (4 : Int32))] [(.ref b1)]))
          subst hG
          obtain ⟨fs, hr, hrun, hended, hW, hsame⟩ := X126.leave (v := some (.ref b1)) (fun h => by rw [Bd.returns] at h; cases h)
          refine ⟨_, _, ?_, hrun, hended, _, _, rfl, ?_, ⟨_, rfl⟩, hW, hsame.mono (by decide) (by decide)⟩
          · exact retOut X126 hx Bd.returns rfl (Or.inr (Or.inr (Or.inr (Or.inr ⟨rfl, rfl, rfl⟩)))) (hb hby d_print4_35) hr
          · show Q_print4 Z ao kk u0 u1 u2 u3 h0 n0 _ T126.heap _
            rw [e126]
            exact ⟨b1, rfl, N133, K131, ge3, sz4, (by rw [show prF u0 = u0 from by simp [prF, hc20], show prF u1 = (124 : Int32) from by simp [prF, hc20_125], show prF u2 = u2 from by simp [prF, hc20_137], show prF u3 = u3 from by simp [prF, hc20_165]]; exact F129)⟩
    · skip
      refine Go.st (fun _ k => XS.icmpYes X10.here hx rfl (pc0 := 20) (pc' := 28) rfl (hb hby d_print4_20) rfl (Jvm.Free.XT.ii_ne_t hc20_125) (by decide) (by decide) k) ?_
      show Go p.tables e below _ (T10.setTop (mkF m 28 #[.val (.ref ao), .val (.ref b1), .val (.int (1 : Int32))] []))
      refine Go.st (fun _ k => XS.iinc X10.here hx rfl (hb hby d_print4_28) rfl (l' := #[.val (.ref ao), .val (.ref b1), .val (.int ((1 : Int32) + (1 : Int32)))]) rfl k) ?_
      show Go p.tables e below _ (T10.setTop (mkF m 31 #[.val (.ref ao), .val (.ref b1), .val (.int ((1 : Int32) + (1 : Int32)))] []))
      rw [show ((1 : Int32) + (1 : Int32)) = (2 : Int32) from by decide]
      show Go p.tables e below _ (T10.setTop (mkF m 31 #[.val (.ref ao), .val (.ref b1), .val (.int (2 : Int32))] []))
      refine Go.st (fun _ k => XS.goto X10.here hx rfl (pc0 := 31) (pc' := 10) rfl (hb hby d_print4_31) (by decide) (by decide) k) ?_
      show Go p.tables e below _ (T10.setTop (mkF m 10 #[.val (.ref ao), .val (.ref b1), .val (.int (2 : Int32))] []))
      refine Go.st (fun _ k => XS.iloadN X10.here hx rfl (hb hby d_print4_10) rfl k) ?_
      show Go p.tables e below _ (T10.setTop (mkF m 11 #[.val (.ref ao), .val (.ref b1), .val (.int (2 : Int32))] [(.int (2 : Int32))]))
      refine Go.st (fun _ k => XS.aloadN X10.here hx rfl (hb hby d_print4_11) rfl rfl k) ?_
      show Go p.tables e below _ (T10.setTop (mkF m 12 #[.val (.ref ao), .val (.ref b1), .val (.int (2 : Int32))] [(.ref b1), (.int (2 : Int32))]))
      obtain ⟨cl178, Ar178, -, S178, M178, -, -⟩ := id F9
      refine Go.st (fun _ k => X10.arraylength hx (by rw [e10]; exact Ar178.1) (State.isArrayOf_alike hZ.alike Ar178.2.1) (g := (mkF m 12 #[.val (.ref ao), .val (.ref b1), .val (.int (2 : Int32))] [(.ref b1), (.int (2 : Int32))])) rfl rfl (hb hby d_print4_12) _ k) ?_
      rw [len_of S178 M178]
      show Go p.tables e below _ (T10.setTop (mkF m 13 #[.val (.ref ao), .val (.ref b1), .val (.int (2 : Int32))] [(.int (4 : Int32)), (.int (2 : Int32))]))
      have hl179 : (2 : Int32) < (4 : Int32) := by decide
      refine Go.st (fun _ k => XS.icmpNo X10.here hx rfl (hb hby d_print4_13) rfl (Jvm.Free.XT.ii_ge_f hl179) k) ?_
      show Go p.tables e below _ (T10.setTop (mkF m 16 #[.val (.ref ao), .val (.ref b1), .val (.int (2 : Int32))] []))
      refine Go.st (fun _ k => XS.aloadN X10.here hx rfl (hb hby d_print4_16) rfl rfl k) ?_
      show Go p.tables e below _ (T10.setTop (mkF m 17 #[.val (.ref ao), .val (.ref b1), .val (.int (2 : Int32))] [(.ref b1)]))
      refine Go.st (fun _ k => XS.iloadN X10.here hx rfl (hb hby d_print4_17) rfl k) ?_
      show Go p.tables e below _ (T10.setTop (mkF m 18 #[.val (.ref ao), .val (.ref b1), .val (.int (2 : Int32))] [(.int (2 : Int32)), (.ref b1)]))
      obtain ⟨cl180, Ar180, q180, S180, M180, H180, G180⟩ := id F9
      have hin180 : ¬ ((2 : Int32) < 0 ∨ cl180.slots.size ≤ ((2 : Int32)).toNatClampNeg) := inb_of S180 ⟨by decide, by decide⟩
      have hat180 : cl180.slots[((2 : Int32)).toNatClampNeg]? = some (.int u2) := Has.at H180 hin180 (rfl)
      refine Go.st (fun _ k => X10.baloadBytes hx (j := (2 : Int32)) (v := (.int u2)) (by rw [e10]; exact Ar180.1) (State.isArrayOf_alike hZ.alike Ar180.2.1) Ar180.2.2 hin180 hat180 (g := (mkF m 18 #[.val (.ref ao), .val (.ref b1), .val (.int (2 : Int32))] [(.int (2 : Int32)), (.ref b1)])) rfl rfl (hb hby d_print4_18) _ k) ?_
      show Go p.tables e below _ (T10.setTop (mkF m 19 #[.val (.ref ao), .val (.ref b1), .val (.int (2 : Int32))] [(.int u2)]))
      refine Go.st (fun _ k => XS.iconst X10.here hx rfl (hb hby d_print4_19) k) ?_
      show Go p.tables e below _ (T10.setTop (mkF m 20 #[.val (.ref ao), .val (.ref b1), .val (.int (2 : Int32))] [(.int (1 : Int32)), (.int u2)]))
      by_cases hc20_181 : u2 = (1 : Int32)
      · skip
        refine Go.st (fun _ k => XS.icmpNo X10.here hx rfl (hb hby d_print4_20) rfl (Jvm.Free.XT.ii_ne_f hc20_181) k) ?_
        show Go p.tables e below _ (T10.setTop (mkF m 23 #[.val (.ref ao), .val (.ref b1), .val (.int (2 : Int32))] []))
        refine Go.st (fun _ k => XS.aloadN X10.here hx rfl (hb hby d_print4_23) rfl rfl k) ?_
        show Go p.tables e below _ (T10.setTop (mkF m 24 #[.val (.ref ao), .val (.ref b1), .val (.int (2 : Int32))] [(.ref b1)]))
        refine Go.st (fun _ k => XS.iloadN X10.here hx rfl (hb hby d_print4_24) rfl k) ?_
        show Go p.tables e below _ (T10.setTop (mkF m 25 #[.val (.ref ao), .val (.ref b1), .val (.int (2 : Int32))] [(.int (2 : Int32)), (.ref b1)]))
        refine Go.st (fun _ k => XS.bipush X10.here hx rfl (hb hby d_print4_25) k) ?_
        show Go p.tables e below _ (T10.setTop (mkF m 27 #[.val (.ref ao), .val (.ref b1), .val (.int (2 : Int32))] [(.int (124 : Int32)), (.int (2 : Int32)), (.ref b1)]))
        obtain ⟨cl182, Ar182, q182, S182, M182, H182, G182⟩ := id F9
        have hin182 : ¬ ((2 : Int32) < 0 ∨ cl182.slots.size ≤ ((2 : Int32)).toNatClampNeg) := inb_of S182 ⟨by decide, by decide⟩
        obtain ⟨T182, h182, X182, e182, W182, st182⟩ := stB X10 hx hZ e10 Ar182 (j := (2 : Int32)) hin182 (g := (mkF m 27 #[.val (.ref ao), .val (.ref b1), .val (.int (2 : Int32))] [(.int (124 : Int32)), (.int (2 : Int32)), (.ref b1)])) rfl rfl (hb hby d_print4_27)
        refine Go.st st182 ?_
        have F183 : Arv Z h182 ao kk .byte (4 : Int32) [(.int u0), (.int u1), (.int u2), (.int u3)] (.int (0 : Int32)) := F7.other W182 ne2
        have F184 : Exa Z h182 ao "[B" := F8.wr W182
        have F185 : Arv Z h182 b1 kk .byte (4 : Int32) [(.int u0), (.int u1), (.int (124 : Int32)), (.int u3)] (.int (0 : Int32)) := Arv.set Ar182 q182 S182 M182 H182 G182 (fits_nar_byte _) W182 2 rfl (Nat.le_of_ble_eq_true rfl)
        have F186 : Exa Z h182 b1 "[B" := C1.wr W182
        have K187 : Keep h0 h182 [] := K6.wr W182 (Or.inr sz4)
        have Z188 : n0 ≤ h182.size := Nat.le_trans Z5 (Nat.le_of_eq W182.size.symm)
        have N189 := Fr.snoc X182 N0 ge3
        show Go p.tables e below _ (T182.setTop (mkF m 28 #[.val (.ref ao), .val (.ref b1), .val (.int (2 : Int32))] []))
        refine Go.st (fun _ k => XS.iinc X182.here hx rfl (hb hby d_print4_28) rfl (l' := #[.val (.ref ao), .val (.ref b1), .val (.int ((2 : Int32) + (1 : Int32)))]) rfl k) ?_
        show Go p.tables e below _ (T182.setTop (mkF m 31 #[.val (.ref ao), .val (.ref b1), .val (.int ((2 : Int32) + (1 : Int32)))] []))
        rw [show ((2 : Int32) + (1 : Int32)) = (3 : Int32) from by decide]
        show Go p.tables e below _ (T182.setTop (mkF m 31 #[.val (.ref ao), .val (.ref b1), .val (.int (3 : Int32))] []))
        refine Go.st (fun _ k => XS.goto X182.here hx rfl (pc0 := 31) (pc' := 10) rfl (hb hby d_print4_31) (by decide) (by decide) k) ?_
        show Go p.tables e below _ (T182.setTop (mkF m 10 #[.val (.ref ao), .val (.ref b1), .val (.int (3 : Int32))] []))
        refine Go.st (fun _ k => XS.iloadN X182.here hx rfl (hb hby d_print4_10) rfl k) ?_
        show Go p.tables e below _ (T182.setTop (mkF m 11 #[.val (.ref ao), .val (.ref b1), .val (.int (3 : Int32))] [(.int (3 : Int32))]))
        refine Go.st (fun _ k => XS.aloadN X182.here hx rfl (hb hby d_print4_11) rfl rfl k) ?_
        show Go p.tables e below _ (T182.setTop (mkF m 12 #[.val (.ref ao), .val (.ref b1), .val (.int (3 : Int32))] [(.ref b1), (.int (3 : Int32))]))
        obtain ⟨cl190, Ar190, -, S190, M190, -, -⟩ := id F185
        refine Go.st (fun _ k => X182.arraylength hx (by rw [e182]; exact Ar190.1) (State.isArrayOf_alike hZ.alike Ar190.2.1) (g := (mkF m 12 #[.val (.ref ao), .val (.ref b1), .val (.int (3 : Int32))] [(.ref b1), (.int (3 : Int32))])) rfl rfl (hb hby d_print4_12) _ k) ?_
        rw [len_of S190 M190]
        show Go p.tables e below _ (T182.setTop (mkF m 13 #[.val (.ref ao), .val (.ref b1), .val (.int (3 : Int32))] [(.int (4 : Int32)), (.int (3 : Int32))]))
        have hl191 : (3 : Int32) < (4 : Int32) := by decide
        refine Go.st (fun _ k => XS.icmpNo X182.here hx rfl (hb hby d_print4_13) rfl (Jvm.Free.XT.ii_ge_f hl191) k) ?_
        show Go p.tables e below _ (T182.setTop (mkF m 16 #[.val (.ref ao), .val (.ref b1), .val (.int (3 : Int32))] []))
        refine Go.st (fun _ k => XS.aloadN X182.here hx rfl (hb hby d_print4_16) rfl rfl k) ?_
        show Go p.tables e below _ (T182.setTop (mkF m 17 #[.val (.ref ao), .val (.ref b1), .val (.int (3 : Int32))] [(.ref b1)]))
        refine Go.st (fun _ k => XS.iloadN X182.here hx rfl (hb hby d_print4_17) rfl k) ?_
        show Go p.tables e below _ (T182.setTop (mkF m 18 #[.val (.ref ao), .val (.ref b1), .val (.int (3 : Int32))] [(.int (3 : Int32)), (.ref b1)]))
        obtain ⟨cl192, Ar192, q192, S192, M192, H192, G192⟩ := id F185
        have hin192 : ¬ ((3 : Int32) < 0 ∨ cl192.slots.size ≤ ((3 : Int32)).toNatClampNeg) := inb_of S192 ⟨by decide, by decide⟩
        have hat192 : cl192.slots[((3 : Int32)).toNatClampNeg]? = some (.int u3) := Has.at H192 hin192 (rfl)
        refine Go.st (fun _ k => X182.baloadBytes hx (j := (3 : Int32)) (v := (.int u3)) (by rw [e182]; exact Ar192.1) (State.isArrayOf_alike hZ.alike Ar192.2.1) Ar192.2.2 hin192 hat192 (g := (mkF m 18 #[.val (.ref ao), .val (.ref b1), .val (.int (3 : Int32))] [(.int (3 : Int32)), (.ref b1)])) rfl rfl (hb hby d_print4_18) _ k) ?_
        show Go p.tables e below _ (T182.setTop (mkF m 19 #[.val (.ref ao), .val (.ref b1), .val (.int (3 : Int32))] [(.int u3)]))
        refine Go.st (fun _ k => XS.iconst X182.here hx rfl (hb hby d_print4_19) k) ?_
        show Go p.tables e below _ (T182.setTop (mkF m 20 #[.val (.ref ao), .val (.ref b1), .val (.int (3 : Int32))] [(.int (1 : Int32)), (.int u3)]))
        by_cases hc20_193 : u3 = (1 : Int32)
        · skip
          refine Go.st (fun _ k => XS.icmpNo X182.here hx rfl (hb hby d_print4_20) rfl (Jvm.Free.XT.ii_ne_f hc20_193) k) ?_
          show Go p.tables e below _ (T182.setTop (mkF m 23 #[.val (.ref ao), .val (.ref b1), .val (.int (3 : Int32))] []))
          refine Go.st (fun _ k => XS.aloadN X182.here hx rfl (hb hby d_print4_23) rfl rfl k) ?_
          show Go p.tables e below _ (T182.setTop (mkF m 24 #[.val (.ref ao), .val (.ref b1), .val (.int (3 : Int32))] [(.ref b1)]))
          refine Go.st (fun _ k => XS.iloadN X182.here hx rfl (hb hby d_print4_24) rfl k) ?_
          show Go p.tables e below _ (T182.setTop (mkF m 25 #[.val (.ref ao), .val (.ref b1), .val (.int (3 : Int32))] [(.int (3 : Int32)), (.ref b1)]))
          refine Go.st (fun _ k => XS.bipush X182.here hx rfl (hb hby d_print4_25) k) ?_
          show Go p.tables e below _ (T182.setTop (mkF m 27 #[.val (.ref ao), .val (.ref b1), .val (.int (3 : Int32))] [(.int (124 : Int32)), (.int (3 : Int32)), (.ref b1)]))
          obtain ⟨cl194, Ar194, q194, S194, M194, H194, G194⟩ := id F185
          have hin194 : ¬ ((3 : Int32) < 0 ∨ cl194.slots.size ≤ ((3 : Int32)).toNatClampNeg) := inb_of S194 ⟨by decide, by decide⟩
          obtain ⟨T194, h194, X194, e194, W194, st194⟩ := stB X182 hx hZ e182 Ar194 (j := (3 : Int32)) hin194 (g := (mkF m 27 #[.val (.ref ao), .val (.ref b1), .val (.int (3 : Int32))] [(.int (124 : Int32)), (.int (3 : Int32)), (.ref b1)])) rfl rfl (hb hby d_print4_27)
          refine Go.st st194 ?_
          have F195 : Arv Z h194 ao kk .byte (4 : Int32) [(.int u0), (.int u1), (.int u2), (.int u3)] (.int (0 : Int32)) := F183.other W194 ne2
          have F196 : Exa Z h194 ao "[B" := F184.wr W194
          have F197 : Arv Z h194 b1 kk .byte (4 : Int32) [(.int u0), (.int u1), (.int (124 : Int32)), (.int (124 : Int32))] (.int (0 : Int32)) := Arv.set Ar194 q194 S194 M194 H194 G194 (fits_nar_byte _) W194 3 rfl (Nat.le_of_ble_eq_true rfl)
          have F198 : Exa Z h194 b1 "[B" := F186.wr W194
          have K199 : Keep h0 h194 [] := K187.wr W194 (Or.inr sz4)
          have Z200 : n0 ≤ h194.size := Nat.le_trans Z188 (Nat.le_of_eq W194.size.symm)
          have N201 := Fr.snoc X194 N189 ge3
          show Go p.tables e below _ (T194.setTop (mkF m 28 #[.val (.ref ao), .val (.ref b1), .val (.int (3 : Int32))] []))
          refine Go.st (fun _ k => XS.iinc X194.here hx rfl (hb hby d_print4_28) rfl (l' := #[.val (.ref ao), .val (.ref b1), .val (.int ((3 : Int32) + (1 : Int32)))]) rfl k) ?_
          show Go p.tables e below _ (T194.setTop (mkF m 31 #[.val (.ref ao), .val (.ref b1), .val (.int ((3 : Int32) + (1 : Int32)))] []))
          rw [show ((3 : Int32) + (1 : Int32)) = (4 : Int32) from by decide]
          show Go p.tables e below _ (T194.setTop (mkF m 31 #[.val (.ref ao), .val (.ref b1), .val (.int (4 : Int32))] []))
          refine Go.st (fun _ k => XS.goto X194.here hx rfl (pc0 := 31) (pc' := 10) rfl (hb hby d_print4_31) (by decide) (by decide) k) ?_
          show Go p.tables e below _ (T194.setTop (mkF m 10 #[.val (.ref ao), .val (.ref b1), .val (.int (4 : Int32))] []))
          refine Go.st (fun _ k => XS.iloadN X194.here hx rfl (hb hby d_print4_10) rfl k) ?_
          show Go p.tables e below _ (T194.setTop (mkF m 11 #[.val (.ref ao), .val (.ref b1), .val (.int (4 : Int32))] [(.int (4 : Int32))]))
          refine Go.st (fun _ k => XS.aloadN X194.here hx rfl (hb hby d_print4_11) rfl rfl k) ?_
          show Go p.tables e below _ (T194.setTop (mkF m 12 #[.val (.ref ao), .val (.ref b1), .val (.int (4 : Int32))] [(.ref b1), (.int (4 : Int32))]))
          obtain ⟨cl202, Ar202, -, S202, M202, -, -⟩ := id F197
          refine Go.st (fun _ k => X194.arraylength hx (by rw [e194]; exact Ar202.1) (State.isArrayOf_alike hZ.alike Ar202.2.1) (g := (mkF m 12 #[.val (.ref ao), .val (.ref b1), .val (.int (4 : Int32))] [(.ref b1), (.int (4 : Int32))])) rfl rfl (hb hby d_print4_12) _ k) ?_
          rw [len_of S202 M202]
          show Go p.tables e below _ (T194.setTop (mkF m 13 #[.val (.ref ao), .val (.ref b1), .val (.int (4 : Int32))] [(.int (4 : Int32)), (.int (4 : Int32))]))
          have hl203 : ¬ ((4 : Int32) < (4 : Int32)) := by decide
          refine Go.st (fun _ k => XS.icmpYes X194.here hx rfl (pc0 := 13) (pc' := 34) rfl (hb hby d_print4_13) rfl (Jvm.Free.XT.ii_ge_t hl203) (by decide) (by decide) k) ?_
          show Go p.tables e below _ (T194.setTop (mkF m 34 #[.val (.ref ao), .val (.ref b1), .val (.int (4 : Int32))] []))
          refine Go.st (fun _ k => XS.aloadN X194.here hx rfl (hb hby d_print4_34) rfl rfl k) ?_
          show Go p.tables e below _ (T194.setTop (mkF m 35 #[.val (.ref ao), .val (.ref b1), .val (.int (4 : Int32))] [(.ref b1)]))
          subst hG
          obtain ⟨fs, hr, hrun, hended, hW, hsame⟩ := X194.leave (v := some (.ref b1)) (fun h => by rw [Bd.returns] at h; cases h)
          refine ⟨_, _, ?_, hrun, hended, _, _, rfl, ?_, ⟨_, rfl⟩, hW, hsame.mono (by decide) (by decide)⟩
          · exact retOut X194 hx Bd.returns rfl (Or.inr (Or.inr (Or.inr (Or.inr ⟨rfl, rfl, rfl⟩)))) (hb hby d_print4_35) hr
          · show Q_print4 Z ao kk u0 u1 u2 u3 h0 n0 _ T194.heap _
            rw [e194]
            exact ⟨b1, rfl, N201, K199, ge3, sz4, (by rw [show prF u0 = u0 from by simp [prF, hc20], show prF u1 = u1 from by simp [prF, hc20_125], show prF u2 = (124 : Int32) from by simp [prF, hc20_181], show prF u3 = (124 : Int32) from by simp [prF, hc20_193]]; exact F197)⟩
        · skip
          refine Go.st (fun _ k => XS.icmpYes X182.here hx rfl (pc0 := 20) (pc' := 28) rfl (hb hby d_print4_20) rfl (Jvm.Free.XT.ii_ne_t hc20_193) (by decide) (by decide) k) ?_
          show Go p.tables e below _ (T182.setTop (mkF m 28 #[.val (.ref ao), .val (.ref b1), .val (.int (3 : Int32))] []))
          refine Go.st (fun _ k => XS.iinc X182.here hx rfl (hb hby d_print4_28) rfl (l' := #[.val (.ref ao), .val (.ref b1), .val (.int ((3 : Int32) + (1 : Int32)))]) rfl k) ?_
          show Go p.tables e below _ (T182.setTop (mkF m 31 #[.val (.ref ao), .val (.ref b1), .val (.int ((3 : Int32) + (1 : Int32)))] []))
          rw [show ((3 : Int32) + (1 : Int32)) = (4 : Int32) from by decide]
          show Go p.tables e below _ (T182.setTop (mkF m 31 #[.val (.ref ao), .val (.ref b1), .val (.int (4 : Int32))] []))
          refine Go.st (fun _ k => XS.goto X182.here hx rfl (pc0 := 31) (pc' := 10) rfl (hb hby d_print4_31) (by decide) (by decide) k) ?_
          show Go p.tables e below _ (T182.setTop (mkF m 10 #[.val (.ref ao), .val (.ref b1), .val (.int (4 : Int32))] []))
          refine Go.st (fun _ k => XS.iloadN X182.here hx rfl (hb hby d_print4_10) rfl k) ?_
          show Go p.tables e below _ (T182.setTop (mkF m 11 #[.val (.ref ao), .val (.ref b1), .val (.int (4 : Int32))] [(.int (4 : Int32))]))
          refine Go.st (fun _ k => XS.aloadN X182.here hx rfl (hb hby d_print4_11) rfl rfl k) ?_
          show Go p.tables e below _ (T182.setTop (mkF m 12 #[.val (.ref ao), .val (.ref b1), .val (.int (4 : Int32))] [(.ref b1), (.int (4 : Int32))]))
          obtain ⟨cl204, Ar204, -, S204, M204, -, -⟩ := id F185
          refine Go.st (fun _ k => X182.arraylength hx (by rw [e182]; exact Ar204.1) (State.isArrayOf_alike hZ.alike Ar204.2.1) (g := (mkF m 12 #[.val (.ref ao), .val (.ref b1), .val (.int (4 : Int32))] [(.ref b1), (.int (4 : Int32))])) rfl rfl (hb hby d_print4_12) _ k) ?_
          rw [len_of S204 M204]
          show Go p.tables e below _ (T182.setTop (mkF m 13 #[.val (.ref ao), .val (.ref b1), .val (.int (4 : Int32))] [(.int (4 : Int32)), (.int (4 : Int32))]))
          have hl205 : ¬ ((4 : Int32) < (4 : Int32)) := by decide
          refine Go.st (fun _ k => XS.icmpYes X182.here hx rfl (pc0 := 13) (pc' := 34) rfl (hb hby d_print4_13) rfl (Jvm.Free.XT.ii_ge_t hl205) (by decide) (by decide) k) ?_
          show Go p.tables e below _ (T182.setTop (mkF m 34 #[.val (.ref ao), .val (.ref b1), .val (.int (4 : Int32))] []))
          refine Go.st (fun _ k => XS.aloadN X182.here hx rfl (hb hby d_print4_34) rfl rfl k) ?_
          show Go p.tables e below _ (T182.setTop (mkF m 35 #[.val (.ref ao), .val (.ref b1), .val (.int (4 : Int32))] [(.ref b1)]))
          subst hG
          obtain ⟨fs, hr, hrun, hended, hW, hsame⟩ := X182.leave (v := some (.ref b1)) (fun h => by rw [Bd.returns] at h; cases h)
          refine ⟨_, _, ?_, hrun, hended, _, _, rfl, ?_, ⟨_, rfl⟩, hW, hsame.mono (by decide) (by decide)⟩
          · exact retOut X182 hx Bd.returns rfl (Or.inr (Or.inr (Or.inr (Or.inr ⟨rfl, rfl, rfl⟩)))) (hb hby d_print4_35) hr
          · show Q_print4 Z ao kk u0 u1 u2 u3 h0 n0 _ T182.heap _
            rw [e182]
            exact ⟨b1, rfl, N189, K187, ge3, sz4, (by rw [show prF u0 = u0 from by simp [prF, hc20], show prF u1 = u1 from by simp [prF, hc20_125], show prF u2 = (124 : Int32) from by simp [prF, hc20_181], show prF u3 = u3 from by simp [prF, hc20_193]]; exact F185)⟩
      · skip
        refine Go.st (fun _ k => XS.icmpYes X10.here hx rfl (pc0 := 20) (pc' := 28) rfl (hb hby d_print4_20) rfl (Jvm.Free.XT.ii_ne_t hc20_181) (by decide) (by decide) k) ?_
        show Go p.tables e below _ (T10.setTop (mkF m 28 #[.val (.ref ao), .val (.ref b1), .val (.int (2 : Int32))] []))
        refine Go.st (fun _ k => XS.iinc X10.here hx rfl (hb hby d_print4_28) rfl (l' := #[.val (.ref ao), .val (.ref b1), .val (.int ((2 : Int32) + (1 : Int32)))]) rfl k) ?_
        show Go p.tables e below _ (T10.setTop (mkF m 31 #[.val (.ref ao), .val (.ref b1), .val (.int ((2 : Int32) + (1 : Int32)))] []))
        rw [show ((2 : Int32) + (1 : Int32)) = (3 : Int32) from by decide]
        show Go p.tables e below _ (T10.setTop (mkF m 31 #[.val (.ref ao), .val (.ref b1), .val (.int (3 : Int32))] []))
        refine Go.st (fun _ k => XS.goto X10.here hx rfl (pc0 := 31) (pc' := 10) rfl (hb hby d_print4_31) (by decide) (by decide) k) ?_
        show Go p.tables e below _ (T10.setTop (mkF m 10 #[.val (.ref ao), .val (.ref b1), .val (.int (3 : Int32))] []))
        refine Go.st (fun _ k => XS.iloadN X10.here hx rfl (hb hby d_print4_10) rfl k) ?_
        show Go p.tables e below _ (T10.setTop (mkF m 11 #[.val (.ref ao), .val (.ref b1), .val (.int (3 : Int32))] [(.int (3 : Int32))]))
        refine Go.st (fun _ k => XS.aloadN X10.here hx rfl (hb hby d_print4_11) rfl rfl k) ?_
        show Go p.tables e below _ (T10.setTop (mkF m 12 #[.val (.ref ao), .val (.ref b1), .val (.int (3 : Int32))] [(.ref b1), (.int (3 : Int32))]))
        obtain ⟨cl206, Ar206, -, S206, M206, -, -⟩ := id F9
        refine Go.st (fun _ k => X10.arraylength hx (by rw [e10]; exact Ar206.1) (State.isArrayOf_alike hZ.alike Ar206.2.1) (g := (mkF m 12 #[.val (.ref ao), .val (.ref b1), .val (.int (3 : Int32))] [(.ref b1), (.int (3 : Int32))])) rfl rfl (hb hby d_print4_12) _ k) ?_
        rw [len_of S206 M206]
        show Go p.tables e below _ (T10.setTop (mkF m 13 #[.val (.ref ao), .val (.ref b1), .val (.int (3 : Int32))] [(.int (4 : Int32)), (.int (3 : Int32))]))
        have hl207 : (3 : Int32) < (4 : Int32) := by decide
        refine Go.st (fun _ k => XS.icmpNo X10.here hx rfl (hb hby d_print4_13) rfl (Jvm.Free.XT.ii_ge_f hl207) k) ?_
        show Go p.tables e below _ (T10.setTop (mkF m 16 #[.val (.ref ao), .val (.ref b1), .val (.int (3 : Int32))] []))
        refine Go.st (fun _ k => XS.aloadN X10.here hx rfl (hb hby d_print4_16) rfl rfl k) ?_
        show Go p.tables e below _ (T10.setTop (mkF m 17 #[.val (.ref ao), .val (.ref b1), .val (.int (3 : Int32))] [(.ref b1)]))
        refine Go.st (fun _ k => XS.iloadN X10.here hx rfl (hb hby d_print4_17) rfl k) ?_
        show Go p.tables e below _ (T10.setTop (mkF m 18 #[.val (.ref ao), .val (.ref b1), .val (.int (3 : Int32))] [(.int (3 : Int32)), (.ref b1)]))
        obtain ⟨cl208, Ar208, q208, S208, M208, H208, G208⟩ := id F9
        have hin208 : ¬ ((3 : Int32) < 0 ∨ cl208.slots.size ≤ ((3 : Int32)).toNatClampNeg) := inb_of S208 ⟨by decide, by decide⟩
        have hat208 : cl208.slots[((3 : Int32)).toNatClampNeg]? = some (.int u3) := Has.at H208 hin208 (rfl)
        refine Go.st (fun _ k => X10.baloadBytes hx (j := (3 : Int32)) (v := (.int u3)) (by rw [e10]; exact Ar208.1) (State.isArrayOf_alike hZ.alike Ar208.2.1) Ar208.2.2 hin208 hat208 (g := (mkF m 18 #[.val (.ref ao), .val (.ref b1), .val (.int (3 : Int32))] [(.int (3 : Int32)), (.ref b1)])) rfl rfl (hb hby d_print4_18) _ k) ?_
        show Go p.tables e below _ (T10.setTop (mkF m 19 #[.val (.ref ao), .val (.ref b1), .val (.int (3 : Int32))] [(.int u3)]))
        refine Go.st (fun _ k => XS.iconst X10.here hx rfl (hb hby d_print4_19) k) ?_
        show Go p.tables e below _ (T10.setTop (mkF m 20 #[.val (.ref ao), .val (.ref b1), .val (.int (3 : Int32))] [(.int (1 : Int32)), (.int u3)]))
        by_cases hc20_209 : u3 = (1 : Int32)
        · skip
          refine Go.st (fun _ k => XS.icmpNo X10.here hx rfl (hb hby d_print4_20) rfl (Jvm.Free.XT.ii_ne_f hc20_209) k) ?_
          show Go p.tables e below _ (T10.setTop (mkF m 23 #[.val (.ref ao), .val (.ref b1), .val (.int (3 : Int32))] []))
          refine Go.st (fun _ k => XS.aloadN X10.here hx rfl (hb hby d_print4_23) rfl rfl k) ?_
          show Go p.tables e below _ (T10.setTop (mkF m 24 #[.val (.ref ao), .val (.ref b1), .val (.int (3 : Int32))] [(.ref b1)]))
          refine Go.st (fun _ k => XS.iloadN X10.here hx rfl (hb hby d_print4_24) rfl k) ?_
          show Go p.tables e below _ (T10.setTop (mkF m 25 #[.val (.ref ao), .val (.ref b1), .val (.int (3 : Int32))] [(.int (3 : Int32)), (.ref b1)]))
          refine Go.st (fun _ k => XS.bipush X10.here hx rfl (hb hby d_print4_25) k) ?_
          show Go p.tables e below _ (T10.setTop (mkF m 27 #[.val (.ref ao), .val (.ref b1), .val (.int (3 : Int32))] [(.int (124 : Int32)), (.int (3 : Int32)), (.ref b1)]))
          obtain ⟨cl210, Ar210, q210, S210, M210, H210, G210⟩ := id F9
          have hin210 : ¬ ((3 : Int32) < 0 ∨ cl210.slots.size ≤ ((3 : Int32)).toNatClampNeg) := inb_of S210 ⟨by decide, by decide⟩
          obtain ⟨T210, h210, X210, e210, W210, st210⟩ := stB X10 hx hZ e10 Ar210 (j := (3 : Int32)) hin210 (g := (mkF m 27 #[.val (.ref ao), .val (.ref b1), .val (.int (3 : Int32))] [(.int (124 : Int32)), (.int (3 : Int32)), (.ref b1)])) rfl rfl (hb hby d_print4_27)
          refine Go.st st210 ?_
          have F211 : Arv Z h210 ao kk .byte (4 : Int32) [(.int u0), (.int u1), (.int u2), (.int u3)] (.int (0 : Int32)) := F7.other W210 ne2
          have F212 : Exa Z h210 ao "[B" := F8.wr W210
          have F213 : Arv Z h210 b1 kk .byte (4 : Int32) [(.int u0), (.int u1), (.int u2), (.int (124 : Int32))] (.int (0 : Int32)) := Arv.set Ar210 q210 S210 M210 H210 G210 (fits_nar_byte _) W210 3 rfl (Nat.le_of_ble_eq_true rfl)
          have F214 : Exa Z h210 b1 "[B" := C1.wr W210
          have K215 : Keep h0 h210 [] := K6.wr W210 (Or.inr sz4)
          have Z216 : n0 ≤ h210.size := Nat.le_trans Z5 (Nat.le_of_eq W210.size.symm)
          have N217 := Fr.snoc X210 N0 ge3
          show Go p.tables e below _ (T210.setTop (mkF m 28 #[.val (.ref ao), .val (.ref b1), .val (.int (3 : Int32))] []))
          refine Go.st (fun _ k => XS.iinc X210.here hx rfl (hb hby d_print4_28) rfl (l' := #[.val (.ref ao), .val (.ref b1), .val (.int ((3 : Int32) + (1 : Int32)))]) rfl k) ?_
          show Go p.tables e below _ (T210.setTop (mkF m 31 #[.val (.ref ao), .val (.ref b1), .val (.int ((3 : Int32) + (1 : Int32)))] []))
          rw [show ((3 : Int32) + (1 : Int32)) = (4 : Int32) from by decide]
          show Go p.tables e below _ (T210.setTop (mkF m 31 #[.val (.ref ao), .val (.ref b1), .val (.int (4 : Int32))] []))
          refine Go.st (fun _ k => XS.goto X210.here hx rfl (pc0 := 31) (pc' := 10) rfl (hb hby d_print4_31) (by decide) (by decide) k) ?_
          show Go p.tables e below _ (T210.setTop (mkF m 10 #[.val (.ref ao), .val (.ref b1), .val (.int (4 : Int32))] []))
          refine Go.st (fun _ k => XS.iloadN X210.here hx rfl (hb hby d_print4_10) rfl k) ?_
          show Go p.tables e below _ (T210.setTop (mkF m 11 #[.val (.ref ao), .val (.ref b1), .val (.int (4 : Int32))] [(.int (4 : Int32))]))
          refine Go.st (fun _ k => XS.aloadN X210.here hx rfl (hb hby d_print4_11) rfl rfl k) ?_
          show Go p.tables e below _ (T210.setTop (mkF m 12 #[.val (.ref ao), .val (.ref b1), .val (.int (4 : Int32))] [(.ref b1), (.int (4 : Int32))]))
          obtain ⟨cl218, Ar218, -, S218, M218, -, -⟩ := id F213
          refine Go.st (fun _ k => X210.arraylength hx (by rw [e210]; exact Ar218.1) (State.isArrayOf_alike hZ.alike Ar218.2.1) (g := (mkF m 12 #[.val (.ref ao), .val (.ref b1), .val (.int (4 : Int32))] [(.ref b1), (.int (4 : Int32))])) rfl rfl (hb hby d_print4_12) _ k) ?_
          rw [len_of S218 M218]
          show Go p.tables e below _ (T210.setTop (mkF m 13 #[.val (.ref ao), .val (.ref b1), .val (.int (4 : Int32))] [(.int (4 : Int32)), (.int (4 : Int32))]))
          have hl219 : ¬ ((4 : Int32) < (4 : Int32)) := by decide
          refine Go.st (fun _ k => XS.icmpYes X210.here hx rfl (pc0 := 13) (pc' := 34) rfl (hb hby d_print4_13) rfl (Jvm.Free.XT.ii_ge_t hl219) (by decide) (by decide) k) ?_
          show Go p.tables e below _ (T210.setTop (mkF m 34 #[.val (.ref ao), .val (.ref b1), .val (.int (4 : Int32))] []))
          refine Go.st (fun _ k => XS.aloadN X210.here hx rfl (hb hby d_print4_34) rfl rfl k) ?_
          show Go p.tables e below _ (T210.setTop (mkF m 35 #[.val (.ref ao), .val (.ref b1), .val (.int (4 : Int32))] [(.ref b1)]))
          subst hG
          obtain ⟨fs, hr, hrun, hended, hW, hsame⟩ := X210.leave (v := some (.ref b1)) (fun h => by rw [Bd.returns] at h; cases h)
          refine ⟨_, _, ?_, hrun, hended, _, _, rfl, ?_, ⟨_, rfl⟩, hW, hsame.mono (by decide) (by decide)⟩
          · exact retOut X210 hx Bd.returns rfl (Or.inr (Or.inr (Or.inr (Or.inr ⟨rfl, rfl, rfl⟩)))) (hb hby d_print4_35) hr
          · show Q_print4 Z ao kk u0 u1 u2 u3 h0 n0 _ T210.heap _
            rw [e210]
            exact ⟨b1, rfl, N217, K215, ge3, sz4, (by rw [show prF u0 = u0 from by simp [prF, hc20], show prF u1 = u1 from by simp [prF, hc20_125], show prF u2 = u2 from by simp [prF, hc20_181], show prF u3 = (124 : Int32) from by simp [prF, hc20_209]]; exact F213)⟩
        · skip
          refine Go.st (fun _ k => XS.icmpYes X10.here hx rfl (pc0 := 20) (pc' := 28) rfl (hb hby d_print4_20) rfl (Jvm.Free.XT.ii_ne_t hc20_209) (by decide) (by decide) k) ?_
          show Go p.tables e below _ (T10.setTop (mkF m 28 #[.val (.ref ao), .val (.ref b1), .val (.int (3 : Int32))] []))
          refine Go.st (fun _ k => XS.iinc X10.here hx rfl (hb hby d_print4_28) rfl (l' := #[.val (.ref ao), .val (.ref b1), .val (.int ((3 : Int32) + (1 : Int32)))]) rfl k) ?_
          show Go p.tables e below _ (T10.setTop (mkF m 31 #[.val (.ref ao), .val (.ref b1), .val (.int ((3 : Int32) + (1 : Int32)))] []))
          rw [show ((3 : Int32) + (1 : Int32)) = (4 : Int32) from by decide]
          show Go p.tables e below _ (T10.setTop (mkF m 31 #[.val (.ref ao), .val (.ref b1), .val (.int (4 : Int32))] []))
          refine Go.st (fun _ k => XS.goto X10.here hx rfl (pc0 := 31) (pc' := 10) rfl (hb hby d_print4_31) (by decide) (by decide) k) ?_
          show Go p.tables e below _ (T10.setTop (mkF m 10 #[.val (.ref ao), .val (.ref b1), .val (.int (4 : Int32))] []))
          refine Go.st (fun _ k => XS.iloadN X10.here hx rfl (hb hby d_print4_10) rfl k) ?_
          show Go p.tables e below _ (T10.setTop (mkF m 11 #[.val (.ref ao), .val (.ref b1), .val (.int (4 : Int32))] [(.int (4 : Int32))]))
          refine Go.st (fun _ k => XS.aloadN X10.here hx rfl (hb hby d_print4_11) rfl rfl k) ?_
          show Go p.tables e below _ (T10.setTop (mkF m 12 #[.val (.ref ao), .val (.ref b1), .val (.int (4 : Int32))] [(.ref b1), (.int (4 : Int32))]))
          obtain ⟨cl220, Ar220, -, S220, M220, -, -⟩ := id F9
          refine Go.st (fun _ k => X10.arraylength hx (by rw [e10]; exact Ar220.1) (State.isArrayOf_alike hZ.alike Ar220.2.1) (g := (mkF m 12 #[.val (.ref ao), .val (.ref b1), .val (.int (4 : Int32))] [(.ref b1), (.int (4 : Int32))])) rfl rfl (hb hby d_print4_12) _ k) ?_
          rw [len_of S220 M220]
          show Go p.tables e below _ (T10.setTop (mkF m 13 #[.val (.ref ao), .val (.ref b1), .val (.int (4 : Int32))] [(.int (4 : Int32)), (.int (4 : Int32))]))
          have hl221 : ¬ ((4 : Int32) < (4 : Int32)) := by decide
          refine Go.st (fun _ k => XS.icmpYes X10.here hx rfl (pc0 := 13) (pc' := 34) rfl (hb hby d_print4_13) rfl (Jvm.Free.XT.ii_ge_t hl221) (by decide) (by decide) k) ?_
          show Go p.tables e below _ (T10.setTop (mkF m 34 #[.val (.ref ao), .val (.ref b1), .val (.int (4 : Int32))] []))
          refine Go.st (fun _ k => XS.aloadN X10.here hx rfl (hb hby d_print4_34) rfl rfl k) ?_
          show Go p.tables e below _ (T10.setTop (mkF m 35 #[.val (.ref ao), .val (.ref b1), .val (.int (4 : Int32))] [(.ref b1)]))
          subst hG
          obtain ⟨fs, hr, hrun, hended, hW, hsame⟩ := X10.leave (v := some (.ref b1)) (fun h => by rw [Bd.returns] at h; cases h)
          refine ⟨_, _, ?_, hrun, hended, _, _, rfl, ?_, ⟨_, rfl⟩, hW, hsame.mono (by decide) (by decide)⟩
          · exact retOut X10 hx Bd.returns rfl (Or.inr (Or.inr (Or.inr (Or.inr ⟨rfl, rfl, rfl⟩)))) (hb hby d_print4_35) hr
          · show Q_print4 Z ao kk u0 u1 u2 u3 h0 n0 _ T10.heap _
            rw [e10]
            exact ⟨b1, rfl, N0, K6, ge3, sz4, (by rw [show prF u0 = u0 from by simp [prF, hc20], show prF u1 = u1 from by simp [prF, hc20_125], show prF u2 = u2 from by simp [prF, hc20_181], show prF u3 = u3 from by simp [prF, hc20_209]]; exact F9)⟩
theorem d_print0_0 : decode prog_18_method_13_code 0 = .ok (.aload_n 0, 1) := by decide +kernel
theorem d_print0_1 : decode prog_18_method_13_code 1 = .ok (.invokevirtual 144, 3) := by decide +kernel
theorem d_print0_4 : decode prog_18_method_13_code 4 = .ok (.checkcast 145, 3) := by decide +kernel
theorem d_print0_7 : decode prog_18_method_13_code 7 = .ok (.astore_n 1, 1) := by decide +kernel
theorem d_print0_8 : decode prog_18_method_13_code 8 = .ok (.iconst 0, 1) := by decide +kernel
theorem d_print0_9 : decode prog_18_method_13_code 9 = .ok (.istore_n 2, 1) := by decide +kernel
theorem d_print0_10 : decode prog_18_method_13_code 10 = .ok (.iload_n 2, 1) := by decide +kernel
theorem d_print0_11 : decode prog_18_method_13_code 11 = .ok (.aload_n 1, 1) := by decide +kernel
theorem d_print0_12 : decode prog_18_method_13_code 12 = .ok (.arraylength, 1) := by decide +kernel
theorem d_print0_13 : decode prog_18_method_13_code 13 = .ok (.if_icmp .ge 21, 3) := by decide +kernel
theorem d_print0_34 : decode prog_18_method_13_code 34 = .ok (.aload_n 1, 1) := by decide +kernel
theorem d_print0_35 : decode prog_18_method_13_code 35 = .ok (.areturn, 1) := by decide +kernel
theorem ef_print0 (m : MethodId) (ao : Addr) : entryFrame m #[(.ref ao)] 3 = mkF m 0 #[.val (.ref ao), .unset, .unset] [] := by first | (simp [entryFrame, mkF, argsToLocals, Value.category]; done) | rfl
def Q_print0 (Z : State) (ao : Addr) (kk : ClassId) (h0 : Heap) (n0 : Nat) (v : Option Value) (h : Heap) (L : List Loc) : Prop := ∃ fr : Addr, v = some (.ref fr) ∧ Fr n0 L ∧ Keep h0 h [] ∧ n0 ≤ fr ∧ h0.size ≤ fr ∧ Arv Z h fr kk .byte (0 : Int32) [] (.int (0 : Int32))
set_option maxRecDepth 65536 in
set_option maxHeartbeats 40000000 in
theorem rm_print0 (l : Launch) (Z : State) (a0 : Array Value) (hw : ∀ d ∈ tables_1, d.before a0 Z = true) (ws : List Jvm.Cond) (ao : Addr) (kk : ClassId) (h0 : Heap) (n0 : Nat) (Z0 : n0 ≤ h0.size) (P0 : Arv Z h0 ao kk .byte (0 : Int32) [] (.int (0 : Int32))) (P1 : Exa Z h0 ao "[B") :
    MetFree l (⟨"com/example/gapmend/gapmend/Message", "printable", "([B)[B"⟩ : MethodName) (head1 (Jvm.Cond.code (⟨"com/example/gapmend/gapmend/Message", "printable", "([B)[B"⟩ : MethodName) prog_18_method_13_code 3 (some (.array .byte)) :: ws) ({ frames := 1, cells := 1, slots := 0, locals := 14 } : Room)) (fun a U => a = #[(.ref ao)] ∧ Z.Warmed39 U.vm ∧ U.heap = h0) (fun _ _ _ _ _ => True) (fun _ U o U' => ∃ v L, o = .returned v ∧ Q_print0 Z ao kk h0 n0 v U'.heap L ∧ FrameEnd U o U' L ({ frames := 1, cells := 1, slots := 0, locals := 14 } : Room).cells ({ frames := 1, cells := 1, slots := 0, locals := 14 } : Room).slots) := by
  refine MetFree.of_bodySF (plainFor_of_name pn_1) hisR ?_
  intro p e s m args below meth c s₁ Bd hml0 hP hK
  obtain ⟨rfl, hZ, hh⟩ := hP
  have hx := Bd.exec
  have hby := Bd.bytes
  have hml : c.maxLocals = 3 := hml0
  have hown : s.vm.findClass "com/example/gapmend/gapmend/Message" = some m.cls := findClass_of_methodNamed Bd.named
  have hnm := (name_of_methodNamed Bd.named Bd.method).1
  have X0 : Stand p l e ({ frames := 1, cells := 1, slots := 0, locals := 14 } : Room) s m #[(.ref ao)] below meth c s₁ [] 0 0 := Stand.of_body Bd
  have e0 : s₁.heap = h0 := by rw [← hh, Bd.state]; rfl
  have N0 := Fr.nil n0
  have K0 : Keep h0 h0 [] := Keep.refl h0 []
  show Go p.tables e below _ (s₁.setTop (entryFrame m #[(.ref ao)] 3))
  refine Go.start ?_
  intro G hG
  refine Go.st (fun t k => castTop (ef_print0 m ao) k) ?_
  show Go p.tables e below _ (s₁.setTop (mkF m 0 #[.val (.ref ao), .unset, .unset] []))
  refine Go.st (fun _ k => XS.aloadN X0.here hx rfl (hb hby d_print0_0) rfl rfl k) ?_
  show Go p.tables e below _ (s₁.setTop (mkF m 1 #[.val (.ref ao), .unset, .unset] [(.ref ao)]))
  obtain ⟨T1, h1, X1, e1, E1, R1, C1, st1⟩ := cloneH X0 hx hZ (ad := "[B") hown (hw _ (List.mem_of_getElem? (i := 9) rfl)) (hw _ (List.mem_of_getElem? (i := 10) rfl)) (hw _ (List.mem_of_getElem? (i := 14) rfl)) (hw _ (List.mem_of_getElem? (i := 12) rfl)) (hw _ (List.mem_of_getElem? (i := 13) rfl)) (hw _ (List.mem_of_getElem? (i := 15) rfl)) e0 P0.arh P1 (g := (mkF m 1 #[.val (.ref ao), .unset, .unset] [(.ref ao)])) rfl (by rw [hml]; rfl) rfl (hb hby d_print0_1) (by decide) (W := 0) (cap := 0) (by show 2 * 0 + _ ≤ _; exact Nat.le_of_eq rfl) (by decide) (by decide) (by decide) (by decide)
  obtain ⟨b1, g1⟩ : ∃ z, z = h0.size := ⟨_, rfl⟩
  rw [← g1] at R1 C1 st1
  refine Go.st st1 ?_
  have ne2 : ao ≠ b1 := Nat.ne_of_lt (Nat.lt_of_lt_of_le P0.lt (Nat.le_of_eq g1.symm))
  have ge3 : n0 ≤ b1 := Nat.le_trans Z0 (Nat.le_of_eq g1.symm)
  have sz4 : h0.size ≤ b1 := Nat.le_trans K0.1 (Nat.le_of_eq g1.symm)
  have Z5 : n0 ≤ h1.size := Nat.le_trans Z0 E1.1
  have K6 : Keep h0 h1 [] := K0.ext E1
  have F7 : Arv Z h1 ao kk .byte (0 : Int32) [] (.int (0 : Int32)) := P0.ext E1
  have F8 : Exa Z h1 ao "[B" := P1.ext E1
  have F9 : Arv Z h1 b1 kk .byte (0 : Int32) [] (.int (0 : Int32)) := by
    obtain ⟨c_, A_, q_, S_, N_, H_, G_⟩ := R1
    exact ⟨c_, A_, q_, S_, N_, H_, G_⟩
  show Go p.tables e below _ (T1.setTop (mkF m 4 #[.val (.ref ao), .unset, .unset] [(.ref b1)]))
  obtain ⟨T10, X10, e10, st10⟩ := castY X1 hx hZ hown (hw _ (List.mem_of_getElem? (i := 16) rfl)) e1 (Ins.self C1) (g := (mkF m 4 #[.val (.ref ao), .unset, .unset] [(.ref b1)])) rfl rfl (hb hby d_print0_4)
  refine Go.st st10 ?_
  show Go p.tables e below _ (T10.setTop (mkF m 7 #[.val (.ref ao), .unset, .unset] [(.ref b1)]))
  refine Go.st (fun _ k => XS.astoreN X10.here hx rfl (hb hby d_print0_7) rfl rfl (l' := #[.val (.ref ao), .val (.ref b1), .unset]) rfl k) ?_
  show Go p.tables e below _ (T10.setTop (mkF m 8 #[.val (.ref ao), .val (.ref b1), .unset] []))
  show Go p.tables e below _ (T10.setTop (mkF m 8 #[.val (.ref ao), .val (.ref b1), .unset] []))
  refine Go.st (fun _ k => XS.iconst X10.here hx rfl (hb hby d_print0_8) k) ?_
  show Go p.tables e below _ (T10.setTop (mkF m 9 #[.val (.ref ao), .val (.ref b1), .unset] [(.int (0 : Int32))]))
  refine Go.st (fun _ k => XS.istoreN X10.here hx rfl (hb hby d_print0_9) rfl (l' := #[.val (.ref ao), .val (.ref b1), .val (.int (0 : Int32))]) rfl k) ?_
  show Go p.tables e below _ (T10.setTop (mkF m 10 #[.val (.ref ao), .val (.ref b1), .val (.int (0 : Int32))] []))
  show Go p.tables e below _ (T10.setTop (mkF m 10 #[.val (.ref ao), .val (.ref b1), .val (.int (0 : Int32))] []))
  refine Go.st (fun _ k => XS.iloadN X10.here hx rfl (hb hby d_print0_10) rfl k) ?_
  show Go p.tables e below _ (T10.setTop (mkF m 11 #[.val (.ref ao), .val (.ref b1), .val (.int (0 : Int32))] [(.int (0 : Int32))]))
  refine Go.st (fun _ k => XS.aloadN X10.here hx rfl (hb hby d_print0_11) rfl rfl k) ?_
  show Go p.tables e below _ (T10.setTop (mkF m 12 #[.val (.ref ao), .val (.ref b1), .val (.int (0 : Int32))] [(.ref b1), (.int (0 : Int32))]))
  obtain ⟨cl11, Ar11, -, S11, M11, -, -⟩ := id F9
  refine Go.st (fun _ k => X10.arraylength hx (by rw [e10]; exact Ar11.1) (State.isArrayOf_alike hZ.alike Ar11.2.1) (g := (mkF m 12 #[.val (.ref ao), .val (.ref b1), .val (.int (0 : Int32))] [(.ref b1), (.int (0 : Int32))])) rfl rfl (hb hby d_print0_12) _ k) ?_
  rw [len_of S11 M11]
  show Go p.tables e below _ (T10.setTop (mkF m 13 #[.val (.ref ao), .val (.ref b1), .val (.int (0 : Int32))] [(.int (0 : Int32)), (.int (0 : Int32))]))
  have hl12 : ¬ ((0 : Int32) < (0 : Int32)) := by decide
  refine Go.st (fun _ k => XS.icmpYes X10.here hx rfl (pc0 := 13) (pc' := 34) rfl (hb hby d_print0_13) rfl (Jvm.Free.XT.ii_ge_t hl12) (by decide) (by decide) k) ?_
  show Go p.tables e below _ (T10.setTop (mkF m 34 #[.val (.ref ao), .val (.ref b1), .val (.int (0 : Int32))] []))
  refine Go.st (fun _ k => XS.aloadN X10.here hx rfl (hb hby d_print0_34) rfl rfl k) ?_
  show Go p.tables e below _ (T10.setTop (mkF m 35 #[.val (.ref ao), .val (.ref b1), .val (.int (0 : Int32))] [(.ref b1)]))
  subst hG
  obtain ⟨fs, hr, hrun, hended, hW, hsame⟩ := X10.leave (v := some (.ref b1)) (fun h => by rw [Bd.returns] at h; cases h)
  refine ⟨_, _, ?_, hrun, hended, _, _, rfl, ?_, ⟨_, rfl⟩, hW, hsame.mono (by decide) (by decide)⟩
  · exact retOut X10 hx Bd.returns rfl (Or.inr (Or.inr (Or.inr (Or.inr ⟨rfl, rfl, rfl⟩)))) (hb hby d_print0_35) hr
  · show Q_print0 Z ao kk h0 n0 _ T10.heap _
    rw [e10]
    exact ⟨b1, rfl, N0, K6, ge3, sz4, F9⟩
theorem pd_0 : parseMethodDescriptor "(I)B" = some ⟨[.int], some .byte⟩ := by decide +kernel
theorem pd_1 : parseMethodDescriptor "([B)[B" = some ⟨[(.array .byte)], some (.array .byte)⟩ := by decide +kernel
theorem pd_2 : parseMethodDescriptor "(BB)Z" = some ⟨[.byte, .byte], some .boolean⟩ := by decide +kernel
theorem ef_law (m : MethodId) (pa : Int32) (pb : Int32) (pc : Int32) (pd : Int32) : entryFrame m #[(.int pa), (.int pb), (.int pc), (.int pd)] maxLocals = mkF m 0 #[.val (.int pa), .val (.int pb), .val (.int pc), .val (.int pd), .unset, .unset, .unset, .unset, .unset, .unset, .unset, .unset] [] := by first | (simp [entryFrame, mkF, argsToLocals, Value.category, maxLocals]; done) | rfl
def Q_law (Z : State) (pa : Int32) (pb : Int32) (pc : Int32) (pd : Int32) (h0 : Heap) (n0 : Nat) (v : Option Value) (h : Heap) (L : List Loc) : Prop := v = some (.int (1 : Int32)) ∧ Fr n0 L ∧ Keep h0 h []
set_option maxRecDepth 65536 in
set_option maxHeartbeats 40000000 in
theorem rm_law (l : Launch) (Z : State) (a0 : Array Value) (hw : ∀ d ∈ tables_1, d.before a0 Z = true) (ws : List Jvm.Cond) (pa : Int32) (pb : Int32) (pc : Int32) (pd : Int32) (h0 : Heap) (n0 : Nat) (Z0 : n0 ≤ h0.size)  :
    MetFree l x (head1 (Jvm.Cond.code x code maxLocals ret :: ws) room_1) (fun a U => a = #[(.int pa), (.int pb), (.int pc), (.int pd)] ∧ Z.Warmed39 U.vm ∧ U.heap = h0) (fun _ _ _ _ _ => True) (fun _ U o U' => ∃ v L, o = .returned v ∧ Q_law Z pa pb pc pd h0 n0 v U'.heap L ∧ FrameEnd U o U' L room_1.cells room_1.slots) := by
  refine MetFree.of_bodySF (plainFor_of_name pn_0) hisR ?_
  intro p e s m args below meth c s₁ Bd hml0 hP hK
  obtain ⟨rfl, hZ, hh⟩ := hP
  have hx := Bd.exec
  have hby := Bd.bytes
  have hml : c.maxLocals = 12 := hml0
  have hown : s.vm.findClass "com/example/gapmend/gapmend/MessagePrintablePinLaw" = some m.cls := findClass_of_methodNamed Bd.named
  have hnm := (name_of_methodNamed Bd.named Bd.method).1
  have X0 : Stand p l e room_1 s m #[(.int pa), (.int pb), (.int pc), (.int pd)] below meth c s₁ [] 0 0 := Stand.of_body Bd
  have e0 : s₁.heap = h0 := by rw [← hh, Bd.state]; rfl
  have N0 := Fr.nil n0
  have K0 : Keep h0 h0 [] := Keep.refl h0 []
  show Go p.tables e below _ (s₁.setTop (entryFrame m #[(.int pa), (.int pb), (.int pc), (.int pd)] maxLocals))
  refine Go.start ?_
  intro G hG
  refine Go.st (fun t k => castTop (ef_law m pa pb pc pd) k) ?_
  show Go p.tables e below _ (s₁.setTop (mkF m 0 #[.val (.int pa), .val (.int pb), .val (.int pc), .val (.int pd), .unset, .unset, .unset, .unset, .unset, .unset, .unset, .unset] []))
  refine Go.st (fun _ k => XS.iloadN X0.here hx rfl (hb hby at_0) rfl k) ?_
  show Go p.tables e below _ (s₁.setTop (mkF m 1 #[.val (.int pa), .val (.int pb), .val (.int pc), .val (.int pd), .unset, .unset, .unset, .unset, .unset, .unset, .unset, .unset] [(.int pa)]))
  obtain ⟨_, _, ⟨T1, L1, k1, n1⟩, -, X1, ⟨Lc1, hQ1, l1, y1, z1⟩, st1⟩ := Jvm.LawKit.callS X0 hx (y := (⟨"com/example/gapmend/gapmend/MessagePrintablePinLaw", "draw", "(I)B"⟩ : MethodName)) hown (mvT hZ (hw _ (List.mem_of_getElem? (i := 0) rfl))) (mvT hZ (hw _ (List.mem_of_getElem? (i := 1) rfl))) (mvT hZ (hw _ (List.mem_of_getElem? (i := 2) rfl))) (mvT hZ (hw _ (List.mem_of_getElem? (i := 3) rfl))) (by decide) (backOf (W := 0) (rm_draw l Z a0 hw [] pa h0 n0 Z0 ) hZ (hw _ (List.mem_of_getElem? (i := 3) rfl)) (hw _ (List.mem_of_getElem? (i := 2) rfl)) (by decide) (by decide)) (g := (mkF m 1 #[.val (.int pa), .val (.int pb), .val (.int pc), .val (.int pd), .unset, .unset, .unset, .unset, .unset, .unset, .unset, .unset] [(.int pa)])) rfl (by rw [hml]; rfl) (argsL := [(.int pa)]) (rest := []) (lenOf pd_0 rfl) rfl (by show 2 * 0 + _ ≤ _; exact Nat.le_of_eq rfl) (hb hby at_1) (fun _ _ => ⟨rfl, e0, (by decide : 0 + 0 ≤ _), (by decide : 0 + 0 ≤ _)⟩)
  dsimp only [Pt.U, Pt.locs, Pt.cells, Pt.slots] at X1 l1 y1 z1 st1 hQ1
  subst l1 y1 z1
  obtain ⟨x1_rr, rfl, N1q, e1, pr1_b⟩ := hQ1
  have N1 := Fr.app N0 N1q
  refine Go.st st1 ?_
  show Go p.tables e below _ (T1.setTop (mkF m 4 #[.val (.int pa), .val (.int pb), .val (.int pc), .val (.int pd), .unset, .unset, .unset, .unset, .unset, .unset, .unset, .unset] [(.int x1_rr)]))
  refine Go.st (fun _ k => XS.istore X1.here hx rfl (hb hby at_4) rfl (l' := #[.val (.int pa), .val (.int pb), .val (.int pc), .val (.int pd), .val (.int x1_rr), .unset, .unset, .unset, .unset, .unset, .unset, .unset]) rfl k) ?_
  show Go p.tables e below _ (T1.setTop (mkF m 6 #[.val (.int pa), .val (.int pb), .val (.int pc), .val (.int pd), .val (.int x1_rr), .unset, .unset, .unset, .unset, .unset, .unset, .unset] []))
  refine Go.st (fun _ k => XS.iloadN X1.here hx rfl (hb hby at_6) rfl k) ?_
  show Go p.tables e below _ (T1.setTop (mkF m 7 #[.val (.int pa), .val (.int pb), .val (.int pc), .val (.int pd), .val (.int x1_rr), .unset, .unset, .unset, .unset, .unset, .unset, .unset] [(.int pb)]))
  obtain ⟨_, _, ⟨T2, L2, k2, n2⟩, -, X2, ⟨Lc2, hQ2, l2, y2, z2⟩, st2⟩ := Jvm.LawKit.callS X1 hx (y := (⟨"com/example/gapmend/gapmend/MessagePrintablePinLaw", "draw", "(I)B"⟩ : MethodName)) hown (mvT hZ (hw _ (List.mem_of_getElem? (i := 0) rfl))) (mvT hZ (hw _ (List.mem_of_getElem? (i := 1) rfl))) (mvT hZ (hw _ (List.mem_of_getElem? (i := 2) rfl))) (mvT hZ (hw _ (List.mem_of_getElem? (i := 3) rfl))) (by decide) (backOf (W := 0) (rm_draw l Z a0 hw [] pb h0 n0 Z0 ) hZ (hw _ (List.mem_of_getElem? (i := 3) rfl)) (hw _ (List.mem_of_getElem? (i := 2) rfl)) (by decide) (by decide)) (g := (mkF m 7 #[.val (.int pa), .val (.int pb), .val (.int pc), .val (.int pd), .val (.int x1_rr), .unset, .unset, .unset, .unset, .unset, .unset, .unset] [(.int pb)])) rfl (by rw [hml]; rfl) (argsL := [(.int pb)]) (rest := []) (lenOf pd_0 rfl) rfl (by show 2 * 0 + _ ≤ _; exact Nat.le_of_eq rfl) (hb hby at_7) (fun _ _ => ⟨rfl, e1, (by decide : 0 + 0 ≤ _), (by decide : 0 + 0 ≤ _)⟩)
  dsimp only [Pt.U, Pt.locs, Pt.cells, Pt.slots] at X2 l2 y2 z2 st2 hQ2
  subst l2 y2 z2
  obtain ⟨x2_rr, rfl, N2q, e2, pr2_b⟩ := hQ2
  have N2 := Fr.app N1 N2q
  refine Go.st st2 ?_
  show Go p.tables e below _ (T2.setTop (mkF m 10 #[.val (.int pa), .val (.int pb), .val (.int pc), .val (.int pd), .val (.int x1_rr), .unset, .unset, .unset, .unset, .unset, .unset, .unset] [(.int x2_rr)]))
  refine Go.st (fun _ k => XS.istore X2.here hx rfl (hb hby at_10) rfl (l' := #[.val (.int pa), .val (.int pb), .val (.int pc), .val (.int pd), .val (.int x1_rr), .val (.int x2_rr), .unset, .unset, .unset, .unset, .unset, .unset]) rfl k) ?_
  show Go p.tables e below _ (T2.setTop (mkF m 12 #[.val (.int pa), .val (.int pb), .val (.int pc), .val (.int pd), .val (.int x1_rr), .val (.int x2_rr), .unset, .unset, .unset, .unset, .unset, .unset] []))
  refine Go.st (fun _ k => XS.iloadN X2.here hx rfl (hb hby at_12) rfl k) ?_
  show Go p.tables e below _ (T2.setTop (mkF m 13 #[.val (.int pa), .val (.int pb), .val (.int pc), .val (.int pd), .val (.int x1_rr), .val (.int x2_rr), .unset, .unset, .unset, .unset, .unset, .unset] [(.int pc)]))
  obtain ⟨_, _, ⟨T3, L3, k3, n3⟩, -, X3, ⟨Lc3, hQ3, l3, y3, z3⟩, st3⟩ := Jvm.LawKit.callS X2 hx (y := (⟨"com/example/gapmend/gapmend/MessagePrintablePinLaw", "draw", "(I)B"⟩ : MethodName)) hown (mvT hZ (hw _ (List.mem_of_getElem? (i := 0) rfl))) (mvT hZ (hw _ (List.mem_of_getElem? (i := 1) rfl))) (mvT hZ (hw _ (List.mem_of_getElem? (i := 2) rfl))) (mvT hZ (hw _ (List.mem_of_getElem? (i := 3) rfl))) (by decide) (backOf (W := 0) (rm_draw l Z a0 hw [] pc h0 n0 Z0 ) hZ (hw _ (List.mem_of_getElem? (i := 3) rfl)) (hw _ (List.mem_of_getElem? (i := 2) rfl)) (by decide) (by decide)) (g := (mkF m 13 #[.val (.int pa), .val (.int pb), .val (.int pc), .val (.int pd), .val (.int x1_rr), .val (.int x2_rr), .unset, .unset, .unset, .unset, .unset, .unset] [(.int pc)])) rfl (by rw [hml]; rfl) (argsL := [(.int pc)]) (rest := []) (lenOf pd_0 rfl) rfl (by show 2 * 0 + _ ≤ _; exact Nat.le_of_eq rfl) (hb hby at_13) (fun _ _ => ⟨rfl, e2, (by decide : 0 + 0 ≤ _), (by decide : 0 + 0 ≤ _)⟩)
  dsimp only [Pt.U, Pt.locs, Pt.cells, Pt.slots] at X3 l3 y3 z3 st3 hQ3
  subst l3 y3 z3
  obtain ⟨x3_rr, rfl, N3q, e3, pr3_b⟩ := hQ3
  have N3 := Fr.app N2 N3q
  refine Go.st st3 ?_
  show Go p.tables e below _ (T3.setTop (mkF m 16 #[.val (.int pa), .val (.int pb), .val (.int pc), .val (.int pd), .val (.int x1_rr), .val (.int x2_rr), .unset, .unset, .unset, .unset, .unset, .unset] [(.int x3_rr)]))
  refine Go.st (fun _ k => XS.istore X3.here hx rfl (hb hby at_16) rfl (l' := #[.val (.int pa), .val (.int pb), .val (.int pc), .val (.int pd), .val (.int x1_rr), .val (.int x2_rr), .val (.int x3_rr), .unset, .unset, .unset, .unset, .unset]) rfl k) ?_
  show Go p.tables e below _ (T3.setTop (mkF m 18 #[.val (.int pa), .val (.int pb), .val (.int pc), .val (.int pd), .val (.int x1_rr), .val (.int x2_rr), .val (.int x3_rr), .unset, .unset, .unset, .unset, .unset] []))
  refine Go.st (fun _ k => XS.iloadN X3.here hx rfl (hb hby at_18) rfl k) ?_
  show Go p.tables e below _ (T3.setTop (mkF m 19 #[.val (.int pa), .val (.int pb), .val (.int pc), .val (.int pd), .val (.int x1_rr), .val (.int x2_rr), .val (.int x3_rr), .unset, .unset, .unset, .unset, .unset] [(.int pd)]))
  obtain ⟨_, _, ⟨T4, L4, k4, n4⟩, -, X4, ⟨Lc4, hQ4, l4, y4, z4⟩, st4⟩ := Jvm.LawKit.callS X3 hx (y := (⟨"com/example/gapmend/gapmend/MessagePrintablePinLaw", "draw", "(I)B"⟩ : MethodName)) hown (mvT hZ (hw _ (List.mem_of_getElem? (i := 0) rfl))) (mvT hZ (hw _ (List.mem_of_getElem? (i := 1) rfl))) (mvT hZ (hw _ (List.mem_of_getElem? (i := 2) rfl))) (mvT hZ (hw _ (List.mem_of_getElem? (i := 3) rfl))) (by decide) (backOf (W := 0) (rm_draw l Z a0 hw [] pd h0 n0 Z0 ) hZ (hw _ (List.mem_of_getElem? (i := 3) rfl)) (hw _ (List.mem_of_getElem? (i := 2) rfl)) (by decide) (by decide)) (g := (mkF m 19 #[.val (.int pa), .val (.int pb), .val (.int pc), .val (.int pd), .val (.int x1_rr), .val (.int x2_rr), .val (.int x3_rr), .unset, .unset, .unset, .unset, .unset] [(.int pd)])) rfl (by rw [hml]; rfl) (argsL := [(.int pd)]) (rest := []) (lenOf pd_0 rfl) rfl (by show 2 * 0 + _ ≤ _; exact Nat.le_of_eq rfl) (hb hby at_19) (fun _ _ => ⟨rfl, e3, (by decide : 0 + 0 ≤ _), (by decide : 0 + 0 ≤ _)⟩)
  dsimp only [Pt.U, Pt.locs, Pt.cells, Pt.slots] at X4 l4 y4 z4 st4 hQ4
  subst l4 y4 z4
  obtain ⟨x4_rr, rfl, N4q, e4, pr4_b⟩ := hQ4
  have N4 := Fr.app N3 N4q
  refine Go.st st4 ?_
  show Go p.tables e below _ (T4.setTop (mkF m 22 #[.val (.int pa), .val (.int pb), .val (.int pc), .val (.int pd), .val (.int x1_rr), .val (.int x2_rr), .val (.int x3_rr), .unset, .unset, .unset, .unset, .unset] [(.int x4_rr)]))
  refine Go.st (fun _ k => XS.istore X4.here hx rfl (hb hby at_22) rfl (l' := #[.val (.int pa), .val (.int pb), .val (.int pc), .val (.int pd), .val (.int x1_rr), .val (.int x2_rr), .val (.int x3_rr), .val (.int x4_rr), .unset, .unset, .unset, .unset]) rfl k) ?_
  show Go p.tables e below _ (T4.setTop (mkF m 24 #[.val (.int pa), .val (.int pb), .val (.int pc), .val (.int pd), .val (.int x1_rr), .val (.int x2_rr), .val (.int x3_rr), .val (.int x4_rr), .unset, .unset, .unset, .unset] []))
  refine Go.st (fun _ k => XS.iconst X4.here hx rfl (hb hby at_24) k) ?_
  show Go p.tables e below _ (T4.setTop (mkF m 25 #[.val (.int pa), .val (.int pb), .val (.int pc), .val (.int pd), .val (.int x1_rr), .val (.int x2_rr), .val (.int x3_rr), .val (.int x4_rr), .unset, .unset, .unset, .unset] [(.int (4 : Int32))]))
  obtain ⟨T5, h5, k5, X5, e5, E5, A5, C5, st5⟩ := newPE X4 hx hZ (hw _ (List.mem_of_getElem? (i := 4) rfl)) e4 (g := (mkF m 25 #[.val (.int pa), .val (.int pb), .val (.int pc), .val (.int pd), .val (.int x1_rr), .val (.int x2_rr), .val (.int x3_rr), .val (.int x4_rr), .unset, .unset, .unset, .unset] [(.int (4 : Int32))])) rfl (hb hby at_25) rfl (by decide) (cap := 4) (by decide) (by decide) (by decide) (by decide) (ad := "[B") (by decide)
  obtain ⟨b5, g5⟩ : ∃ z, z = h0.size := ⟨_, rfl⟩
  rw [← g5] at A5 C5 st5
  refine Go.st st5 ?_
  have ge6 : n0 ≤ b5 := Nat.le_trans Z0 (Nat.le_of_eq g5.symm)
  have sz7 : h0.size ≤ b5 := Nat.le_trans K0.1 (Nat.le_of_eq g5.symm)
  have Z8 : n0 ≤ h5.size := Nat.le_trans Z0 E5.1
  have K9 : Keep h0 h5 [] := K0.ext E5
  have F10 : Arv Z h5 b5 k5 .byte (4 : Int32) [(.int (0 : Int32)), (.int (0 : Int32)), (.int (0 : Int32)), (.int (0 : Int32))] (.int (0 : Int32)) := (Arv.new A5 (by decide)).pad (pad_rep [] (.int (0 : Int32)) 4)
  show Go p.tables e below _ (T5.setTop (mkF m 27 #[.val (.int pa), .val (.int pb), .val (.int pc), .val (.int pd), .val (.int x1_rr), .val (.int x2_rr), .val (.int x3_rr), .val (.int x4_rr), .unset, .unset, .unset, .unset] [(.ref b5)]))
  refine Go.st (fun _ k => XS.dup X5.here hx rfl (hb hby at_27) rfl rfl k) ?_
  show Go p.tables e below _ (T5.setTop (mkF m 28 #[.val (.int pa), .val (.int pb), .val (.int pc), .val (.int pd), .val (.int x1_rr), .val (.int x2_rr), .val (.int x3_rr), .val (.int x4_rr), .unset, .unset, .unset, .unset] [(.ref b5), (.ref b5)]))
  refine Go.st (fun _ k => XS.iconst X5.here hx rfl (hb hby at_28) k) ?_
  show Go p.tables e below _ (T5.setTop (mkF m 29 #[.val (.int pa), .val (.int pb), .val (.int pc), .val (.int pd), .val (.int x1_rr), .val (.int x2_rr), .val (.int x3_rr), .val (.int x4_rr), .unset, .unset, .unset, .unset] [(.int (0 : Int32)), (.ref b5), (.ref b5)]))
  refine Go.st (fun _ k => XS.iload X5.here hx rfl (hb hby at_29) rfl k) ?_
  show Go p.tables e below _ (T5.setTop (mkF m 31 #[.val (.int pa), .val (.int pb), .val (.int pc), .val (.int pd), .val (.int x1_rr), .val (.int x2_rr), .val (.int x3_rr), .val (.int x4_rr), .unset, .unset, .unset, .unset] [(.int x1_rr), (.int (0 : Int32)), (.ref b5), (.ref b5)]))
  obtain ⟨cl11, Ar11, q11, S11, M11, H11, G11⟩ := id F10
  have hin11 : ¬ ((0 : Int32) < 0 ∨ cl11.slots.size ≤ ((0 : Int32)).toNatClampNeg) := inb_of S11 ⟨by decide, by decide⟩
  obtain ⟨T11, h11, X11, e11, W11, st11⟩ := stB X5 hx hZ e5 Ar11 (j := (0 : Int32)) hin11 (g := (mkF m 31 #[.val (.int pa), .val (.int pb), .val (.int pc), .val (.int pd), .val (.int x1_rr), .val (.int x2_rr), .val (.int x3_rr), .val (.int x4_rr), .unset, .unset, .unset, .unset] [(.int x1_rr), (.int (0 : Int32)), (.ref b5), (.ref b5)])) rfl rfl (hb hby at_31)
  rw [pr1_b] at W11
  refine Go.st st11 ?_
  have F12 : Arv Z h11 b5 k5 .byte (4 : Int32) [(.int x1_rr), (.int (0 : Int32)), (.int (0 : Int32)), (.int (0 : Int32))] (.int (0 : Int32)) := Arv.set Ar11 q11 S11 M11 H11 G11 (by have h_ : fits .byte (.int (nar .byte x1_rr)) = true := fits_nar_byte x1_rr; rw [pr1_b] at h_; exact h_) W11 0 rfl (Nat.le_of_ble_eq_true rfl)
  have F13 : Exa Z h11 b5 "[B" := C5.wr W11
  have K14 : Keep h0 h11 [] := K9.wr W11 (Or.inr sz7)
  have Z15 : n0 ≤ h11.size := Nat.le_trans Z8 (Nat.le_of_eq W11.size.symm)
  have N16 := Fr.snoc X11 N4 ge6
  show Go p.tables e below _ (T11.setTop (mkF m 32 #[.val (.int pa), .val (.int pb), .val (.int pc), .val (.int pd), .val (.int x1_rr), .val (.int x2_rr), .val (.int x3_rr), .val (.int x4_rr), .unset, .unset, .unset, .unset] [(.ref b5)]))
  refine Go.st (fun _ k => XS.dup X11.here hx rfl (hb hby at_32) rfl rfl k) ?_
  show Go p.tables e below _ (T11.setTop (mkF m 33 #[.val (.int pa), .val (.int pb), .val (.int pc), .val (.int pd), .val (.int x1_rr), .val (.int x2_rr), .val (.int x3_rr), .val (.int x4_rr), .unset, .unset, .unset, .unset] [(.ref b5), (.ref b5)]))
  refine Go.st (fun _ k => XS.iconst X11.here hx rfl (hb hby at_33) k) ?_
  show Go p.tables e below _ (T11.setTop (mkF m 34 #[.val (.int pa), .val (.int pb), .val (.int pc), .val (.int pd), .val (.int x1_rr), .val (.int x2_rr), .val (.int x3_rr), .val (.int x4_rr), .unset, .unset, .unset, .unset] [(.int (1 : Int32)), (.ref b5), (.ref b5)]))
  refine Go.st (fun _ k => XS.iload X11.here hx rfl (hb hby at_34) rfl k) ?_
  show Go p.tables e below _ (T11.setTop (mkF m 36 #[.val (.int pa), .val (.int pb), .val (.int pc), .val (.int pd), .val (.int x1_rr), .val (.int x2_rr), .val (.int x3_rr), .val (.int x4_rr), .unset, .unset, .unset, .unset] [(.int x2_rr), (.int (1 : Int32)), (.ref b5), (.ref b5)]))
  obtain ⟨cl17, Ar17, q17, S17, M17, H17, G17⟩ := id F12
  have hin17 : ¬ ((1 : Int32) < 0 ∨ cl17.slots.size ≤ ((1 : Int32)).toNatClampNeg) := inb_of S17 ⟨by decide, by decide⟩
  obtain ⟨T17, h17, X17, e17, W17, st17⟩ := stB X11 hx hZ e11 Ar17 (j := (1 : Int32)) hin17 (g := (mkF m 36 #[.val (.int pa), .val (.int pb), .val (.int pc), .val (.int pd), .val (.int x1_rr), .val (.int x2_rr), .val (.int x3_rr), .val (.int x4_rr), .unset, .unset, .unset, .unset] [(.int x2_rr), (.int (1 : Int32)), (.ref b5), (.ref b5)])) rfl rfl (hb hby at_36)
  rw [pr2_b] at W17
  refine Go.st st17 ?_
  have F18 : Arv Z h17 b5 k5 .byte (4 : Int32) [(.int x1_rr), (.int x2_rr), (.int (0 : Int32)), (.int (0 : Int32))] (.int (0 : Int32)) := Arv.set Ar17 q17 S17 M17 H17 G17 (by have h_ : fits .byte (.int (nar .byte x2_rr)) = true := fits_nar_byte x2_rr; rw [pr2_b] at h_; exact h_) W17 1 rfl (Nat.le_of_ble_eq_true rfl)
  have F19 : Exa Z h17 b5 "[B" := F13.wr W17
  have K20 : Keep h0 h17 [] := K14.wr W17 (Or.inr sz7)
  have Z21 : n0 ≤ h17.size := Nat.le_trans Z15 (Nat.le_of_eq W17.size.symm)
  have N22 := Fr.snoc X17 N16 ge6
  show Go p.tables e below _ (T17.setTop (mkF m 37 #[.val (.int pa), .val (.int pb), .val (.int pc), .val (.int pd), .val (.int x1_rr), .val (.int x2_rr), .val (.int x3_rr), .val (.int x4_rr), .unset, .unset, .unset, .unset] [(.ref b5)]))
  refine Go.st (fun _ k => XS.dup X17.here hx rfl (hb hby at_37) rfl rfl k) ?_
  show Go p.tables e below _ (T17.setTop (mkF m 38 #[.val (.int pa), .val (.int pb), .val (.int pc), .val (.int pd), .val (.int x1_rr), .val (.int x2_rr), .val (.int x3_rr), .val (.int x4_rr), .unset, .unset, .unset, .unset] [(.ref b5), (.ref b5)]))
  refine Go.st (fun _ k => XS.iconst X17.here hx rfl (hb hby at_38) k) ?_
  show Go p.tables e below _ (T17.setTop (mkF m 39 #[.val (.int pa), .val (.int pb), .val (.int pc), .val (.int pd), .val (.int x1_rr), .val (.int x2_rr), .val (.int x3_rr), .val (.int x4_rr), .unset, .unset, .unset, .unset] [(.int (2 : Int32)), (.ref b5), (.ref b5)]))
  refine Go.st (fun _ k => XS.iload X17.here hx rfl (hb hby at_39) rfl k) ?_
  show Go p.tables e below _ (T17.setTop (mkF m 41 #[.val (.int pa), .val (.int pb), .val (.int pc), .val (.int pd), .val (.int x1_rr), .val (.int x2_rr), .val (.int x3_rr), .val (.int x4_rr), .unset, .unset, .unset, .unset] [(.int x3_rr), (.int (2 : Int32)), (.ref b5), (.ref b5)]))
  obtain ⟨cl23, Ar23, q23, S23, M23, H23, G23⟩ := id F18
  have hin23 : ¬ ((2 : Int32) < 0 ∨ cl23.slots.size ≤ ((2 : Int32)).toNatClampNeg) := inb_of S23 ⟨by decide, by decide⟩
  obtain ⟨T23, h23, X23, e23, W23, st23⟩ := stB X17 hx hZ e17 Ar23 (j := (2 : Int32)) hin23 (g := (mkF m 41 #[.val (.int pa), .val (.int pb), .val (.int pc), .val (.int pd), .val (.int x1_rr), .val (.int x2_rr), .val (.int x3_rr), .val (.int x4_rr), .unset, .unset, .unset, .unset] [(.int x3_rr), (.int (2 : Int32)), (.ref b5), (.ref b5)])) rfl rfl (hb hby at_41)
  rw [pr3_b] at W23
  refine Go.st st23 ?_
  have F24 : Arv Z h23 b5 k5 .byte (4 : Int32) [(.int x1_rr), (.int x2_rr), (.int x3_rr), (.int (0 : Int32))] (.int (0 : Int32)) := Arv.set Ar23 q23 S23 M23 H23 G23 (by have h_ : fits .byte (.int (nar .byte x3_rr)) = true := fits_nar_byte x3_rr; rw [pr3_b] at h_; exact h_) W23 2 rfl (Nat.le_of_ble_eq_true rfl)
  have F25 : Exa Z h23 b5 "[B" := F19.wr W23
  have K26 : Keep h0 h23 [] := K20.wr W23 (Or.inr sz7)
  have Z27 : n0 ≤ h23.size := Nat.le_trans Z21 (Nat.le_of_eq W23.size.symm)
  have N28 := Fr.snoc X23 N22 ge6
  show Go p.tables e below _ (T23.setTop (mkF m 42 #[.val (.int pa), .val (.int pb), .val (.int pc), .val (.int pd), .val (.int x1_rr), .val (.int x2_rr), .val (.int x3_rr), .val (.int x4_rr), .unset, .unset, .unset, .unset] [(.ref b5)]))
  refine Go.st (fun _ k => XS.dup X23.here hx rfl (hb hby at_42) rfl rfl k) ?_
  show Go p.tables e below _ (T23.setTop (mkF m 43 #[.val (.int pa), .val (.int pb), .val (.int pc), .val (.int pd), .val (.int x1_rr), .val (.int x2_rr), .val (.int x3_rr), .val (.int x4_rr), .unset, .unset, .unset, .unset] [(.ref b5), (.ref b5)]))
  refine Go.st (fun _ k => XS.iconst X23.here hx rfl (hb hby at_43) k) ?_
  show Go p.tables e below _ (T23.setTop (mkF m 44 #[.val (.int pa), .val (.int pb), .val (.int pc), .val (.int pd), .val (.int x1_rr), .val (.int x2_rr), .val (.int x3_rr), .val (.int x4_rr), .unset, .unset, .unset, .unset] [(.int (3 : Int32)), (.ref b5), (.ref b5)]))
  refine Go.st (fun _ k => XS.iload X23.here hx rfl (hb hby at_44) rfl k) ?_
  show Go p.tables e below _ (T23.setTop (mkF m 46 #[.val (.int pa), .val (.int pb), .val (.int pc), .val (.int pd), .val (.int x1_rr), .val (.int x2_rr), .val (.int x3_rr), .val (.int x4_rr), .unset, .unset, .unset, .unset] [(.int x4_rr), (.int (3 : Int32)), (.ref b5), (.ref b5)]))
  obtain ⟨cl29, Ar29, q29, S29, M29, H29, G29⟩ := id F24
  have hin29 : ¬ ((3 : Int32) < 0 ∨ cl29.slots.size ≤ ((3 : Int32)).toNatClampNeg) := inb_of S29 ⟨by decide, by decide⟩
  obtain ⟨T29, h29, X29, e29, W29, st29⟩ := stB X23 hx hZ e23 Ar29 (j := (3 : Int32)) hin29 (g := (mkF m 46 #[.val (.int pa), .val (.int pb), .val (.int pc), .val (.int pd), .val (.int x1_rr), .val (.int x2_rr), .val (.int x3_rr), .val (.int x4_rr), .unset, .unset, .unset, .unset] [(.int x4_rr), (.int (3 : Int32)), (.ref b5), (.ref b5)])) rfl rfl (hb hby at_46)
  rw [pr4_b] at W29
  refine Go.st st29 ?_
  have F30 : Arv Z h29 b5 k5 .byte (4 : Int32) [(.int x1_rr), (.int x2_rr), (.int x3_rr), (.int x4_rr)] (.int (0 : Int32)) := Arv.set Ar29 q29 S29 M29 H29 G29 (by have h_ : fits .byte (.int (nar .byte x4_rr)) = true := fits_nar_byte x4_rr; rw [pr4_b] at h_; exact h_) W29 3 rfl (Nat.le_of_ble_eq_true rfl)
  have F31 : Exa Z h29 b5 "[B" := F25.wr W29
  have K32 : Keep h0 h29 [] := K26.wr W29 (Or.inr sz7)
  have Z33 : n0 ≤ h29.size := Nat.le_trans Z27 (Nat.le_of_eq W29.size.symm)
  have N34 := Fr.snoc X29 N28 ge6
  show Go p.tables e below _ (T29.setTop (mkF m 47 #[.val (.int pa), .val (.int pb), .val (.int pc), .val (.int pd), .val (.int x1_rr), .val (.int x2_rr), .val (.int x3_rr), .val (.int x4_rr), .unset, .unset, .unset, .unset] [(.ref b5)]))
  refine Go.st (fun _ k => XS.astore X29.here hx rfl (hb hby at_47) rfl rfl (l' := #[.val (.int pa), .val (.int pb), .val (.int pc), .val (.int pd), .val (.int x1_rr), .val (.int x2_rr), .val (.int x3_rr), .val (.int x4_rr), .val (.ref b5), .unset, .unset, .unset]) rfl k) ?_
  show Go p.tables e below _ (T29.setTop (mkF m 49 #[.val (.int pa), .val (.int pb), .val (.int pc), .val (.int pd), .val (.int x1_rr), .val (.int x2_rr), .val (.int x3_rr), .val (.int x4_rr), .val (.ref b5), .unset, .unset, .unset] []))
  refine Go.st (fun _ k => XS.iconst X29.here hx rfl (hb hby at_49) k) ?_
  show Go p.tables e below _ (T29.setTop (mkF m 50 #[.val (.int pa), .val (.int pb), .val (.int pc), .val (.int pd), .val (.int x1_rr), .val (.int x2_rr), .val (.int x3_rr), .val (.int x4_rr), .val (.ref b5), .unset, .unset, .unset] [(.int (0 : Int32))]))
  obtain ⟨T35, h35, k35, X35, e35, E35, A35, C35, st35⟩ := newPE X29 hx hZ (hw _ (List.mem_of_getElem? (i := 4) rfl)) e29 (g := (mkF m 50 #[.val (.int pa), .val (.int pb), .val (.int pc), .val (.int pd), .val (.int x1_rr), .val (.int x2_rr), .val (.int x3_rr), .val (.int x4_rr), .val (.ref b5), .unset, .unset, .unset] [(.int (0 : Int32))])) rfl (hb hby at_50) rfl (by decide) (cap := 0) (by decide) (by decide) (by decide) (by decide) (ad := "[B") (by decide)
  obtain ⟨b35, g35⟩ : ∃ z, z = h29.size := ⟨_, rfl⟩
  rw [← g35] at A35 C35 st35
  refine Go.st st35 ?_
  have ne36 : b5 ≠ b35 := Nat.ne_of_lt (Nat.lt_of_lt_of_le F30.lt (Nat.le_of_eq g35.symm))
  have ge37 : n0 ≤ b35 := Nat.le_trans Z33 (Nat.le_of_eq g35.symm)
  have sz38 : h0.size ≤ b35 := Nat.le_trans K32.1 (Nat.le_of_eq g35.symm)
  have Z39 : n0 ≤ h35.size := Nat.le_trans Z33 E35.1
  have K40 : Keep h0 h35 [] := K32.ext E35
  have F41 : Arv Z h35 b5 k5 .byte (4 : Int32) [(.int x1_rr), (.int x2_rr), (.int x3_rr), (.int x4_rr)] (.int (0 : Int32)) := F30.ext E35
  have F42 : Exa Z h35 b5 "[B" := F31.ext E35
  have F43 : Arv Z h35 b35 k35 .byte (0 : Int32) [] (.int (0 : Int32)) := (Arv.new A35 (by decide)).pad (pad_rep [] (.int (0 : Int32)) 0)
  show Go p.tables e below _ (T35.setTop (mkF m 52 #[.val (.int pa), .val (.int pb), .val (.int pc), .val (.int pd), .val (.int x1_rr), .val (.int x2_rr), .val (.int x3_rr), .val (.int x4_rr), .val (.ref b5), .unset, .unset, .unset] [(.ref b35)]))
  refine Go.st (fun _ k => XS.astore X35.here hx rfl (hb hby at_52) rfl rfl (l' := #[.val (.int pa), .val (.int pb), .val (.int pc), .val (.int pd), .val (.int x1_rr), .val (.int x2_rr), .val (.int x3_rr), .val (.int x4_rr), .val (.ref b5), .val (.ref b35), .unset, .unset]) rfl k) ?_
  show Go p.tables e below _ (T35.setTop (mkF m 54 #[.val (.int pa), .val (.int pb), .val (.int pc), .val (.int pd), .val (.int x1_rr), .val (.int x2_rr), .val (.int x3_rr), .val (.int x4_rr), .val (.ref b5), .val (.ref b35), .unset, .unset] []))
  refine Go.st (fun _ k => XS.aload X35.here hx rfl (hb hby at_54) rfl rfl k) ?_
  show Go p.tables e below _ (T35.setTop (mkF m 56 #[.val (.int pa), .val (.int pb), .val (.int pc), .val (.int pd), .val (.int x1_rr), .val (.int x2_rr), .val (.int x3_rr), .val (.int x4_rr), .val (.ref b5), .val (.ref b35), .unset, .unset] [(.ref b5)]))
  obtain ⟨_, _, ⟨T44, L44, k44, n44⟩, -, X44, ⟨Lc44, hQ44, l44, y44, z44⟩, st44⟩ := Jvm.LawKit.callS X35 hx (y := (⟨"com/example/gapmend/gapmend/Message", "printable", "([B)[B"⟩ : MethodName)) hown (mvT hZ (hw _ (List.mem_of_getElem? (i := 5) rfl))) (mvT hZ (hw _ (List.mem_of_getElem? (i := 6) rfl))) (mvT hZ (hw _ (List.mem_of_getElem? (i := 7) rfl))) (mvT hZ (hw _ (List.mem_of_getElem? (i := 8) rfl))) (by decide) (backOf (W := 0) (rm_print4 l Z a0 hw [] b5 k5 x1_rr x2_rr x3_rr x4_rr h35 n0 Z39 F41 F42) hZ (hw _ (List.mem_of_getElem? (i := 8) rfl)) (hw _ (List.mem_of_getElem? (i := 7) rfl)) (by decide) (by decide)) (g := (mkF m 56 #[.val (.int pa), .val (.int pb), .val (.int pc), .val (.int pd), .val (.int x1_rr), .val (.int x2_rr), .val (.int x3_rr), .val (.int x4_rr), .val (.ref b5), .val (.ref b35), .unset, .unset] [(.ref b5)])) rfl (by rw [hml]; rfl) (argsL := [(.ref b5)]) (rest := []) (lenOf pd_1 rfl) rfl (by show 2 * 0 + _ ≤ _; exact Nat.le_of_eq rfl) (hb hby at_56) (fun _ _ => ⟨rfl, e35, (by decide : 2 + 1 ≤ _), (by decide : 4 + 4 ≤ _)⟩)
  dsimp only [Pt.U, Pt.locs, Pt.cells, Pt.slots] at X44 l44 y44 z44 st44 hQ44
  subst l44 y44 z44
  obtain ⟨b44_fr, rfl, N44q, K44q, g44_fr, s44_fr, Fq44_0⟩ := hQ44
  have N44 := Fr.app N34 N44q
  refine Go.st st44 ?_
  have ne45 : b5 ≠ b44_fr := Nat.ne_of_lt (Nat.lt_of_lt_of_le F41.lt s44_fr)
  have ne46 : b35 ≠ b44_fr := Nat.ne_of_lt (Nat.lt_of_lt_of_le F43.lt s44_fr)
  have sz47 : h0.size ≤ b44_fr := Nat.le_trans K40.1 s44_fr
  have Z48 : n0 ≤ T44.heap.size := Nat.le_trans Z39 K44q.1
  have K49 : Keep h0 T44.heap [] := K40.trans K44q (fun z hz => absurd hz List.not_mem_nil)
  have F50 : Arv Z T44.heap b5 k5 .byte (4 : Int32) [(.int x1_rr), (.int x2_rr), (.int x3_rr), (.int x4_rr)] (.int (0 : Int32)) := F41.keep K44q List.not_mem_nil
  have F51 : Exa Z T44.heap b5 "[B" := F42.keep K44q
  have F52 : Arv Z T44.heap b35 k35 .byte (0 : Int32) [] (.int (0 : Int32)) := F43.keep K44q List.not_mem_nil
  have F53 : Exa Z T44.heap b35 "[B" := C35.keep K44q
  show Go p.tables e below _ (T44.setTop (mkF m 59 #[.val (.int pa), .val (.int pb), .val (.int pc), .val (.int pd), .val (.int x1_rr), .val (.int x2_rr), .val (.int x3_rr), .val (.int x4_rr), .val (.ref b5), .val (.ref b35), .unset, .unset] [(.ref b44_fr)]))
  refine Go.st (fun _ k => XS.astore X44.here hx rfl (hb hby at_59) rfl rfl (l' := #[.val (.int pa), .val (.int pb), .val (.int pc), .val (.int pd), .val (.int x1_rr), .val (.int x2_rr), .val (.int x3_rr), .val (.int x4_rr), .val (.ref b5), .val (.ref b35), .val (.ref b44_fr), .unset]) rfl k) ?_
  show Go p.tables e below _ (T44.setTop (mkF m 61 #[.val (.int pa), .val (.int pb), .val (.int pc), .val (.int pd), .val (.int x1_rr), .val (.int x2_rr), .val (.int x3_rr), .val (.int x4_rr), .val (.ref b5), .val (.ref b35), .val (.ref b44_fr), .unset] []))
  refine Go.st (fun _ k => XS.aload X44.here hx rfl (hb hby at_61) rfl rfl k) ?_
  show Go p.tables e below _ (T44.setTop (mkF m 63 #[.val (.int pa), .val (.int pb), .val (.int pc), .val (.int pd), .val (.int x1_rr), .val (.int x2_rr), .val (.int x3_rr), .val (.int x4_rr), .val (.ref b5), .val (.ref b35), .val (.ref b44_fr), .unset] [(.ref b35)]))
  obtain ⟨_, _, ⟨T54, L54, k54, n54⟩, -, X54, ⟨Lc54, hQ54, l54, y54, z54⟩, st54⟩ := Jvm.LawKit.callS X44 hx (y := (⟨"com/example/gapmend/gapmend/Message", "printable", "([B)[B"⟩ : MethodName)) hown (mvT hZ (hw _ (List.mem_of_getElem? (i := 5) rfl))) (mvT hZ (hw _ (List.mem_of_getElem? (i := 6) rfl))) (mvT hZ (hw _ (List.mem_of_getElem? (i := 7) rfl))) (mvT hZ (hw _ (List.mem_of_getElem? (i := 8) rfl))) (by decide) (backOf (W := 0) (rm_print0 l Z a0 hw [] b35 k35 T44.heap n0 Z48 F52 F53) hZ (hw _ (List.mem_of_getElem? (i := 8) rfl)) (hw _ (List.mem_of_getElem? (i := 7) rfl)) (by decide) (by decide)) (g := (mkF m 63 #[.val (.int pa), .val (.int pb), .val (.int pc), .val (.int pd), .val (.int x1_rr), .val (.int x2_rr), .val (.int x3_rr), .val (.int x4_rr), .val (.ref b5), .val (.ref b35), .val (.ref b44_fr), .unset] [(.ref b35)])) rfl (by rw [hml]; rfl) (argsL := [(.ref b35)]) (rest := []) (lenOf pd_1 rfl) rfl (by show 2 * 0 + _ ≤ _; exact Nat.le_of_eq rfl) (hb hby at_63) (fun _ _ => ⟨rfl, (rfl : T44.heap = T44.heap), (by decide : 3 + 1 ≤ _), (by decide : 8 + 0 ≤ _)⟩)
  dsimp only [Pt.U, Pt.locs, Pt.cells, Pt.slots] at X54 l54 y54 z54 st54 hQ54
  subst l54 y54 z54
  obtain ⟨b54_fr, rfl, N54q, K54q, g54_fr, s54_fr, Fq54_0⟩ := hQ54
  have N54 := Fr.app N44 N54q
  refine Go.st st54 ?_
  have ne55 : b5 ≠ b54_fr := Nat.ne_of_lt (Nat.lt_of_lt_of_le F50.lt s54_fr)
  have ne56 : b35 ≠ b54_fr := Nat.ne_of_lt (Nat.lt_of_lt_of_le F52.lt s54_fr)
  have ne57 : b44_fr ≠ b54_fr := Nat.ne_of_lt (Nat.lt_of_lt_of_le Fq44_0.lt s54_fr)
  have sz58 : h0.size ≤ b54_fr := Nat.le_trans K49.1 s54_fr
  have Z59 : n0 ≤ T54.heap.size := Nat.le_trans Z48 K54q.1
  have K60 : Keep h0 T54.heap [] := K49.trans K54q (fun z hz => absurd hz List.not_mem_nil)
  have F61 : Arv Z T54.heap b5 k5 .byte (4 : Int32) [(.int x1_rr), (.int x2_rr), (.int x3_rr), (.int x4_rr)] (.int (0 : Int32)) := F50.keep K54q List.not_mem_nil
  have F62 : Exa Z T54.heap b5 "[B" := F51.keep K54q
  have F63 : Arv Z T54.heap b35 k35 .byte (0 : Int32) [] (.int (0 : Int32)) := F52.keep K54q List.not_mem_nil
  have F64 : Exa Z T54.heap b35 "[B" := F53.keep K54q
  have F65 : Arv Z T54.heap b44_fr k5 .byte (4 : Int32) [(.int (prF x1_rr)), (.int (prF x2_rr)), (.int (prF x3_rr)), (.int (prF x4_rr))] (.int (0 : Int32)) := Fq44_0.keep K54q List.not_mem_nil
  show Go p.tables e below _ (T54.setTop (mkF m 66 #[.val (.int pa), .val (.int pb), .val (.int pc), .val (.int pd), .val (.int x1_rr), .val (.int x2_rr), .val (.int x3_rr), .val (.int x4_rr), .val (.ref b5), .val (.ref b35), .val (.ref b44_fr), .unset] [(.ref b54_fr)]))
  refine Go.st (fun _ k => XS.astore X54.here hx rfl (hb hby at_66) rfl rfl (l' := #[.val (.int pa), .val (.int pb), .val (.int pc), .val (.int pd), .val (.int x1_rr), .val (.int x2_rr), .val (.int x3_rr), .val (.int x4_rr), .val (.ref b5), .val (.ref b35), .val (.ref b44_fr), .val (.ref b54_fr)]) rfl k) ?_
  show Go p.tables e below _ (T54.setTop (mkF m 68 #[.val (.int pa), .val (.int pb), .val (.int pc), .val (.int pd), .val (.int x1_rr), .val (.int x2_rr), .val (.int x3_rr), .val (.int x4_rr), .val (.ref b5), .val (.ref b35), .val (.ref b44_fr), .val (.ref b54_fr)] []))
  refine Go.st (fun _ k => XS.aload X54.here hx rfl (hb hby at_68) rfl rfl k) ?_
  show Go p.tables e below _ (T54.setTop (mkF m 70 #[.val (.int pa), .val (.int pb), .val (.int pc), .val (.int pd), .val (.int x1_rr), .val (.int x2_rr), .val (.int x3_rr), .val (.int x4_rr), .val (.ref b5), .val (.ref b35), .val (.ref b44_fr), .val (.ref b54_fr)] [(.ref b44_fr)]))
  refine Go.st (fun _ k => XS.aload X54.here hx rfl (hb hby at_70) rfl rfl k) ?_
  show Go p.tables e below _ (T54.setTop (mkF m 72 #[.val (.int pa), .val (.int pb), .val (.int pc), .val (.int pd), .val (.int x1_rr), .val (.int x2_rr), .val (.int x3_rr), .val (.int x4_rr), .val (.ref b5), .val (.ref b35), .val (.ref b44_fr), .val (.ref b54_fr)] [(.ref b5), (.ref b44_fr)]))
  refine Go.st (fun _ k => Jvm.RoadKit.acmp (g := (mkF m 72 #[.val (.int pa), .val (.int pb), .val (.int pc), .val (.int pd), .val (.int x1_rr), .val (.int x2_rr), .val (.int x3_rr), .val (.int x4_rr), .val (.ref b5), .val (.ref b35), .val (.ref b44_fr), .val (.ref b54_fr)] [(.ref b5), (.ref b44_fr)])) X54 hx rfl rfl rfl (pc0 := 72) (pc' := 75) (same := false) rfl (hb hby at_72) rfl (decide_eq_false fun q => (Ne.symm ne45) (Value.ref.inj q)) (by decide) (by decide) k) ?_
  show Go p.tables e below _ (T54.setTop (mkF m 75 #[.val (.int pa), .val (.int pb), .val (.int pc), .val (.int pd), .val (.int x1_rr), .val (.int x2_rr), .val (.int x3_rr), .val (.int x4_rr), .val (.ref b5), .val (.ref b35), .val (.ref b44_fr), .val (.ref b54_fr)] []))
  refine Go.st (fun _ k => XS.aload X54.here hx rfl (hb hby at_75) rfl rfl k) ?_
  show Go p.tables e below _ (T54.setTop (mkF m 77 #[.val (.int pa), .val (.int pb), .val (.int pc), .val (.int pd), .val (.int x1_rr), .val (.int x2_rr), .val (.int x3_rr), .val (.int x4_rr), .val (.ref b5), .val (.ref b35), .val (.ref b44_fr), .val (.ref b54_fr)] [(.ref b44_fr)]))
  obtain ⟨cl66, Ar66, -, S66, M66, -, -⟩ := id F65
  refine Go.st (fun _ k => X54.arraylength hx (by rw [(rfl : T54.heap = T54.heap)]; exact Ar66.1) (State.isArrayOf_alike hZ.alike Ar66.2.1) (g := (mkF m 77 #[.val (.int pa), .val (.int pb), .val (.int pc), .val (.int pd), .val (.int x1_rr), .val (.int x2_rr), .val (.int x3_rr), .val (.int x4_rr), .val (.ref b5), .val (.ref b35), .val (.ref b44_fr), .val (.ref b54_fr)] [(.ref b44_fr)])) rfl rfl (hb hby at_77) _ k) ?_
  rw [len_of S66 M66]
  show Go p.tables e below _ (T54.setTop (mkF m 78 #[.val (.int pa), .val (.int pb), .val (.int pc), .val (.int pd), .val (.int x1_rr), .val (.int x2_rr), .val (.int x3_rr), .val (.int x4_rr), .val (.ref b5), .val (.ref b35), .val (.ref b44_fr), .val (.ref b54_fr)] [(.int (4 : Int32))]))
  refine Go.st (fun _ k => XS.iconst X54.here hx rfl (hb hby at_78) k) ?_
  show Go p.tables e below _ (T54.setTop (mkF m 79 #[.val (.int pa), .val (.int pb), .val (.int pc), .val (.int pd), .val (.int x1_rr), .val (.int x2_rr), .val (.int x3_rr), .val (.int x4_rr), .val (.ref b5), .val (.ref b35), .val (.ref b44_fr), .val (.ref b54_fr)] [(.int (4 : Int32)), (.int (4 : Int32))]))
  have hl67 : (4 : Int32) = (4 : Int32) := by decide
  refine Go.st (fun _ k => XS.icmpNo X54.here hx rfl (hb hby at_79) rfl (Jvm.Free.XT.ii_ne_f hl67) k) ?_
  show Go p.tables e below _ (T54.setTop (mkF m 82 #[.val (.int pa), .val (.int pb), .val (.int pc), .val (.int pd), .val (.int x1_rr), .val (.int x2_rr), .val (.int x3_rr), .val (.int x4_rr), .val (.ref b5), .val (.ref b35), .val (.ref b44_fr), .val (.ref b54_fr)] []))
  refine Go.st (fun _ k => XS.iload X54.here hx rfl (hb hby at_82) rfl k) ?_
  show Go p.tables e below _ (T54.setTop (mkF m 84 #[.val (.int pa), .val (.int pb), .val (.int pc), .val (.int pd), .val (.int x1_rr), .val (.int x2_rr), .val (.int x3_rr), .val (.int x4_rr), .val (.ref b5), .val (.ref b35), .val (.ref b44_fr), .val (.ref b54_fr)] [(.int x1_rr)]))
  refine Go.st (fun _ k => XS.aload X54.here hx rfl (hb hby at_84) rfl rfl k) ?_
  show Go p.tables e below _ (T54.setTop (mkF m 86 #[.val (.int pa), .val (.int pb), .val (.int pc), .val (.int pd), .val (.int x1_rr), .val (.int x2_rr), .val (.int x3_rr), .val (.int x4_rr), .val (.ref b5), .val (.ref b35), .val (.ref b44_fr), .val (.ref b54_fr)] [(.ref b44_fr), (.int x1_rr)]))
  refine Go.st (fun _ k => XS.iconst X54.here hx rfl (hb hby at_86) k) ?_
  show Go p.tables e below _ (T54.setTop (mkF m 87 #[.val (.int pa), .val (.int pb), .val (.int pc), .val (.int pd), .val (.int x1_rr), .val (.int x2_rr), .val (.int x3_rr), .val (.int x4_rr), .val (.ref b5), .val (.ref b35), .val (.ref b44_fr), .val (.ref b54_fr)] [(.int (0 : Int32)), (.ref b44_fr), (.int x1_rr)]))
  obtain ⟨cl68, Ar68, q68, S68, M68, H68, G68⟩ := id F65
  have hin68 : ¬ ((0 : Int32) < 0 ∨ cl68.slots.size ≤ ((0 : Int32)).toNatClampNeg) := inb_of S68 ⟨by decide, by decide⟩
  have hat68 : cl68.slots[((0 : Int32)).toNatClampNeg]? = some (.int (prF x1_rr)) := Has.at H68 hin68 (rfl)
  refine Go.st (fun _ k => X54.baloadBytes hx (j := (0 : Int32)) (v := (.int (prF x1_rr))) (by rw [(rfl : T54.heap = T54.heap)]; exact Ar68.1) (State.isArrayOf_alike hZ.alike Ar68.2.1) Ar68.2.2 hin68 hat68 (g := (mkF m 87 #[.val (.int pa), .val (.int pb), .val (.int pc), .val (.int pd), .val (.int x1_rr), .val (.int x2_rr), .val (.int x3_rr), .val (.int x4_rr), .val (.ref b5), .val (.ref b35), .val (.ref b44_fr), .val (.ref b54_fr)] [(.int (0 : Int32)), (.ref b44_fr), (.int x1_rr)])) rfl rfl (hb hby at_87) _ k) ?_
  show Go p.tables e below _ (T54.setTop (mkF m 88 #[.val (.int pa), .val (.int pb), .val (.int pc), .val (.int pd), .val (.int x1_rr), .val (.int x2_rr), .val (.int x3_rr), .val (.int x4_rr), .val (.ref b5), .val (.ref b35), .val (.ref b44_fr), .val (.ref b54_fr)] [(.int (prF x1_rr)), (.int x1_rr)]))
  obtain ⟨_, _, ⟨T69, L69, k69, n69⟩, -, X69, ⟨Lc69, hQ69, l69, y69, z69⟩, st69⟩ := Jvm.LawKit.callS X54 hx (y := (⟨"com/example/gapmend/gapmend/MessagePrintablePinLaw", "shown", "(BB)Z"⟩ : MethodName)) hown (mvT hZ (hw _ (List.mem_of_getElem? (i := 18) rfl))) (mvT hZ (hw _ (List.mem_of_getElem? (i := 19) rfl))) (mvT hZ (hw _ (List.mem_of_getElem? (i := 2) rfl))) (mvT hZ (hw _ (List.mem_of_getElem? (i := 20) rfl))) (by decide) (backOf (W := 0) (rm_shown l Z a0 hw [] x1_rr (prF x1_rr) T54.heap n0 Z59 ) hZ (hw _ (List.mem_of_getElem? (i := 20) rfl)) (hw _ (List.mem_of_getElem? (i := 2) rfl)) (by decide) (by decide)) (g := (mkF m 88 #[.val (.int pa), .val (.int pb), .val (.int pc), .val (.int pd), .val (.int x1_rr), .val (.int x2_rr), .val (.int x3_rr), .val (.int x4_rr), .val (.ref b5), .val (.ref b35), .val (.ref b44_fr), .val (.ref b54_fr)] [(.int (prF x1_rr)), (.int x1_rr)])) rfl (by rw [hml]; rfl) (argsL := [(.int x1_rr), (.int (prF x1_rr))]) (rest := []) (lenOf pd_2 rfl) rfl (by show 2 * 0 + _ ≤ _; exact Nat.le_of_eq rfl) (hb hby at_88) (fun _ _ => ⟨rfl, (rfl : T54.heap = T54.heap), (by decide : 4 + 0 ≤ _), (by decide : 8 + 0 ≤ _)⟩)
  dsimp only [Pt.U, Pt.locs, Pt.cells, Pt.slots] at X69 l69 y69 z69 st69 hQ69
  subst l69 y69 z69
  obtain ⟨rfl, N69q, e69⟩ := hQ69
  have N69 := Fr.app N54 N69q
  refine Go.st st69 ?_
  show Go p.tables e below _ (T69.setTop (mkF m 91 #[.val (.int pa), .val (.int pb), .val (.int pc), .val (.int pd), .val (.int x1_rr), .val (.int x2_rr), .val (.int x3_rr), .val (.int x4_rr), .val (.ref b5), .val (.ref b35), .val (.ref b44_fr), .val (.ref b54_fr)] [(.int (shF x1_rr (prF x1_rr)))]))
  have hc91 : ¬ ((shF x1_rr (prF x1_rr)) = (0 : Int32)) := (by rw [own_sh]; decide)
  refine Go.st (fun _ k => XS.ifNo X69.here hx rfl (hb hby at_91) rfl (Jvm.Free.XT.i0_eq_f hc91) k) ?_
  show Go p.tables e below _ (T69.setTop (mkF m 94 #[.val (.int pa), .val (.int pb), .val (.int pc), .val (.int pd), .val (.int x1_rr), .val (.int x2_rr), .val (.int x3_rr), .val (.int x4_rr), .val (.ref b5), .val (.ref b35), .val (.ref b44_fr), .val (.ref b54_fr)] []))
  refine Go.st (fun _ k => XS.iload X69.here hx rfl (hb hby at_94) rfl k) ?_
  show Go p.tables e below _ (T69.setTop (mkF m 96 #[.val (.int pa), .val (.int pb), .val (.int pc), .val (.int pd), .val (.int x1_rr), .val (.int x2_rr), .val (.int x3_rr), .val (.int x4_rr), .val (.ref b5), .val (.ref b35), .val (.ref b44_fr), .val (.ref b54_fr)] [(.int x2_rr)]))
  refine Go.st (fun _ k => XS.aload X69.here hx rfl (hb hby at_96) rfl rfl k) ?_
  show Go p.tables e below _ (T69.setTop (mkF m 98 #[.val (.int pa), .val (.int pb), .val (.int pc), .val (.int pd), .val (.int x1_rr), .val (.int x2_rr), .val (.int x3_rr), .val (.int x4_rr), .val (.ref b5), .val (.ref b35), .val (.ref b44_fr), .val (.ref b54_fr)] [(.ref b44_fr), (.int x2_rr)]))
  refine Go.st (fun _ k => XS.iconst X69.here hx rfl (hb hby at_98) k) ?_
  show Go p.tables e below _ (T69.setTop (mkF m 99 #[.val (.int pa), .val (.int pb), .val (.int pc), .val (.int pd), .val (.int x1_rr), .val (.int x2_rr), .val (.int x3_rr), .val (.int x4_rr), .val (.ref b5), .val (.ref b35), .val (.ref b44_fr), .val (.ref b54_fr)] [(.int (1 : Int32)), (.ref b44_fr), (.int x2_rr)]))
  obtain ⟨cl70, Ar70, q70, S70, M70, H70, G70⟩ := id F65
  have hin70 : ¬ ((1 : Int32) < 0 ∨ cl70.slots.size ≤ ((1 : Int32)).toNatClampNeg) := inb_of S70 ⟨by decide, by decide⟩
  have hat70 : cl70.slots[((1 : Int32)).toNatClampNeg]? = some (.int (prF x2_rr)) := Has.at H70 hin70 (rfl)
  refine Go.st (fun _ k => X69.baloadBytes hx (j := (1 : Int32)) (v := (.int (prF x2_rr))) (by rw [e69]; exact Ar70.1) (State.isArrayOf_alike hZ.alike Ar70.2.1) Ar70.2.2 hin70 hat70 (g := (mkF m 99 #[.val (.int pa), .val (.int pb), .val (.int pc), .val (.int pd), .val (.int x1_rr), .val (.int x2_rr), .val (.int x3_rr), .val (.int x4_rr), .val (.ref b5), .val (.ref b35), .val (.ref b44_fr), .val (.ref b54_fr)] [(.int (1 : Int32)), (.ref b44_fr), (.int x2_rr)])) rfl rfl (hb hby at_99) _ k) ?_
  show Go p.tables e below _ (T69.setTop (mkF m 100 #[.val (.int pa), .val (.int pb), .val (.int pc), .val (.int pd), .val (.int x1_rr), .val (.int x2_rr), .val (.int x3_rr), .val (.int x4_rr), .val (.ref b5), .val (.ref b35), .val (.ref b44_fr), .val (.ref b54_fr)] [(.int (prF x2_rr)), (.int x2_rr)]))
  obtain ⟨_, _, ⟨T71, L71, k71, n71⟩, -, X71, ⟨Lc71, hQ71, l71, y71, z71⟩, st71⟩ := Jvm.LawKit.callS X69 hx (y := (⟨"com/example/gapmend/gapmend/MessagePrintablePinLaw", "shown", "(BB)Z"⟩ : MethodName)) hown (mvT hZ (hw _ (List.mem_of_getElem? (i := 18) rfl))) (mvT hZ (hw _ (List.mem_of_getElem? (i := 19) rfl))) (mvT hZ (hw _ (List.mem_of_getElem? (i := 2) rfl))) (mvT hZ (hw _ (List.mem_of_getElem? (i := 20) rfl))) (by decide) (backOf (W := 0) (rm_shown l Z a0 hw [] x2_rr (prF x2_rr) T54.heap n0 Z59 ) hZ (hw _ (List.mem_of_getElem? (i := 20) rfl)) (hw _ (List.mem_of_getElem? (i := 2) rfl)) (by decide) (by decide)) (g := (mkF m 100 #[.val (.int pa), .val (.int pb), .val (.int pc), .val (.int pd), .val (.int x1_rr), .val (.int x2_rr), .val (.int x3_rr), .val (.int x4_rr), .val (.ref b5), .val (.ref b35), .val (.ref b44_fr), .val (.ref b54_fr)] [(.int (prF x2_rr)), (.int x2_rr)])) rfl (by rw [hml]; rfl) (argsL := [(.int x2_rr), (.int (prF x2_rr))]) (rest := []) (lenOf pd_2 rfl) rfl (by show 2 * 0 + _ ≤ _; exact Nat.le_of_eq rfl) (hb hby at_100) (fun _ _ => ⟨rfl, e69, (by decide : 4 + 0 ≤ _), (by decide : 8 + 0 ≤ _)⟩)
  dsimp only [Pt.U, Pt.locs, Pt.cells, Pt.slots] at X71 l71 y71 z71 st71 hQ71
  subst l71 y71 z71
  obtain ⟨rfl, N71q, e71⟩ := hQ71
  have N71 := Fr.app N69 N71q
  refine Go.st st71 ?_
  show Go p.tables e below _ (T71.setTop (mkF m 103 #[.val (.int pa), .val (.int pb), .val (.int pc), .val (.int pd), .val (.int x1_rr), .val (.int x2_rr), .val (.int x3_rr), .val (.int x4_rr), .val (.ref b5), .val (.ref b35), .val (.ref b44_fr), .val (.ref b54_fr)] [(.int (shF x2_rr (prF x2_rr)))]))
  have hc103 : ¬ ((shF x2_rr (prF x2_rr)) = (0 : Int32)) := (by rw [own_sh]; decide)
  refine Go.st (fun _ k => XS.ifNo X71.here hx rfl (hb hby at_103) rfl (Jvm.Free.XT.i0_eq_f hc103) k) ?_
  show Go p.tables e below _ (T71.setTop (mkF m 106 #[.val (.int pa), .val (.int pb), .val (.int pc), .val (.int pd), .val (.int x1_rr), .val (.int x2_rr), .val (.int x3_rr), .val (.int x4_rr), .val (.ref b5), .val (.ref b35), .val (.ref b44_fr), .val (.ref b54_fr)] []))
  refine Go.st (fun _ k => XS.iload X71.here hx rfl (hb hby at_106) rfl k) ?_
  show Go p.tables e below _ (T71.setTop (mkF m 108 #[.val (.int pa), .val (.int pb), .val (.int pc), .val (.int pd), .val (.int x1_rr), .val (.int x2_rr), .val (.int x3_rr), .val (.int x4_rr), .val (.ref b5), .val (.ref b35), .val (.ref b44_fr), .val (.ref b54_fr)] [(.int x3_rr)]))
  refine Go.st (fun _ k => XS.aload X71.here hx rfl (hb hby at_108) rfl rfl k) ?_
  show Go p.tables e below _ (T71.setTop (mkF m 110 #[.val (.int pa), .val (.int pb), .val (.int pc), .val (.int pd), .val (.int x1_rr), .val (.int x2_rr), .val (.int x3_rr), .val (.int x4_rr), .val (.ref b5), .val (.ref b35), .val (.ref b44_fr), .val (.ref b54_fr)] [(.ref b44_fr), (.int x3_rr)]))
  refine Go.st (fun _ k => XS.iconst X71.here hx rfl (hb hby at_110) k) ?_
  show Go p.tables e below _ (T71.setTop (mkF m 111 #[.val (.int pa), .val (.int pb), .val (.int pc), .val (.int pd), .val (.int x1_rr), .val (.int x2_rr), .val (.int x3_rr), .val (.int x4_rr), .val (.ref b5), .val (.ref b35), .val (.ref b44_fr), .val (.ref b54_fr)] [(.int (2 : Int32)), (.ref b44_fr), (.int x3_rr)]))
  obtain ⟨cl72, Ar72, q72, S72, M72, H72, G72⟩ := id F65
  have hin72 : ¬ ((2 : Int32) < 0 ∨ cl72.slots.size ≤ ((2 : Int32)).toNatClampNeg) := inb_of S72 ⟨by decide, by decide⟩
  have hat72 : cl72.slots[((2 : Int32)).toNatClampNeg]? = some (.int (prF x3_rr)) := Has.at H72 hin72 (rfl)
  refine Go.st (fun _ k => X71.baloadBytes hx (j := (2 : Int32)) (v := (.int (prF x3_rr))) (by rw [e71]; exact Ar72.1) (State.isArrayOf_alike hZ.alike Ar72.2.1) Ar72.2.2 hin72 hat72 (g := (mkF m 111 #[.val (.int pa), .val (.int pb), .val (.int pc), .val (.int pd), .val (.int x1_rr), .val (.int x2_rr), .val (.int x3_rr), .val (.int x4_rr), .val (.ref b5), .val (.ref b35), .val (.ref b44_fr), .val (.ref b54_fr)] [(.int (2 : Int32)), (.ref b44_fr), (.int x3_rr)])) rfl rfl (hb hby at_111) _ k) ?_
  show Go p.tables e below _ (T71.setTop (mkF m 112 #[.val (.int pa), .val (.int pb), .val (.int pc), .val (.int pd), .val (.int x1_rr), .val (.int x2_rr), .val (.int x3_rr), .val (.int x4_rr), .val (.ref b5), .val (.ref b35), .val (.ref b44_fr), .val (.ref b54_fr)] [(.int (prF x3_rr)), (.int x3_rr)]))
  obtain ⟨_, _, ⟨T73, L73, k73, n73⟩, -, X73, ⟨Lc73, hQ73, l73, y73, z73⟩, st73⟩ := Jvm.LawKit.callS X71 hx (y := (⟨"com/example/gapmend/gapmend/MessagePrintablePinLaw", "shown", "(BB)Z"⟩ : MethodName)) hown (mvT hZ (hw _ (List.mem_of_getElem? (i := 18) rfl))) (mvT hZ (hw _ (List.mem_of_getElem? (i := 19) rfl))) (mvT hZ (hw _ (List.mem_of_getElem? (i := 2) rfl))) (mvT hZ (hw _ (List.mem_of_getElem? (i := 20) rfl))) (by decide) (backOf (W := 0) (rm_shown l Z a0 hw [] x3_rr (prF x3_rr) T54.heap n0 Z59 ) hZ (hw _ (List.mem_of_getElem? (i := 20) rfl)) (hw _ (List.mem_of_getElem? (i := 2) rfl)) (by decide) (by decide)) (g := (mkF m 112 #[.val (.int pa), .val (.int pb), .val (.int pc), .val (.int pd), .val (.int x1_rr), .val (.int x2_rr), .val (.int x3_rr), .val (.int x4_rr), .val (.ref b5), .val (.ref b35), .val (.ref b44_fr), .val (.ref b54_fr)] [(.int (prF x3_rr)), (.int x3_rr)])) rfl (by rw [hml]; rfl) (argsL := [(.int x3_rr), (.int (prF x3_rr))]) (rest := []) (lenOf pd_2 rfl) rfl (by show 2 * 0 + _ ≤ _; exact Nat.le_of_eq rfl) (hb hby at_112) (fun _ _ => ⟨rfl, e71, (by decide : 4 + 0 ≤ _), (by decide : 8 + 0 ≤ _)⟩)
  dsimp only [Pt.U, Pt.locs, Pt.cells, Pt.slots] at X73 l73 y73 z73 st73 hQ73
  subst l73 y73 z73
  obtain ⟨rfl, N73q, e73⟩ := hQ73
  have N73 := Fr.app N71 N73q
  refine Go.st st73 ?_
  show Go p.tables e below _ (T73.setTop (mkF m 115 #[.val (.int pa), .val (.int pb), .val (.int pc), .val (.int pd), .val (.int x1_rr), .val (.int x2_rr), .val (.int x3_rr), .val (.int x4_rr), .val (.ref b5), .val (.ref b35), .val (.ref b44_fr), .val (.ref b54_fr)] [(.int (shF x3_rr (prF x3_rr)))]))
  have hc115 : ¬ ((shF x3_rr (prF x3_rr)) = (0 : Int32)) := (by rw [own_sh]; decide)
  refine Go.st (fun _ k => XS.ifNo X73.here hx rfl (hb hby at_115) rfl (Jvm.Free.XT.i0_eq_f hc115) k) ?_
  show Go p.tables e below _ (T73.setTop (mkF m 118 #[.val (.int pa), .val (.int pb), .val (.int pc), .val (.int pd), .val (.int x1_rr), .val (.int x2_rr), .val (.int x3_rr), .val (.int x4_rr), .val (.ref b5), .val (.ref b35), .val (.ref b44_fr), .val (.ref b54_fr)] []))
  refine Go.st (fun _ k => XS.iload X73.here hx rfl (hb hby at_118) rfl k) ?_
  show Go p.tables e below _ (T73.setTop (mkF m 120 #[.val (.int pa), .val (.int pb), .val (.int pc), .val (.int pd), .val (.int x1_rr), .val (.int x2_rr), .val (.int x3_rr), .val (.int x4_rr), .val (.ref b5), .val (.ref b35), .val (.ref b44_fr), .val (.ref b54_fr)] [(.int x4_rr)]))
  refine Go.st (fun _ k => XS.aload X73.here hx rfl (hb hby at_120) rfl rfl k) ?_
  show Go p.tables e below _ (T73.setTop (mkF m 122 #[.val (.int pa), .val (.int pb), .val (.int pc), .val (.int pd), .val (.int x1_rr), .val (.int x2_rr), .val (.int x3_rr), .val (.int x4_rr), .val (.ref b5), .val (.ref b35), .val (.ref b44_fr), .val (.ref b54_fr)] [(.ref b44_fr), (.int x4_rr)]))
  refine Go.st (fun _ k => XS.iconst X73.here hx rfl (hb hby at_122) k) ?_
  show Go p.tables e below _ (T73.setTop (mkF m 123 #[.val (.int pa), .val (.int pb), .val (.int pc), .val (.int pd), .val (.int x1_rr), .val (.int x2_rr), .val (.int x3_rr), .val (.int x4_rr), .val (.ref b5), .val (.ref b35), .val (.ref b44_fr), .val (.ref b54_fr)] [(.int (3 : Int32)), (.ref b44_fr), (.int x4_rr)]))
  obtain ⟨cl74, Ar74, q74, S74, M74, H74, G74⟩ := id F65
  have hin74 : ¬ ((3 : Int32) < 0 ∨ cl74.slots.size ≤ ((3 : Int32)).toNatClampNeg) := inb_of S74 ⟨by decide, by decide⟩
  have hat74 : cl74.slots[((3 : Int32)).toNatClampNeg]? = some (.int (prF x4_rr)) := Has.at H74 hin74 (rfl)
  refine Go.st (fun _ k => X73.baloadBytes hx (j := (3 : Int32)) (v := (.int (prF x4_rr))) (by rw [e73]; exact Ar74.1) (State.isArrayOf_alike hZ.alike Ar74.2.1) Ar74.2.2 hin74 hat74 (g := (mkF m 123 #[.val (.int pa), .val (.int pb), .val (.int pc), .val (.int pd), .val (.int x1_rr), .val (.int x2_rr), .val (.int x3_rr), .val (.int x4_rr), .val (.ref b5), .val (.ref b35), .val (.ref b44_fr), .val (.ref b54_fr)] [(.int (3 : Int32)), (.ref b44_fr), (.int x4_rr)])) rfl rfl (hb hby at_123) _ k) ?_
  show Go p.tables e below _ (T73.setTop (mkF m 124 #[.val (.int pa), .val (.int pb), .val (.int pc), .val (.int pd), .val (.int x1_rr), .val (.int x2_rr), .val (.int x3_rr), .val (.int x4_rr), .val (.ref b5), .val (.ref b35), .val (.ref b44_fr), .val (.ref b54_fr)] [(.int (prF x4_rr)), (.int x4_rr)]))
  obtain ⟨_, _, ⟨T75, L75, k75, n75⟩, -, X75, ⟨Lc75, hQ75, l75, y75, z75⟩, st75⟩ := Jvm.LawKit.callS X73 hx (y := (⟨"com/example/gapmend/gapmend/MessagePrintablePinLaw", "shown", "(BB)Z"⟩ : MethodName)) hown (mvT hZ (hw _ (List.mem_of_getElem? (i := 18) rfl))) (mvT hZ (hw _ (List.mem_of_getElem? (i := 19) rfl))) (mvT hZ (hw _ (List.mem_of_getElem? (i := 2) rfl))) (mvT hZ (hw _ (List.mem_of_getElem? (i := 20) rfl))) (by decide) (backOf (W := 0) (rm_shown l Z a0 hw [] x4_rr (prF x4_rr) T54.heap n0 Z59 ) hZ (hw _ (List.mem_of_getElem? (i := 20) rfl)) (hw _ (List.mem_of_getElem? (i := 2) rfl)) (by decide) (by decide)) (g := (mkF m 124 #[.val (.int pa), .val (.int pb), .val (.int pc), .val (.int pd), .val (.int x1_rr), .val (.int x2_rr), .val (.int x3_rr), .val (.int x4_rr), .val (.ref b5), .val (.ref b35), .val (.ref b44_fr), .val (.ref b54_fr)] [(.int (prF x4_rr)), (.int x4_rr)])) rfl (by rw [hml]; rfl) (argsL := [(.int x4_rr), (.int (prF x4_rr))]) (rest := []) (lenOf pd_2 rfl) rfl (by show 2 * 0 + _ ≤ _; exact Nat.le_of_eq rfl) (hb hby at_124) (fun _ _ => ⟨rfl, e73, (by decide : 4 + 0 ≤ _), (by decide : 8 + 0 ≤ _)⟩)
  dsimp only [Pt.U, Pt.locs, Pt.cells, Pt.slots] at X75 l75 y75 z75 st75 hQ75
  subst l75 y75 z75
  obtain ⟨rfl, N75q, e75⟩ := hQ75
  have N75 := Fr.app N73 N75q
  refine Go.st st75 ?_
  show Go p.tables e below _ (T75.setTop (mkF m 127 #[.val (.int pa), .val (.int pb), .val (.int pc), .val (.int pd), .val (.int x1_rr), .val (.int x2_rr), .val (.int x3_rr), .val (.int x4_rr), .val (.ref b5), .val (.ref b35), .val (.ref b44_fr), .val (.ref b54_fr)] [(.int (shF x4_rr (prF x4_rr)))]))
  have hc127 : ¬ ((shF x4_rr (prF x4_rr)) = (0 : Int32)) := (by rw [own_sh]; decide)
  refine Go.st (fun _ k => XS.ifNo X75.here hx rfl (hb hby at_127) rfl (Jvm.Free.XT.i0_eq_f hc127) k) ?_
  show Go p.tables e below _ (T75.setTop (mkF m 130 #[.val (.int pa), .val (.int pb), .val (.int pc), .val (.int pd), .val (.int x1_rr), .val (.int x2_rr), .val (.int x3_rr), .val (.int x4_rr), .val (.ref b5), .val (.ref b35), .val (.ref b44_fr), .val (.ref b54_fr)] []))
  refine Go.st (fun _ k => XS.aload X75.here hx rfl (hb hby at_130) rfl rfl k) ?_
  show Go p.tables e below _ (T75.setTop (mkF m 132 #[.val (.int pa), .val (.int pb), .val (.int pc), .val (.int pd), .val (.int x1_rr), .val (.int x2_rr), .val (.int x3_rr), .val (.int x4_rr), .val (.ref b5), .val (.ref b35), .val (.ref b44_fr), .val (.ref b54_fr)] [(.ref b5)]))
  refine Go.st (fun _ k => XS.iconst X75.here hx rfl (hb hby at_132) k) ?_
  show Go p.tables e below _ (T75.setTop (mkF m 133 #[.val (.int pa), .val (.int pb), .val (.int pc), .val (.int pd), .val (.int x1_rr), .val (.int x2_rr), .val (.int x3_rr), .val (.int x4_rr), .val (.ref b5), .val (.ref b35), .val (.ref b44_fr), .val (.ref b54_fr)] [(.int (0 : Int32)), (.ref b5)]))
  obtain ⟨cl76, Ar76, q76, S76, M76, H76, G76⟩ := id F61
  have hin76 : ¬ ((0 : Int32) < 0 ∨ cl76.slots.size ≤ ((0 : Int32)).toNatClampNeg) := inb_of S76 ⟨by decide, by decide⟩
  have hat76 : cl76.slots[((0 : Int32)).toNatClampNeg]? = some (.int x1_rr) := Has.at H76 hin76 (rfl)
  refine Go.st (fun _ k => X75.baloadBytes hx (j := (0 : Int32)) (v := (.int x1_rr)) (by rw [e75]; exact Ar76.1) (State.isArrayOf_alike hZ.alike Ar76.2.1) Ar76.2.2 hin76 hat76 (g := (mkF m 133 #[.val (.int pa), .val (.int pb), .val (.int pc), .val (.int pd), .val (.int x1_rr), .val (.int x2_rr), .val (.int x3_rr), .val (.int x4_rr), .val (.ref b5), .val (.ref b35), .val (.ref b44_fr), .val (.ref b54_fr)] [(.int (0 : Int32)), (.ref b5)])) rfl rfl (hb hby at_133) _ k) ?_
  show Go p.tables e below _ (T75.setTop (mkF m 134 #[.val (.int pa), .val (.int pb), .val (.int pc), .val (.int pd), .val (.int x1_rr), .val (.int x2_rr), .val (.int x3_rr), .val (.int x4_rr), .val (.ref b5), .val (.ref b35), .val (.ref b44_fr), .val (.ref b54_fr)] [(.int x1_rr)]))
  refine Go.st (fun _ k => XS.iload X75.here hx rfl (hb hby at_134) rfl k) ?_
  show Go p.tables e below _ (T75.setTop (mkF m 136 #[.val (.int pa), .val (.int pb), .val (.int pc), .val (.int pd), .val (.int x1_rr), .val (.int x2_rr), .val (.int x3_rr), .val (.int x4_rr), .val (.ref b5), .val (.ref b35), .val (.ref b44_fr), .val (.ref b54_fr)] [(.int x1_rr), (.int x1_rr)]))
  have hc136 : x1_rr = x1_rr := rfl
  refine Go.st (fun _ k => XS.icmpNo X75.here hx rfl (hb hby at_136) rfl (Jvm.Free.XT.ii_ne_f hc136) k) ?_
  show Go p.tables e below _ (T75.setTop (mkF m 139 #[.val (.int pa), .val (.int pb), .val (.int pc), .val (.int pd), .val (.int x1_rr), .val (.int x2_rr), .val (.int x3_rr), .val (.int x4_rr), .val (.ref b5), .val (.ref b35), .val (.ref b44_fr), .val (.ref b54_fr)] []))
  refine Go.st (fun _ k => XS.aload X75.here hx rfl (hb hby at_139) rfl rfl k) ?_
  show Go p.tables e below _ (T75.setTop (mkF m 141 #[.val (.int pa), .val (.int pb), .val (.int pc), .val (.int pd), .val (.int x1_rr), .val (.int x2_rr), .val (.int x3_rr), .val (.int x4_rr), .val (.ref b5), .val (.ref b35), .val (.ref b44_fr), .val (.ref b54_fr)] [(.ref b5)]))
  refine Go.st (fun _ k => XS.iconst X75.here hx rfl (hb hby at_141) k) ?_
  show Go p.tables e below _ (T75.setTop (mkF m 142 #[.val (.int pa), .val (.int pb), .val (.int pc), .val (.int pd), .val (.int x1_rr), .val (.int x2_rr), .val (.int x3_rr), .val (.int x4_rr), .val (.ref b5), .val (.ref b35), .val (.ref b44_fr), .val (.ref b54_fr)] [(.int (1 : Int32)), (.ref b5)]))
  obtain ⟨cl77, Ar77, q77, S77, M77, H77, G77⟩ := id F61
  have hin77 : ¬ ((1 : Int32) < 0 ∨ cl77.slots.size ≤ ((1 : Int32)).toNatClampNeg) := inb_of S77 ⟨by decide, by decide⟩
  have hat77 : cl77.slots[((1 : Int32)).toNatClampNeg]? = some (.int x2_rr) := Has.at H77 hin77 (rfl)
  refine Go.st (fun _ k => X75.baloadBytes hx (j := (1 : Int32)) (v := (.int x2_rr)) (by rw [e75]; exact Ar77.1) (State.isArrayOf_alike hZ.alike Ar77.2.1) Ar77.2.2 hin77 hat77 (g := (mkF m 142 #[.val (.int pa), .val (.int pb), .val (.int pc), .val (.int pd), .val (.int x1_rr), .val (.int x2_rr), .val (.int x3_rr), .val (.int x4_rr), .val (.ref b5), .val (.ref b35), .val (.ref b44_fr), .val (.ref b54_fr)] [(.int (1 : Int32)), (.ref b5)])) rfl rfl (hb hby at_142) _ k) ?_
  show Go p.tables e below _ (T75.setTop (mkF m 143 #[.val (.int pa), .val (.int pb), .val (.int pc), .val (.int pd), .val (.int x1_rr), .val (.int x2_rr), .val (.int x3_rr), .val (.int x4_rr), .val (.ref b5), .val (.ref b35), .val (.ref b44_fr), .val (.ref b54_fr)] [(.int x2_rr)]))
  refine Go.st (fun _ k => XS.iload X75.here hx rfl (hb hby at_143) rfl k) ?_
  show Go p.tables e below _ (T75.setTop (mkF m 145 #[.val (.int pa), .val (.int pb), .val (.int pc), .val (.int pd), .val (.int x1_rr), .val (.int x2_rr), .val (.int x3_rr), .val (.int x4_rr), .val (.ref b5), .val (.ref b35), .val (.ref b44_fr), .val (.ref b54_fr)] [(.int x2_rr), (.int x2_rr)]))
  have hc145 : x2_rr = x2_rr := rfl
  refine Go.st (fun _ k => XS.icmpNo X75.here hx rfl (hb hby at_145) rfl (Jvm.Free.XT.ii_ne_f hc145) k) ?_
  show Go p.tables e below _ (T75.setTop (mkF m 148 #[.val (.int pa), .val (.int pb), .val (.int pc), .val (.int pd), .val (.int x1_rr), .val (.int x2_rr), .val (.int x3_rr), .val (.int x4_rr), .val (.ref b5), .val (.ref b35), .val (.ref b44_fr), .val (.ref b54_fr)] []))
  refine Go.st (fun _ k => XS.aload X75.here hx rfl (hb hby at_148) rfl rfl k) ?_
  show Go p.tables e below _ (T75.setTop (mkF m 150 #[.val (.int pa), .val (.int pb), .val (.int pc), .val (.int pd), .val (.int x1_rr), .val (.int x2_rr), .val (.int x3_rr), .val (.int x4_rr), .val (.ref b5), .val (.ref b35), .val (.ref b44_fr), .val (.ref b54_fr)] [(.ref b5)]))
  refine Go.st (fun _ k => XS.iconst X75.here hx rfl (hb hby at_150) k) ?_
  show Go p.tables e below _ (T75.setTop (mkF m 151 #[.val (.int pa), .val (.int pb), .val (.int pc), .val (.int pd), .val (.int x1_rr), .val (.int x2_rr), .val (.int x3_rr), .val (.int x4_rr), .val (.ref b5), .val (.ref b35), .val (.ref b44_fr), .val (.ref b54_fr)] [(.int (2 : Int32)), (.ref b5)]))
  obtain ⟨cl78, Ar78, q78, S78, M78, H78, G78⟩ := id F61
  have hin78 : ¬ ((2 : Int32) < 0 ∨ cl78.slots.size ≤ ((2 : Int32)).toNatClampNeg) := inb_of S78 ⟨by decide, by decide⟩
  have hat78 : cl78.slots[((2 : Int32)).toNatClampNeg]? = some (.int x3_rr) := Has.at H78 hin78 (rfl)
  refine Go.st (fun _ k => X75.baloadBytes hx (j := (2 : Int32)) (v := (.int x3_rr)) (by rw [e75]; exact Ar78.1) (State.isArrayOf_alike hZ.alike Ar78.2.1) Ar78.2.2 hin78 hat78 (g := (mkF m 151 #[.val (.int pa), .val (.int pb), .val (.int pc), .val (.int pd), .val (.int x1_rr), .val (.int x2_rr), .val (.int x3_rr), .val (.int x4_rr), .val (.ref b5), .val (.ref b35), .val (.ref b44_fr), .val (.ref b54_fr)] [(.int (2 : Int32)), (.ref b5)])) rfl rfl (hb hby at_151) _ k) ?_
  show Go p.tables e below _ (T75.setTop (mkF m 152 #[.val (.int pa), .val (.int pb), .val (.int pc), .val (.int pd), .val (.int x1_rr), .val (.int x2_rr), .val (.int x3_rr), .val (.int x4_rr), .val (.ref b5), .val (.ref b35), .val (.ref b44_fr), .val (.ref b54_fr)] [(.int x3_rr)]))
  refine Go.st (fun _ k => XS.iload X75.here hx rfl (hb hby at_152) rfl k) ?_
  show Go p.tables e below _ (T75.setTop (mkF m 154 #[.val (.int pa), .val (.int pb), .val (.int pc), .val (.int pd), .val (.int x1_rr), .val (.int x2_rr), .val (.int x3_rr), .val (.int x4_rr), .val (.ref b5), .val (.ref b35), .val (.ref b44_fr), .val (.ref b54_fr)] [(.int x3_rr), (.int x3_rr)]))
  have hc154 : x3_rr = x3_rr := rfl
  refine Go.st (fun _ k => XS.icmpNo X75.here hx rfl (hb hby at_154) rfl (Jvm.Free.XT.ii_ne_f hc154) k) ?_
  show Go p.tables e below _ (T75.setTop (mkF m 157 #[.val (.int pa), .val (.int pb), .val (.int pc), .val (.int pd), .val (.int x1_rr), .val (.int x2_rr), .val (.int x3_rr), .val (.int x4_rr), .val (.ref b5), .val (.ref b35), .val (.ref b44_fr), .val (.ref b54_fr)] []))
  refine Go.st (fun _ k => XS.aload X75.here hx rfl (hb hby at_157) rfl rfl k) ?_
  show Go p.tables e below _ (T75.setTop (mkF m 159 #[.val (.int pa), .val (.int pb), .val (.int pc), .val (.int pd), .val (.int x1_rr), .val (.int x2_rr), .val (.int x3_rr), .val (.int x4_rr), .val (.ref b5), .val (.ref b35), .val (.ref b44_fr), .val (.ref b54_fr)] [(.ref b5)]))
  refine Go.st (fun _ k => XS.iconst X75.here hx rfl (hb hby at_159) k) ?_
  show Go p.tables e below _ (T75.setTop (mkF m 160 #[.val (.int pa), .val (.int pb), .val (.int pc), .val (.int pd), .val (.int x1_rr), .val (.int x2_rr), .val (.int x3_rr), .val (.int x4_rr), .val (.ref b5), .val (.ref b35), .val (.ref b44_fr), .val (.ref b54_fr)] [(.int (3 : Int32)), (.ref b5)]))
  obtain ⟨cl79, Ar79, q79, S79, M79, H79, G79⟩ := id F61
  have hin79 : ¬ ((3 : Int32) < 0 ∨ cl79.slots.size ≤ ((3 : Int32)).toNatClampNeg) := inb_of S79 ⟨by decide, by decide⟩
  have hat79 : cl79.slots[((3 : Int32)).toNatClampNeg]? = some (.int x4_rr) := Has.at H79 hin79 (rfl)
  refine Go.st (fun _ k => X75.baloadBytes hx (j := (3 : Int32)) (v := (.int x4_rr)) (by rw [e75]; exact Ar79.1) (State.isArrayOf_alike hZ.alike Ar79.2.1) Ar79.2.2 hin79 hat79 (g := (mkF m 160 #[.val (.int pa), .val (.int pb), .val (.int pc), .val (.int pd), .val (.int x1_rr), .val (.int x2_rr), .val (.int x3_rr), .val (.int x4_rr), .val (.ref b5), .val (.ref b35), .val (.ref b44_fr), .val (.ref b54_fr)] [(.int (3 : Int32)), (.ref b5)])) rfl rfl (hb hby at_160) _ k) ?_
  show Go p.tables e below _ (T75.setTop (mkF m 161 #[.val (.int pa), .val (.int pb), .val (.int pc), .val (.int pd), .val (.int x1_rr), .val (.int x2_rr), .val (.int x3_rr), .val (.int x4_rr), .val (.ref b5), .val (.ref b35), .val (.ref b44_fr), .val (.ref b54_fr)] [(.int x4_rr)]))
  refine Go.st (fun _ k => XS.iload X75.here hx rfl (hb hby at_161) rfl k) ?_
  show Go p.tables e below _ (T75.setTop (mkF m 163 #[.val (.int pa), .val (.int pb), .val (.int pc), .val (.int pd), .val (.int x1_rr), .val (.int x2_rr), .val (.int x3_rr), .val (.int x4_rr), .val (.ref b5), .val (.ref b35), .val (.ref b44_fr), .val (.ref b54_fr)] [(.int x4_rr), (.int x4_rr)]))
  have hc163 : x4_rr = x4_rr := rfl
  refine Go.st (fun _ k => XS.icmpNo X75.here hx rfl (hb hby at_163) rfl (Jvm.Free.XT.ii_ne_f hc163) k) ?_
  show Go p.tables e below _ (T75.setTop (mkF m 166 #[.val (.int pa), .val (.int pb), .val (.int pc), .val (.int pd), .val (.int x1_rr), .val (.int x2_rr), .val (.int x3_rr), .val (.int x4_rr), .val (.ref b5), .val (.ref b35), .val (.ref b44_fr), .val (.ref b54_fr)] []))
  refine Go.st (fun _ k => XS.aload X75.here hx rfl (hb hby at_166) rfl rfl k) ?_
  show Go p.tables e below _ (T75.setTop (mkF m 168 #[.val (.int pa), .val (.int pb), .val (.int pc), .val (.int pd), .val (.int x1_rr), .val (.int x2_rr), .val (.int x3_rr), .val (.int x4_rr), .val (.ref b5), .val (.ref b35), .val (.ref b44_fr), .val (.ref b54_fr)] [(.ref b54_fr)]))
  obtain ⟨cl80, Ar80, -, S80, M80, -, -⟩ := id Fq54_0
  refine Go.st (fun _ k => X75.arraylength hx (by rw [e75]; exact Ar80.1) (State.isArrayOf_alike hZ.alike Ar80.2.1) (g := (mkF m 168 #[.val (.int pa), .val (.int pb), .val (.int pc), .val (.int pd), .val (.int x1_rr), .val (.int x2_rr), .val (.int x3_rr), .val (.int x4_rr), .val (.ref b5), .val (.ref b35), .val (.ref b44_fr), .val (.ref b54_fr)] [(.ref b54_fr)])) rfl rfl (hb hby at_168) _ k) ?_
  rw [len_of S80 M80]
  show Go p.tables e below _ (T75.setTop (mkF m 169 #[.val (.int pa), .val (.int pb), .val (.int pc), .val (.int pd), .val (.int x1_rr), .val (.int x2_rr), .val (.int x3_rr), .val (.int x4_rr), .val (.ref b5), .val (.ref b35), .val (.ref b44_fr), .val (.ref b54_fr)] [(.int (0 : Int32))]))
  have hl81 : (0 : Int32) = (0 : Int32) := by decide
  refine Go.st (fun _ k => XS.ifNo X75.here hx rfl (hb hby at_169) rfl (Jvm.Free.XT.i0_ne_f hl81) k) ?_
  show Go p.tables e below _ (T75.setTop (mkF m 172 #[.val (.int pa), .val (.int pb), .val (.int pc), .val (.int pd), .val (.int x1_rr), .val (.int x2_rr), .val (.int x3_rr), .val (.int x4_rr), .val (.ref b5), .val (.ref b35), .val (.ref b44_fr), .val (.ref b54_fr)] []))
  refine Go.st (fun _ k => XS.iconst X75.here hx rfl (hb hby at_172) k) ?_
  show Go p.tables e below _ (T75.setTop (mkF m 173 #[.val (.int pa), .val (.int pb), .val (.int pc), .val (.int pd), .val (.int x1_rr), .val (.int x2_rr), .val (.int x3_rr), .val (.int x4_rr), .val (.ref b5), .val (.ref b35), .val (.ref b44_fr), .val (.ref b54_fr)] [(.int (1 : Int32))]))
  refine Go.st (fun _ k => XS.goto X75.here hx rfl (pc0 := 173) (pc' := 177) rfl (hb hby at_173) (by decide) (by decide) k) ?_
  show Go p.tables e below _ (T75.setTop (mkF m 177 #[.val (.int pa), .val (.int pb), .val (.int pc), .val (.int pd), .val (.int x1_rr), .val (.int x2_rr), .val (.int x3_rr), .val (.int x4_rr), .val (.ref b5), .val (.ref b35), .val (.ref b44_fr), .val (.ref b54_fr)] [(.int (1 : Int32))]))
  subst hG
  obtain ⟨fs, hr, hrun, hended, hW, hsame⟩ := X75.leave (v := some (.int (nar .boolean (1 : Int32)))) (fun h => by rw [Bd.returns] at h; cases h)
  refine ⟨_, _, ?_, hrun, hended, _, _, rfl, ?_, ⟨_, rfl⟩, hW, hsame.mono (by decide) (by decide)⟩
  · exact retN X75 hx (t := .boolean) Bd.returns (by simp) (hb hby at_177) hr
  · show Q_law Z pa pb pc pd h0 n0 _ T75.heap _
    rw [e75]
    exact ⟨rfl, N75, K60⟩
set_option maxRecDepth 65536 in
set_option maxHeartbeats 40000000 in
theorem comes_1 {Post : Tables → Env → Array Value → State → Outcome → State → Prop} (hpost : ∀ tb e args s v u, (limb_1_1.after args s (.returned v) u = true ∧ limb_1_2.after args s (.returned v) u = true ∧ True) → FrameEnd s (.returned v) u (Jvm.fieldLocs frame_1_writes args s ++ Jvm.arrayLocs frame_1_arrays args s ++ Jvm.staticLocs frame_1_statics s) 16 128 → Post tb e args s (.returned v) u) :
    ArmFor flags0 classFile x code maxLocals ret World_1 tables_1 room_1 Calls_1 rest_1 Pre_1 Post := by
  intro l hfl _ _ p e ha hc hk s m args below hf hA hF happ hP
  obtain ⟨hcalls, hrest, hpre⟩ := hP
  obtain ⟨-, -, -, hnamed, -, -, -, hat⟩ := (Spec.applies_iff hf).mp happ
  obtain ⟨hg, hn⟩ := and_e (Cond.before_iff.mp (show (Jvm.Cond.and given_1 narrow_1).before args s = true from hpre))
  obtain ⟨hcount, hg0⟩ := and_e hg
  obtain ⟨hv0, hg1⟩ := and_e hg0
  obtain ⟨hv1, hg2⟩ := and_e hg1
  obtain ⟨hv2, hg3⟩ := and_e hg2
  obtain ⟨w0, w1, w2, w3, rfl⟩ : ∃ w0 w1 w2 w3 : Value, args = #[w0, w1, w2, w3] := by
    have hs : args.size = 4 := by simpa [Cond.value, given_1] using hcount
    obtain ⟨L⟩ := args
    match L, hs with
    | [w0, w1, w2, w3], _ => exact ⟨w0, w1, w2, w3, rfl⟩
  have hw := fun d (hd : d ∈ tables_1) => atoms_spec (ws := Jvm.Cond.code x code maxLocals ret :: tables_1) hat d (List.mem_cons_of_mem _ hd)
  have hfit : Fit s := fun {y c} hc i hi => by
    obtain ⟨ha, rfl⟩ := Array.getElem?_eq_some_iff.mp hc
    have q := List.all_eq_true.mp ((Array.all_eq_true_iff_forall_mem.mp hF) _ (Array.getElem_mem ha)) i (List.mem_range.mpr hi)
    simpa [Array.getElem?_eq_getElem hi] using q
  obtain ⟨i0, ei0⟩ := is_v hv0
  obtain rfl : w0 = (.int i0) := Option.some.inj ei0
  obtain ⟨i1, ei1⟩ := is_v hv1
  obtain rfl : w1 = (.int i1) := Option.some.inj ei1
  obtain ⟨i2, ei2⟩ := is_v hv2
  obtain rfl : w2 = (.int i2) := Option.some.inj ei2
  obtain ⟨i3, ei3⟩ := is_v hg3
  obtain rfl : w3 = (.int i3) := Option.some.inj ei3
  obtain ⟨n, o, h1, h2, h3, _, L, rfl, ⟨rfl, N, -⟩, hq⟩ := rm_law l s _ hw tables_1 i0 i1 i2 i3 s.heap s.heap.size (Nat.le_refl _)  p e ha hc hk s m _ below hf ((Spec.applies_iff_loose hf).mp happ).1 ⟨rfl, State.Warmed39.refl s, rfl⟩ trivial
  refine ⟨n, _, h1, h2, h3, hpost _ _ _ _ _ _ ⟨Cond.after_iff.mpr rfl, Cond.after_iff.mpr (eq_i res_at (Term.int_eval (1)) rfl), trivial⟩ ⟨hq.1, hq.2.1, (hq.2.2.sift fun y hy => Or.inr (N y hy)).mono (by decide) (by decide)⟩⟩
theorem main_1_1 : Claimed_1_1 := comes_1 fun _ _ _ _ _ _ h hF => ⟨h.1, hF⟩
theorem main_1_2 : Claimed_1_2 := comes_1 fun _ _ _ _ _ _ h hF => ⟨h.2.1, hF⟩
end Jvm.Pilot.@@N@@
namespace Jvm.Pilot.@@N@@
open Jvm Jvm.ClassFile Sem Op Lib Jvm.Free Jvm.Stand Jvm.Pilot.@@N@@.Jvm.D
/-! MADE BY PROGRAM (witnessworld.py) out of the Statement's table words and the real class files: 9 classes; the members and pool entries that the words name. The judged class is class 1, her method 3. -/
namespace start1
open Jvm.ClassFile
def u (s : String) : CpInfo := .utf8 (stringToUtf16 s)
/-- a pool by its gaps: so many unusable entries, then the entry; so many at the end -/
def gap : Nat → List CpInfo → List CpInfo
  | 0, r => r
  | n + 1, r => .unusable :: gap n r
def poolList (es : List (Nat × CpInfo)) (last : Nat) : List CpInfo := es.foldr (fun e r => gap e.1 (e.2 :: r)) (gap last [])
def pool (es : List (Nat × CpInfo)) (last : Nat) : Array CpInfo := ⟨poolList es last⟩
def fileOf (pool : Array CpInfo) (this : Nat) (attrs : Array Attribute := #[]) (ms : Array MethodInfo := #[]) (fl : Nat := 33) (sup : Nat := 0) (ifs : Array Nat := #[]) (fds : Array FieldInfo := #[]) : ClassFile where
  minorVersion := 0
  majorVersion := 65
  constantPool := pool
  accessFlags := fl
  thisClass := this
  superClass := sup
  interfaces := ifs
  fields := fds
  methods := ms
  attributes := attrs
def plain (name : String) (sup : Option ClassId) : Class where
  name := name
  kind := .ordinary
  loader := none
  accessFlags := 33
  super := sup
  interfaces := #[]
  cf := none
  fields := #[]
  methods := #[]
  instanceTypes := #[]
  staticTypes := #[]
  resolved := #[]
  callSites := []
  init := .initialized
  statics := none
  mirror := none

def pool0 : Array CpInfo := pool [(5, u "<init>"), (0, u "()V"), (1, .class_ 10), (1, u "java/lang/Object"), (85, u "clone"), (0, u "()Ljava/lang/Object;")] 26

def k0m0 : Method := { name := "<init>", desc := "()V", sig := { parameters := [], returnType := none }, accessFlags := 1, code := none }
def k0m1 : Method := { name := "clone", desc := "()Ljava/lang/Object;", sig := { parameters := [], returnType := some (.object "java/lang/Object") }, accessFlags := 260, code := none }
/-- java/lang/Object -/
def k0 : Class := { plain "java/lang/Object" none with
  accessFlags := 33
  interfaces := #[]
  cf := some (fileOf pool0 8 #[] #[{ accessFlags := 1, nameIndex := 5, descriptorIndex := 6, attributes := #[] }, { accessFlags := 260, nameIndex := 96, descriptorIndex := 97, attributes := #[] }] 33 0 #[] #[])
  fields := #[]
  methods := #[k0m0, k0m1]
  instanceTypes := #[]
  staticTypes := #[]
  resolved := Array.replicate 124 none
  statics := none }

def pool1 : Array CpInfo := pool [(2, .class_ 4), (1, u "java/lang/Object"), (0, u "<init>"), (0, u "()V"), (0, .methodref 8 9), (0, .class_ 10), (0, .nameAndType 11 12), (0, u "com/example/gapmend/gapmend/MessagePrintablePinLaw"), (0, u "draw"), (0, u "(I)B"), (0, .methodref 14 15), (0, .class_ 16), (0, .nameAndType 17 18), (0, u "com/example/gapmend/gapmend/Message"), (0, u "printable"), (0, u "([B)[B"), (0, .methodref 8 20), (0, .nameAndType 21 22), (0, u "shown"), (0, u "(BB)Z"), (3, u "law"), (0, u "(IIII)Z")] 4

def k1m0 : Method := { name := "<init>", desc := "()V", sig := { parameters := [], returnType := none }, accessFlags := 2, code := none }
def k1c1 : Code := { maxStack := 2, maxLocals := 1, code := method_2_code, exceptionTable := #[], attributes := #[] }
def k1m1 : Method := { name := "draw", desc := "(I)B", sig := { parameters := [.int], returnType := some .byte }, accessFlags := 10, code := some k1c1 }
def k1c2 : Code := { maxStack := 2, maxLocals := 2, code := method_3_code, exceptionTable := #[], attributes := #[] }
def k1m2 : Method := { name := "shown", desc := "(BB)Z", sig := { parameters := [.byte, .byte], returnType := some .boolean }, accessFlags := 10, code := some k1c2 }
def k1c3 : Code := { maxStack := 4, maxLocals := 12, code := code, exceptionTable := #[], attributes := #[] }
def k1m3 : Method := { name := "law", desc := "(IIII)Z", sig := { parameters := [.int, .int, .int, .int], returnType := some .boolean }, accessFlags := 9, code := some k1c3 }
/-- com/example/gapmend/gapmend/MessagePrintablePinLaw -/
def k1 : Class := { plain "com/example/gapmend/gapmend/MessagePrintablePinLaw" (some 0) with
  accessFlags := 49
  interfaces := #[]
  cf := some (fileOf pool1 8 #[] #[{ accessFlags := 2, nameIndex := 5, descriptorIndex := 6, attributes := #[] }, { accessFlags := 10, nameIndex := 11, descriptorIndex := 12, attributes := #[] }, { accessFlags := 10, nameIndex := 21, descriptorIndex := 22, attributes := #[] }, { accessFlags := 9, nameIndex := 26, descriptorIndex := 27, attributes := #[] }] 49 2 #[] #[])
  fields := #[]
  methods := #[k1m0, k1m1, k1m2, k1m3]
  instanceTypes := #[]
  staticTypes := #[]
  resolved := Array.replicate 32 none
  statics := none }

def pool2 : Array CpInfo := pool [(2, .class_ 4), (1, u "java/lang/Object"), (3, .class_ 10), (1, u "com/example/gapmend/gapmend/Message"), (0, u "frame"), (0, u "[B"), (8, u "fields"), (0, u "Ljava/util/List;"), (37, u "()Ljava/lang/Object;"), (83, .methodref 145 146), (0, .class_ 12), (0, .nameAndType 147 60), (0, u "clone"), (8, u "printable"), (0, u "([B)[B"), (11, u "CHECK_SUM_FIELD_LENGTH"), (0, u "I")] 41

def k2c0 : Code := { maxStack := 3, maxLocals := 3, code := prog_18_method_13_code, exceptionTable := #[], attributes := #[] }
def k2m0 : Method := { name := "printable", desc := "([B)[B", sig := { parameters := [(.array .byte)], returnType := some (.array .byte) }, accessFlags := 9, code := some k2c0 }
/-- com/example/gapmend/gapmend/Message -/
def k2 : Class := { plain "com/example/gapmend/gapmend/Message" (some 0) with
  accessFlags := 33
  interfaces := #[]
  cf := some (fileOf pool2 8 #[] #[{ accessFlags := 9, nameIndex := 156, descriptorIndex := 157, attributes := #[] }] 33 2 #[] #[{ accessFlags := 24, nameIndex := 169, descriptorIndex := 170, attributes := #[] }, { accessFlags := 18, nameIndex := 11, descriptorIndex := 12, attributes := #[] }, { accessFlags := 18, nameIndex := 21, descriptorIndex := 22, attributes := #[] }])
  fields := #[{ name := "CHECK_SUM_FIELD_LENGTH", type := .int, accessFlags := 24, slot := 0, constantValue := 0 }, { name := "frame", type := (.array .byte), accessFlags := 18, slot := 0, constantValue := 0 }, { name := "fields", type := (.object "java/util/List"), accessFlags := 18, slot := 1, constantValue := 0 }]
  methods := #[k2m0]
  instanceTypes := #[(.array .byte), (.object "java/util/List")]
  staticTypes := #[.int]
  resolved := Array.replicate 212 none
  statics := none }

def pool3 : Array CpInfo := pool [(1, .class_ 2), (0, u "java/lang/Cloneable"), (0, .class_ 4), (0, u "java/lang/Object")] 2

/-- java/lang/Cloneable -/
def k3 : Class := { plain "java/lang/Cloneable" (some 0) with
  accessFlags := 1537
  interfaces := #[]
  cf := some (fileOf pool3 1 #[] #[] 1537 3 #[] #[])
  fields := #[]
  methods := #[]
  instanceTypes := #[]
  staticTypes := #[]
  resolved := Array.replicate 7 none
  statics := none }

def pool4 : Array CpInfo := pool [(1, u "java/io/Serializable"), (0, .class_ 1), (0, u "java/lang/Object"), (0, .class_ 3)] 3

/-- java/io/Serializable -/
def k4 : Class := { plain "java/io/Serializable" (some 0) with
  accessFlags := 1537
  interfaces := #[]
  cf := some (fileOf pool4 2 #[] #[] 1537 4 #[] #[])
  fields := #[]
  methods := #[]
  instanceTypes := #[]
  staticTypes := #[]
  resolved := Array.replicate 8 none
  statics := none }

/-- the primitive byte -/
def k5 : Class := { plain "byte" none with kind := .primitive 'B', accessFlags := 0x411 }
/-- [B -/
def k6 : Class := { plain "[B" (some 0) with kind := .array 5 .byte, interfaces := #[3, 4], accessFlags := 1041 }

/-- the primitive int -/
def k7 : Class := { plain "int" none with kind := .primitive 'I', accessFlags := 0x411 }
/-- [I -/
def k8 : Class := { plain "[I" (some 0) with kind := .array 7 .int, interfaces := #[3, 4], accessFlags := 1041 }

def heap : Heap := #[]
def classes : Array Class := #[k0, k1, k2, k3, k4, k5, k6, k7, k8]
def interned : List (Array UInt16 × Addr) := []
def slotsUsed : Nat := 0
def theMethod : MethodId := ⟨1, 3⟩
def args0 : Array Value := #[.int 5, .int 7, .int 300, .int 9]
def aboutOver (below : List Frame) : State where
  vm := { classes := classes, interned := interned.toArray }
  heap := heap
  slotsUsed := slotsUsed
  threads := #[{ frames := .invoking theMethod args0 :: below }]
def below0 : List Frame := [.native { method := ⟨0, 0⟩, args := #[] }]
def about1 : State := aboutOver below0
def p0 : Program := .bare "" "" ""
def e0 : Env := launch0.env 0 0 0
theorem w_frames : about1.frames = Frame.invoking theMethod args0 :: below0 := rfl
set_option maxRecDepth 65536 in
theorem w_args : argsFit about1.vm theMethod args0 = true := by decide +kernel
set_option maxRecDepth 65536 in
theorem w_heap : heapFits about1 = true := by decide +kernel
set_option maxRecDepth 65536 in
theorem w_runnable : about1.curStatus? = some .runnable := by decide +kernel
set_option maxRecDepth 65536 in
theorem w_alone : about1.alone = true := by decide +kernel
set_option maxRecDepth 65536 in
theorem w_named : about1.methodNamed? x = some theMethod := by decide +kernel
set_option maxRecDepth 65536 in
theorem w_hears : about1.hears theMethod below0 = true := by decide +kernel
set_option maxRecDepth 65536 in
theorem w_ripe : about1.ripe theMethod args0 below0 = true := by decide +kernel
theorem w_running : about1.status = .running := rfl
set_option maxRecDepth 65536 in
theorem w_room : about1.hasRoom e0.platform room_1 = true :=
  launch0.hasRoom_least _ room_1 (by decide +kernel) (by decide +kernel) (by decide +kernel) (by decide +kernel) (by decide +kernel) (by decide +kernel)
theorem allAtoms_all (ts : List Jvm.Cond) (a : Array Jvm.Value) (st : Jvm.State) : (allAtoms ts).before a st = ts.all (fun c => c.before a st) := by
  induction ts with
  | nil => rfl
  | cons c t ih =>
    show (Jvm.Cond.and c (allAtoms t)).before a st = _
    rw [Jvm.Cond.before_and, ih, List.all_cons]
def words1 : List Jvm.Cond := Jvm.Cond.code x code maxLocals ret :: tables_1
/-- a 'code' word, met by the world's own term for the bytes: nothing is compared byte by byte -/
theorem code_word {y : MethodName} {bytes : ByteArray} {mx : Nat} {rt : Option FieldType} {a : Array Value} {s : State} {m : MethodId} {meth : Method} {c : Code} (h1 : s.methodNamed? y = some m) (h2 : s.vm.method? m = some meth) (h3 : meth.code = some c) (h4 : c.code = bytes)
    (h5 : (c.maxLocals == mx && c.exceptionTable.isEmpty && decide (c.maxStack ≤ mostOperands) && decide (meth.sig.returnType = rt) && !meth.locks && decide (parseMethodDescriptor y.desc = some meth.sig)) = true) : (Jvm.Cond.code y bytes mx rt).before a s = true := by
  simp only [Bool.and_eq_true, beq_iff_eq, Bool.not_eq_true', decide_eq_true_eq] at h5
  obtain ⟨⟨⟨⟨⟨g1, g2⟩, g3⟩, g4⟩, g5⟩, g6⟩ := h5
  simp [Cond.before, Cond.holds, Cond.value, h1, h2, h3, h4, g1, g2, g3, g4, g5, g6]
def isCode : Jvm.Cond → Bool
  | .code _ _ _ _ => true
  | _ => false
theorem all_split {L : List Jvm.Cond} {P : Jvm.Cond → Bool} (h1 : L.all (fun c => isCode c || P c) = true) (h2 : ∀ c ∈ L.filter isCode, P c = true) : L.all P = true := by
  refine List.all_eq_true.mpr fun c hc => ?_
  have h := List.all_eq_true.mp h1 c hc
  rcases Bool.eq_false_or_eq_true (isCode c) with hi | hi
  · exact h2 c (List.mem_filter.mpr ⟨hc, hi⟩)
  · simpa [hi] using h
set_option maxRecDepth 65536 in
theorem w_c0 : (Jvm.Cond.code x code maxLocals ret).before args0 about1 = true := code_word (m := ⟨1, 3⟩) (meth := k1m3) (c := k1c3) (by decide +kernel) rfl rfl rfl (by decide +kernel)
set_option maxRecDepth 65536 in
theorem w_c1 : (Jvm.Cond.code ({ cls := "com/example/gapmend/gapmend/MessagePrintablePinLaw", name := "draw", desc := "(I)B" } : Jvm.MethodName) method_2_code (1 : Nat) (Option.some Jvm.ClassFile.FieldType.byte)).before args0 about1 = true := code_word (m := ⟨1, 1⟩) (meth := k1m1) (c := k1c1) (by decide +kernel) rfl rfl rfl (by decide +kernel)
set_option maxRecDepth 65536 in
theorem w_c2 : (Jvm.Cond.code ({ cls := "com/example/gapmend/gapmend/Message", name := "printable", desc := "([B)[B" } : Jvm.MethodName) prog_18_method_13_code (3 : Nat) (Option.some (Jvm.ClassFile.FieldType.array Jvm.ClassFile.FieldType.byte))).before args0 about1 = true := code_word (m := ⟨2, 0⟩) (meth := k2m0) (c := k2c0) (by decide +kernel) rfl rfl rfl (by decide +kernel)
set_option maxRecDepth 65536 in
theorem w_c3 : (Jvm.Cond.code ({ cls := "com/example/gapmend/gapmend/MessagePrintablePinLaw", name := "shown", desc := "(BB)Z" } : Jvm.MethodName) method_3_code (2 : Nat) (Option.some Jvm.ClassFile.FieldType.boolean)).before args0 about1 = true := code_word (m := ⟨1, 2⟩) (meth := k1m2) (c := k1c2) (by decide +kernel) rfl rfl rfl (by decide +kernel)
def codes1 : List Jvm.Cond := [Jvm.Cond.code x code maxLocals ret, Jvm.Cond.code ({ cls := "com/example/gapmend/gapmend/MessagePrintablePinLaw", name := "draw", desc := "(I)B" } : Jvm.MethodName) method_2_code (1 : Nat) (Option.some Jvm.ClassFile.FieldType.byte), Jvm.Cond.code ({ cls := "com/example/gapmend/gapmend/Message", name := "printable", desc := "([B)[B" } : Jvm.MethodName) prog_18_method_13_code (3 : Nat) (Option.some (Jvm.ClassFile.FieldType.array Jvm.ClassFile.FieldType.byte)), Jvm.Cond.code ({ cls := "com/example/gapmend/gapmend/MessagePrintablePinLaw", name := "shown", desc := "(BB)Z" } : Jvm.MethodName) method_3_code (2 : Nat) (Option.some Jvm.ClassFile.FieldType.boolean)]
set_option maxRecDepth 65536 in
theorem codes_eq : words1.filter isCode = codes1 := rfl
theorem w_codes : ∀ c ∈ words1.filter isCode, c.before args0 about1 = true := by
  rw [codes_eq]
  intro c hc
  simp only [codes1, List.mem_cons, List.not_mem_nil, or_false] at hc
  rcases hc with rfl | rfl | rfl | rfl
  · exact w_c0
  · exact w_c1
  · exact w_c2
  · exact w_c3
set_option maxRecDepth 65536 in
theorem w_t1 : words1.all (fun c => isCode c || c.before args0 about1) = true := by decide +kernel
theorem w_tables : (allAtoms (Jvm.Cond.code x code maxLocals ret :: tables_1)).before args0 about1 = true := by
  rw [allAtoms_all]
  show words1.all (fun c => c.before args0 about1) = true
  refine all_split ?_ w_codes
  rw [w_t1]
set_option maxRecDepth 65536 in
theorem w_case : (Jvm.Cond.and given_1 narrow_1).before args0 about1 = true := by decide +kernel
theorem w_applies : (headSpec (Jvm.Cond.code x code maxLocals ret :: tables_1) room_1).applies x e0.platform about1 = true :=
  (Spec.applies_iff w_frames).mpr ⟨w_running, w_runnable, w_alone, w_named, w_hears, w_ripe, w_room, w_tables⟩
theorem atStart : AtStart classFile x code maxLocals ret World_1 tables_1 room_1 Calls_1 rest_1 Pre_1 launch0 p0 e0 about1 theMethod args0 below0 :=
  ⟨lists_1, trivial, launch0.admits_env _ _ _, launch0.least_env, fairChoices_fair.cas, fairChoices_fair.clock, w_frames, w_args, w_heap, w_applies, trivial, trivial, w_case⟩
end start1
theorem witness_1 : WitnessClaimed_1 := ⟨start1.p0, start1.e0, start1.about1, start1.theMethod, start1.args0, start1.below0, start1.atStart⟩
end Jvm.Pilot.@@N@@
