import JvmDerived
import JvmDerived.Pilot.@@N@@Statement
import JvmDerived.Pilot.@@N@@Code
set_option linter.unusedVariables false
set_option linter.unusedSimpArgs false
@@BLOCK:NumsL.lean.txt@@
namespace Jvm.RoadKit
open Sem ClassFile Op Lib Jvm.Stand Jvm.Free Jvm.LawKit
section New
variable {p : Program} {l : Launch} {e : Env} {R : Room} {s : State} {m : MethodId} {args : Array Value} {below : List Frame} {meth : Method} {c : Code} {T : State} {locs : List Loc} {cells slots : Nat}
theorem retI (X : Stand p l e R s m args below meth c T locs cells slots) (hx : p.tables.exec = Jvm.exec) {pc : Nat} {Ls : Array Slot} {z : Int32} {rest : List Value} (hret : meth.sig.returnType = some .int) (hd : decode c.code pc = .ok (.ireturn, 1)) {fs : List Frame}
    (hl : ∀ (f : JFrame) (acts : List Action), f.method = m → f.locked = none → f.entered = [] → (doReturn e (T.setTop f) acts (some (.int z))).1 = T.setFrames fs) : Steps p.tables e below (T.setTop (mkF m pc Ls (.int z :: rest))) (T.setFrames fs) := by
  have hm' : T.vm.method? m = some meth := X.method'
  have hn : narrow .int (.int z) = .int z := rfl
  show Steps p.tables e below (T.setTop { method := m, pc := pc, locals := Ls, stack := _ :: rest, locked := none }) _
  jvm_step X.here [X.here.top, hx, hd, hm', hret, hn]
  first | (intro acts; rw [hl _ acts rfl rfl rfl]) | rw [hl _ _ rfl rfl rfl]
  exact Steps.refl _
end New
end Jvm.RoadKit
namespace Jvm.Pilot.@@N@@
open Jvm Jvm.ClassFile Sem Op Lib Jvm.Free Jvm.Stand Jvm.LawKit Jvm.RoadKit Bundle Jvm.Pilot.@@N@@.Jvm.D
/-- from here the run comes to an end of which G holds -/
def Go (tb : Tables) (e : Env) (below : List Frame) (G : State → Outcome → Prop) (U : State) : Prop := ∃ t o, Steps tb e below U t ∧ G t o
theorem Go.st {tb : Tables} {e : Env} {below : List Frame} {G : State → Outcome → Prop} {U U' : State} (h : ∀ t, Steps tb e below U' t → Steps tb e below U t) (k : Go tb e below G U') : Go tb e below G U :=
  let ⟨t, o, a, b⟩ := k
  ⟨t, o, h t a, b⟩
theorem Go.start {tb : Tables} {e : Env} {below : List Frame} {G0 : State → Outcome → Prop} {U : State} (h : ∀ G, G = G0 → Go tb e below G U) : Go tb e below G0 U := h _ rfl
theorem Go.join {tb : Tables} {e : Env} {below : List Frame} {G : State → Outcome → Prop} {U : State} {α : Type} {F : α → State} (k : ∀ z, Go tb e below G (F z)) (h : (∀ z, Go tb e below G (F z)) → Go tb e below G U) : Go tb e below G U := h k
theorem Go.joinR {tb : Tables} {e : Env} {below : List Frame} {G : State → Outcome → Prop} {U : State} {α : Type} {F : α → State} {R : α → Prop} (k : ∀ z, R z → Go tb e below G (F z)) (h : (∀ z, R z → Go tb e below G (F z)) → Go tb e below G U) : Go tb e below G U := h k
theorem own_lrem {tb : Tables} {e : Env} {below : List Frame} {T target : State} {g : JFrame} {n : Nat} {x y : Int64} {rest : List Value} (k : Steps tb e below (T.setTop { g with pc := n, stack := .long (x % y) :: rest }) target) :
    Steps tb e below (T.setTop { g with pc := n, stack := .long (x - (x / y) * y) :: rest }) target := by
  rw [lrem_mod]
  exact k
theorem i64_addc (x y : Int64) : (x + y).toInt = x.toInt + y.toInt ∧ -2 ^ 63 ≤ x.toInt + y.toInt ∧ x.toInt + y.toInt < 2 ^ 63 ∨ (x + y).toInt = x.toInt + y.toInt - 2 ^ 64 ∧ 2 ^ 63 ≤ x.toInt + y.toInt ∨ (x + y).toInt = x.toInt + y.toInt + 2 ^ 64 ∧ x.toInt + y.toInt < -2 ^ 63 := by
  have h := Int64.toInt_add x y
  have a1 := Int64.le_toInt x
  have a2 := Int64.toInt_lt x
  have b1 := Int64.le_toInt y
  have b2 := Int64.toInt_lt y
  rw [Int.bmod_def] at h
  split at h <;> omega
theorem i64_subc (x y : Int64) : (x - y).toInt = x.toInt - y.toInt ∧ -2 ^ 63 ≤ x.toInt - y.toInt ∧ x.toInt - y.toInt < 2 ^ 63 ∨ (x - y).toInt = x.toInt - y.toInt - 2 ^ 64 ∧ 2 ^ 63 ≤ x.toInt - y.toInt ∨ (x - y).toInt = x.toInt - y.toInt + 2 ^ 64 ∧ x.toInt - y.toInt < -2 ^ 63 := by
  have h := Int64.toInt_sub x y
  have a1 := Int64.le_toInt x
  have a2 := Int64.toInt_lt x
  have b1 := Int64.le_toInt y
  have b2 := Int64.toInt_lt y
  rw [Int.bmod_def] at h
  split at h <;> omega
theorem i32_i2c (x : Int32) : (x.toUInt32.toUInt16.toUInt32.toInt32).toInt = x.toInt % 65536 := by
  have h1 : (x.toUInt32.toUInt16.toUInt32.toInt32).toInt = ((x.toUInt32.toUInt16.toUInt32).toNat : Int).bmod (2 ^ 32) := by
    rw [← Int32.toInt_toBitVec, BitVec.toInt_eq_toNat_bmod]; rfl
  have h2 : (x.toUInt32.toUInt16.toUInt32).toNat = x.toBitVec.toNat % 65536 := by
    simp [UInt32.toNat_toUInt16, UInt16.toNat_toUInt32]; rfl
  have h3 : x.toInt = (x.toBitVec.toNat : Int).bmod (2 ^ 32) := by
    rw [← Int32.toInt_toBitVec, BitVec.toInt_eq_toNat_bmod]
  have h4 := x.toBitVec.isLt
  rw [h1, h2, h3, Int.bmod_def, Int.bmod_def]
  split <;> split <;> omega
theorem i32_addc (x y : Int32) : (x + y).toInt = x.toInt + y.toInt ∧ -2 ^ 31 ≤ x.toInt + y.toInt ∧ x.toInt + y.toInt < 2 ^ 31 ∨ (x + y).toInt = x.toInt + y.toInt - 2 ^ 32 ∧ 2 ^ 31 ≤ x.toInt + y.toInt ∨ (x + y).toInt = x.toInt + y.toInt + 2 ^ 32 ∧ x.toInt + y.toInt < -2 ^ 31 := by
  have h := Int32.toInt_add x y
  have a1 := Int32.le_toInt x
  have a2 := Int32.toInt_lt x
  have b1 := Int32.le_toInt y
  have b2 := Int32.toInt_lt y
  rw [Int.bmod_def] at h
  split at h <;> omega
theorem i32_subc (x y : Int32) : (x - y).toInt = x.toInt - y.toInt ∧ -2 ^ 31 ≤ x.toInt - y.toInt ∧ x.toInt - y.toInt < 2 ^ 31 ∨ (x - y).toInt = x.toInt - y.toInt - 2 ^ 32 ∧ 2 ^ 31 ≤ x.toInt - y.toInt ∨ (x - y).toInt = x.toInt - y.toInt + 2 ^ 32 ∧ x.toInt - y.toInt < -2 ^ 31 := by
  have h := Int32.toInt_sub x y
  have a1 := Int32.le_toInt x
  have a2 := Int32.toInt_lt x
  have b1 := Int32.le_toInt y
  have b2 := Int32.toInt_lt y
  rw [Int.bmod_def] at h
  split at h <;> omega
theorem own_eq32 {a b : Int32} (h : a.toInt = b.toInt) : a = b := Int32.toInt_inj.mp h
theorem own_eq64 {a b : Int64} (h : a.toInt = b.toInt) : a = b := Int64.toInt_inj.mp h
theorem own_lt64 {a b : Int64} (h : a.toInt < b.toInt) : a < b := Int64.lt_iff_toInt_lt.mpr h
theorem own_lt32 {a b : Int32} (h : a.toInt < b.toInt) : a < b := Int32.lt_iff_toInt_lt.mpr h
theorem own_nlt64 {a b : Int64} (h : b.toInt ≤ a.toInt) : ¬ a < b := fun z => by have := Int64.lt_iff_toInt_lt.mp z; omega
theorem own_nlt32 {a b : Int32} (h : b.toInt ≤ a.toInt) : ¬ a < b := fun z => by have := Int32.lt_iff_toInt_lt.mp z; omega
theorem own_ne32 {a b : Int32} (h : a.toInt ≠ b.toInt) : ¬ a = b := fun z => h (by rw [z])
theorem own_ne64 {a b : Int64} (h : a.toInt ≠ b.toInt) : ¬ a = b := fun z => h (by rw [z])
def fadd (a b : Int64) : Int64 := if (9223372036854775807 : Int64) - a < b then 9223372036854775807 else a + b
theorem own_A {x y a b w r : Int64} (h1 : x &&& (9223372036854775807 : Int64) = a) (h2 : y &&& (9223372036854775807 : Int64) = b) (h3 : a + b = w) (h4 : fadd a b = r) : (w < 0 → r = 9223372036854775807) ∧ (¬ w < 0 → r = w) := by
  have ha : a.toInt = x.toInt % 2 ^ 63 := by rw [← h1]; exact Jvm.Kit.i64_mask x _ (k := 63) (by decide) (by decide)
  have hb : b.toInt = y.toInt % 2 ^ 63 := by rw [← h2]; exact Jvm.Kit.i64_mask y _ (k := 63) (by decide) (by decide)
  have hm : (9223372036854775807 : Int64).toInt = 2 ^ 63 - 1 := by decide
  have hs := i64_addc a b
  have hd := i64_subc 9223372036854775807 a
  have hz : (0 : Int64).toInt = 0 := rfl
  subst h3
  rw [← h4]
  simp only [fadd, Int64.lt_iff_toInt_lt, ← Int64.toInt_inj, hz]
  constructor
  · intro hw
    rw [if_pos (by omega)]
  · intro hw
    rw [if_neg (by omega)]

theorem pn_0 : plainName "com/example/tallyroot/tallyroot/aggregate/Figures" = true := by first | (simp [plainName, overriddenIn]; done) | decide +kernel
theorem d_add_0 : decode prog_5_method_2_code 0 = .ok (.lload_n 2, 1) := by decide +kernel
theorem d_add_1 : decode prog_5_method_2_code 1 = .ok (.ldc2_w 9, 3) := by decide +kernel
theorem d_add_4 : decode prog_5_method_2_code 4 = .ok (.lload_n 0, 1) := by decide +kernel
theorem d_add_5 : decode prog_5_method_2_code 5 = .ok (.lsub, 1) := by decide +kernel
theorem d_add_6 : decode prog_5_method_2_code 6 = .ok (.lcmp, 1) := by decide +kernel
theorem d_add_7 : decode prog_5_method_2_code 7 = .ok (.ifCond .le 9, 3) := by decide +kernel
theorem d_add_10 : decode prog_5_method_2_code 10 = .ok (.ldc2_w 9, 3) := by decide +kernel
theorem d_add_13 : decode prog_5_method_2_code 13 = .ok (.goto 6, 3) := by decide +kernel
theorem d_add_16 : decode prog_5_method_2_code 16 = .ok (.lload_n 0, 1) := by decide +kernel
theorem d_add_17 : decode prog_5_method_2_code 17 = .ok (.lload_n 2, 1) := by decide +kernel
theorem d_add_18 : decode prog_5_method_2_code 18 = .ok (.ladd, 1) := by decide +kernel
theorem d_add_19 : decode prog_5_method_2_code 19 = .ok (.lreturn, 1) := by decide +kernel
theorem ef_add (m : MethodId) (qa : Int64) (qb : Int64) : entryFrame m #[(.long qa), (.long qb)] 4 = mkF m 0 #[.val (.long qa), .second, .val (.long qb), .second] [] := by first | (simp [entryFrame, mkF, argsToLocals, Value.category]; done) | rfl
def Q_add (Z : State) (qa : Int64) (qb : Int64) (h0 : Heap) (n0 : Nat) (v : Option Value) (h : Heap) (L : List Loc) : Prop := v = some (.long (fadd qa qb)) ∧ Fr n0 L ∧ h = h0
set_option maxRecDepth 65536 in
set_option maxHeartbeats 40000000 in
theorem rm_add (l : Launch) (Z : State) (a0 : Array Value) (hw : ∀ d ∈ tables_1, d.before a0 Z = true) (ws : List Jvm.Cond) (qa : Int64) (qb : Int64) (h0 : Heap) (n0 : Nat) (Z0 : n0 ≤ h0.size)  :
    MetFree l (⟨"com/example/tallyroot/tallyroot/aggregate/Figures", "add", "(JJ)J"⟩ : MethodName) (head1 (Jvm.Cond.code (⟨"com/example/tallyroot/tallyroot/aggregate/Figures", "add", "(JJ)J"⟩ : MethodName) prog_5_method_2_code 4 (some .long) :: ws) ({ frames := 0, cells := 0, slots := 0, locals := 0 } : Room)) (fun a U => a = #[(.long qa), (.long qb)] ∧ Z.Warmed39 U.vm ∧ U.heap = h0) (fun _ _ _ _ _ => True) (fun _ U o U' => ∃ v L, o = .returned v ∧ Q_add Z qa qb h0 n0 v U'.heap L ∧ FrameEnd U o U' L ({ frames := 0, cells := 0, slots := 0, locals := 0 } : Room).cells ({ frames := 0, cells := 0, slots := 0, locals := 0 } : Room).slots) := by
  refine MetFree.of_bodySF (plainFor_of_name pn_0) hisR ?_
  intro p e s m args below meth c s₁ Bd hml0 hP hK
  obtain ⟨rfl, hZ, hh⟩ := hP
  have hx := Bd.exec
  have hby := Bd.bytes
  have hml : c.maxLocals = 4 := hml0
  have hown : s.vm.findClass "com/example/tallyroot/tallyroot/aggregate/Figures" = some m.cls := findClass_of_methodNamed Bd.named
  have hnm := (name_of_methodNamed Bd.named Bd.method).1
  have X0 : Stand p l e ({ frames := 0, cells := 0, slots := 0, locals := 0 } : Room) s m #[(.long qa), (.long qb)] below meth c s₁ [] 0 0 := Stand.of_body Bd
  have e0 : s₁.heap = h0 := by rw [← hh, Bd.state]; rfl
  have N0 := Fr.nil n0
  have K0 : Keep h0 h0 [] := Keep.refl h0 []
  show Go p.tables e below _ (s₁.setTop (entryFrame m #[(.long qa), (.long qb)] 4))
  refine Go.start ?_
  intro G hG
  refine Go.st (fun t k => castTop (ef_add m qa qb) k) ?_
  show Go p.tables e below _ (s₁.setTop (mkF m 0 #[.val (.long qa), .second, .val (.long qb), .second] []))
  refine Go.st (fun _ k => XS.lloadN X0.here hx rfl (hb hby d_add_0) rfl k) ?_
  show Go p.tables e below _ (s₁.setTop (mkF m 1 #[.val (.long qa), .second, .val (.long qb), .second] [(.long qb)]))
  refine Go.st (fun _ k => X0.ldc2Long hx hown (mvT hZ (hw _ (List.mem_of_getElem? (i := 5) rfl))) (g := (mkF m 1 #[.val (.long qa), .second, .val (.long qb), .second] [(.long qb)])) rfl (hb hby d_add_1) _ k) ?_
  show Go p.tables e below _ (s₁.setTop (mkF m 4 #[.val (.long qa), .second, .val (.long qb), .second] [(.long (9223372036854775807 : Int64)), (.long qb)]))
  refine Go.st (fun _ k => XS.lloadN X0.here hx rfl (hb hby d_add_4) rfl k) ?_
  show Go p.tables e below _ (s₁.setTop (mkF m 5 #[.val (.long qa), .second, .val (.long qb), .second] [(.long qa), (.long (9223372036854775807 : Int64)), (.long qb)]))
  refine Go.st (fun _ k => XS.lsub X0.here hx rfl (hb hby d_add_5) rfl k) ?_
  show Go p.tables e below _ (s₁.setTop (mkF m 6 #[.val (.long qa), .second, .val (.long qb), .second] [(.long ((9223372036854775807 : Int64) - qa)), (.long qb)]))
  refine Go.st (fun _ k => Jvm.Free.XT.lcmp X0.here hx rfl (hb hby d_add_6) rfl k) ?_
  show Go p.tables e below _ (s₁.setTop (mkF m 7 #[.val (.long qa), .second, .val (.long qb), .second] [(.int (Jvm.Free.XT.cmpL qb ((9223372036854775807 : Int64) - qa)))]))
  by_cases hc7 : ((9223372036854775807 : Int64) - qa) < qb
  · skip
    refine Go.st (fun _ k => XS.ifNo X0.here hx rfl (hb hby d_add_7) rfl (Jvm.Free.XT.ll_le_f hc7) k) ?_
    show Go p.tables e below _ (s₁.setTop (mkF m 10 #[.val (.long qa), .second, .val (.long qb), .second] []))
    refine Go.st (fun _ k => X0.ldc2Long hx hown (mvT hZ (hw _ (List.mem_of_getElem? (i := 5) rfl))) (g := (mkF m 10 #[.val (.long qa), .second, .val (.long qb), .second] [])) rfl (hb hby d_add_10) _ k) ?_
    show Go p.tables e below _ (s₁.setTop (mkF m 13 #[.val (.long qa), .second, .val (.long qb), .second] [(.long (9223372036854775807 : Int64))]))
    refine Go.st (fun _ k => XS.goto X0.here hx rfl (pc0 := 13) (pc' := 19) rfl (hb hby d_add_13) (by decide) (by decide) k) ?_
    show Go p.tables e below _ (s₁.setTop (mkF m 19 #[.val (.long qa), .second, .val (.long qb), .second] [(.long (9223372036854775807 : Int64))]))
    subst hG
    obtain ⟨fs, hr, hrun, hended, hW, hsame⟩ := X0.leave (v := some (.long (9223372036854775807 : Int64))) (fun h => by rw [Bd.returns] at h; cases h)
    refine ⟨_, _, ?_, hrun, hended, _, _, rfl, ?_, ⟨_, rfl⟩, hW, hsame.mono (by decide) (by decide)⟩
    · exact retOut X0 hx Bd.returns rfl (Or.inr (Or.inl ⟨rfl, rfl, _, rfl⟩)) (hb hby d_add_19) hr
    · show Q_add Z qa qb h0 n0 _ s₁.heap _
      rw [e0]
      exact ⟨(by simp [fadd, hc7]), N0, rfl⟩
  · skip
    refine Go.st (fun _ k => XS.ifYes X0.here hx rfl (pc0 := 7) (pc' := 16) rfl (hb hby d_add_7) rfl (Jvm.Free.XT.ll_le_t hc7) (by decide) (by decide) k) ?_
    show Go p.tables e below _ (s₁.setTop (mkF m 16 #[.val (.long qa), .second, .val (.long qb), .second] []))
    refine Go.st (fun _ k => XS.lloadN X0.here hx rfl (hb hby d_add_16) rfl k) ?_
    show Go p.tables e below _ (s₁.setTop (mkF m 17 #[.val (.long qa), .second, .val (.long qb), .second] [(.long qa)]))
    refine Go.st (fun _ k => XS.lloadN X0.here hx rfl (hb hby d_add_17) rfl k) ?_
    show Go p.tables e below _ (s₁.setTop (mkF m 18 #[.val (.long qa), .second, .val (.long qb), .second] [(.long qb), (.long qa)]))
    refine Go.st (fun _ k => XS.ladd X0.here hx rfl (hb hby d_add_18) rfl k) ?_
    show Go p.tables e below _ (s₁.setTop (mkF m 19 #[.val (.long qa), .second, .val (.long qb), .second] [(.long (qa + qb))]))
    subst hG
    obtain ⟨fs, hr, hrun, hended, hW, hsame⟩ := X0.leave (v := some (.long (qa + qb))) (fun h => by rw [Bd.returns] at h; cases h)
    refine ⟨_, _, ?_, hrun, hended, _, _, rfl, ?_, ⟨_, rfl⟩, hW, hsame.mono (by decide) (by decide)⟩
    · exact retOut X0 hx Bd.returns rfl (Or.inr (Or.inl ⟨rfl, rfl, _, rfl⟩)) (hb hby d_add_19) hr
    · show Q_add Z qa qb h0 n0 _ s₁.heap _
      rw [e0]
      exact ⟨(by simp [fadd, hc7]), N0, rfl⟩
theorem pd_0 : parseMethodDescriptor "(JJ)J" = some ⟨[.long, .long], some .long⟩ := by decide +kernel
theorem pn_1 : plainName "com/example/tallyroot/tallyroot/aggregate/FiguresAddPinLaw" = true := by first | (simp [plainName, overriddenIn]; done) | decide +kernel
theorem ef_law (m : MethodId) (qx : Int64) (qy : Int64) : entryFrame m #[(.long qx), (.long qy)] maxLocals = mkF m 0 #[.val (.long qx), .second, .val (.long qy), .second, .unset, .unset, .unset, .unset, .unset, .unset, .unset, .unset, .unset, .unset] [] := by first | (simp [entryFrame, mkF, argsToLocals, Value.category, maxLocals]; done) | rfl
def Q_law (Z : State) (qx : Int64) (qy : Int64) (h0 : Heap) (n0 : Nat) (v : Option Value) (h : Heap) (L : List Loc) : Prop := v = some (.int (1 : Int32)) ∧ Fr n0 L ∧ h = h0
set_option maxRecDepth 65536 in
set_option maxHeartbeats 40000000 in
theorem rm_law (l : Launch) (Z : State) (a0 : Array Value) (hw : ∀ d ∈ tables_1, d.before a0 Z = true) (ws : List Jvm.Cond) (qx : Int64) (qy : Int64) (h0 : Heap) (n0 : Nat) (Z0 : n0 ≤ h0.size)  :
    MetFree l x (head1 (Jvm.Cond.code x code maxLocals ret :: ws) room_1) (fun a U => a = #[(.long qx), (.long qy)] ∧ Z.Warmed39 U.vm ∧ U.heap = h0) (fun _ _ _ _ _ => True) (fun _ U o U' => ∃ v L, o = .returned v ∧ Q_law Z qx qy h0 n0 v U'.heap L ∧ FrameEnd U o U' L room_1.cells room_1.slots) := by
  refine MetFree.of_bodySF (plainFor_of_name pn_1) hisR ?_
  intro p e s m args below meth c s₁ Bd hml0 hP hK
  obtain ⟨rfl, hZ, hh⟩ := hP
  have hx := Bd.exec
  have hby := Bd.bytes
  have hml : c.maxLocals = 14 := hml0
  have hown : s.vm.findClass "com/example/tallyroot/tallyroot/aggregate/FiguresAddPinLaw" = some m.cls := findClass_of_methodNamed Bd.named
  have hnm := (name_of_methodNamed Bd.named Bd.method).1
  have X0 : Stand p l e room_1 s m #[(.long qx), (.long qy)] below meth c s₁ [] 0 0 := Stand.of_body Bd
  have e0 : s₁.heap = h0 := by rw [← hh, Bd.state]; rfl
  have N0 := Fr.nil n0
  have K0 : Keep h0 h0 [] := Keep.refl h0 []
  show Go p.tables e below _ (s₁.setTop (entryFrame m #[(.long qx), (.long qy)] maxLocals))
  refine Go.start ?_
  intro G hG
  refine Go.st (fun t k => castTop (ef_law m qx qy) k) ?_
  show Go p.tables e below _ (s₁.setTop (mkF m 0 #[.val (.long qx), .second, .val (.long qy), .second, .unset, .unset, .unset, .unset, .unset, .unset, .unset, .unset, .unset, .unset] []))
  refine Go.st (fun _ k => XS.lloadN X0.here hx rfl (hb hby at_0) rfl k) ?_
  show Go p.tables e below _ (s₁.setTop (mkF m 1 #[.val (.long qx), .second, .val (.long qy), .second, .unset, .unset, .unset, .unset, .unset, .unset, .unset, .unset, .unset, .unset] [(.long qx)]))
  refine Go.st (fun _ k => X0.ldc2Long hx hown (mvT hZ (hw _ (List.mem_of_getElem? (i := 0) rfl))) (g := (mkF m 1 #[.val (.long qx), .second, .val (.long qy), .second, .unset, .unset, .unset, .unset, .unset, .unset, .unset, .unset, .unset, .unset] [(.long qx)])) rfl (hb hby at_1) _ k) ?_
  show Go p.tables e below _ (s₁.setTop (mkF m 4 #[.val (.long qx), .second, .val (.long qy), .second, .unset, .unset, .unset, .unset, .unset, .unset, .unset, .unset, .unset, .unset] [(.long (9223372036854775807 : Int64)), (.long qx)]))
  refine Go.st (fun _ k => XS.land X0.here hx rfl (hb hby at_4) rfl k) ?_
  show Go p.tables e below _ (s₁.setTop (mkF m 5 #[.val (.long qx), .second, .val (.long qy), .second, .unset, .unset, .unset, .unset, .unset, .unset, .unset, .unset, .unset, .unset] [(.long (qx &&& (9223372036854775807 : Int64)))]))
  refine Go.st (fun _ k => XS.lstore X0.here hx rfl (hb hby at_5) rfl (l' := #[.val (.long qx), .second, .val (.long qy), .second, .val (.long (qx &&& (9223372036854775807 : Int64))), .second, .unset, .unset, .unset, .unset, .unset, .unset, .unset, .unset]) rfl k) ?_
  show Go p.tables e below _ (s₁.setTop (mkF m 7 #[.val (.long qx), .second, .val (.long qy), .second, .val (.long (qx &&& (9223372036854775807 : Int64))), .second, .unset, .unset, .unset, .unset, .unset, .unset, .unset, .unset] []))
  generalize hqv5 : (qx &&& (9223372036854775807 : Int64)) = v5
  show Go p.tables e below _ (s₁.setTop (mkF m 7 #[.val (.long qx), .second, .val (.long qy), .second, .val (.long v5), .second, .unset, .unset, .unset, .unset, .unset, .unset, .unset, .unset] []))
  refine Go.st (fun _ k => XS.lloadN X0.here hx rfl (hb hby at_7) rfl k) ?_
  show Go p.tables e below _ (s₁.setTop (mkF m 8 #[.val (.long qx), .second, .val (.long qy), .second, .val (.long v5), .second, .unset, .unset, .unset, .unset, .unset, .unset, .unset, .unset] [(.long qy)]))
  refine Go.st (fun _ k => X0.ldc2Long hx hown (mvT hZ (hw _ (List.mem_of_getElem? (i := 0) rfl))) (g := (mkF m 8 #[.val (.long qx), .second, .val (.long qy), .second, .val (.long v5), .second, .unset, .unset, .unset, .unset, .unset, .unset, .unset, .unset] [(.long qy)])) rfl (hb hby at_8) _ k) ?_
  show Go p.tables e below _ (s₁.setTop (mkF m 11 #[.val (.long qx), .second, .val (.long qy), .second, .val (.long v5), .second, .unset, .unset, .unset, .unset, .unset, .unset, .unset, .unset] [(.long (9223372036854775807 : Int64)), (.long qy)]))
  refine Go.st (fun _ k => XS.land X0.here hx rfl (hb hby at_11) rfl k) ?_
  show Go p.tables e below _ (s₁.setTop (mkF m 12 #[.val (.long qx), .second, .val (.long qy), .second, .val (.long v5), .second, .unset, .unset, .unset, .unset, .unset, .unset, .unset, .unset] [(.long (qy &&& (9223372036854775807 : Int64)))]))
  refine Go.st (fun _ k => XS.lstore X0.here hx rfl (hb hby at_12) rfl (l' := #[.val (.long qx), .second, .val (.long qy), .second, .val (.long v5), .second, .val (.long (qy &&& (9223372036854775807 : Int64))), .second, .unset, .unset, .unset, .unset, .unset, .unset]) rfl k) ?_
  show Go p.tables e below _ (s₁.setTop (mkF m 14 #[.val (.long qx), .second, .val (.long qy), .second, .val (.long v5), .second, .val (.long (qy &&& (9223372036854775807 : Int64))), .second, .unset, .unset, .unset, .unset, .unset, .unset] []))
  generalize hqv12 : (qy &&& (9223372036854775807 : Int64)) = v12
  show Go p.tables e below _ (s₁.setTop (mkF m 14 #[.val (.long qx), .second, .val (.long qy), .second, .val (.long v5), .second, .val (.long v12), .second, .unset, .unset, .unset, .unset, .unset, .unset] []))
  refine Go.st (fun _ k => XS.lload X0.here hx rfl (hb hby at_14) rfl k) ?_
  show Go p.tables e below _ (s₁.setTop (mkF m 16 #[.val (.long qx), .second, .val (.long qy), .second, .val (.long v5), .second, .val (.long v12), .second, .unset, .unset, .unset, .unset, .unset, .unset] [(.long v5)]))
  refine Go.st (fun _ k => XS.lload X0.here hx rfl (hb hby at_16) rfl k) ?_
  show Go p.tables e below _ (s₁.setTop (mkF m 18 #[.val (.long qx), .second, .val (.long qy), .second, .val (.long v5), .second, .val (.long v12), .second, .unset, .unset, .unset, .unset, .unset, .unset] [(.long v12), (.long v5)]))
  refine Go.st (fun _ k => XS.ladd X0.here hx rfl (hb hby at_18) rfl k) ?_
  show Go p.tables e below _ (s₁.setTop (mkF m 19 #[.val (.long qx), .second, .val (.long qy), .second, .val (.long v5), .second, .val (.long v12), .second, .unset, .unset, .unset, .unset, .unset, .unset] [(.long (v5 + v12))]))
  refine Go.st (fun _ k => XS.lstore X0.here hx rfl (hb hby at_19) rfl (l' := #[.val (.long qx), .second, .val (.long qy), .second, .val (.long v5), .second, .val (.long v12), .second, .val (.long (v5 + v12)), .second, .unset, .unset, .unset, .unset]) rfl k) ?_
  show Go p.tables e below _ (s₁.setTop (mkF m 21 #[.val (.long qx), .second, .val (.long qy), .second, .val (.long v5), .second, .val (.long v12), .second, .val (.long (v5 + v12)), .second, .unset, .unset, .unset, .unset] []))
  generalize hqv19 : (v5 + v12) = v19
  show Go p.tables e below _ (s₁.setTop (mkF m 21 #[.val (.long qx), .second, .val (.long qy), .second, .val (.long v5), .second, .val (.long v12), .second, .val (.long v19), .second, .unset, .unset, .unset, .unset] []))
  refine Go.st (fun _ k => XS.lload X0.here hx rfl (hb hby at_21) rfl k) ?_
  show Go p.tables e below _ (s₁.setTop (mkF m 23 #[.val (.long qx), .second, .val (.long qy), .second, .val (.long v5), .second, .val (.long v12), .second, .val (.long v19), .second, .unset, .unset, .unset, .unset] [(.long v19)]))
  refine Go.st (fun _ k => XS.lconst X0.here hx rfl (hb hby at_23) k) ?_
  show Go p.tables e below _ (s₁.setTop (mkF m 24 #[.val (.long qx), .second, .val (.long qy), .second, .val (.long v5), .second, .val (.long v12), .second, .val (.long v19), .second, .unset, .unset, .unset, .unset] [(.long (0 : Int64)), (.long v19)]))
  refine Go.st (fun _ k => Jvm.Free.XT.lcmp X0.here hx rfl (hb hby at_24) rfl k) ?_
  show Go p.tables e below _ (s₁.setTop (mkF m 25 #[.val (.long qx), .second, .val (.long qy), .second, .val (.long v5), .second, .val (.long v12), .second, .val (.long v19), .second, .unset, .unset, .unset, .unset] [(.int (Jvm.Free.XT.cmpL v19 (0 : Int64)))]))
  by_cases hc25 : v19 < (0 : Int64)
  · skip
    refine Go.st (fun _ k => XS.ifNo X0.here hx rfl (hb hby at_25) rfl (Jvm.Free.XT.ll_ge_f hc25) k) ?_
    show Go p.tables e below _ (s₁.setTop (mkF m 28 #[.val (.long qx), .second, .val (.long qy), .second, .val (.long v5), .second, .val (.long v12), .second, .val (.long v19), .second, .unset, .unset, .unset, .unset] []))
    refine Go.st (fun _ k => X0.ldc2Long hx hown (mvT hZ (hw _ (List.mem_of_getElem? (i := 0) rfl))) (g := (mkF m 28 #[.val (.long qx), .second, .val (.long qy), .second, .val (.long v5), .second, .val (.long v12), .second, .val (.long v19), .second, .unset, .unset, .unset, .unset] [])) rfl (hb hby at_28) _ k) ?_
    show Go p.tables e below _ (s₁.setTop (mkF m 31 #[.val (.long qx), .second, .val (.long qy), .second, .val (.long v5), .second, .val (.long v12), .second, .val (.long v19), .second, .unset, .unset, .unset, .unset] [(.long (9223372036854775807 : Int64))]))
    refine Go.st (fun _ k => XS.goto X0.here hx rfl (pc0 := 31) (pc' := 36) rfl (hb hby at_31) (by decide) (by decide) k) ?_
    show Go p.tables e below _ (s₁.setTop (mkF m 36 #[.val (.long qx), .second, .val (.long qy), .second, .val (.long v5), .second, .val (.long v12), .second, .val (.long v19), .second, .unset, .unset, .unset, .unset] [(.long (9223372036854775807 : Int64))]))
    refine Go.st (fun _ k => XS.lstore X0.here hx rfl (hb hby at_36) rfl (l' := #[.val (.long qx), .second, .val (.long qy), .second, .val (.long v5), .second, .val (.long v12), .second, .val (.long v19), .second, .val (.long (9223372036854775807 : Int64)), .second, .unset, .unset]) rfl k) ?_
    show Go p.tables e below _ (s₁.setTop (mkF m 38 #[.val (.long qx), .second, .val (.long qy), .second, .val (.long v5), .second, .val (.long v12), .second, .val (.long v19), .second, .val (.long (9223372036854775807 : Int64)), .second, .unset, .unset] []))
    show Go p.tables e below _ (s₁.setTop (mkF m 38 #[.val (.long qx), .second, .val (.long qy), .second, .val (.long v5), .second, .val (.long v12), .second, .val (.long v19), .second, .val (.long (9223372036854775807 : Int64)), .second, .unset, .unset] []))
    refine Go.st (fun _ k => XS.lload X0.here hx rfl (hb hby at_38) rfl k) ?_
    show Go p.tables e below _ (s₁.setTop (mkF m 40 #[.val (.long qx), .second, .val (.long qy), .second, .val (.long v5), .second, .val (.long v12), .second, .val (.long v19), .second, .val (.long (9223372036854775807 : Int64)), .second, .unset, .unset] [(.long v5)]))
    refine Go.st (fun _ k => XS.lload X0.here hx rfl (hb hby at_40) rfl k) ?_
    show Go p.tables e below _ (s₁.setTop (mkF m 42 #[.val (.long qx), .second, .val (.long qy), .second, .val (.long v5), .second, .val (.long v12), .second, .val (.long v19), .second, .val (.long (9223372036854775807 : Int64)), .second, .unset, .unset] [(.long v12), (.long v5)]))
    obtain ⟨_, _, ⟨T1, L1, k1, n1⟩, -, X1, ⟨Lc1, hQ1, l1, y1, z1⟩, st1⟩ := Jvm.LawKit.callS X0 hx (y := (⟨"com/example/tallyroot/tallyroot/aggregate/Figures", "add", "(JJ)J"⟩ : MethodName)) hown (mvT hZ (hw _ (List.mem_of_getElem? (i := 1) rfl))) (mvT hZ (hw _ (List.mem_of_getElem? (i := 2) rfl))) (mvT hZ (hw _ (List.mem_of_getElem? (i := 3) rfl))) (mvT hZ (hw _ (List.mem_of_getElem? (i := 4) rfl))) (by decide) (backOf (W := 0) (rm_add l Z a0 hw [] v5 v12 h0 n0 Z0 ) hZ (hw _ (List.mem_of_getElem? (i := 4) rfl)) (hw _ (List.mem_of_getElem? (i := 3) rfl)) (by decide) (by decide)) (g := (mkF m 42 #[.val (.long qx), .second, .val (.long qy), .second, .val (.long v5), .second, .val (.long v12), .second, .val (.long v19), .second, .val (.long (9223372036854775807 : Int64)), .second, .unset, .unset] [(.long v12), (.long v5)])) rfl (by rw [hml]; rfl) (argsL := [(.long v5), (.long v12)]) (rest := []) (lenOf pd_0 rfl) rfl (by show 2 * 0 + _ ≤ _; exact Nat.le_of_eq rfl) (hb hby at_42) (fun _ _ => ⟨rfl, e0, (by decide : 0 + 0 ≤ _), (by decide : 0 + 0 ≤ _)⟩)
    dsimp only [Pt.U, Pt.locs, Pt.cells, Pt.slots] at X1 l1 y1 z1 st1 hQ1
    subst l1 y1 z1
    obtain ⟨rfl, N1q, e1⟩ := hQ1
    have N1 := Fr.app N0 N1q
    refine Go.st st1 ?_
    show Go p.tables e below _ (T1.setTop (mkF m 45 #[.val (.long qx), .second, .val (.long qy), .second, .val (.long v5), .second, .val (.long v12), .second, .val (.long v19), .second, .val (.long (9223372036854775807 : Int64)), .second, .unset, .unset] [(.long (fadd v5 v12))]))
    refine Go.st (fun _ k => XS.lstore X1.here hx rfl (hb hby at_45) rfl (l' := #[.val (.long qx), .second, .val (.long qy), .second, .val (.long v5), .second, .val (.long v12), .second, .val (.long v19), .second, .val (.long (9223372036854775807 : Int64)), .second, .val (.long (fadd v5 v12)), .second]) rfl k) ?_
    show Go p.tables e below _ (T1.setTop (mkF m 47 #[.val (.long qx), .second, .val (.long qy), .second, .val (.long v5), .second, .val (.long v12), .second, .val (.long v19), .second, .val (.long (9223372036854775807 : Int64)), .second, .val (.long (fadd v5 v12)), .second] []))
    generalize hqv45 : (fadd v5 v12) = v45
    show Go p.tables e below _ (T1.setTop (mkF m 47 #[.val (.long qx), .second, .val (.long qy), .second, .val (.long v5), .second, .val (.long v12), .second, .val (.long v19), .second, .val (.long (9223372036854775807 : Int64)), .second, .val (.long v45), .second] []))
    refine Go.st (fun _ k => XS.lload X1.here hx rfl (hb hby at_47) rfl k) ?_
    show Go p.tables e below _ (T1.setTop (mkF m 49 #[.val (.long qx), .second, .val (.long qy), .second, .val (.long v5), .second, .val (.long v12), .second, .val (.long v19), .second, .val (.long (9223372036854775807 : Int64)), .second, .val (.long v45), .second] [(.long v45)]))
    refine Go.st (fun _ k => XS.lload X1.here hx rfl (hb hby at_49) rfl k) ?_
    show Go p.tables e below _ (T1.setTop (mkF m 51 #[.val (.long qx), .second, .val (.long qy), .second, .val (.long v5), .second, .val (.long v12), .second, .val (.long v19), .second, .val (.long (9223372036854775807 : Int64)), .second, .val (.long v45), .second] [(.long (9223372036854775807 : Int64)), (.long v45)]))
    refine Go.st (fun _ k => Jvm.Free.XT.lcmp X1.here hx rfl (hb hby at_51) rfl k) ?_
    show Go p.tables e below _ (T1.setTop (mkF m 52 #[.val (.long qx), .second, .val (.long qy), .second, .val (.long v5), .second, .val (.long v12), .second, .val (.long v19), .second, .val (.long (9223372036854775807 : Int64)), .second, .val (.long v45), .second] [(.int (Jvm.Free.XT.cmpL v45 (9223372036854775807 : Int64)))]))
    have hc52 : v45 = (9223372036854775807 : Int64) := (own_A hqv5 hqv12 hqv19 hqv45).1 hc25
    refine Go.st (fun _ k => XS.ifNo X1.here hx rfl (hb hby at_52) rfl (Jvm.Free.XT.ll_ne_f hc52) k) ?_
    show Go p.tables e below _ (T1.setTop (mkF m 55 #[.val (.long qx), .second, .val (.long qy), .second, .val (.long v5), .second, .val (.long v12), .second, .val (.long v19), .second, .val (.long (9223372036854775807 : Int64)), .second, .val (.long v45), .second] []))
    refine Go.st (fun _ k => XS.iconst X1.here hx rfl (hb hby at_55) k) ?_
    show Go p.tables e below _ (T1.setTop (mkF m 56 #[.val (.long qx), .second, .val (.long qy), .second, .val (.long v5), .second, .val (.long v12), .second, .val (.long v19), .second, .val (.long (9223372036854775807 : Int64)), .second, .val (.long v45), .second] [(.int (1 : Int32))]))
    refine Go.st (fun _ k => XS.goto X1.here hx rfl (pc0 := 56) (pc' := 60) rfl (hb hby at_56) (by decide) (by decide) k) ?_
    show Go p.tables e below _ (T1.setTop (mkF m 60 #[.val (.long qx), .second, .val (.long qy), .second, .val (.long v5), .second, .val (.long v12), .second, .val (.long v19), .second, .val (.long (9223372036854775807 : Int64)), .second, .val (.long v45), .second] [(.int (1 : Int32))]))
    subst hG
    obtain ⟨fs, hr, hrun, hended, hW, hsame⟩ := X1.leave (v := some (.int (nar .boolean (1 : Int32)))) (fun h => by rw [Bd.returns] at h; cases h)
    refine ⟨_, _, ?_, hrun, hended, _, _, rfl, ?_, ⟨_, rfl⟩, hW, hsame.mono (by decide) (by decide)⟩
    · exact retN X1 hx (t := .boolean) Bd.returns (by simp) (hb hby at_60) hr
    · show Q_law Z qx qy h0 n0 _ T1.heap _
      rw [e1]
      exact ⟨rfl, N1, rfl⟩
  · skip
    refine Go.st (fun _ k => XS.ifYes X0.here hx rfl (pc0 := 25) (pc' := 34) rfl (hb hby at_25) rfl (Jvm.Free.XT.ll_ge_t hc25) (by decide) (by decide) k) ?_
    show Go p.tables e below _ (s₁.setTop (mkF m 34 #[.val (.long qx), .second, .val (.long qy), .second, .val (.long v5), .second, .val (.long v12), .second, .val (.long v19), .second, .unset, .unset, .unset, .unset] []))
    refine Go.st (fun _ k => XS.lload X0.here hx rfl (hb hby at_34) rfl k) ?_
    show Go p.tables e below _ (s₁.setTop (mkF m 36 #[.val (.long qx), .second, .val (.long qy), .second, .val (.long v5), .second, .val (.long v12), .second, .val (.long v19), .second, .unset, .unset, .unset, .unset] [(.long v19)]))
    refine Go.st (fun _ k => XS.lstore X0.here hx rfl (hb hby at_36) rfl (l' := #[.val (.long qx), .second, .val (.long qy), .second, .val (.long v5), .second, .val (.long v12), .second, .val (.long v19), .second, .val (.long v19), .second, .unset, .unset]) rfl k) ?_
    show Go p.tables e below _ (s₁.setTop (mkF m 38 #[.val (.long qx), .second, .val (.long qy), .second, .val (.long v5), .second, .val (.long v12), .second, .val (.long v19), .second, .val (.long v19), .second, .unset, .unset] []))
    show Go p.tables e below _ (s₁.setTop (mkF m 38 #[.val (.long qx), .second, .val (.long qy), .second, .val (.long v5), .second, .val (.long v12), .second, .val (.long v19), .second, .val (.long v19), .second, .unset, .unset] []))
    refine Go.st (fun _ k => XS.lload X0.here hx rfl (hb hby at_38) rfl k) ?_
    show Go p.tables e below _ (s₁.setTop (mkF m 40 #[.val (.long qx), .second, .val (.long qy), .second, .val (.long v5), .second, .val (.long v12), .second, .val (.long v19), .second, .val (.long v19), .second, .unset, .unset] [(.long v5)]))
    refine Go.st (fun _ k => XS.lload X0.here hx rfl (hb hby at_40) rfl k) ?_
    show Go p.tables e below _ (s₁.setTop (mkF m 42 #[.val (.long qx), .second, .val (.long qy), .second, .val (.long v5), .second, .val (.long v12), .second, .val (.long v19), .second, .val (.long v19), .second, .unset, .unset] [(.long v12), (.long v5)]))
    obtain ⟨_, _, ⟨T2, L2, k2, n2⟩, -, X2, ⟨Lc2, hQ2, l2, y2, z2⟩, st2⟩ := Jvm.LawKit.callS X0 hx (y := (⟨"com/example/tallyroot/tallyroot/aggregate/Figures", "add", "(JJ)J"⟩ : MethodName)) hown (mvT hZ (hw _ (List.mem_of_getElem? (i := 1) rfl))) (mvT hZ (hw _ (List.mem_of_getElem? (i := 2) rfl))) (mvT hZ (hw _ (List.mem_of_getElem? (i := 3) rfl))) (mvT hZ (hw _ (List.mem_of_getElem? (i := 4) rfl))) (by decide) (backOf (W := 0) (rm_add l Z a0 hw [] v5 v12 h0 n0 Z0 ) hZ (hw _ (List.mem_of_getElem? (i := 4) rfl)) (hw _ (List.mem_of_getElem? (i := 3) rfl)) (by decide) (by decide)) (g := (mkF m 42 #[.val (.long qx), .second, .val (.long qy), .second, .val (.long v5), .second, .val (.long v12), .second, .val (.long v19), .second, .val (.long v19), .second, .unset, .unset] [(.long v12), (.long v5)])) rfl (by rw [hml]; rfl) (argsL := [(.long v5), (.long v12)]) (rest := []) (lenOf pd_0 rfl) rfl (by show 2 * 0 + _ ≤ _; exact Nat.le_of_eq rfl) (hb hby at_42) (fun _ _ => ⟨rfl, e0, (by decide : 0 + 0 ≤ _), (by decide : 0 + 0 ≤ _)⟩)
    dsimp only [Pt.U, Pt.locs, Pt.cells, Pt.slots] at X2 l2 y2 z2 st2 hQ2
    subst l2 y2 z2
    obtain ⟨rfl, N2q, e2⟩ := hQ2
    have N2 := Fr.app N0 N2q
    refine Go.st st2 ?_
    show Go p.tables e below _ (T2.setTop (mkF m 45 #[.val (.long qx), .second, .val (.long qy), .second, .val (.long v5), .second, .val (.long v12), .second, .val (.long v19), .second, .val (.long v19), .second, .unset, .unset] [(.long (fadd v5 v12))]))
    refine Go.st (fun _ k => XS.lstore X2.here hx rfl (hb hby at_45) rfl (l' := #[.val (.long qx), .second, .val (.long qy), .second, .val (.long v5), .second, .val (.long v12), .second, .val (.long v19), .second, .val (.long v19), .second, .val (.long (fadd v5 v12)), .second]) rfl k) ?_
    show Go p.tables e below _ (T2.setTop (mkF m 47 #[.val (.long qx), .second, .val (.long qy), .second, .val (.long v5), .second, .val (.long v12), .second, .val (.long v19), .second, .val (.long v19), .second, .val (.long (fadd v5 v12)), .second] []))
    generalize hqv45 : (fadd v5 v12) = v45
    show Go p.tables e below _ (T2.setTop (mkF m 47 #[.val (.long qx), .second, .val (.long qy), .second, .val (.long v5), .second, .val (.long v12), .second, .val (.long v19), .second, .val (.long v19), .second, .val (.long v45), .second] []))
    refine Go.st (fun _ k => XS.lload X2.here hx rfl (hb hby at_47) rfl k) ?_
    show Go p.tables e below _ (T2.setTop (mkF m 49 #[.val (.long qx), .second, .val (.long qy), .second, .val (.long v5), .second, .val (.long v12), .second, .val (.long v19), .second, .val (.long v19), .second, .val (.long v45), .second] [(.long v45)]))
    refine Go.st (fun _ k => XS.lload X2.here hx rfl (hb hby at_49) rfl k) ?_
    show Go p.tables e below _ (T2.setTop (mkF m 51 #[.val (.long qx), .second, .val (.long qy), .second, .val (.long v5), .second, .val (.long v12), .second, .val (.long v19), .second, .val (.long v19), .second, .val (.long v45), .second] [(.long v19), (.long v45)]))
    refine Go.st (fun _ k => Jvm.Free.XT.lcmp X2.here hx rfl (hb hby at_51) rfl k) ?_
    show Go p.tables e below _ (T2.setTop (mkF m 52 #[.val (.long qx), .second, .val (.long qy), .second, .val (.long v5), .second, .val (.long v12), .second, .val (.long v19), .second, .val (.long v19), .second, .val (.long v45), .second] [(.int (Jvm.Free.XT.cmpL v45 v19))]))
    have hc52 : v45 = v19 := (own_A hqv5 hqv12 hqv19 hqv45).2 hc25
    refine Go.st (fun _ k => XS.ifNo X2.here hx rfl (hb hby at_52) rfl (Jvm.Free.XT.ll_ne_f hc52) k) ?_
    show Go p.tables e below _ (T2.setTop (mkF m 55 #[.val (.long qx), .second, .val (.long qy), .second, .val (.long v5), .second, .val (.long v12), .second, .val (.long v19), .second, .val (.long v19), .second, .val (.long v45), .second] []))
    refine Go.st (fun _ k => XS.iconst X2.here hx rfl (hb hby at_55) k) ?_
    show Go p.tables e below _ (T2.setTop (mkF m 56 #[.val (.long qx), .second, .val (.long qy), .second, .val (.long v5), .second, .val (.long v12), .second, .val (.long v19), .second, .val (.long v19), .second, .val (.long v45), .second] [(.int (1 : Int32))]))
    refine Go.st (fun _ k => XS.goto X2.here hx rfl (pc0 := 56) (pc' := 60) rfl (hb hby at_56) (by decide) (by decide) k) ?_
    show Go p.tables e below _ (T2.setTop (mkF m 60 #[.val (.long qx), .second, .val (.long qy), .second, .val (.long v5), .second, .val (.long v12), .second, .val (.long v19), .second, .val (.long v19), .second, .val (.long v45), .second] [(.int (1 : Int32))]))
    subst hG
    obtain ⟨fs, hr, hrun, hended, hW, hsame⟩ := X2.leave (v := some (.int (nar .boolean (1 : Int32)))) (fun h => by rw [Bd.returns] at h; cases h)
    refine ⟨_, _, ?_, hrun, hended, _, _, rfl, ?_, ⟨_, rfl⟩, hW, hsame.mono (by decide) (by decide)⟩
    · exact retN X2 hx (t := .boolean) Bd.returns (by simp) (hb hby at_60) hr
    · show Q_law Z qx qy h0 n0 _ T2.heap _
      rw [e2]
      exact ⟨rfl, N2, rfl⟩
set_option maxRecDepth 65536 in
set_option maxHeartbeats 40000000 in
theorem comes_1 {Post : Tables → Env → Array Value → State → Outcome → State → Prop} (hpost : ∀ tb e args s v u, (limb_1_1.after args s (.returned v) u = true ∧ limb_1_2.after args s (.returned v) u = true ∧ True) → FrameEnd s (.returned v) u (Jvm.fieldLocs frame_1_writes args s ++ Jvm.arrayLocs frame_1_arrays args s ++ Jvm.staticLocs frame_1_statics s) 0 0 → Post tb e args s (.returned v) u) :
    ArmFor flags0 classFile x code maxLocals ret World_1 tables_1 room_1 Calls_1 rest_1 Pre_1 Post := by
  intro l hfl _ _ p e ha hc hk s m args below hf hA hF happ hP
  obtain ⟨hcalls, hrest, hpre⟩ := hP
  obtain ⟨-, -, -, hnamed, -, -, -, hat⟩ := (Spec.applies_iff hf).mp happ
  obtain ⟨hg, hn⟩ := and_e (Cond.before_iff.mp (show (Jvm.Cond.and given_1 narrow_1).before args s = true from hpre))
  obtain ⟨hcount, hg0⟩ := and_e hg
  obtain ⟨hv0, hg1⟩ := and_e hg0
  obtain ⟨w0, w1, rfl⟩ : ∃ w0 w1 : Value, args = #[w0, w1] := by
    have hs : args.size = 2 := by simpa [Cond.value, given_1] using hcount
    obtain ⟨L⟩ := args
    match L, hs with
    | [w0, w1], _ => exact ⟨w0, w1, rfl⟩
  have hw := fun d (hd : d ∈ tables_1) => atoms_spec (ws := Jvm.Cond.code x code maxLocals ret :: tables_1) hat d (List.mem_cons_of_mem _ hd)
  have hfit : Fit s := fun {y c} hc i hi => by
    obtain ⟨ha, rfl⟩ := Array.getElem?_eq_some_iff.mp hc
    have q := List.all_eq_true.mp ((Array.all_eq_true_iff_forall_mem.mp hF) _ (Array.getElem_mem ha)) i (List.mem_range.mpr hi)
    simpa [Array.getElem?_eq_getElem hi] using q
  obtain ⟨i0, ei0⟩ := isL_v hv0
  obtain rfl : w0 = (.long i0) := Option.some.inj ei0
  obtain ⟨i1, ei1⟩ := isL_v hg1
  obtain rfl : w1 = (.long i1) := Option.some.inj ei1
  obtain ⟨n, o, h1, h2, h3, _, L, rfl, ⟨rfl, N, -⟩, hq⟩ := rm_law l s _ hw tables_1 i0 i1 s.heap s.heap.size (Nat.le_refl _)  p e ha hc hk s m _ below hf ((Spec.applies_iff_loose hf).mp happ).1 ⟨rfl, State.Warmed39.refl s, rfl⟩ trivial
  refine ⟨n, _, h1, h2, h3, hpost _ _ _ _ _ _ ⟨Cond.after_iff.mpr rfl, Cond.after_iff.mpr (eq_i res_at (Term.int_eval (1)) rfl), trivial⟩ ⟨hq.1, hq.2.1, (hq.2.2.sift fun y hy => Or.inr (N y hy)).mono (by decide) (by decide)⟩⟩
theorem main_1_1 : Claimed_1_1 := comes_1 fun _ _ _ _ _ _ h hF => ⟨h.1, hF⟩
theorem main_1_2 : Claimed_1_2 := comes_1 fun _ _ _ _ _ _ h hF => ⟨h.2.1, hF⟩
end Jvm.Pilot.@@N@@
namespace Jvm.Pilot.@@N@@
open Jvm Jvm.ClassFile Sem Op Lib Jvm.Free Jvm.Stand Jvm.Pilot.@@N@@.Jvm.D
/-! MADE BY PROGRAM (witnessworld.py) out of the Statement's table words and the real class files: 7 classes; the members and pool entries that the words name. The judged class is class 1, her method 1. -/
namespace start1
open Jvm.ClassFile
def u (s : String) : CpInfo := .utf8 (stringToUtf16 s)
/-- a pool by its gaps: so many unusable entries, then the entry; so many at the end -/
def gap : Nat → List CpInfo → List CpInfo
  | 0, r => r
  | n + 1, r => .unusable :: gap n r
def poolList (es : List (Nat × CpInfo)) (last : Nat) : List CpInfo := es.foldr (fun e r => gap e.1 (e.2 :: r)) (gap last [])
def pool (es : List (Nat × CpInfo)) (last : Nat) : Array CpInfo := ⟨poolList es last⟩
def fileOf (pool : Array CpInfo) (this : Nat) (attrs : Array Attribute := #[]) (ms : Array MethodInfo := #[]) (fl : Nat := 33) (sup : Nat := 0) (ifs : Array Nat := #[]) (fds : Array FieldInfo := #[]) : ClassFile where
  minorVersion := 0
  majorVersion := 65
  constantPool := pool
  accessFlags := fl
  thisClass := this
  superClass := sup
  interfaces := ifs
  fields := fds
  methods := ms
  attributes := attrs
def plain (name : String) (sup : Option ClassId) : Class where
  name := name
  kind := .ordinary
  loader := none
  accessFlags := 33
  super := sup
  interfaces := #[]
  cf := none
  fields := #[]
  methods := #[]
  instanceTypes := #[]
  staticTypes := #[]
  resolved := #[]
  callSites := []
  init := .initialized
  statics := none
  mirror := none

def pool0 : Array CpInfo := pool [(5, u "<init>"), (0, u "()V"), (1, .class_ 10), (1, u "java/lang/Object")] 113

def k0m0 : Method := { name := "<init>", desc := "()V", sig := { parameters := [], returnType := none }, accessFlags := 1, code := none }
/-- java/lang/Object -/
def k0 : Class := { plain "java/lang/Object" none with
  accessFlags := 33
  interfaces := #[]
  cf := some (fileOf pool0 8 #[] #[{ accessFlags := 1, nameIndex := 5, descriptorIndex := 6, attributes := #[] }] 33 0 #[] #[])
  fields := #[]
  methods := #[k0m0]
  instanceTypes := #[]
  staticTypes := #[]
  resolved := Array.replicate 124 none
  statics := none }

def pool1 : Array CpInfo := pool [(2, .class_ 4), (1, u "java/lang/Object"), (0, u "<init>"), (0, u "()V"), (2, .long 9223372036854775807), (1, .methodref 12 13), (0, .class_ 14), (0, .nameAndType 15 16), (0, u "com/example/tallyroot/tallyroot/aggregate/Figures"), (0, u "add"), (0, u "(JJ)J"), (0, .class_ 18), (0, u "com/example/tallyroot/tallyroot/aggregate/FiguresAddPinLaw"), (2, u "law"), (0, u "(JJ)Z")] 3

def k1m0 : Method := { name := "<init>", desc := "()V", sig := { parameters := [], returnType := none }, accessFlags := 2, code := none }
def k1c1 : Code := { maxStack := 4, maxLocals := 14, code := code, exceptionTable := #[], attributes := #[] }
def k1m1 : Method := { name := "law", desc := "(JJ)Z", sig := { parameters := [.long, .long], returnType := some .boolean }, accessFlags := 9, code := some k1c1 }
/-- com/example/tallyroot/tallyroot/aggregate/FiguresAddPinLaw -/
def k1 : Class := { plain "com/example/tallyroot/tallyroot/aggregate/FiguresAddPinLaw" (some 0) with
  accessFlags := 49
  interfaces := #[]
  cf := some (fileOf pool1 17 #[] #[{ accessFlags := 2, nameIndex := 5, descriptorIndex := 6, attributes := #[] }, { accessFlags := 9, nameIndex := 21, descriptorIndex := 22, attributes := #[] }] 49 2 #[] #[])
  fields := #[]
  methods := #[k1m0, k1m1]
  instanceTypes := #[]
  staticTypes := #[]
  resolved := Array.replicate 26 none
  statics := none }

def pool2 : Array CpInfo := pool [(2, .class_ 4), (1, u "java/lang/Object"), (0, u "<init>"), (0, u "()V"), (2, .long 9223372036854775807), (10, u "(JJ)J"), (0, .class_ 22), (0, u "com/example/tallyroot/tallyroot/aggregate/Figures"), (2, u "add")] 5

def k2m0 : Method := { name := "<init>", desc := "()V", sig := { parameters := [], returnType := none }, accessFlags := 2, code := none }
def k2c1 : Code := { maxStack := 6, maxLocals := 4, code := prog_5_method_2_code, exceptionTable := #[], attributes := #[] }
def k2m1 : Method := { name := "add", desc := "(JJ)J", sig := { parameters := [.long, .long], returnType := some .long }, accessFlags := 8, code := some k2c1 }
/-- com/example/tallyroot/tallyroot/aggregate/Figures -/
def k2 : Class := { plain "com/example/tallyroot/tallyroot/aggregate/Figures" (some 0) with
  accessFlags := 48
  interfaces := #[]
  cf := some (fileOf pool2 21 #[] #[{ accessFlags := 2, nameIndex := 5, descriptorIndex := 6, attributes := #[] }, { accessFlags := 8, nameIndex := 25, descriptorIndex := 20, attributes := #[] }] 48 2 #[] #[])
  fields := #[]
  methods := #[k2m0, k2m1]
  instanceTypes := #[]
  staticTypes := #[]
  resolved := Array.replicate 31 none
  statics := none }

def pool3 : Array CpInfo := pool [(1, u "java/lang/Cloneable"), (0, .class_ 1), (0, u "java/lang/Object"), (0, .class_ 3)] 3

/-- java/lang/Cloneable -/
def k3 : Class := { plain "java/lang/Cloneable" (some 0) with
  accessFlags := 1537
  interfaces := #[]
  cf := some (fileOf pool3 2 #[] #[] 1537 4 #[] #[])
  fields := #[]
  methods := #[]
  instanceTypes := #[]
  staticTypes := #[]
  resolved := Array.replicate 8 none
  statics := none }

def pool4 : Array CpInfo := pool [(1, u "java/io/Serializable"), (0, .class_ 1), (0, u "java/lang/Object"), (0, .class_ 3)] 3

/-- java/io/Serializable -/
def k4 : Class := { plain "java/io/Serializable" (some 0) with
  accessFlags := 1537
  interfaces := #[]
  cf := some (fileOf pool4 2 #[] #[] 1537 4 #[] #[])
  fields := #[]
  methods := #[]
  instanceTypes := #[]
  staticTypes := #[]
  resolved := Array.replicate 8 none
  statics := none }

/-- the primitive byte -/
def k5 : Class := { plain "byte" none with kind := .primitive 'B', accessFlags := 0x411 }
/-- [B -/
def k6 : Class := { plain "[B" (some 0) with kind := .array 5 .byte, interfaces := #[3, 4], accessFlags := 1041 }

def heap : Heap := #[]
def classes : Array Class := #[k0, k1, k2, k3, k4, k5, k6]
def interned : List (Array UInt16 × Addr) := []
def slotsUsed : Nat := 0
def theMethod : MethodId := ⟨1, 1⟩
def args0 : Array Value := #[.long 5, .long 7]
def aboutOver (below : List Frame) : State where
  vm := { classes := classes, interned := interned.toArray }
  heap := heap
  slotsUsed := slotsUsed
  threads := #[{ frames := .invoking theMethod args0 :: below }]
def below0 : List Frame := [.native { method := ⟨0, 0⟩, args := #[] }]
def about1 : State := aboutOver below0
def p0 : Program := .bare "" "" ""
def e0 : Env := launch0.env 0 0 0
theorem w_frames : about1.frames = Frame.invoking theMethod args0 :: below0 := rfl
set_option maxRecDepth 65536 in
theorem w_args : argsFit about1.vm theMethod args0 = true := by decide +kernel
set_option maxRecDepth 65536 in
theorem w_heap : heapFits about1 = true := by decide +kernel
set_option maxRecDepth 65536 in
theorem w_runnable : about1.curStatus? = some .runnable := by decide +kernel
set_option maxRecDepth 65536 in
theorem w_alone : about1.alone = true := by decide +kernel
set_option maxRecDepth 65536 in
theorem w_named : about1.methodNamed? x = some theMethod := by decide +kernel
set_option maxRecDepth 65536 in
theorem w_hears : about1.hears theMethod below0 = true := by decide +kernel
set_option maxRecDepth 65536 in
theorem w_ripe : about1.ripe theMethod args0 below0 = true := by decide +kernel
theorem w_running : about1.status = .running := rfl
set_option maxRecDepth 65536 in
theorem w_room : about1.hasRoom e0.platform room_1 = true :=
  launch0.hasRoom_least _ room_1 (by decide +kernel) (by decide +kernel) (by decide +kernel) (by decide +kernel) (by decide +kernel) (by decide +kernel)
theorem allAtoms_all (ts : List Jvm.Cond) (a : Array Jvm.Value) (st : Jvm.State) : (allAtoms ts).before a st = ts.all (fun c => c.before a st) := by
  induction ts with
  | nil => rfl
  | cons c t ih =>
    show (Jvm.Cond.and c (allAtoms t)).before a st = _
    rw [Jvm.Cond.before_and, ih, List.all_cons]
def words1 : List Jvm.Cond := Jvm.Cond.code x code maxLocals ret :: tables_1
/-- a 'code' word, met by the world's own term for the bytes: nothing is compared byte by byte -/
theorem code_word {y : MethodName} {bytes : ByteArray} {mx : Nat} {rt : Option FieldType} {a : Array Value} {s : State} {m : MethodId} {meth : Method} {c : Code} (h1 : s.methodNamed? y = some m) (h2 : s.vm.method? m = some meth) (h3 : meth.code = some c) (h4 : c.code = bytes)
    (h5 : (c.maxLocals == mx && c.exceptionTable.isEmpty && decide (c.maxStack ≤ mostOperands) && decide (meth.sig.returnType = rt) && !meth.locks && decide (parseMethodDescriptor y.desc = some meth.sig)) = true) : (Jvm.Cond.code y bytes mx rt).before a s = true := by
  simp only [Bool.and_eq_true, beq_iff_eq, Bool.not_eq_true', decide_eq_true_eq] at h5
  obtain ⟨⟨⟨⟨⟨g1, g2⟩, g3⟩, g4⟩, g5⟩, g6⟩ := h5
  simp [Cond.before, Cond.holds, Cond.value, h1, h2, h3, h4, g1, g2, g3, g4, g5, g6]
def isCode : Jvm.Cond → Bool
  | .code _ _ _ _ => true
  | _ => false
theorem all_split {L : List Jvm.Cond} {P : Jvm.Cond → Bool} (h1 : L.all (fun c => isCode c || P c) = true) (h2 : ∀ c ∈ L.filter isCode, P c = true) : L.all P = true := by
  refine List.all_eq_true.mpr fun c hc => ?_
  have h := List.all_eq_true.mp h1 c hc
  rcases Bool.eq_false_or_eq_true (isCode c) with hi | hi
  · exact h2 c (List.mem_filter.mpr ⟨hc, hi⟩)
  · simpa [hi] using h
set_option maxRecDepth 65536 in
theorem w_c0 : (Jvm.Cond.code x code maxLocals ret).before args0 about1 = true := code_word (m := ⟨1, 1⟩) (meth := k1m1) (c := k1c1) (by decide +kernel) rfl rfl rfl (by decide +kernel)
set_option maxRecDepth 65536 in
theorem w_c1 : (Jvm.Cond.code ({ cls := "com/example/tallyroot/tallyroot/aggregate/Figures", name := "add", desc := "(JJ)J" } : Jvm.MethodName) prog_5_method_2_code (4 : Nat) (Option.some Jvm.ClassFile.FieldType.long)).before args0 about1 = true := code_word (m := ⟨2, 1⟩) (meth := k2m1) (c := k2c1) (by decide +kernel) rfl rfl rfl (by decide +kernel)
def codes1 : List Jvm.Cond := [Jvm.Cond.code x code maxLocals ret, Jvm.Cond.code ({ cls := "com/example/tallyroot/tallyroot/aggregate/Figures", name := "add", desc := "(JJ)J" } : Jvm.MethodName) prog_5_method_2_code (4 : Nat) (Option.some Jvm.ClassFile.FieldType.long)]
set_option maxRecDepth 65536 in
theorem codes_eq : words1.filter isCode = codes1 := rfl
theorem w_codes : ∀ c ∈ words1.filter isCode, c.before args0 about1 = true := by
  rw [codes_eq]
  intro c hc
  simp only [codes1, List.mem_cons, List.not_mem_nil, or_false] at hc
  rcases hc with rfl | rfl
  · exact w_c0
  · exact w_c1
set_option maxRecDepth 65536 in
theorem w_t1 : words1.all (fun c => isCode c || c.before args0 about1) = true := by decide +kernel
theorem w_tables : (allAtoms (Jvm.Cond.code x code maxLocals ret :: tables_1)).before args0 about1 = true := by
  rw [allAtoms_all]
  show words1.all (fun c => c.before args0 about1) = true
  refine all_split ?_ w_codes
  rw [w_t1]
set_option maxRecDepth 65536 in
theorem w_case : (Jvm.Cond.and given_1 narrow_1).before args0 about1 = true := by decide +kernel
theorem w_applies : (headSpec (Jvm.Cond.code x code maxLocals ret :: tables_1) room_1).applies x e0.platform about1 = true :=
  (Spec.applies_iff w_frames).mpr ⟨w_running, w_runnable, w_alone, w_named, w_hears, w_ripe, w_room, w_tables⟩
theorem atStart : AtStart classFile x code maxLocals ret World_1 tables_1 room_1 Calls_1 rest_1 Pre_1 launch0 p0 e0 about1 theMethod args0 below0 :=
  ⟨lists_1, trivial, launch0.admits_env _ _ _, launch0.least_env, fairChoices_fair.cas, fairChoices_fair.clock, w_frames, w_args, w_heap, w_applies, trivial, trivial, w_case⟩
end start1
theorem witness_1 : WitnessClaimed_1 := ⟨start1.p0, start1.e0, start1.about1, start1.theMethod, start1.args0, start1.below0, start1.atStart⟩
end Jvm.Pilot.@@N@@
