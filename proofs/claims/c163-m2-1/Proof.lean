import JvmDerived
import JvmDerived.Pilot.@@N@@Statement
import JvmDerived.Pilot.@@N@@Code
set_option linter.unusedVariables false
set_option linter.unusedSimpArgs false
@@BLOCK:NumsL.lean.txt@@
namespace Jvm.RoadKit
open Sem ClassFile Op Lib Jvm.Stand Jvm.Free Jvm.LawKit
section New
variable {p : Program} {l : Launch} {e : Env} {R : Room} {s : State} {m : MethodId} {args : Array Value} {below : List Frame} {meth : Method} {c : Code} {T : State} {locs : List Loc} {cells slots : Nat}
theorem retI (X : Stand p l e R s m args below meth c T locs cells slots) (hx : p.tables.exec = Jvm.exec) {pc : Nat} {Ls : Array Slot} {z : Int32} {rest : List Value} (hret : meth.sig.returnType = some .int) (hd : decode c.code pc = .ok (.ireturn, 1)) {fs : List Frame}
    (hl : ∀ (f : JFrame) (acts : List Action), f.method = m → f.locked = none → f.entered = [] → (doReturn e (T.setTop f) acts (some (.int z))).1 = T.setFrames fs) : Steps p.tables e below (T.setTop (mkF m pc Ls (.int z :: rest))) (T.setFrames fs) := by
  have hm' : T.vm.method? m = some meth := X.method'
  have hn : narrow .int (.int z) = .int z := rfl
  show Steps p.tables e below (T.setTop { method := m, pc := pc, locals := Ls, stack := _ :: rest, locked := none }) _
  jvm_step X.here [X.here.top, hx, hd, hm', hret, hn]
  first | (intro acts; rw [hl _ acts rfl rfl rfl]) | rw [hl _ _ rfl rfl rfl]
  exact Steps.refl _
end New
end Jvm.RoadKit
namespace Jvm.Pilot.@@N@@
open Jvm Jvm.ClassFile Sem Op Lib Jvm.Free Jvm.Stand Jvm.LawKit Jvm.RoadKit Bundle Jvm.Pilot.@@N@@.Jvm.D
/-- from here the run comes to an end of which G holds -/
def Go (tb : Tables) (e : Env) (below : List Frame) (G : State → Outcome → Prop) (U : State) : Prop := ∃ t o, Steps tb e below U t ∧ G t o
theorem Go.st {tb : Tables} {e : Env} {below : List Frame} {G : State → Outcome → Prop} {U U' : State} (h : ∀ t, Steps tb e below U' t → Steps tb e below U t) (k : Go tb e below G U') : Go tb e below G U :=
  let ⟨t, o, a, b⟩ := k
  ⟨t, o, h t a, b⟩
theorem Go.start {tb : Tables} {e : Env} {below : List Frame} {G0 : State → Outcome → Prop} {U : State} (h : ∀ G, G = G0 → Go tb e below G U) : Go tb e below G0 U := h _ rfl
theorem Go.join {tb : Tables} {e : Env} {below : List Frame} {G : State → Outcome → Prop} {U : State} {α : Type} {F : α → State} (k : ∀ z, Go tb e below G (F z)) (h : (∀ z, Go tb e below G (F z)) → Go tb e below G U) : Go tb e below G U := h k
theorem Go.joinR {tb : Tables} {e : Env} {below : List Frame} {G : State → Outcome → Prop} {U : State} {α : Type} {F : α → State} {R : α → Prop} (k : ∀ z, R z → Go tb e below G (F z)) (h : (∀ z, R z → Go tb e below G (F z)) → Go tb e below G U) : Go tb e below G U := h k
theorem own_stakeep {Z : State} {h h' : Heap} {C n d : String} {v : Value} (F : Sta Z h C n d v) (K : Keep h h' []) : Sta Z h' C n d v := F.ext ⟨K.1, fun a c q => K.2.1 a c q List.not_mem_nil⟩
theorem own_lrem {tb : Tables} {e : Env} {below : List Frame} {T target : State} {g : JFrame} {n : Nat} {x y : Int64} {rest : List Value} (k : Steps tb e below (T.setTop { g with pc := n, stack := .long (x % y) :: rest }) target) :
    Steps tb e below (T.setTop { g with pc := n, stack := .long (x - (x / y) * y) :: rest }) target := by
  rw [lrem_mod]
  exact k
theorem i64_addc (x y : Int64) : (x + y).toInt = x.toInt + y.toInt ∧ -2 ^ 63 ≤ x.toInt + y.toInt ∧ x.toInt + y.toInt < 2 ^ 63 ∨ (x + y).toInt = x.toInt + y.toInt - 2 ^ 64 ∧ 2 ^ 63 ≤ x.toInt + y.toInt ∨ (x + y).toInt = x.toInt + y.toInt + 2 ^ 64 ∧ x.toInt + y.toInt < -2 ^ 63 := by
  have h := Int64.toInt_add x y
  have a1 := Int64.le_toInt x
  have a2 := Int64.toInt_lt x
  have b1 := Int64.le_toInt y
  have b2 := Int64.toInt_lt y
  rw [Int.bmod_def] at h
  split at h <;> omega
theorem i64_subc (x y : Int64) : (x - y).toInt = x.toInt - y.toInt ∧ -2 ^ 63 ≤ x.toInt - y.toInt ∧ x.toInt - y.toInt < 2 ^ 63 ∨ (x - y).toInt = x.toInt - y.toInt - 2 ^ 64 ∧ 2 ^ 63 ≤ x.toInt - y.toInt ∨ (x - y).toInt = x.toInt - y.toInt + 2 ^ 64 ∧ x.toInt - y.toInt < -2 ^ 63 := by
  have h := Int64.toInt_sub x y
  have a1 := Int64.le_toInt x
  have a2 := Int64.toInt_lt x
  have b1 := Int64.le_toInt y
  have b2 := Int64.toInt_lt y
  rw [Int.bmod_def] at h
  split at h <;> omega
theorem i32_i2c (x : Int32) : (x.toUInt32.toUInt16.toUInt32.toInt32).toInt = x.toInt % 65536 := by
  have h1 : (x.toUInt32.toUInt16.toUInt32.toInt32).toInt = ((x.toUInt32.toUInt16.toUInt32).toNat : Int).bmod (2 ^ 32) := by
    rw [← Int32.toInt_toBitVec, BitVec.toInt_eq_toNat_bmod]; rfl
  have h2 : (x.toUInt32.toUInt16.toUInt32).toNat = x.toBitVec.toNat % 65536 := by
    simp [UInt32.toNat_toUInt16, UInt16.toNat_toUInt32]; rfl
  have h3 : x.toInt = (x.toBitVec.toNat : Int).bmod (2 ^ 32) := by
    rw [← Int32.toInt_toBitVec, BitVec.toInt_eq_toNat_bmod]
  have h4 := x.toBitVec.isLt
  rw [h1, h2, h3, Int.bmod_def, Int.bmod_def]
  split <;> split <;> omega
theorem i32_addc (x y : Int32) : (x + y).toInt = x.toInt + y.toInt ∧ -2 ^ 31 ≤ x.toInt + y.toInt ∧ x.toInt + y.toInt < 2 ^ 31 ∨ (x + y).toInt = x.toInt + y.toInt - 2 ^ 32 ∧ 2 ^ 31 ≤ x.toInt + y.toInt ∨ (x + y).toInt = x.toInt + y.toInt + 2 ^ 32 ∧ x.toInt + y.toInt < -2 ^ 31 := by
  have h := Int32.toInt_add x y
  have a1 := Int32.le_toInt x
  have a2 := Int32.toInt_lt x
  have b1 := Int32.le_toInt y
  have b2 := Int32.toInt_lt y
  rw [Int.bmod_def] at h
  split at h <;> omega
theorem i32_subc (x y : Int32) : (x - y).toInt = x.toInt - y.toInt ∧ -2 ^ 31 ≤ x.toInt - y.toInt ∧ x.toInt - y.toInt < 2 ^ 31 ∨ (x - y).toInt = x.toInt - y.toInt - 2 ^ 32 ∧ 2 ^ 31 ≤ x.toInt - y.toInt ∨ (x - y).toInt = x.toInt - y.toInt + 2 ^ 32 ∧ x.toInt - y.toInt < -2 ^ 31 := by
  have h := Int32.toInt_sub x y
  have a1 := Int32.le_toInt x
  have a2 := Int32.toInt_lt x
  have b1 := Int32.le_toInt y
  have b2 := Int32.toInt_lt y
  rw [Int.bmod_def] at h
  split at h <;> omega
theorem own_eq32 {a b : Int32} (h : a.toInt = b.toInt) : a = b := Int32.toInt_inj.mp h
theorem own_eq64 {a b : Int64} (h : a.toInt = b.toInt) : a = b := Int64.toInt_inj.mp h
theorem own_lt64 {a b : Int64} (h : a.toInt < b.toInt) : a < b := Int64.lt_iff_toInt_lt.mpr h
theorem own_lt32 {a b : Int32} (h : a.toInt < b.toInt) : a < b := Int32.lt_iff_toInt_lt.mpr h
theorem own_nlt64 {a b : Int64} (h : b.toInt ≤ a.toInt) : ¬ a < b := fun z => by have := Int64.lt_iff_toInt_lt.mp z; omega
theorem own_nlt32 {a b : Int32} (h : b.toInt ≤ a.toInt) : ¬ a < b := fun z => by have := Int32.lt_iff_toInt_lt.mp z; omega
theorem own_ne32 {a b : Int32} (h : a.toInt ≠ b.toInt) : ¬ a = b := fun z => h (by rw [z])
theorem own_ne64 {a b : Int64} (h : a.toInt ≠ b.toInt) : ¬ a = b := fun z => h (by rw [z])
theorem own_narb (y : Int32) : nar .byte (y.toInt8.toInt32) = y.toInt8.toInt32 := by
  show (y.toInt8.toInt32).toInt8.toInt32 = y.toInt8.toInt32
  simp
def bvs (bl : List Int32) : List Value := bl.map Value.int
theorem own_bset (bl : List Int32) (i : Nat) (x : Int32) : (bvs bl).set i (.int x) = bvs (bl.set i x) := by
  unfold bvs
  rw [List.map_set]
theorem own_bget (bl : List Int32) (i : Nat) : (bvs bl).getD i (.int 0) = .int (bl.getD i 0) := by
  unfold bvs
  rw [List.getD_eq_getElem?_getD, List.getD_eq_getElem?_getD, List.getElem?_map]
  cases bl[i]? <;> rfl
theorem own_blen (bl : List Int32) : (bvs bl).length = bl.length := by
  unfold bvs
  rw [List.length_map]

theorem own_strAtoms : ∀ a ∈ Bundle.stringAtoms, a ∈ tables_1 := by decide +kernel
theorem own_mem_0 : (("io/floorbook/engine/Limits", 46) : String × Nat) ∈ consts_1 := List.mem_of_getElem? (i := 0) rfl
theorem own_mem_1 : (("io/floorbook/engine/LimitsPriceProblemPinLaw", 19) : String × Nat) ∈ consts_1 := List.mem_of_getElem? (i := 1) rfl
theorem own_mem_2 : (("io/floorbook/engine/LimitsPriceProblemPinLaw", 25) : String × Nat) ∈ consts_1 := List.mem_of_getElem? (i := 2) rfl
theorem pn_0 : plainName "java/lang/StringLatin1" = true := by first | (simp [plainName, overriddenIn]; done) | decide +kernel
theorem d_l1eq_0 : decode jdk_43_method_13_code 0 = .ok (.aload_n 0, 1) := by decide +kernel
theorem d_l1eq_1 : decode jdk_43_method_13_code 1 = .ok (.arraylength, 1) := by decide +kernel
theorem d_l1eq_2 : decode jdk_43_method_13_code 2 = .ok (.aload_n 1, 1) := by decide +kernel
theorem d_l1eq_3 : decode jdk_43_method_13_code 3 = .ok (.arraylength, 1) := by decide +kernel
theorem d_l1eq_4 : decode jdk_43_method_13_code 4 = .ok (.if_icmp .ne 30, 3) := by decide +kernel
theorem d_l1eq_7 : decode jdk_43_method_13_code 7 = .ok (.iconst 0, 1) := by decide +kernel
theorem d_l1eq_8 : decode jdk_43_method_13_code 8 = .ok (.istore_n 2, 1) := by decide +kernel
theorem d_l1eq_9 : decode jdk_43_method_13_code 9 = .ok (.iload_n 2, 1) := by decide +kernel
theorem d_l1eq_10 : decode jdk_43_method_13_code 10 = .ok (.aload_n 0, 1) := by decide +kernel
theorem d_l1eq_11 : decode jdk_43_method_13_code 11 = .ok (.arraylength, 1) := by decide +kernel
theorem d_l1eq_12 : decode jdk_43_method_13_code 12 = .ok (.if_icmp .ge 20, 3) := by decide +kernel
theorem d_l1eq_15 : decode jdk_43_method_13_code 15 = .ok (.aload_n 0, 1) := by decide +kernel
theorem d_l1eq_16 : decode jdk_43_method_13_code 16 = .ok (.iload_n 2, 1) := by decide +kernel
theorem d_l1eq_17 : decode jdk_43_method_13_code 17 = .ok (.baload, 1) := by decide +kernel
theorem d_l1eq_18 : decode jdk_43_method_13_code 18 = .ok (.aload_n 1, 1) := by decide +kernel
theorem d_l1eq_19 : decode jdk_43_method_13_code 19 = .ok (.iload_n 2, 1) := by decide +kernel
theorem d_l1eq_20 : decode jdk_43_method_13_code 20 = .ok (.baload, 1) := by decide +kernel
theorem d_l1eq_21 : decode jdk_43_method_13_code 21 = .ok (.if_icmp .eq 5, 3) := by decide +kernel
theorem d_l1eq_26 : decode jdk_43_method_13_code 26 = .ok (.iinc 2 1, 3) := by decide +kernel
theorem d_l1eq_29 : decode jdk_43_method_13_code 29 = .ok (.goto (-20), 3) := by decide +kernel
theorem d_l1eq_32 : decode jdk_43_method_13_code 32 = .ok (.iconst 1, 1) := by decide +kernel
theorem d_l1eq_33 : decode jdk_43_method_13_code 33 = .ok (.ireturn, 1) := by decide +kernel
theorem ef_l1eq (m : MethodId) (ao : Addr) (bo : Addr) : entryFrame m #[(.ref ao), (.ref bo)] 3 = mkF m 0 #[.val (.ref ao), .val (.ref bo), .unset] [] := by first | (simp [entryFrame, mkF, argsToLocals, Value.category]; done) | rfl
def Q_l1eq (Z : State) (ao : Addr) (bo : Addr) (ka : ClassId) (kb : ClassId) (zz : Int32) (bl : List Int32) (h0 : Heap) (n0 : Nat) (v : Option Value) (h : Heap) (L : List Loc) : Prop := v = some (.int (1 : Int32)) ∧ Fr n0 L ∧ h = h0
set_option maxRecDepth 65536 in
set_option maxHeartbeats 40000000 in
theorem rm_l1eq (l : Launch) (Z : State) (a0 : Array Value) (hw : ∀ d ∈ tables_1, d.before a0 Z = true) (ws : List Jvm.Cond) (ao : Addr) (bo : Addr) (ka : ClassId) (kb : ClassId) (zz : Int32) (bl : List Int32) (h0 : Heap) (n0 : Nat) (Z0 : n0 ≤ h0.size) (Pf0 : Arv Z h0 ao ka .byte zz (bvs bl) (.int (0 : Int32))) (Pf1 : Arv Z h0 bo kb .byte zz (bvs bl) (.int (0 : Int32))) (hz0 : ¬ zz < 0) :
    MetFree l (⟨"java/lang/StringLatin1", "equals", "([B[B)Z"⟩ : MethodName) (head1 (Jvm.Cond.code (⟨"java/lang/StringLatin1", "equals", "([B[B)Z"⟩ : MethodName) jdk_43_method_13_code 3 (some .boolean) :: ws) ({ frames := 0, cells := 0, slots := 0, locals := 0 } : Room)) (fun a U => a = #[(.ref ao), (.ref bo)] ∧ Z.Warmed39 U.vm ∧ U.heap = h0) (fun _ _ _ _ _ => True) (fun _ U o U' => ∃ v L, o = .returned v ∧ Q_l1eq Z ao bo ka kb zz bl h0 n0 v U'.heap L ∧ FrameEnd U o U' L ({ frames := 0, cells := 0, slots := 0, locals := 0 } : Room).cells ({ frames := 0, cells := 0, slots := 0, locals := 0 } : Room).slots) := by
  refine MetFree.of_bodySF (plainFor_of_name pn_0) hisR ?_
  intro p e s m args below meth c s₁ Bd hml0 hP hK
  obtain ⟨rfl, hZ, hh⟩ := hP
  have hx := Bd.exec
  have hby := Bd.bytes
  have hml : c.maxLocals = 3 := hml0
  have hown : s.vm.findClass "java/lang/StringLatin1" = some m.cls := findClass_of_methodNamed Bd.named
  have hnm := (name_of_methodNamed Bd.named Bd.method).1
  have X0 : Stand p l e ({ frames := 0, cells := 0, slots := 0, locals := 0 } : Room) s m #[(.ref ao), (.ref bo)] below meth c s₁ [] 0 0 := Stand.of_body Bd
  have e0 : s₁.heap = h0 := by rw [← hh, Bd.state]; rfl
  have N0 := Fr.nil n0
  have K0 : Keep h0 h0 [] := Keep.refl h0 []
  show Go p.tables e below _ (s₁.setTop (entryFrame m #[(.ref ao), (.ref bo)] 3))
  refine Go.start ?_
  intro G hG
  refine Go.st (fun t k => castTop (ef_l1eq m ao bo) k) ?_
  have i_0 : (0 : Int32).toInt = 0 := by decide
  have i_1 : (1 : Int32).toInt = 1 := by decide
  show Go p.tables e below _ (s₁.setTop (mkF m 0 #[.val (.ref ao), .val (.ref bo), .unset] []))
  refine Go.st (fun _ k => XS.aloadN X0.here hx rfl (hb hby d_l1eq_0) rfl rfl k) ?_
  show Go p.tables e below _ (s₁.setTop (mkF m 1 #[.val (.ref ao), .val (.ref bo), .unset] [(.ref ao)]))
  obtain ⟨cl1, Ar1, -, S1, M1, -, -⟩ := id Pf0
  refine Go.st (fun _ k => X0.arraylength hx (by rw [e0]; exact Ar1.1) (State.isArrayOf_alike hZ.alike Ar1.2.1) (g := (mkF m 1 #[.val (.ref ao), .val (.ref bo), .unset] [(.ref ao)])) rfl rfl (hb hby d_l1eq_1) _ k) ?_
  rw [len_of S1 M1]
  show Go p.tables e below _ (s₁.setTop (mkF m 2 #[.val (.ref ao), .val (.ref bo), .unset] [(.int zz)]))
  refine Go.st (fun _ k => XS.aloadN X0.here hx rfl (hb hby d_l1eq_2) rfl rfl k) ?_
  show Go p.tables e below _ (s₁.setTop (mkF m 3 #[.val (.ref ao), .val (.ref bo), .unset] [(.ref bo), (.int zz)]))
  obtain ⟨cl2, Ar2, -, S2, M2, -, -⟩ := id Pf1
  refine Go.st (fun _ k => X0.arraylength hx (by rw [e0]; exact Ar2.1) (State.isArrayOf_alike hZ.alike Ar2.2.1) (g := (mkF m 3 #[.val (.ref ao), .val (.ref bo), .unset] [(.ref bo), (.int zz)])) rfl rfl (hb hby d_l1eq_3) _ k) ?_
  rw [len_of S2 M2]
  show Go p.tables e below _ (s₁.setTop (mkF m 4 #[.val (.ref ao), .val (.ref bo), .unset] [(.int zz), (.int zz)]))
  have hc4 : zz = zz := rfl
  refine Go.st (fun _ k => XS.icmpNo X0.here hx rfl (hb hby d_l1eq_4) rfl (Jvm.Free.XT.ii_ne_f hc4) k) ?_
  show Go p.tables e below _ (s₁.setTop (mkF m 7 #[.val (.ref ao), .val (.ref bo), .unset] []))
  refine Go.st (fun _ k => XS.iconst X0.here hx rfl (hb hby d_l1eq_7) k) ?_
  show Go p.tables e below _ (s₁.setTop (mkF m 8 #[.val (.ref ao), .val (.ref bo), .unset] [(.int (0 : Int32))]))
  refine Go.st (fun _ k => XS.istoreN X0.here hx rfl (hb hby d_l1eq_8) rfl (l' := #[.val (.ref ao), .val (.ref bo), .val (.int (0 : Int32))]) rfl k) ?_
  show Go p.tables e below _ (s₁.setTop (mkF m 9 #[.val (.ref ao), .val (.ref bo), .val (.int (0 : Int32))] []))
  have lp9 : ∀ (kz : Nat) (T : State) (h : Heap) (lc : List Loc) (iv : Int32), Stand p l e ({ frames := 0, cells := 0, slots := 0, locals := 0 } : Room) s m #[(.ref ao), (.ref bo)] below meth c T lc 0 0 → T.heap = h → Fr n0 lc → Keep h0 h [] → n0 ≤ h.size → Arv Z h ao ka .byte zz (bvs bl) (.int (0 : Int32)) → Arv Z h bo kb .byte zz (bvs bl) (.int (0 : Int32)) → (iv.toInt + (kz : Int) = zz.toInt ∧ 0 ≤ iv.toInt) → (h = h0) → Go p.tables e below G (T.setTop (mkF m 9 #[.val (.ref ao), .val (.ref bo), .val (.int iv)] [])) := by
    intro kz
    induction kz with
    | zero =>
      intro T h lc iv XT eT NT KT ZT FT0 FT1 h1 hpu
      have h1' : iv.toInt = zz.toInt := by omega
      show Go p.tables e below _ (T.setTop (mkF m 9 #[.val (.ref ao), .val (.ref bo), .val (.int iv)] []))
      refine Go.st (fun _ k => XS.iloadN XT.here hx rfl (hb hby d_l1eq_9) rfl k) ?_
      show Go p.tables e below _ (T.setTop (mkF m 10 #[.val (.ref ao), .val (.ref bo), .val (.int iv)] [(.int iv)]))
      refine Go.st (fun _ k => XS.aloadN XT.here hx rfl (hb hby d_l1eq_10) rfl rfl k) ?_
      show Go p.tables e below _ (T.setTop (mkF m 11 #[.val (.ref ao), .val (.ref bo), .val (.int iv)] [(.ref ao), (.int iv)]))
      obtain ⟨cl3, Ar3, -, S3, M3, -, -⟩ := id FT0
      refine Go.st (fun _ k => XT.arraylength hx (by rw [eT]; exact Ar3.1) (State.isArrayOf_alike hZ.alike Ar3.2.1) (g := (mkF m 11 #[.val (.ref ao), .val (.ref bo), .val (.int iv)] [(.ref ao), (.int iv)])) rfl rfl (hb hby d_l1eq_11) _ k) ?_
      rw [len_of S3 M3]
      show Go p.tables e below _ (T.setTop (mkF m 12 #[.val (.ref ao), .val (.ref bo), .val (.int iv)] [(.int zz), (.int iv)]))
      have hc12 : ¬ (iv < zz) := own_nlt32 (by omega)
      refine Go.st (fun _ k => XS.icmpYes XT.here hx rfl (pc0 := 12) (pc' := 32) rfl (hb hby d_l1eq_12) rfl (Jvm.Free.XT.ii_ge_t hc12) (by decide) (by decide) k) ?_
      show Go p.tables e below _ (T.setTop (mkF m 32 #[.val (.ref ao), .val (.ref bo), .val (.int iv)] []))
      refine Go.st (fun _ k => XS.iconst XT.here hx rfl (hb hby d_l1eq_32) k) ?_
      show Go p.tables e below _ (T.setTop (mkF m 33 #[.val (.ref ao), .val (.ref bo), .val (.int iv)] [(.int (1 : Int32))]))
      subst hG
      obtain ⟨fs, hr, hrun, hended, hW, hsame⟩ := XT.leave (v := some (.int (nar .boolean (1 : Int32)))) (fun h => by rw [Bd.returns] at h; cases h)
      refine ⟨_, _, ?_, hrun, hended, _, _, rfl, ?_, ⟨_, rfl⟩, hW, hsame.mono (by decide) (by decide)⟩
      · exact retN XT hx (t := .boolean) Bd.returns (by simp) (hb hby d_l1eq_33) hr
      · show Q_l1eq Z ao bo ka kb zz bl h0 n0 _ T.heap _
        rw [eT]
        exact ⟨rfl, NT, hpu⟩
    | succ kz ih =>
      intro T h lc iv XT eT NT KT ZT FT0 FT1 h1 hpu
      have h1' : iv.toInt + kz + 1 = zz.toInt := by omega
      show Go p.tables e below _ (T.setTop (mkF m 9 #[.val (.ref ao), .val (.ref bo), .val (.int iv)] []))
      refine Go.st (fun _ k => XS.iloadN XT.here hx rfl (hb hby d_l1eq_9) rfl k) ?_
      show Go p.tables e below _ (T.setTop (mkF m 10 #[.val (.ref ao), .val (.ref bo), .val (.int iv)] [(.int iv)]))
      refine Go.st (fun _ k => XS.aloadN XT.here hx rfl (hb hby d_l1eq_10) rfl rfl k) ?_
      show Go p.tables e below _ (T.setTop (mkF m 11 #[.val (.ref ao), .val (.ref bo), .val (.int iv)] [(.ref ao), (.int iv)]))
      obtain ⟨cl4, Ar4, -, S4, M4, -, -⟩ := id FT0
      refine Go.st (fun _ k => XT.arraylength hx (by rw [eT]; exact Ar4.1) (State.isArrayOf_alike hZ.alike Ar4.2.1) (g := (mkF m 11 #[.val (.ref ao), .val (.ref bo), .val (.int iv)] [(.ref ao), (.int iv)])) rfl rfl (hb hby d_l1eq_11) _ k) ?_
      rw [len_of S4 M4]
      show Go p.tables e below _ (T.setTop (mkF m 12 #[.val (.ref ao), .val (.ref bo), .val (.int iv)] [(.int zz), (.int iv)]))
      have hc12 : iv < zz := own_lt32 (by omega)
      refine Go.st (fun _ k => XS.icmpNo XT.here hx rfl (hb hby d_l1eq_12) rfl (Jvm.Free.XT.ii_ge_f hc12) k) ?_
      show Go p.tables e below _ (T.setTop (mkF m 15 #[.val (.ref ao), .val (.ref bo), .val (.int iv)] []))
      refine Go.st (fun _ k => XS.aloadN XT.here hx rfl (hb hby d_l1eq_15) rfl rfl k) ?_
      show Go p.tables e below _ (T.setTop (mkF m 16 #[.val (.ref ao), .val (.ref bo), .val (.int iv)] [(.ref ao)]))
      refine Go.st (fun _ k => XS.iloadN XT.here hx rfl (hb hby d_l1eq_16) rfl k) ?_
      show Go p.tables e below _ (T.setTop (mkF m 17 #[.val (.ref ao), .val (.ref bo), .val (.int iv)] [(.int iv), (.ref ao)]))
      obtain ⟨cl5, Ar5, q5, S5, M5, H5, G5⟩ := id FT0
      have hin5 : ¬ (iv < 0 ∨ cl5.slots.size ≤ (iv).toNatClampNeg) := inb_of S5 ⟨own_nlt32 (by omega), own_lt32 (by omega)⟩
      have hat5 : cl5.slots[(iv).toNatClampNeg]? = some (.int (bl.getD iv.toNatClampNeg 0)) := Has.at H5 hin5 (own_bget _ _)
      refine Go.st (fun _ k => XT.baloadBytes hx (j := iv) (v := (.int (bl.getD iv.toNatClampNeg 0))) (by rw [eT]; exact Ar5.1) (State.isArrayOf_alike hZ.alike Ar5.2.1) Ar5.2.2 hin5 hat5 (g := (mkF m 17 #[.val (.ref ao), .val (.ref bo), .val (.int iv)] [(.int iv), (.ref ao)])) rfl rfl (hb hby d_l1eq_17) _ k) ?_
      show Go p.tables e below _ (T.setTop (mkF m 18 #[.val (.ref ao), .val (.ref bo), .val (.int iv)] [(.int (bl.getD iv.toNatClampNeg 0))]))
      refine Go.st (fun _ k => XS.aloadN XT.here hx rfl (hb hby d_l1eq_18) rfl rfl k) ?_
      show Go p.tables e below _ (T.setTop (mkF m 19 #[.val (.ref ao), .val (.ref bo), .val (.int iv)] [(.ref bo), (.int (bl.getD iv.toNatClampNeg 0))]))
      refine Go.st (fun _ k => XS.iloadN XT.here hx rfl (hb hby d_l1eq_19) rfl k) ?_
      show Go p.tables e below _ (T.setTop (mkF m 20 #[.val (.ref ao), .val (.ref bo), .val (.int iv)] [(.int iv), (.ref bo), (.int (bl.getD iv.toNatClampNeg 0))]))
      obtain ⟨cl6, Ar6, q6, S6, M6, H6, G6⟩ := id FT1
      have hin6 : ¬ (iv < 0 ∨ cl6.slots.size ≤ (iv).toNatClampNeg) := inb_of S6 ⟨own_nlt32 (by omega), own_lt32 (by omega)⟩
      have hat6 : cl6.slots[(iv).toNatClampNeg]? = some (.int (bl.getD iv.toNatClampNeg 0)) := Has.at H6 hin6 (own_bget _ _)
      refine Go.st (fun _ k => XT.baloadBytes hx (j := iv) (v := (.int (bl.getD iv.toNatClampNeg 0))) (by rw [eT]; exact Ar6.1) (State.isArrayOf_alike hZ.alike Ar6.2.1) Ar6.2.2 hin6 hat6 (g := (mkF m 20 #[.val (.ref ao), .val (.ref bo), .val (.int iv)] [(.int iv), (.ref bo), (.int (bl.getD iv.toNatClampNeg 0))])) rfl rfl (hb hby d_l1eq_20) _ k) ?_
      show Go p.tables e below _ (T.setTop (mkF m 21 #[.val (.ref ao), .val (.ref bo), .val (.int iv)] [(.int (bl.getD iv.toNatClampNeg 0)), (.int (bl.getD iv.toNatClampNeg 0))]))
      have hc21 : (bl.getD iv.toNatClampNeg 0) = (bl.getD iv.toNatClampNeg 0) := rfl
      refine Go.st (fun _ k => XS.icmpYes XT.here hx rfl (pc0 := 21) (pc' := 26) rfl (hb hby d_l1eq_21) rfl (Jvm.Free.XT.ii_eq_t hc21) (by decide) (by decide) k) ?_
      show Go p.tables e below _ (T.setTop (mkF m 26 #[.val (.ref ao), .val (.ref bo), .val (.int iv)] []))
      refine Go.st (fun _ k => XS.iinc XT.here hx rfl (hb hby d_l1eq_26) rfl (l' := #[.val (.ref ao), .val (.ref bo), .val (.int (iv + (1 : Int32)))]) rfl k) ?_
      show Go p.tables e below _ (T.setTop (mkF m 29 #[.val (.ref ao), .val (.ref bo), .val (.int (iv + (1 : Int32)))] []))
      generalize hqv26 : (iv + (1 : Int32)) = v26
      show Go p.tables e below _ (T.setTop (mkF m 29 #[.val (.ref ao), .val (.ref bo), .val (.int v26)] []))
      refine Go.st (fun _ k => XS.goto XT.here hx rfl (pc0 := 29) (pc' := 9) rfl (hb hby d_l1eq_29) (by decide) (by decide) k) ?_
      show Go p.tables e below _ (T.setTop (mkF m 9 #[.val (.ref ao), .val (.ref bo), .val (.int v26)] []))
      have hi26 := i32_addc iv (1 : Int32)
      rw [hqv26] at hi26
      have hzl := zz.toInt_lt
      exact ih T h _ v26 XT eT NT KT ZT FT0 FT1 (by omega) hpu
  exact lp9 zz.toNatClampNeg s₁ h0 _ (0 : Int32) X0 e0 N0 K0 Z0 Pf0 Pf1 (by have q := nat_of hz0; omega) rfl
theorem pd_0 : parseMethodDescriptor "([B[B)Z" = some ⟨[(.array .byte), (.array .byte)], some .boolean⟩ := by decide +kernel
theorem pn_1 : plainName "java/lang/String" = true := by first | (simp [plainName, overriddenIn]; done) | decide +kernel
theorem d_seq_0 : decode jdk_42_method_66_code 0 = .ok (.aload_n 0, 1) := by decide +kernel
theorem d_seq_1 : decode jdk_42_method_66_code 1 = .ok (.aload_n 1, 1) := by decide +kernel
theorem d_seq_2 : decode jdk_42_method_66_code 2 = .ok (.if_acmp .ne 5, 3) := by decide +kernel
theorem d_seq_5 : decode jdk_42_method_66_code 5 = .ok (.iconst 1, 1) := by decide +kernel
theorem d_seq_6 : decode jdk_42_method_66_code 6 = .ok (.ireturn, 1) := by decide +kernel
theorem d_seq_7 : decode jdk_42_method_66_code 7 = .ok (.aload_n 1, 1) := by decide +kernel
theorem d_seq_8 : decode jdk_42_method_66_code 8 = .ok (.instanceof 10, 3) := by decide +kernel
theorem d_seq_11 : decode jdk_42_method_66_code 11 = .ok (.ifCond .eq 43, 3) := by decide +kernel
theorem d_seq_14 : decode jdk_42_method_66_code 14 = .ok (.aload_n 1, 1) := by decide +kernel
theorem d_seq_15 : decode jdk_42_method_66_code 15 = .ok (.checkcast 10, 3) := by decide +kernel
theorem d_seq_18 : decode jdk_42_method_66_code 18 = .ok (.astore_n 2, 1) := by decide +kernel
theorem d_seq_19 : decode jdk_42_method_66_code 19 = .ok (.getstatic 38, 3) := by decide +kernel
theorem d_seq_22 : decode jdk_42_method_66_code 22 = .ok (.ifCond .eq 14, 3) := by decide +kernel
theorem d_seq_25 : decode jdk_42_method_66_code 25 = .ok (.aload_n 0, 1) := by decide +kernel
theorem d_seq_26 : decode jdk_42_method_66_code 26 = .ok (.getfield 15, 3) := by decide +kernel
theorem d_seq_29 : decode jdk_42_method_66_code 29 = .ok (.aload_n 2, 1) := by decide +kernel
theorem d_seq_30 : decode jdk_42_method_66_code 30 = .ok (.getfield 15, 3) := by decide +kernel
theorem d_seq_33 : decode jdk_42_method_66_code 33 = .ok (.if_icmp .ne 21, 3) := by decide +kernel
theorem d_seq_36 : decode jdk_42_method_66_code 36 = .ok (.aload_n 0, 1) := by decide +kernel
theorem d_seq_37 : decode jdk_42_method_66_code 37 = .ok (.getfield 9, 3) := by decide +kernel
theorem d_seq_40 : decode jdk_42_method_66_code 40 = .ok (.aload_n 2, 1) := by decide +kernel
theorem d_seq_41 : decode jdk_42_method_66_code 41 = .ok (.getfield 9, 3) := by decide +kernel
theorem d_seq_44 : decode jdk_42_method_66_code 44 = .ok (.invokestatic 541, 3) := by decide +kernel
theorem d_seq_47 : decode jdk_42_method_66_code 47 = .ok (.ifCond .eq 7, 3) := by decide +kernel
theorem d_seq_50 : decode jdk_42_method_66_code 50 = .ok (.iconst 1, 1) := by decide +kernel
theorem d_seq_51 : decode jdk_42_method_66_code 51 = .ok (.goto 4, 3) := by decide +kernel
theorem d_seq_55 : decode jdk_42_method_66_code 55 = .ok (.ireturn, 1) := by decide +kernel
theorem ef_seq (m : MethodId) (so : Addr) (to : Addr) : entryFrame m #[(.ref so), (.ref to)] 3 = mkF m 0 #[.val (.ref so), .val (.ref to), .unset] [] := by first | (simp [entryFrame, mkF, argsToLocals, Value.category]; done) | rfl
def Q_seq (Z : State) (so : Addr) (to : Addr) (ta : Addr) (tb : Addr) (ka : ClassId) (kb : ClassId) (zz : Int32) (bl : List Int32) (G1 : Int32) (h0 : Heap) (n0 : Nat) (v : Option Value) (h : Heap) (L : List Loc) : Prop := v = some (.int (1 : Int32)) ∧ Fr n0 L ∧ h = h0
set_option maxRecDepth 65536 in
set_option maxHeartbeats 40000000 in
theorem rm_seq (l : Launch) (Z : State) (a0 : Array Value) (hw : ∀ d ∈ tables_1, d.before a0 Z = true) (ws : List Jvm.Cond) (so : Addr) (to : Addr) (ta : Addr) (tb : Addr) (ka : ClassId) (kb : ClassId) (zz : Int32) (bl : List Int32) (G1 : Int32) (h0 : Heap) (n0 : Nat) (Z0 : n0 ≤ h0.size) (Pf0 : Exa Z h0 so "java/lang/String") (Pf1 : Fld Z h0 so "java/lang/String" "coder" "B" (.int (0 : Int32))) (Pf2 : Fld Z h0 so "java/lang/String" "value" "[B" (.ref ta)) (Pf3 : Exa Z h0 to "java/lang/String") (Pf4 : Fld Z h0 to "java/lang/String" "coder" "B" (.int (0 : Int32))) (Pf5 : Fld Z h0 to "java/lang/String" "value" "[B" (.ref tb)) (Pf6 : Arv Z h0 ta ka .byte zz (bvs bl) (.int (0 : Int32))) (Pf7 : Arv Z h0 tb kb .byte zz (bvs bl) (.int (0 : Int32))) (Pf8 : Sta Z h0 "java/lang/String" "COMPACT_STRINGS" "Z" (.int G1)) (P5 : ¬ (G1 = (0 : Int32))) (hz0 : ¬ zz < 0) :
    MetFree l (⟨"java/lang/String", "equals", "(Ljava/lang/Object;)Z"⟩ : MethodName) (head1 (Jvm.Cond.code (⟨"java/lang/String", "equals", "(Ljava/lang/Object;)Z"⟩ : MethodName) jdk_42_method_66_code 3 (some .boolean) :: ws) ({ frames := 1, cells := 0, slots := 0, locals := 14 } : Room)) (fun a U => a = #[(.ref so), (.ref to)] ∧ Z.Warmed39 U.vm ∧ U.heap = h0) (fun _ _ _ _ _ => True) (fun _ U o U' => ∃ v L, o = .returned v ∧ Q_seq Z so to ta tb ka kb zz bl G1 h0 n0 v U'.heap L ∧ FrameEnd U o U' L ({ frames := 1, cells := 0, slots := 0, locals := 14 } : Room).cells ({ frames := 1, cells := 0, slots := 0, locals := 14 } : Room).slots) := by
  refine MetFree.of_bodySF (plainFor_of_name pn_1) hisR ?_
  intro p e s m args below meth c s₁ Bd hml0 hP hK
  obtain ⟨rfl, hZ, hh⟩ := hP
  have hx := Bd.exec
  have hby := Bd.bytes
  have hml : c.maxLocals = 3 := hml0
  have hown : s.vm.findClass "java/lang/String" = some m.cls := findClass_of_methodNamed Bd.named
  have hnm := (name_of_methodNamed Bd.named Bd.method).1
  have X0 : Stand p l e ({ frames := 1, cells := 0, slots := 0, locals := 14 } : Room) s m #[(.ref so), (.ref to)] below meth c s₁ [] 0 0 := Stand.of_body Bd
  have e0 : s₁.heap = h0 := by rw [← hh, Bd.state]; rfl
  have N0 := Fr.nil n0
  have K0 : Keep h0 h0 [] := Keep.refl h0 []
  show Go p.tables e below _ (s₁.setTop (entryFrame m #[(.ref so), (.ref to)] 3))
  refine Go.start ?_
  intro G hG
  refine Go.st (fun t k => castTop (ef_seq m so to) k) ?_
  show Go p.tables e below _ (s₁.setTop (mkF m 0 #[.val (.ref so), .val (.ref to), .unset] []))
  refine Go.st (fun _ k => XS.aloadN X0.here hx rfl (hb hby d_seq_0) rfl rfl k) ?_
  show Go p.tables e below _ (s₁.setTop (mkF m 1 #[.val (.ref so), .val (.ref to), .unset] [(.ref so)]))
  refine Go.st (fun _ k => XS.aloadN X0.here hx rfl (hb hby d_seq_1) rfl rfl k) ?_
  show Go p.tables e below _ (s₁.setTop (mkF m 2 #[.val (.ref so), .val (.ref to), .unset] [(.ref to), (.ref so)]))
  by_cases ha2 : so = to
  · skip
    refine Go.st (fun _ k => Jvm.RoadKit.acmp (g := (mkF m 2 #[.val (.ref so), .val (.ref to), .unset] [(.ref to), (.ref so)])) X0 hx rfl rfl rfl (pc0 := 2) (pc' := 5) (same := true) rfl (hb hby d_seq_2) rfl (decide_eq_true (congrArg Value.ref ha2)) (by decide) (by decide) k) ?_
    show Go p.tables e below _ (s₁.setTop (mkF m 5 #[.val (.ref so), .val (.ref to), .unset] []))
    refine Go.st (fun _ k => XS.iconst X0.here hx rfl (hb hby d_seq_5) k) ?_
    show Go p.tables e below _ (s₁.setTop (mkF m 6 #[.val (.ref so), .val (.ref to), .unset] [(.int (1 : Int32))]))
    subst hG
    obtain ⟨fs, hr, hrun, hended, hW, hsame⟩ := X0.leave (v := some (.int (nar .boolean (1 : Int32)))) (fun h => by rw [Bd.returns] at h; cases h)
    refine ⟨_, _, ?_, hrun, hended, _, _, rfl, ?_, ⟨_, rfl⟩, hW, hsame.mono (by decide) (by decide)⟩
    · exact retN X0 hx (t := .boolean) Bd.returns (by simp) (hb hby d_seq_6) hr
    · show Q_seq Z so to ta tb ka kb zz bl G1 h0 n0 _ s₁.heap _
      rw [e0]
      exact ⟨rfl, N0, rfl⟩
  · skip
    refine Go.st (fun _ k => Jvm.RoadKit.acmp (g := (mkF m 2 #[.val (.ref so), .val (.ref to), .unset] [(.ref to), (.ref so)])) X0 hx rfl rfl rfl (pc0 := 2) (pc' := 7) (same := false) rfl (hb hby d_seq_2) rfl (decide_eq_false fun q => ha2 (Value.ref.inj q)) (by decide) (by decide) k) ?_
    show Go p.tables e below _ (s₁.setTop (mkF m 7 #[.val (.ref so), .val (.ref to), .unset] []))
    refine Go.st (fun _ k => XS.aloadN X0.here hx rfl (hb hby d_seq_7) rfl rfl k) ?_
    show Go p.tables e below _ (s₁.setTop (mkF m 8 #[.val (.ref so), .val (.ref to), .unset] [(.ref to)]))
    obtain ⟨T1, X1, e1, st1⟩ := instY X0 hx hZ hown (hw _ (List.mem_of_getElem? (i := 28) rfl)) e0 (Ins.self Pf3) (g := (mkF m 8 #[.val (.ref so), .val (.ref to), .unset] [(.ref to)])) rfl rfl (hb hby d_seq_8)
    refine Go.st st1 ?_
    show Go p.tables e below _ (T1.setTop (mkF m 11 #[.val (.ref so), .val (.ref to), .unset] [(.int (1 : Int32))]))
    have hl2 : ¬ ((1 : Int32) = (0 : Int32)) := by decide
    refine Go.st (fun _ k => XS.ifNo X1.here hx rfl (hb hby d_seq_11) rfl (Jvm.Free.XT.i0_eq_f hl2) k) ?_
    show Go p.tables e below _ (T1.setTop (mkF m 14 #[.val (.ref so), .val (.ref to), .unset] []))
    refine Go.st (fun _ k => XS.aloadN X1.here hx rfl (hb hby d_seq_14) rfl rfl k) ?_
    show Go p.tables e below _ (T1.setTop (mkF m 15 #[.val (.ref so), .val (.ref to), .unset] [(.ref to)]))
    obtain ⟨T3, X3, e3, st3⟩ := castY X1 hx hZ hown (hw _ (List.mem_of_getElem? (i := 28) rfl)) e1 (Ins.self Pf3) (g := (mkF m 15 #[.val (.ref so), .val (.ref to), .unset] [(.ref to)])) rfl rfl (hb hby d_seq_15)
    refine Go.st st3 ?_
    show Go p.tables e below _ (T3.setTop (mkF m 18 #[.val (.ref so), .val (.ref to), .unset] [(.ref to)]))
    refine Go.st (fun _ k => XS.astoreN X3.here hx rfl (hb hby d_seq_18) rfl rfl (l' := #[.val (.ref so), .val (.ref to), .val (.ref to)]) rfl k) ?_
    show Go p.tables e below _ (T3.setTop (mkF m 19 #[.val (.ref so), .val (.ref to), .val (.ref to)] []))
    show Go p.tables e below _ (T3.setTop (mkF m 19 #[.val (.ref so), .val (.ref to), .val (.ref to)] []))
    obtain ⟨T4, X4, e4, st4⟩ := getS2 X3 hx hZ hown (host := "") (Or.inl (hw _ (List.mem_of_getElem? (i := 30) rfl))) Via.refl e3 Pf8 (g := (mkF m 19 #[.val (.ref so), .val (.ref to), .val (.ref to)] [])) rfl (hb hby d_seq_19)
    refine Go.st st4 ?_
    show Go p.tables e below _ (T4.setTop (mkF m 22 #[.val (.ref so), .val (.ref to), .val (.ref to)] [(.int G1)]))
    have hc22 : ¬ (G1 = (0 : Int32)) := P5
    refine Go.st (fun _ k => XS.ifNo X4.here hx rfl (hb hby d_seq_22) rfl (Jvm.Free.XT.i0_eq_f hc22) k) ?_
    show Go p.tables e below _ (T4.setTop (mkF m 25 #[.val (.ref so), .val (.ref to), .val (.ref to)] []))
    refine Go.st (fun _ k => XS.aloadN X4.here hx rfl (hb hby d_seq_25) rfl rfl k) ?_
    show Go p.tables e below _ (T4.setTop (mkF m 26 #[.val (.ref so), .val (.ref to), .val (.ref to)] [(.ref so)]))
    obtain ⟨T5, X5, e5, st5⟩ := getF X4 hx hZ hown (host := "") (Or.inl (hw _ (List.mem_of_getElem? (i := 31) rfl))) Via.refl e4 Pf1 (g := (mkF m 26 #[.val (.ref so), .val (.ref to), .val (.ref to)] [(.ref so)])) rfl rfl (hb hby d_seq_26)
    refine Go.st st5 ?_
    show Go p.tables e below _ (T5.setTop (mkF m 29 #[.val (.ref so), .val (.ref to), .val (.ref to)] [(.int (0 : Int32))]))
    refine Go.st (fun _ k => XS.aloadN X5.here hx rfl (hb hby d_seq_29) rfl rfl k) ?_
    show Go p.tables e below _ (T5.setTop (mkF m 30 #[.val (.ref so), .val (.ref to), .val (.ref to)] [(.ref to), (.int (0 : Int32))]))
    obtain ⟨T6, X6, e6, st6⟩ := getF X5 hx hZ hown (host := "") (Or.inl (hw _ (List.mem_of_getElem? (i := 31) rfl))) Via.refl e5 Pf4 (g := (mkF m 30 #[.val (.ref so), .val (.ref to), .val (.ref to)] [(.ref to), (.int (0 : Int32))])) rfl rfl (hb hby d_seq_30)
    refine Go.st st6 ?_
    show Go p.tables e below _ (T6.setTop (mkF m 33 #[.val (.ref so), .val (.ref to), .val (.ref to)] [(.int (0 : Int32)), (.int (0 : Int32))]))
    have hl7 : (0 : Int32) = (0 : Int32) := by decide
    refine Go.st (fun _ k => XS.icmpNo X6.here hx rfl (hb hby d_seq_33) rfl (Jvm.Free.XT.ii_ne_f hl7) k) ?_
    show Go p.tables e below _ (T6.setTop (mkF m 36 #[.val (.ref so), .val (.ref to), .val (.ref to)] []))
    refine Go.st (fun _ k => XS.aloadN X6.here hx rfl (hb hby d_seq_36) rfl rfl k) ?_
    show Go p.tables e below _ (T6.setTop (mkF m 37 #[.val (.ref so), .val (.ref to), .val (.ref to)] [(.ref so)]))
    obtain ⟨T8, X8, e8, st8⟩ := getF X6 hx hZ hown (host := "") (Or.inl (hw _ (List.mem_of_getElem? (i := 32) rfl))) Via.refl e6 Pf2 (g := (mkF m 37 #[.val (.ref so), .val (.ref to), .val (.ref to)] [(.ref so)])) rfl rfl (hb hby d_seq_37)
    refine Go.st st8 ?_
    show Go p.tables e below _ (T8.setTop (mkF m 40 #[.val (.ref so), .val (.ref to), .val (.ref to)] [(.ref ta)]))
    refine Go.st (fun _ k => XS.aloadN X8.here hx rfl (hb hby d_seq_40) rfl rfl k) ?_
    show Go p.tables e below _ (T8.setTop (mkF m 41 #[.val (.ref so), .val (.ref to), .val (.ref to)] [(.ref to), (.ref ta)]))
    obtain ⟨T9, X9, e9, st9⟩ := getF X8 hx hZ hown (host := "") (Or.inl (hw _ (List.mem_of_getElem? (i := 32) rfl))) Via.refl e8 Pf5 (g := (mkF m 41 #[.val (.ref so), .val (.ref to), .val (.ref to)] [(.ref to), (.ref ta)])) rfl rfl (hb hby d_seq_41)
    refine Go.st st9 ?_
    show Go p.tables e below _ (T9.setTop (mkF m 44 #[.val (.ref so), .val (.ref to), .val (.ref to)] [(.ref tb), (.ref ta)]))
    obtain ⟨_, _, ⟨T10, L10, k10, n10⟩, -, X10, ⟨Lc10, hQ10, l10, y10, z10⟩, st10⟩ := Jvm.LawKit.callS X9 hx (y := (⟨"java/lang/StringLatin1", "equals", "([B[B)Z"⟩ : MethodName)) hown (mvT hZ (hw _ (List.mem_of_getElem? (i := 33) rfl))) (mvT hZ (hw _ (List.mem_of_getElem? (i := 34) rfl))) (mvT hZ (hw _ (List.mem_of_getElem? (i := 35) rfl))) (mvT hZ (hw _ (List.mem_of_getElem? (i := 36) rfl))) (by decide) (backOf (W := 0) (rm_l1eq l Z a0 hw [] ta tb ka kb zz bl h0 n0 Z0 Pf6 Pf7 (by show ¬ zz < 0; exact hz0)) hZ (hw _ (List.mem_of_getElem? (i := 36) rfl)) (hw _ (List.mem_of_getElem? (i := 35) rfl)) (by decide) (by decide)) (g := (mkF m 44 #[.val (.ref so), .val (.ref to), .val (.ref to)] [(.ref tb), (.ref ta)])) rfl (by rw [hml]; rfl) (argsL := [(.ref ta), (.ref tb)]) (rest := []) (lenOf pd_0 rfl) rfl (by show 2 * 0 + _ ≤ _; exact Nat.le_of_eq rfl) (hb hby d_seq_44) (fun _ _ => ⟨rfl, e9, (by decide : 0 + 0 ≤ _), (by decide : 0 + 0 ≤ _)⟩)
    dsimp only [Pt.U, Pt.locs, Pt.cells, Pt.slots] at X10 l10 y10 z10 st10 hQ10
    subst l10 y10 z10
    obtain ⟨rfl, N10q, e10⟩ := hQ10
    have N10 := Fr.app N0 N10q
    refine Go.st st10 ?_
    show Go p.tables e below _ (T10.setTop (mkF m 47 #[.val (.ref so), .val (.ref to), .val (.ref to)] [(.int (1 : Int32))]))
    have hl11 : ¬ ((1 : Int32) = (0 : Int32)) := by decide
    refine Go.st (fun _ k => XS.ifNo X10.here hx rfl (hb hby d_seq_47) rfl (Jvm.Free.XT.i0_eq_f hl11) k) ?_
    show Go p.tables e below _ (T10.setTop (mkF m 50 #[.val (.ref so), .val (.ref to), .val (.ref to)] []))
    refine Go.st (fun _ k => XS.iconst X10.here hx rfl (hb hby d_seq_50) k) ?_
    show Go p.tables e below _ (T10.setTop (mkF m 51 #[.val (.ref so), .val (.ref to), .val (.ref to)] [(.int (1 : Int32))]))
    refine Go.st (fun _ k => XS.goto X10.here hx rfl (pc0 := 51) (pc' := 55) rfl (hb hby d_seq_51) (by decide) (by decide) k) ?_
    show Go p.tables e below _ (T10.setTop (mkF m 55 #[.val (.ref so), .val (.ref to), .val (.ref to)] [(.int (1 : Int32))]))
    subst hG
    obtain ⟨fs, hr, hrun, hended, hW, hsame⟩ := X10.leave (v := some (.int (nar .boolean (1 : Int32)))) (fun h => by rw [Bd.returns] at h; cases h)
    refine ⟨_, _, ?_, hrun, hended, _, _, rfl, ?_, ⟨_, rfl⟩, hW, hsame.mono (by decide) (by decide)⟩
    · exact retN X10 hx (t := .boolean) Bd.returns (by simp) (hb hby d_seq_55) hr
    · show Q_seq Z so to ta tb ka kb zz bl G1 h0 n0 _ T10.heap _
      rw [e10]
      exact ⟨rfl, N10, rfl⟩
theorem own_p1 {x : Int64} (h : x < 1) : ¬ 0 < x := by
  have e0 : (0 : Int64).toInt = 0 := by decide
  have e1 : (1 : Int64).toInt = 1 := by decide
  have := Int64.lt_iff_toInt_lt.mp h
  exact own_nlt64 (by omega)
theorem own_p2 {x : Int64} (h : ¬ x < 1) : 0 < x := by
  have e0 : (0 : Int64).toInt = 0 := by decide
  have e1 : (1 : Int64).toInt = 1 := by decide
  have : ¬ x.toInt < (1 : Int64).toInt := fun z => h (Int64.lt_iff_toInt_lt.mpr z)
  exact own_lt64 (by omega)
theorem own_p3 {x : Int64} (h : 9999999 < x) : ¬ x < 10000000 := by
  have e0 : (9999999 : Int64).toInt = 9999999 := by decide
  have e1 : (10000000 : Int64).toInt = 10000000 := by decide
  have := Int64.lt_iff_toInt_lt.mp h
  exact own_nlt64 (by omega)
theorem own_p4 {x : Int64} (h : ¬ 9999999 < x) : x < 10000000 := by
  have e0 : (9999999 : Int64).toInt = 9999999 := by decide
  have e1 : (10000000 : Int64).toInt = 10000000 := by decide
  have : ¬ (9999999 : Int64).toInt < x.toInt := fun z => h (Int64.lt_iff_toInt_lt.mpr z)
  exact own_lt64 (by omega)
theorem own_p5 (x : Int64) : (x / (10 : Int64)) * (10 : Int64) = x ↔ x % (10 : Int64) = 0 := by
  rw [← lrem_mod x 10]
  constructor
  · intro h
    rw [h]
    simp
  · intro h
    have t := Int64.sub_add_cancel x (x / 10 * 10)
    rw [h, Int64.zero_add] at t
    exact t
theorem pn_2 : plainName "io/floorbook/engine/Limits" = true := by first | (simp [plainName, overriddenIn]; done) | decide +kernel
theorem d_ppA_0 : decode prog_21_method_8_code 0 = .ok (.lload_n 0, 1) := by decide +kernel
theorem d_ppA_1 : decode prog_21_method_8_code 1 = .ok (.lconst 0, 1) := by decide +kernel
theorem d_ppA_2 : decode prog_21_method_8_code 2 = .ok (.lcmp, 1) := by decide +kernel
theorem d_ppA_3 : decode prog_21_method_8_code 3 = .ok (.ifCond .gt 6, 3) := by decide +kernel
theorem d_ppA_6 : decode prog_21_method_8_code 6 = .ok (.ldc 46, 2) := by decide +kernel
theorem d_ppA_8 : decode prog_21_method_8_code 8 = .ok (.areturn, 1) := by decide +kernel
theorem ef_ppA (m : MethodId) (qp : Int64) : entryFrame m #[(.long qp)] 2 = mkF m 0 #[.val (.long qp), .second] [] := by first | (simp [entryFrame, mkF, argsToLocals, Value.category]; done) | rfl
def Q_ppA (Z : State) (qp : Int64) (h0 : Heap) (n0 : Nat) (v : Option Value) (h : Heap) (L : List Loc) : Prop := ∃ ra : Addr, ∃ rb : Addr, ∃ rk : ClassId, v = some (.ref ra) ∧ Fr n0 L ∧ Keep h0 h [] ∧ Exa Z h ra "java/lang/String" ∧ Fld Z h ra "java/lang/String" "coder" "B" (.int (0 : Int32)) ∧ Fld Z h ra "java/lang/String" "value" "[B" (.ref rb) ∧ Arv Z h rb rk .byte (18 : Int32) [(.int (109 : Int32)), (.int (117 : Int32)), (.int (115 : Int32)), (.int (116 : Int32)), (.int (32 : Int32)), (.int (98 : Int32)), (.int (101 : Int32)), (.int (32 : Int32)), (.int (97 : Int32)), (.int (98 : Int32)), (.int (111 : Int32)), (.int (118 : Int32)), (.int (101 : Int32)), (.int (32 : Int32)), (.int (122 : Int32)), (.int (101 : Int32)), (.int (114 : Int32)), (.int (111 : Int32))] (.int (0 : Int32))
set_option maxRecDepth 65536 in
set_option maxHeartbeats 40000000 in
theorem rm_ppA (l : Launch) (Z : State) (a0 : Array Value) (hw : ∀ d ∈ tables_1, d.before a0 Z = true) (ws : List Jvm.Cond) (qp : Int64) (h0 : Heap) (n0 : Nat) (Z0 : n0 ≤ h0.size) (hEL : EW Z a0 consts_1) (hp1 : ¬ ((0 : Int64) < qp)) :
    MetFree l (⟨"io/floorbook/engine/Limits", "priceProblem", "(J)Ljava/lang/String;"⟩ : MethodName) (head1 (Jvm.Cond.code (⟨"io/floorbook/engine/Limits", "priceProblem", "(J)Ljava/lang/String;"⟩ : MethodName) prog_21_method_8_code 2 (some (.object "java/lang/String")) :: ws) ({ frames := 0, cells := 2, slots := 76, locals := 0 } : Room)) (fun a U => a = #[(.long qp)] ∧ Z.Warmed39 U.vm ∧ U.heap = h0 ∧ CHv Z consts_1 U.vm h0) (fun _ _ _ _ _ => True) (fun _ U o U' => ∃ v L, o = .returned v ∧ Q_ppA Z qp h0 n0 v U'.heap L ∧ CHr Z consts_1 U.vm U.heap U'.vm U'.heap ∧ ReturnedEndW U o U' L ({ frames := 0, cells := 2, slots := 76, locals := 0 } : Room).cells ({ frames := 0, cells := 2, slots := 76, locals := 0 } : Room).slots) := by
  refine MetFree.of_bodySF (plainFor_of_name pn_2) hisR ?_
  intro p e s m args below meth c s₁ Bd hml0 hP hK
  obtain ⟨rfl, hZ, hh, hCH⟩ := hP
  have hx := Bd.exec
  have hby := Bd.bytes
  have hml : c.maxLocals = 2 := hml0
  have hown : s.vm.findClass "io/floorbook/engine/Limits" = some m.cls := findClass_of_methodNamed Bd.named
  have hnm := (name_of_methodNamed Bd.named Bd.method).1
  have X0 : Stand p l e ({ frames := 0, cells := 2, slots := 76, locals := 0 } : Room) (s.setVm s.vm) m #[(.long qp)] below meth c s₁ [] 0 0 := Stand.of_body Bd
  have hS0 : s.Since s.vm h0.size := (State.WarmedH.refl s).since _
  have hk0 : h0.size ≤ h0.size := Nat.le_refl _
  have hR0 : CHr Z consts_1 s.vm h0 s.vm h0 := CHr.refl hCH
  have e0 : s₁.heap = h0 := by rw [← hh, Bd.state]; rfl
  have N0 := Fr.nil n0
  have K0 : Keep h0 h0 [] := Keep.refl h0 []
  show Go p.tables e below _ (s₁.setTop (entryFrame m #[(.long qp)] 2))
  refine Go.start ?_
  intro G hG
  refine Go.st (fun t k => castTop (ef_ppA m qp) k) ?_
  show Go p.tables e below _ (s₁.setTop (mkF m 0 #[.val (.long qp), .second] []))
  refine Go.st (fun _ k => XS.lloadN X0.here hx rfl (hb hby d_ppA_0) rfl k) ?_
  show Go p.tables e below _ (s₁.setTop (mkF m 1 #[.val (.long qp), .second] [(.long qp)]))
  refine Go.st (fun _ k => XS.lconst X0.here hx rfl (hb hby d_ppA_1) k) ?_
  show Go p.tables e below _ (s₁.setTop (mkF m 2 #[.val (.long qp), .second] [(.long (0 : Int64)), (.long qp)]))
  refine Go.st (fun _ k => Jvm.Free.XT.lcmp X0.here hx rfl (hb hby d_ppA_2) rfl k) ?_
  show Go p.tables e below _ (s₁.setTop (mkF m 3 #[.val (.long qp), .second] [(.int (Jvm.Free.XT.cmpL qp (0 : Int64)))]))
  have hc3 : ¬ ((0 : Int64) < qp) := hp1
  refine Go.st (fun _ k => XS.ifNo X0.here hx rfl (hb hby d_ppA_3) rfl (Jvm.Free.XT.ll_gt_f hc3) k) ?_
  show Go p.tables e below _ (s₁.setTop (mkF m 6 #[.val (.long qp), .second] []))
  obtain ⟨a1, T1, h1, k11, b1, kc1, X1, e1, E1, hS1, hk1, hZ1, hown1, Ex1, Fc1, Fv1, Av1, la1, lb1, CR1, Li1, Sf1, st1⟩ := ldcCH (s := s) X0 hx hZ hown (hw _ (List.mem_of_getElem? (i := 6) rfl)) (fun a ha => hw a (own_strAtoms a ha)) e0 hS0 hk0 hEL (own_mem_0) hCH (vs := [(.int (109 : Int32)), (.int (117 : Int32)), (.int (115 : Int32)), (.int (116 : Int32)), (.int (32 : Int32)), (.int (98 : Int32)), (.int (101 : Int32)), (.int (32 : Int32)), (.int (97 : Int32)), (.int (98 : Int32)), (.int (111 : Int32)), (.int (118 : Int32)), (.int (101 : Int32)), (.int (32 : Int32)), (.int (122 : Int32)), (.int (101 : Int32)), (.int (114 : Int32)), (.int (111 : Int32))]) (z := (18 : Int32)) ⟨by decide, by rfl⟩ (by decide) (by decide) (g := (mkF m 6 #[.val (.long qp), .second] [])) rfl (hb hby d_ppA_6) (n := 72) (by decide) (by decide) (by decide) (by decide)
  refine Go.st st1 ?_
  have Z2 : n0 ≤ h1.size := Nat.le_trans Z0 E1.1
  have K3 : Keep h0 h1 [] := K0.ext E1
  show Go p.tables e below _ (T1.setTop (mkF m 8 #[.val (.long qp), .second] [(.ref a1)]))
  subst hG
  obtain ⟨fs, hr, hrun, hended, hend⟩ := X1.leaveW (s := s) hS1 (by rw [e1]; exact hk1) (v := some (.ref a1)) (fun h => by rw [Bd.returns] at h; cases h)
  refine ⟨_, _, ?_, hrun, hended, _, _, rfl, ?_, ?_, hend.1, hend.2.1, hend.2.2.1, hend.2.2.2.mono (by decide) (by decide)⟩
  · exact retOut X1 hx Bd.returns rfl (Or.inr (Or.inr (Or.inr (Or.inr ⟨rfl, rfl, rfl⟩)))) (hb hby d_ppA_8) hr
  · show Q_ppA Z qp h0 n0 _ T1.heap _
    rw [e1]
    exact ⟨a1, b1, kc1, rfl, N0, K3, Ex1, Fc1, Fv1, Av1⟩
  · show CHr Z consts_1 s.vm s.heap T1.vm T1.heap
    rw [hh, e1]
    exact ((hR0.trans CR1)).trans (CHv.at X1 hZ1 hEL CR1.1)
theorem d_ppB_0 : decode prog_21_method_8_code 0 = .ok (.lload_n 0, 1) := by decide +kernel
theorem d_ppB_1 : decode prog_21_method_8_code 1 = .ok (.lconst 0, 1) := by decide +kernel
theorem d_ppB_2 : decode prog_21_method_8_code 2 = .ok (.lcmp, 1) := by decide +kernel
theorem d_ppB_3 : decode prog_21_method_8_code 3 = .ok (.ifCond .gt 6, 3) := by decide +kernel
theorem d_ppB_9 : decode prog_21_method_8_code 9 = .ok (.lload_n 0, 1) := by decide +kernel
theorem d_ppB_10 : decode prog_21_method_8_code 10 = .ok (.ldc2_w 48, 3) := by decide +kernel
theorem d_ppB_13 : decode prog_21_method_8_code 13 = .ok (.lcmp, 1) := by decide +kernel
theorem d_ppB_14 : decode prog_21_method_8_code 14 = .ok (.ifCond .lt 17, 3) := by decide +kernel
theorem d_ppB_17 : decode prog_21_method_8_code 17 = .ok (.lload_n 0, 1) := by decide +kernel
theorem d_ppB_18 : decode prog_21_method_8_code 18 = .ok (.ldc2_w 50, 3) := by decide +kernel
theorem d_ppB_21 : decode prog_21_method_8_code 21 = .ok (.lrem, 1) := by decide +kernel
theorem d_ppB_22 : decode prog_21_method_8_code 22 = .ok (.lconst 0, 1) := by decide +kernel
theorem d_ppB_23 : decode prog_21_method_8_code 23 = .ok (.lcmp, 1) := by decide +kernel
theorem d_ppB_24 : decode prog_21_method_8_code 24 = .ok (.ifCond .eq 7, 3) := by decide +kernel
theorem d_ppB_27 : decode prog_21_method_8_code 27 = .ok (.getstatic 52, 3) := by decide +kernel
theorem d_ppB_30 : decode prog_21_method_8_code 30 = .ok (.areturn, 1) := by decide +kernel
theorem ef_ppB (m : MethodId) (qp : Int64) : entryFrame m #[(.long qp)] 2 = mkF m 0 #[.val (.long qp), .second] [] := by first | (simp [entryFrame, mkF, argsToLocals, Value.category]; done) | rfl
def Q_ppB (Z : State) (qp : Int64) (tk : Addr) (h0 : Heap) (n0 : Nat) (v : Option Value) (h : Heap) (L : List Loc) : Prop := v = some (.ref tk) ∧ Fr n0 L ∧ h = h0
set_option maxRecDepth 65536 in
set_option maxHeartbeats 40000000 in
theorem rm_ppB (l : Launch) (Z : State) (a0 : Array Value) (hw : ∀ d ∈ tables_1, d.before a0 Z = true) (ws : List Jvm.Cond) (qp : Int64) (tk : Addr) (h0 : Heap) (n0 : Nat) (Z0 : n0 ≤ h0.size) (hp1 : (0 : Int64) < qp) (hp2 : ¬ (qp < (10000000 : Int64))) (hp3 : ¬ ((qp % (10 : Int64)) = (0 : Int64))) (Pf3 : Sta Z h0 "io/floorbook/engine/Limits" "TICK_RULE" "Ljava/lang/String;" (.ref tk)) :
    MetFree l (⟨"io/floorbook/engine/Limits", "priceProblem", "(J)Ljava/lang/String;"⟩ : MethodName) (head1 (Jvm.Cond.code (⟨"io/floorbook/engine/Limits", "priceProblem", "(J)Ljava/lang/String;"⟩ : MethodName) prog_21_method_8_code 2 (some (.object "java/lang/String")) :: ws) ({ frames := 0, cells := 0, slots := 0, locals := 0 } : Room)) (fun a U => a = #[(.long qp)] ∧ Z.Warmed39 U.vm ∧ U.heap = h0) (fun _ _ _ _ _ => True) (fun _ U o U' => ∃ v L, o = .returned v ∧ Q_ppB Z qp tk h0 n0 v U'.heap L ∧ FrameEnd U o U' L ({ frames := 0, cells := 0, slots := 0, locals := 0 } : Room).cells ({ frames := 0, cells := 0, slots := 0, locals := 0 } : Room).slots) := by
  refine MetFree.of_bodySF (plainFor_of_name pn_2) hisR ?_
  intro p e s m args below meth c s₁ Bd hml0 hP hK
  obtain ⟨rfl, hZ, hh⟩ := hP
  have hx := Bd.exec
  have hby := Bd.bytes
  have hml : c.maxLocals = 2 := hml0
  have hown : s.vm.findClass "io/floorbook/engine/Limits" = some m.cls := findClass_of_methodNamed Bd.named
  have hnm := (name_of_methodNamed Bd.named Bd.method).1
  have X0 : Stand p l e ({ frames := 0, cells := 0, slots := 0, locals := 0 } : Room) s m #[(.long qp)] below meth c s₁ [] 0 0 := Stand.of_body Bd
  have e0 : s₁.heap = h0 := by rw [← hh, Bd.state]; rfl
  have N0 := Fr.nil n0
  have K0 : Keep h0 h0 [] := Keep.refl h0 []
  show Go p.tables e below _ (s₁.setTop (entryFrame m #[(.long qp)] 2))
  refine Go.start ?_
  intro G hG
  refine Go.st (fun t k => castTop (ef_ppB m qp) k) ?_
  show Go p.tables e below _ (s₁.setTop (mkF m 0 #[.val (.long qp), .second] []))
  refine Go.st (fun _ k => XS.lloadN X0.here hx rfl (hb hby d_ppB_0) rfl k) ?_
  show Go p.tables e below _ (s₁.setTop (mkF m 1 #[.val (.long qp), .second] [(.long qp)]))
  refine Go.st (fun _ k => XS.lconst X0.here hx rfl (hb hby d_ppB_1) k) ?_
  show Go p.tables e below _ (s₁.setTop (mkF m 2 #[.val (.long qp), .second] [(.long (0 : Int64)), (.long qp)]))
  refine Go.st (fun _ k => Jvm.Free.XT.lcmp X0.here hx rfl (hb hby d_ppB_2) rfl k) ?_
  show Go p.tables e below _ (s₁.setTop (mkF m 3 #[.val (.long qp), .second] [(.int (Jvm.Free.XT.cmpL qp (0 : Int64)))]))
  have hc3 : (0 : Int64) < qp := hp1
  refine Go.st (fun _ k => XS.ifYes X0.here hx rfl (pc0 := 3) (pc' := 9) rfl (hb hby d_ppB_3) rfl (Jvm.Free.XT.ll_gt_t hc3) (by decide) (by decide) k) ?_
  show Go p.tables e below _ (s₁.setTop (mkF m 9 #[.val (.long qp), .second] []))
  refine Go.st (fun _ k => XS.lloadN X0.here hx rfl (hb hby d_ppB_9) rfl k) ?_
  show Go p.tables e below _ (s₁.setTop (mkF m 10 #[.val (.long qp), .second] [(.long qp)]))
  refine Go.st (fun _ k => X0.ldc2Long hx hown (mvT hZ (hw _ (List.mem_of_getElem? (i := 20) rfl))) (g := (mkF m 10 #[.val (.long qp), .second] [(.long qp)])) rfl (hb hby d_ppB_10) _ k) ?_
  show Go p.tables e below _ (s₁.setTop (mkF m 13 #[.val (.long qp), .second] [(.long (10000000 : Int64)), (.long qp)]))
  refine Go.st (fun _ k => Jvm.Free.XT.lcmp X0.here hx rfl (hb hby d_ppB_13) rfl k) ?_
  show Go p.tables e below _ (s₁.setTop (mkF m 14 #[.val (.long qp), .second] [(.int (Jvm.Free.XT.cmpL qp (10000000 : Int64)))]))
  have hc14 : ¬ (qp < (10000000 : Int64)) := hp2
  refine Go.st (fun _ k => XS.ifNo X0.here hx rfl (hb hby d_ppB_14) rfl (Jvm.Free.XT.ll_lt_f hc14) k) ?_
  show Go p.tables e below _ (s₁.setTop (mkF m 17 #[.val (.long qp), .second] []))
  refine Go.st (fun _ k => XS.lloadN X0.here hx rfl (hb hby d_ppB_17) rfl k) ?_
  show Go p.tables e below _ (s₁.setTop (mkF m 18 #[.val (.long qp), .second] [(.long qp)]))
  refine Go.st (fun _ k => X0.ldc2Long hx hown (mvT hZ (hw _ (List.mem_of_getElem? (i := 23) rfl))) (g := (mkF m 18 #[.val (.long qp), .second] [(.long qp)])) rfl (hb hby d_ppB_18) _ k) ?_
  show Go p.tables e below _ (s₁.setTop (mkF m 21 #[.val (.long qp), .second] [(.long (10 : Int64)), (.long qp)]))
  refine Go.st (fun _ k => XS.lrem X0.here hx rfl (hb hby d_ppB_21) rfl (by decide) (own_lrem k)) ?_
  show Go p.tables e below _ (s₁.setTop (mkF m 22 #[.val (.long qp), .second] [(.long (qp % (10 : Int64)))]))
  refine Go.st (fun _ k => XS.lconst X0.here hx rfl (hb hby d_ppB_22) k) ?_
  show Go p.tables e below _ (s₁.setTop (mkF m 23 #[.val (.long qp), .second] [(.long (0 : Int64)), (.long (qp % (10 : Int64)))]))
  refine Go.st (fun _ k => Jvm.Free.XT.lcmp X0.here hx rfl (hb hby d_ppB_23) rfl k) ?_
  show Go p.tables e below _ (s₁.setTop (mkF m 24 #[.val (.long qp), .second] [(.int (Jvm.Free.XT.cmpL (qp % (10 : Int64)) (0 : Int64)))]))
  have hc24 : ¬ ((qp % (10 : Int64)) = (0 : Int64)) := hp3
  refine Go.st (fun _ k => XS.ifNo X0.here hx rfl (hb hby d_ppB_24) rfl (Jvm.Free.XT.ll_eq_f hc24) k) ?_
  show Go p.tables e below _ (s₁.setTop (mkF m 27 #[.val (.long qp), .second] []))
  obtain ⟨T1, X1, e1, st1⟩ := getS2 X0 hx hZ hown (host := "") (Or.inl (hw _ (List.mem_of_getElem? (i := 25) rfl))) Via.refl e0 Pf3 (g := (mkF m 27 #[.val (.long qp), .second] [])) rfl (hb hby d_ppB_27)
  refine Go.st st1 ?_
  show Go p.tables e below _ (T1.setTop (mkF m 30 #[.val (.long qp), .second] [(.ref tk)]))
  subst hG
  obtain ⟨fs, hr, hrun, hended, hW, hsame⟩ := X1.leave (v := some (.ref tk)) (fun h => by rw [Bd.returns] at h; cases h)
  refine ⟨_, _, ?_, hrun, hended, _, _, rfl, ?_, ⟨_, rfl⟩, hW, hsame.mono (by decide) (by decide)⟩
  · exact retOut X1 hx Bd.returns rfl (Or.inr (Or.inr (Or.inr (Or.inr ⟨rfl, rfl, rfl⟩)))) (hb hby d_ppB_30) hr
  · show Q_ppB Z qp tk h0 n0 _ T1.heap _
    rw [e1]
    exact ⟨rfl, N0, rfl⟩
theorem d_ppC_0 : decode prog_21_method_8_code 0 = .ok (.lload_n 0, 1) := by decide +kernel
theorem d_ppC_1 : decode prog_21_method_8_code 1 = .ok (.lconst 0, 1) := by decide +kernel
theorem d_ppC_2 : decode prog_21_method_8_code 2 = .ok (.lcmp, 1) := by decide +kernel
theorem d_ppC_3 : decode prog_21_method_8_code 3 = .ok (.ifCond .gt 6, 3) := by decide +kernel
theorem d_ppC_9 : decode prog_21_method_8_code 9 = .ok (.lload_n 0, 1) := by decide +kernel
theorem d_ppC_10 : decode prog_21_method_8_code 10 = .ok (.ldc2_w 48, 3) := by decide +kernel
theorem d_ppC_13 : decode prog_21_method_8_code 13 = .ok (.lcmp, 1) := by decide +kernel
theorem d_ppC_14 : decode prog_21_method_8_code 14 = .ok (.ifCond .lt 17, 3) := by decide +kernel
theorem d_ppC_31 : decode prog_21_method_8_code 31 = .ok (.aconst_null, 1) := by decide +kernel
theorem d_ppC_32 : decode prog_21_method_8_code 32 = .ok (.areturn, 1) := by decide +kernel
theorem ef_ppC (m : MethodId) (qp : Int64) : entryFrame m #[(.long qp)] 2 = mkF m 0 #[.val (.long qp), .second] [] := by first | (simp [entryFrame, mkF, argsToLocals, Value.category]; done) | rfl
def Q_ppC (Z : State) (qp : Int64) (h0 : Heap) (n0 : Nat) (v : Option Value) (h : Heap) (L : List Loc) : Prop := v = some .null ∧ Fr n0 L ∧ h = h0
set_option maxRecDepth 65536 in
set_option maxHeartbeats 40000000 in
theorem rm_ppC (l : Launch) (Z : State) (a0 : Array Value) (hw : ∀ d ∈ tables_1, d.before a0 Z = true) (ws : List Jvm.Cond) (qp : Int64) (h0 : Heap) (n0 : Nat) (Z0 : n0 ≤ h0.size) (hp1 : (0 : Int64) < qp) (hp2 : qp < (10000000 : Int64)) :
    MetFree l (⟨"io/floorbook/engine/Limits", "priceProblem", "(J)Ljava/lang/String;"⟩ : MethodName) (head1 (Jvm.Cond.code (⟨"io/floorbook/engine/Limits", "priceProblem", "(J)Ljava/lang/String;"⟩ : MethodName) prog_21_method_8_code 2 (some (.object "java/lang/String")) :: ws) ({ frames := 0, cells := 0, slots := 0, locals := 0 } : Room)) (fun a U => a = #[(.long qp)] ∧ Z.Warmed39 U.vm ∧ U.heap = h0) (fun _ _ _ _ _ => True) (fun _ U o U' => ∃ v L, o = .returned v ∧ Q_ppC Z qp h0 n0 v U'.heap L ∧ FrameEnd U o U' L ({ frames := 0, cells := 0, slots := 0, locals := 0 } : Room).cells ({ frames := 0, cells := 0, slots := 0, locals := 0 } : Room).slots) := by
  refine MetFree.of_bodySF (plainFor_of_name pn_2) hisR ?_
  intro p e s m args below meth c s₁ Bd hml0 hP hK
  obtain ⟨rfl, hZ, hh⟩ := hP
  have hx := Bd.exec
  have hby := Bd.bytes
  have hml : c.maxLocals = 2 := hml0
  have hown : s.vm.findClass "io/floorbook/engine/Limits" = some m.cls := findClass_of_methodNamed Bd.named
  have hnm := (name_of_methodNamed Bd.named Bd.method).1
  have X0 : Stand p l e ({ frames := 0, cells := 0, slots := 0, locals := 0 } : Room) s m #[(.long qp)] below meth c s₁ [] 0 0 := Stand.of_body Bd
  have e0 : s₁.heap = h0 := by rw [← hh, Bd.state]; rfl
  have N0 := Fr.nil n0
  have K0 : Keep h0 h0 [] := Keep.refl h0 []
  show Go p.tables e below _ (s₁.setTop (entryFrame m #[(.long qp)] 2))
  refine Go.start ?_
  intro G hG
  refine Go.st (fun t k => castTop (ef_ppC m qp) k) ?_
  show Go p.tables e below _ (s₁.setTop (mkF m 0 #[.val (.long qp), .second] []))
  refine Go.st (fun _ k => XS.lloadN X0.here hx rfl (hb hby d_ppC_0) rfl k) ?_
  show Go p.tables e below _ (s₁.setTop (mkF m 1 #[.val (.long qp), .second] [(.long qp)]))
  refine Go.st (fun _ k => XS.lconst X0.here hx rfl (hb hby d_ppC_1) k) ?_
  show Go p.tables e below _ (s₁.setTop (mkF m 2 #[.val (.long qp), .second] [(.long (0 : Int64)), (.long qp)]))
  refine Go.st (fun _ k => Jvm.Free.XT.lcmp X0.here hx rfl (hb hby d_ppC_2) rfl k) ?_
  show Go p.tables e below _ (s₁.setTop (mkF m 3 #[.val (.long qp), .second] [(.int (Jvm.Free.XT.cmpL qp (0 : Int64)))]))
  have hc3 : (0 : Int64) < qp := hp1
  refine Go.st (fun _ k => XS.ifYes X0.here hx rfl (pc0 := 3) (pc' := 9) rfl (hb hby d_ppC_3) rfl (Jvm.Free.XT.ll_gt_t hc3) (by decide) (by decide) k) ?_
  show Go p.tables e below _ (s₁.setTop (mkF m 9 #[.val (.long qp), .second] []))
  refine Go.st (fun _ k => XS.lloadN X0.here hx rfl (hb hby d_ppC_9) rfl k) ?_
  show Go p.tables e below _ (s₁.setTop (mkF m 10 #[.val (.long qp), .second] [(.long qp)]))
  refine Go.st (fun _ k => X0.ldc2Long hx hown (mvT hZ (hw _ (List.mem_of_getElem? (i := 20) rfl))) (g := (mkF m 10 #[.val (.long qp), .second] [(.long qp)])) rfl (hb hby d_ppC_10) _ k) ?_
  show Go p.tables e below _ (s₁.setTop (mkF m 13 #[.val (.long qp), .second] [(.long (10000000 : Int64)), (.long qp)]))
  refine Go.st (fun _ k => Jvm.Free.XT.lcmp X0.here hx rfl (hb hby d_ppC_13) rfl k) ?_
  show Go p.tables e below _ (s₁.setTop (mkF m 14 #[.val (.long qp), .second] [(.int (Jvm.Free.XT.cmpL qp (10000000 : Int64)))]))
  have hc14 : qp < (10000000 : Int64) := hp2
  refine Go.st (fun _ k => XS.ifYes X0.here hx rfl (pc0 := 14) (pc' := 31) rfl (hb hby d_ppC_14) rfl (Jvm.Free.XT.ll_lt_t hc14) (by decide) (by decide) k) ?_
  show Go p.tables e below _ (s₁.setTop (mkF m 31 #[.val (.long qp), .second] []))
  refine Go.st (fun _ k => XS.aconstNull X0.here hx rfl (hb hby d_ppC_31) k) ?_
  show Go p.tables e below _ (s₁.setTop (mkF m 32 #[.val (.long qp), .second] [.null]))
  subst hG
  obtain ⟨fs, hr, hrun, hended, hW, hsame⟩ := X0.leave (v := some .null) (fun h => by rw [Bd.returns] at h; cases h)
  refine ⟨_, _, ?_, hrun, hended, _, _, rfl, ?_, ⟨_, rfl⟩, hW, hsame.mono (by decide) (by decide)⟩
  · exact retOut X0 hx Bd.returns rfl (Or.inr (Or.inr (Or.inr (Or.inr ⟨rfl, rfl, rfl⟩)))) (hb hby d_ppC_32) hr
  · show Q_ppC Z qp h0 n0 _ s₁.heap _
    rw [e0]
    exact ⟨rfl, N0, rfl⟩
theorem d_ppD_0 : decode prog_21_method_8_code 0 = .ok (.lload_n 0, 1) := by decide +kernel
theorem d_ppD_1 : decode prog_21_method_8_code 1 = .ok (.lconst 0, 1) := by decide +kernel
theorem d_ppD_2 : decode prog_21_method_8_code 2 = .ok (.lcmp, 1) := by decide +kernel
theorem d_ppD_3 : decode prog_21_method_8_code 3 = .ok (.ifCond .gt 6, 3) := by decide +kernel
theorem d_ppD_9 : decode prog_21_method_8_code 9 = .ok (.lload_n 0, 1) := by decide +kernel
theorem d_ppD_10 : decode prog_21_method_8_code 10 = .ok (.ldc2_w 48, 3) := by decide +kernel
theorem d_ppD_13 : decode prog_21_method_8_code 13 = .ok (.lcmp, 1) := by decide +kernel
theorem d_ppD_14 : decode prog_21_method_8_code 14 = .ok (.ifCond .lt 17, 3) := by decide +kernel
theorem d_ppD_17 : decode prog_21_method_8_code 17 = .ok (.lload_n 0, 1) := by decide +kernel
theorem d_ppD_18 : decode prog_21_method_8_code 18 = .ok (.ldc2_w 50, 3) := by decide +kernel
theorem d_ppD_21 : decode prog_21_method_8_code 21 = .ok (.lrem, 1) := by decide +kernel
theorem d_ppD_22 : decode prog_21_method_8_code 22 = .ok (.lconst 0, 1) := by decide +kernel
theorem d_ppD_23 : decode prog_21_method_8_code 23 = .ok (.lcmp, 1) := by decide +kernel
theorem d_ppD_24 : decode prog_21_method_8_code 24 = .ok (.ifCond .eq 7, 3) := by decide +kernel
theorem d_ppD_31 : decode prog_21_method_8_code 31 = .ok (.aconst_null, 1) := by decide +kernel
theorem d_ppD_32 : decode prog_21_method_8_code 32 = .ok (.areturn, 1) := by decide +kernel
theorem ef_ppD (m : MethodId) (qp : Int64) : entryFrame m #[(.long qp)] 2 = mkF m 0 #[.val (.long qp), .second] [] := by first | (simp [entryFrame, mkF, argsToLocals, Value.category]; done) | rfl
def Q_ppD (Z : State) (qp : Int64) (h0 : Heap) (n0 : Nat) (v : Option Value) (h : Heap) (L : List Loc) : Prop := v = some .null ∧ Fr n0 L ∧ h = h0
set_option maxRecDepth 65536 in
set_option maxHeartbeats 40000000 in
theorem rm_ppD (l : Launch) (Z : State) (a0 : Array Value) (hw : ∀ d ∈ tables_1, d.before a0 Z = true) (ws : List Jvm.Cond) (qp : Int64) (h0 : Heap) (n0 : Nat) (Z0 : n0 ≤ h0.size) (hp1 : (0 : Int64) < qp) (hp2 : ¬ (qp < (10000000 : Int64))) (hp3 : (qp % (10 : Int64)) = (0 : Int64)) :
    MetFree l (⟨"io/floorbook/engine/Limits", "priceProblem", "(J)Ljava/lang/String;"⟩ : MethodName) (head1 (Jvm.Cond.code (⟨"io/floorbook/engine/Limits", "priceProblem", "(J)Ljava/lang/String;"⟩ : MethodName) prog_21_method_8_code 2 (some (.object "java/lang/String")) :: ws) ({ frames := 0, cells := 0, slots := 0, locals := 0 } : Room)) (fun a U => a = #[(.long qp)] ∧ Z.Warmed39 U.vm ∧ U.heap = h0) (fun _ _ _ _ _ => True) (fun _ U o U' => ∃ v L, o = .returned v ∧ Q_ppD Z qp h0 n0 v U'.heap L ∧ FrameEnd U o U' L ({ frames := 0, cells := 0, slots := 0, locals := 0 } : Room).cells ({ frames := 0, cells := 0, slots := 0, locals := 0 } : Room).slots) := by
  refine MetFree.of_bodySF (plainFor_of_name pn_2) hisR ?_
  intro p e s m args below meth c s₁ Bd hml0 hP hK
  obtain ⟨rfl, hZ, hh⟩ := hP
  have hx := Bd.exec
  have hby := Bd.bytes
  have hml : c.maxLocals = 2 := hml0
  have hown : s.vm.findClass "io/floorbook/engine/Limits" = some m.cls := findClass_of_methodNamed Bd.named
  have hnm := (name_of_methodNamed Bd.named Bd.method).1
  have X0 : Stand p l e ({ frames := 0, cells := 0, slots := 0, locals := 0 } : Room) s m #[(.long qp)] below meth c s₁ [] 0 0 := Stand.of_body Bd
  have e0 : s₁.heap = h0 := by rw [← hh, Bd.state]; rfl
  have N0 := Fr.nil n0
  have K0 : Keep h0 h0 [] := Keep.refl h0 []
  show Go p.tables e below _ (s₁.setTop (entryFrame m #[(.long qp)] 2))
  refine Go.start ?_
  intro G hG
  refine Go.st (fun t k => castTop (ef_ppD m qp) k) ?_
  show Go p.tables e below _ (s₁.setTop (mkF m 0 #[.val (.long qp), .second] []))
  refine Go.st (fun _ k => XS.lloadN X0.here hx rfl (hb hby d_ppD_0) rfl k) ?_
  show Go p.tables e below _ (s₁.setTop (mkF m 1 #[.val (.long qp), .second] [(.long qp)]))
  refine Go.st (fun _ k => XS.lconst X0.here hx rfl (hb hby d_ppD_1) k) ?_
  show Go p.tables e below _ (s₁.setTop (mkF m 2 #[.val (.long qp), .second] [(.long (0 : Int64)), (.long qp)]))
  refine Go.st (fun _ k => Jvm.Free.XT.lcmp X0.here hx rfl (hb hby d_ppD_2) rfl k) ?_
  show Go p.tables e below _ (s₁.setTop (mkF m 3 #[.val (.long qp), .second] [(.int (Jvm.Free.XT.cmpL qp (0 : Int64)))]))
  have hc3 : (0 : Int64) < qp := hp1
  refine Go.st (fun _ k => XS.ifYes X0.here hx rfl (pc0 := 3) (pc' := 9) rfl (hb hby d_ppD_3) rfl (Jvm.Free.XT.ll_gt_t hc3) (by decide) (by decide) k) ?_
  show Go p.tables e below _ (s₁.setTop (mkF m 9 #[.val (.long qp), .second] []))
  refine Go.st (fun _ k => XS.lloadN X0.here hx rfl (hb hby d_ppD_9) rfl k) ?_
  show Go p.tables e below _ (s₁.setTop (mkF m 10 #[.val (.long qp), .second] [(.long qp)]))
  refine Go.st (fun _ k => X0.ldc2Long hx hown (mvT hZ (hw _ (List.mem_of_getElem? (i := 20) rfl))) (g := (mkF m 10 #[.val (.long qp), .second] [(.long qp)])) rfl (hb hby d_ppD_10) _ k) ?_
  show Go p.tables e below _ (s₁.setTop (mkF m 13 #[.val (.long qp), .second] [(.long (10000000 : Int64)), (.long qp)]))
  refine Go.st (fun _ k => Jvm.Free.XT.lcmp X0.here hx rfl (hb hby d_ppD_13) rfl k) ?_
  show Go p.tables e below _ (s₁.setTop (mkF m 14 #[.val (.long qp), .second] [(.int (Jvm.Free.XT.cmpL qp (10000000 : Int64)))]))
  have hc14 : ¬ (qp < (10000000 : Int64)) := hp2
  refine Go.st (fun _ k => XS.ifNo X0.here hx rfl (hb hby d_ppD_14) rfl (Jvm.Free.XT.ll_lt_f hc14) k) ?_
  show Go p.tables e below _ (s₁.setTop (mkF m 17 #[.val (.long qp), .second] []))
  refine Go.st (fun _ k => XS.lloadN X0.here hx rfl (hb hby d_ppD_17) rfl k) ?_
  show Go p.tables e below _ (s₁.setTop (mkF m 18 #[.val (.long qp), .second] [(.long qp)]))
  refine Go.st (fun _ k => X0.ldc2Long hx hown (mvT hZ (hw _ (List.mem_of_getElem? (i := 23) rfl))) (g := (mkF m 18 #[.val (.long qp), .second] [(.long qp)])) rfl (hb hby d_ppD_18) _ k) ?_
  show Go p.tables e below _ (s₁.setTop (mkF m 21 #[.val (.long qp), .second] [(.long (10 : Int64)), (.long qp)]))
  refine Go.st (fun _ k => XS.lrem X0.here hx rfl (hb hby d_ppD_21) rfl (by decide) (own_lrem k)) ?_
  show Go p.tables e below _ (s₁.setTop (mkF m 22 #[.val (.long qp), .second] [(.long (qp % (10 : Int64)))]))
  refine Go.st (fun _ k => XS.lconst X0.here hx rfl (hb hby d_ppD_22) k) ?_
  show Go p.tables e below _ (s₁.setTop (mkF m 23 #[.val (.long qp), .second] [(.long (0 : Int64)), (.long (qp % (10 : Int64)))]))
  refine Go.st (fun _ k => Jvm.Free.XT.lcmp X0.here hx rfl (hb hby d_ppD_23) rfl k) ?_
  show Go p.tables e below _ (s₁.setTop (mkF m 24 #[.val (.long qp), .second] [(.int (Jvm.Free.XT.cmpL (qp % (10 : Int64)) (0 : Int64)))]))
  have hc24 : (qp % (10 : Int64)) = (0 : Int64) := hp3
  refine Go.st (fun _ k => XS.ifYes X0.here hx rfl (pc0 := 24) (pc' := 31) rfl (hb hby d_ppD_24) rfl (Jvm.Free.XT.ll_eq_t hc24) (by decide) (by decide) k) ?_
  show Go p.tables e below _ (s₁.setTop (mkF m 31 #[.val (.long qp), .second] []))
  refine Go.st (fun _ k => XS.aconstNull X0.here hx rfl (hb hby d_ppD_31) k) ?_
  show Go p.tables e below _ (s₁.setTop (mkF m 32 #[.val (.long qp), .second] [.null]))
  subst hG
  obtain ⟨fs, hr, hrun, hended, hW, hsame⟩ := X0.leave (v := some .null) (fun h => by rw [Bd.returns] at h; cases h)
  refine ⟨_, _, ?_, hrun, hended, _, _, rfl, ?_, ⟨_, rfl⟩, hW, hsame.mono (by decide) (by decide)⟩
  · exact retOut X0 hx Bd.returns rfl (Or.inr (Or.inr (Or.inr (Or.inr ⟨rfl, rfl, rfl⟩)))) (hb hby d_ppD_32) hr
  · show Q_ppD Z qp h0 n0 _ s₁.heap _
    rw [e0]
    exact ⟨rfl, N0, rfl⟩
theorem pd_1 : parseMethodDescriptor "(J)Ljava/lang/String;" = some ⟨[.long], some (.object "java/lang/String")⟩ := by decide +kernel
theorem pd_2 : parseMethodDescriptor "(Ljava/lang/Object;)Z" = some ⟨[(.object "java/lang/Object")], some .boolean⟩ := by decide +kernel
theorem pn_3 : plainName "io/floorbook/engine/LimitsPriceProblemPinLaw" = true := by first | (simp [plainName, overriddenIn]; done) | decide +kernel
theorem ef_law (m : MethodId) (qp : Int64) (pk : Int32) : entryFrame m #[(.long qp), (.int pk)] maxLocals = mkF m 0 #[.val (.long qp), .second, .val (.int pk), .unset, .unset, .unset, .unset, .unset] [] := by first | (simp [entryFrame, mkF, argsToLocals, Value.category, maxLocals]; done) | rfl
def Q_law (Z : State) (qp : Int64) (pk : Int32) (G1 : Int32) (tk : Addr) (tb : Addr) (tkk : ClassId) (h0 : Heap) (n0 : Nat) (v : Option Value) (h : Heap) (L : List Loc) : Prop := v = some (.int (1 : Int32)) ∧ Fr n0 L ∧ Keep h0 h []
set_option maxRecDepth 65536 in
set_option maxHeartbeats 40000000 in
theorem rm_law (l : Launch) (Z : State) (a0 : Array Value) (hw : ∀ d ∈ tables_1, d.before a0 Z = true) (ws : List Jvm.Cond) (qp : Int64) (pk : Int32) (G1 : Int32) (tk : Addr) (tb : Addr) (tkk : ClassId) (h0 : Heap) (n0 : Nat) (Z0 : n0 ≤ h0.size) (hEL : EW Z a0 consts_1) (Pf0 : Sta Z h0 "java/lang/String" "COMPACT_STRINGS" "Z" (.int G1)) (P5 : ¬ (G1 = (0 : Int32))) (Pf2 : Sta Z h0 "io/floorbook/engine/Limits" "TICK_RULE" "Ljava/lang/String;" (.ref tk)) (Pf3 : Exa Z h0 tk "java/lang/String") (Pf4 : Fld Z h0 tk "java/lang/String" "coder" "B" (.int (0 : Int32))) (Pf5 : Fld Z h0 tk "java/lang/String" "value" "[B" (.ref tb)) (Pf6 : Arv Z h0 tb tkk .byte (49 : Int32) [(.int (109 : Int32)), (.int (117 : Int32)), (.int (115 : Int32)), (.int (116 : Int32)), (.int (32 : Int32)), (.int (98 : Int32)), (.int (101 : Int32)), (.int (32 : Int32)), (.int (105 : Int32)), (.int (110 : Int32)), (.int (32 : Int32)), (.int (119 : Int32)), (.int (104 : Int32)), (.int (111 : Int32)), (.int (108 : Int32)), (.int (101 : Int32)), (.int (32 : Int32)), (.int (116 : Int32)), (.int (101 : Int32)), (.int (110 : Int32)), (.int (32 : Int32)), (.int (99 : Int32)), (.int (101 : Int32)), (.int (110 : Int32)), (.int (116 : Int32)), (.int (115 : Int32)), (.int (32 : Int32)), (.int (97 : Int32)), (.int (116 : Int32)), (.int (32 : Int32)), (.int (49 : Int32)), (.int (48 : Int32)), (.int (48 : Int32)), (.int (48 : Int32)), (.int (48 : Int32)), (.int (48 : Int32)), (.int (46 : Int32)), (.int (48 : Int32)), (.int (48 : Int32)), (.int (32 : Int32)), (.int (97 : Int32)), (.int (110 : Int32)), (.int (100 : Int32)), (.int (32 : Int32)), (.int (97 : Int32)), (.int (98 : Int32)), (.int (111 : Int32)), (.int (118 : Int32)), (.int (101 : Int32))] (.int (0 : Int32))) :
    MetFree l x (head1 (Jvm.Cond.code x code maxLocals ret :: ws) room_1) (fun a U => a = #[(.long qp), (.int pk)] ∧ Z.Warmed39 U.vm ∧ U.heap = h0 ∧ CHv Z consts_1 U.vm h0) (fun _ _ _ _ _ => True) (fun _ U o U' => ∃ v L, o = .returned v ∧ Q_law Z qp pk G1 tk tb tkk h0 n0 v U'.heap L ∧ CHr Z consts_1 U.vm U.heap U'.vm U'.heap ∧ ReturnedEndW U o U' L room_1.cells room_1.slots) := by
  refine MetFree.of_bodySF (plainFor_of_name pn_3) hisR ?_
  intro p e s m args below meth c s₁ Bd hml0 hP hK
  obtain ⟨rfl, hZ, hh, hCH⟩ := hP
  have hx := Bd.exec
  have hby := Bd.bytes
  have hml : c.maxLocals = 8 := hml0
  have hown : s.vm.findClass "io/floorbook/engine/LimitsPriceProblemPinLaw" = some m.cls := findClass_of_methodNamed Bd.named
  have hnm := (name_of_methodNamed Bd.named Bd.method).1
  have X0 : Stand p l e room_1 (s.setVm s.vm) m #[(.long qp), (.int pk)] below meth c s₁ [] 0 0 := Stand.of_body Bd
  have hS0 : s.Since s.vm h0.size := (State.WarmedH.refl s).since _
  have hk0 : h0.size ≤ h0.size := Nat.le_refl _
  have hR0 : CHr Z consts_1 s.vm h0 s.vm h0 := CHr.refl hCH
  have e0 : s₁.heap = h0 := by rw [← hh, Bd.state]; rfl
  have N0 := Fr.nil n0
  have K0 : Keep h0 h0 [] := Keep.refl h0 []
  show Go p.tables e below _ (s₁.setTop (entryFrame m #[(.long qp), (.int pk)] maxLocals))
  refine Go.start ?_
  intro G hG
  refine Go.st (fun t k => castTop (ef_law m qp pk) k) ?_
  show Go p.tables e below _ (s₁.setTop (mkF m 0 #[.val (.long qp), .second, .val (.int pk), .unset, .unset, .unset, .unset, .unset] []))
  refine Go.st (fun _ k => XS.iloadN X0.here hx rfl (hb hby at_0) rfl k) ?_
  show Go p.tables e below _ (s₁.setTop (mkF m 1 #[.val (.long qp), .second, .val (.int pk), .unset, .unset, .unset, .unset, .unset] [(.int pk)]))
  refine Go.st (fun _ k => XS.iconst X0.here hx rfl (hb hby at_1) k) ?_
  show Go p.tables e below _ (s₁.setTop (mkF m 2 #[.val (.long qp), .second, .val (.int pk), .unset, .unset, .unset, .unset, .unset] [(.int (3 : Int32)), (.int pk)]))
  refine Go.st (fun _ k => XS.iand X0.here hx rfl (hb hby at_2) rfl k) ?_
  show Go p.tables e below _ (s₁.setTop (mkF m 3 #[.val (.long qp), .second, .val (.int pk), .unset, .unset, .unset, .unset, .unset] [(.int (pk &&& (3 : Int32)))]))
  refine Go.st (fun _ k => XS.istoreN X0.here hx rfl (hb hby at_3) rfl (l' := #[.val (.long qp), .second, .val (.int pk), .val (.int (pk &&& (3 : Int32))), .unset, .unset, .unset, .unset]) rfl k) ?_
  show Go p.tables e below _ (s₁.setTop (mkF m 4 #[.val (.long qp), .second, .val (.int pk), .val (.int (pk &&& (3 : Int32))), .unset, .unset, .unset, .unset] []))
  generalize hqv3 : (pk &&& (3 : Int32)) = v3
  show Go p.tables e below _ (s₁.setTop (mkF m 4 #[.val (.long qp), .second, .val (.int pk), .val (.int v3), .unset, .unset, .unset, .unset] []))
  refine Go.st (fun _ k => XS.iloadN X0.here hx rfl (hb hby at_4) rfl k) ?_
  show Go p.tables e below _ (s₁.setTop (mkF m 5 #[.val (.long qp), .second, .val (.int pk), .val (.int v3), .unset, .unset, .unset, .unset] [(.int v3)]))
  refine Go.st (fun _ k => XS.iconst X0.here hx rfl (hb hby at_5) k) ?_
  show Go p.tables e below _ (s₁.setTop (mkF m 6 #[.val (.long qp), .second, .val (.int pk), .val (.int v3), .unset, .unset, .unset, .unset] [(.int (1 : Int32)), (.int v3)]))
  refine Go.join (F := fun j45 : Int64 => s₁.setTop (mkF m 45 #[.val (.long qp), .second, .val (.int pk), .val (.int v3), .val (.long j45), .second, .unset, .unset] [])) ?_ (fun J45 => ?_)
  · intro j45
    show Go p.tables e below _ (s₁.setTop (mkF m 45 #[.val (.long qp), .second, .val (.int pk), .val (.int v3), .val (.long j45), .second, .unset, .unset] []))
    by_cases k1 : j45 < (1 : Int64)
    · skip
      show Go p.tables e below _ (s₁.setTop (mkF m 45 #[.val (.long qp), .second, .val (.int pk), .val (.int v3), .val (.long j45), .second, .unset, .unset] []))
      refine Go.st (fun _ k => XS.lload X0.here hx rfl (hb hby at_45) rfl k) ?_
      show Go p.tables e below _ (s₁.setTop (mkF m 47 #[.val (.long qp), .second, .val (.int pk), .val (.int v3), .val (.long j45), .second, .unset, .unset] [(.long j45)]))
      obtain ⟨_, _, ⟨T1, L1, k1, n1⟩, -, X1, hs1, hg1, ⟨Lc1, hQ1, l1, y1, z1, CR1⟩, st1⟩ := callSS X0 hx (y := (⟨"io/floorbook/engine/Limits", "priceProblem", "(J)Ljava/lang/String;"⟩ : MethodName)) hown (mvT hZ (hw _ (List.mem_of_getElem? (i := 2) rfl))) (mvT hZ (hw _ (List.mem_of_getElem? (i := 3) rfl))) (mvT hZ (hw _ (List.mem_of_getElem? (i := 4) rfl))) (mvT hZ (hw _ (List.mem_of_getElem? (i := 5) rfl))) (by decide) (backOfSH (s := s) (vm0 := s.vm) (W := 0) (rm_ppA l Z a0 hw [] j45 h0 n0 Z0 hEL (by show ¬ ((0 : Int64) < j45); exact (own_p1 k1))) hZ (hw _ (List.mem_of_getElem? (i := 5) rfl)) (hw _ (List.mem_of_getElem? (i := 4) rfl)) (by decide) (by decide) hEL hCH) (g := (mkF m 47 #[.val (.long qp), .second, .val (.int pk), .val (.int v3), .val (.long j45), .second, .unset, .unset] [(.long j45)])) rfl (by rw [hml]; rfl) (argsL := [(.long j45)]) (rest := []) (lenOf pd_1 rfl) rfl (by show 2 * 0 + _ ≤ _; exact Nat.le_of_eq rfl) (hb hby at_47) (fun _ _ => ⟨rfl, e0, (by decide : 0 + 2 ≤ _), (by decide : 0 + 76 ≤ _)⟩)
      dsimp only [Pt.U, Pt.locs, Pt.cells, Pt.slots] at X1 l1 y1 z1 st1 hQ1 hs1 hg1 CR1
      rw [e0] at hg1
      obtain ⟨X1w, hS1, hZ1, hown1⟩ := rebS (s := s) (vm0 := s.vm) hS0 hk0 X1 hs1 hg1 hZ hown
      clear X1
      have X1 := X1w
      subst l1 y1 z1
      obtain ⟨x1_ra, x1_rb, x1_rk, rfl, N1q, K1q, Fq1_0, Fq1_1, Fq1_2, Fq1_3⟩ := hQ1
      have N1 := Fr.app N0 N1q
      refine Go.st (fun _ k => st1.trans k) ?_
      have Z2 : n0 ≤ T1.heap.size := Nat.le_trans Z0 K1q.1
      have K3 : Keep h0 T1.heap [] := K0.trans K1q (fun z hz => absurd hz List.not_mem_nil)
      have F4 : Sta Z T1.heap "java/lang/String" "COMPACT_STRINGS" "Z" (.int G1) := own_stakeep Pf0 K1q
      have F5 : Sta Z T1.heap "io/floorbook/engine/Limits" "TICK_RULE" "Ljava/lang/String;" (.ref tk) := own_stakeep Pf2 K1q
      have F6 : Exa Z T1.heap tk "java/lang/String" := Pf3.keep K1q
      have F7 : Fld Z T1.heap tk "java/lang/String" "coder" "B" (.int (0 : Int32)) := Pf4.keep K1q List.not_mem_nil
      have F8 : Fld Z T1.heap tk "java/lang/String" "value" "[B" (.ref tb) := Pf5.keep K1q List.not_mem_nil
      have F9 : Arv Z T1.heap tb tkk .byte (49 : Int32) [(.int (109 : Int32)), (.int (117 : Int32)), (.int (115 : Int32)), (.int (116 : Int32)), (.int (32 : Int32)), (.int (98 : Int32)), (.int (101 : Int32)), (.int (32 : Int32)), (.int (105 : Int32)), (.int (110 : Int32)), (.int (32 : Int32)), (.int (119 : Int32)), (.int (104 : Int32)), (.int (111 : Int32)), (.int (108 : Int32)), (.int (101 : Int32)), (.int (32 : Int32)), (.int (116 : Int32)), (.int (101 : Int32)), (.int (110 : Int32)), (.int (32 : Int32)), (.int (99 : Int32)), (.int (101 : Int32)), (.int (110 : Int32)), (.int (116 : Int32)), (.int (115 : Int32)), (.int (32 : Int32)), (.int (97 : Int32)), (.int (116 : Int32)), (.int (32 : Int32)), (.int (49 : Int32)), (.int (48 : Int32)), (.int (48 : Int32)), (.int (48 : Int32)), (.int (48 : Int32)), (.int (48 : Int32)), (.int (46 : Int32)), (.int (48 : Int32)), (.int (48 : Int32)), (.int (32 : Int32)), (.int (97 : Int32)), (.int (110 : Int32)), (.int (100 : Int32)), (.int (32 : Int32)), (.int (97 : Int32)), (.int (98 : Int32)), (.int (111 : Int32)), (.int (118 : Int32)), (.int (101 : Int32))] (.int (0 : Int32)) := Pf6.keep K1q List.not_mem_nil
      show Go p.tables e below _ (T1.setTop (mkF m 50 #[.val (.long qp), .second, .val (.int pk), .val (.int v3), .val (.long j45), .second, .unset, .unset] [(.ref x1_ra)]))
      refine Go.st (fun _ k => XS.astore X1.here hx rfl (hb hby at_50) rfl rfl (l' := #[.val (.long qp), .second, .val (.int pk), .val (.int v3), .val (.long j45), .second, .val (.ref x1_ra), .unset]) rfl k) ?_
      show Go p.tables e below _ (T1.setTop (mkF m 52 #[.val (.long qp), .second, .val (.int pk), .val (.int v3), .val (.long j45), .second, .val (.ref x1_ra), .unset] []))
      show Go p.tables e below _ (T1.setTop (mkF m 52 #[.val (.long qp), .second, .val (.int pk), .val (.int v3), .val (.long j45), .second, .val (.ref x1_ra), .unset] []))
      refine Go.st (fun _ k => XS.lload X1.here hx rfl (hb hby at_52) rfl k) ?_
      show Go p.tables e below _ (T1.setTop (mkF m 54 #[.val (.long qp), .second, .val (.int pk), .val (.int v3), .val (.long j45), .second, .val (.ref x1_ra), .unset] [(.long j45)]))
      refine Go.st (fun _ k => XS.lconst X1.here hx rfl (hb hby at_54) k) ?_
      show Go p.tables e below _ (T1.setTop (mkF m 55 #[.val (.long qp), .second, .val (.int pk), .val (.int v3), .val (.long j45), .second, .val (.ref x1_ra), .unset] [(.long (1 : Int64)), (.long j45)]))
      refine Go.st (fun _ k => Jvm.Free.XT.lcmp X1.here hx rfl (hb hby at_55) rfl k) ?_
      show Go p.tables e below _ (T1.setTop (mkF m 56 #[.val (.long qp), .second, .val (.int pk), .val (.int v3), .val (.long j45), .second, .val (.ref x1_ra), .unset] [(.int (Jvm.Free.XT.cmpL j45 (1 : Int64)))]))
      have hc56 : j45 < (1 : Int64) := k1
      refine Go.st (fun _ k => XS.ifNo X1.here hx rfl (hb hby at_56) rfl (Jvm.Free.XT.ll_ge_f hc56) k) ?_
      show Go p.tables e below _ (T1.setTop (mkF m 59 #[.val (.long qp), .second, .val (.int pk), .val (.int v3), .val (.long j45), .second, .val (.ref x1_ra), .unset] []))
      obtain ⟨a10, T10, h10, k110, b10, kc10, X10, e10, E10, hS10, hk10, hZ10, hown10, Ex10, Fc10, Fv10, Av10, la10, lb10, CR10, Li10, Sf10, st10⟩ := ldcCH (s := s) X1 hx hZ1 hown1 (hw _ (List.mem_of_getElem? (i := 14) rfl)) (fun a ha => hw a (own_strAtoms a ha)) (rfl : T1.heap = T1.heap) hS1 (Nat.le_refl _) hEL (own_mem_1) CR1.1 (vs := [(.int (109 : Int32)), (.int (117 : Int32)), (.int (115 : Int32)), (.int (116 : Int32)), (.int (32 : Int32)), (.int (98 : Int32)), (.int (101 : Int32)), (.int (32 : Int32)), (.int (97 : Int32)), (.int (98 : Int32)), (.int (111 : Int32)), (.int (118 : Int32)), (.int (101 : Int32)), (.int (32 : Int32)), (.int (122 : Int32)), (.int (101 : Int32)), (.int (114 : Int32)), (.int (111 : Int32))]) (z := (18 : Int32)) ⟨by decide, by rfl⟩ (by decide) (by decide) (g := (mkF m 59 #[.val (.long qp), .second, .val (.int pk), .val (.int v3), .val (.long j45), .second, .val (.ref x1_ra), .unset] [])) rfl (hb hby at_59) (n := 72) (by decide) (by decide) (by decide) (by decide)
      refine Go.st st10 ?_
      have Z11 : n0 ≤ h10.size := Nat.le_trans Z2 E10.1
      have K12 : Keep h0 h10 [] := K3.ext E10
      have F13 : Sta Z h10 "java/lang/String" "COMPACT_STRINGS" "Z" (.int G1) := F4.ext E10
      have F14 : Sta Z h10 "io/floorbook/engine/Limits" "TICK_RULE" "Ljava/lang/String;" (.ref tk) := F5.ext E10
      have F15 : Exa Z h10 tk "java/lang/String" := F6.ext E10
      have F16 : Fld Z h10 tk "java/lang/String" "coder" "B" (.int (0 : Int32)) := F7.ext E10
      have F17 : Fld Z h10 tk "java/lang/String" "value" "[B" (.ref tb) := F8.ext E10
      have F18 : Arv Z h10 tb tkk .byte (49 : Int32) [(.int (109 : Int32)), (.int (117 : Int32)), (.int (115 : Int32)), (.int (116 : Int32)), (.int (32 : Int32)), (.int (98 : Int32)), (.int (101 : Int32)), (.int (32 : Int32)), (.int (105 : Int32)), (.int (110 : Int32)), (.int (32 : Int32)), (.int (119 : Int32)), (.int (104 : Int32)), (.int (111 : Int32)), (.int (108 : Int32)), (.int (101 : Int32)), (.int (32 : Int32)), (.int (116 : Int32)), (.int (101 : Int32)), (.int (110 : Int32)), (.int (32 : Int32)), (.int (99 : Int32)), (.int (101 : Int32)), (.int (110 : Int32)), (.int (116 : Int32)), (.int (115 : Int32)), (.int (32 : Int32)), (.int (97 : Int32)), (.int (116 : Int32)), (.int (32 : Int32)), (.int (49 : Int32)), (.int (48 : Int32)), (.int (48 : Int32)), (.int (48 : Int32)), (.int (48 : Int32)), (.int (48 : Int32)), (.int (46 : Int32)), (.int (48 : Int32)), (.int (48 : Int32)), (.int (32 : Int32)), (.int (97 : Int32)), (.int (110 : Int32)), (.int (100 : Int32)), (.int (32 : Int32)), (.int (97 : Int32)), (.int (98 : Int32)), (.int (111 : Int32)), (.int (118 : Int32)), (.int (101 : Int32))] (.int (0 : Int32)) := F9.ext E10
      have F19 : Exa Z h10 x1_ra "java/lang/String" := Fq1_0.ext E10
      have F20 : Fld Z h10 x1_ra "java/lang/String" "coder" "B" (.int (0 : Int32)) := Fq1_1.ext E10
      have F21 : Fld Z h10 x1_ra "java/lang/String" "value" "[B" (.ref x1_rb) := Fq1_2.ext E10
      have F22 : Arv Z h10 x1_rb x1_rk .byte (18 : Int32) [(.int (109 : Int32)), (.int (117 : Int32)), (.int (115 : Int32)), (.int (116 : Int32)), (.int (32 : Int32)), (.int (98 : Int32)), (.int (101 : Int32)), (.int (32 : Int32)), (.int (97 : Int32)), (.int (98 : Int32)), (.int (111 : Int32)), (.int (118 : Int32)), (.int (101 : Int32)), (.int (32 : Int32)), (.int (122 : Int32)), (.int (101 : Int32)), (.int (114 : Int32)), (.int (111 : Int32))] (.int (0 : Int32)) := Fq1_3.ext E10
      show Go p.tables e below _ (T10.setTop (mkF m 61 #[.val (.long qp), .second, .val (.int pk), .val (.int v3), .val (.long j45), .second, .val (.ref x1_ra), .unset] [(.ref a10)]))
      refine Go.st (fun _ k => XS.astore X10.here hx rfl (hb hby at_61) rfl rfl (l' := #[.val (.long qp), .second, .val (.int pk), .val (.int v3), .val (.long j45), .second, .val (.ref x1_ra), .val (.ref a10)]) rfl k) ?_
      show Go p.tables e below _ (T10.setTop (mkF m 63 #[.val (.long qp), .second, .val (.int pk), .val (.int v3), .val (.long j45), .second, .val (.ref x1_ra), .val (.ref a10)] []))
      show Go p.tables e below _ (T10.setTop (mkF m 63 #[.val (.long qp), .second, .val (.int pk), .val (.int v3), .val (.long j45), .second, .val (.ref x1_ra), .val (.ref a10)] []))
      refine Go.st (fun _ k => XS.goto X10.here hx rfl (pc0 := 63) (pc' := 101) rfl (hb hby at_63) (by decide) (by decide) k) ?_
      show Go p.tables e below _ (T10.setTop (mkF m 101 #[.val (.long qp), .second, .val (.int pk), .val (.int v3), .val (.long j45), .second, .val (.ref x1_ra), .val (.ref a10)] []))
      refine Go.st (fun _ k => XS.aload X10.here hx rfl (hb hby at_101) rfl rfl k) ?_
      show Go p.tables e below _ (T10.setTop (mkF m 103 #[.val (.long qp), .second, .val (.int pk), .val (.int v3), .val (.long j45), .second, .val (.ref x1_ra), .val (.ref a10)] [(.ref a10)]))
      refine Go.st (fun _ k => XS.ifnonnullYes X10.here hx rfl (pc0 := 103) (pc' := 117) rfl (hb hby at_103) rfl (by decide) (by decide) k) ?_
      show Go p.tables e below _ (T10.setTop (mkF m 117 #[.val (.long qp), .second, .val (.int pk), .val (.int v3), .val (.long j45), .second, .val (.ref x1_ra), .val (.ref a10)] []))
      refine Go.st (fun _ k => XS.aload X10.here hx rfl (hb hby at_117) rfl rfl k) ?_
      show Go p.tables e below _ (T10.setTop (mkF m 119 #[.val (.long qp), .second, .val (.int pk), .val (.int v3), .val (.long j45), .second, .val (.ref x1_ra), .val (.ref a10)] [(.ref x1_ra)]))
      refine Go.st (fun _ k => XS.ifnullNo X10.here hx rfl (hb hby at_119) rfl k) ?_
      show Go p.tables e below _ (T10.setTop (mkF m 122 #[.val (.long qp), .second, .val (.int pk), .val (.int v3), .val (.long j45), .second, .val (.ref x1_ra), .val (.ref a10)] []))
      refine Go.st (fun _ k => XS.aload X10.here hx rfl (hb hby at_122) rfl rfl k) ?_
      show Go p.tables e below _ (T10.setTop (mkF m 124 #[.val (.long qp), .second, .val (.int pk), .val (.int v3), .val (.long j45), .second, .val (.ref x1_ra), .val (.ref a10)] [(.ref x1_ra)]))
      refine Go.st (fun _ k => XS.aload X10.here hx rfl (hb hby at_124) rfl rfl k) ?_
      show Go p.tables e below _ (T10.setTop (mkF m 126 #[.val (.long qp), .second, .val (.int pk), .val (.int v3), .val (.long j45), .second, .val (.ref x1_ra), .val (.ref a10)] [(.ref a10), (.ref x1_ra)]))
      obtain ⟨cq23, kq23, q23a, q23b, q23c⟩ := isOf hZ10 e10 F19
      obtain ⟨_, _, ⟨T23, L23, k23, n23⟩, -, X23, ⟨Lc23, hQ23, l23, y23, z23⟩, st23⟩ := X10.virtualBack hx (y := (⟨"java/lang/String", "equals", "(Ljava/lang/Object;)Z"⟩ : MethodName)) (z := (⟨"java/lang/String", "equals", "(Ljava/lang/Object;)Z"⟩ : MethodName)) hown10 (mvT hZ10 (hw _ (List.mem_of_getElem? (i := 15) rfl))) (mvT hZ10 (hw _ (List.mem_of_getElem? (i := 16) rfl))) (notFace_of_selects (args := #[]) (mvT hZ10 (hw _ (List.mem_of_getElem? (i := 18) rfl)))) (mvT hZ10 (hw _ (List.mem_of_getElem? (i := 18) rfl))) (mvT hZ10 (hw _ (List.mem_of_getElem? (i := 17) rfl))) (by decide) (backOf (W := 0) (rm_seq l Z a0 hw [] x1_ra a10 x1_rb b10 x1_rk kc10 (18 : Int32) ([(109 : Int32), (117 : Int32), (115 : Int32), (116 : Int32), (32 : Int32), (98 : Int32), (101 : Int32), (32 : Int32), (97 : Int32), (98 : Int32), (111 : Int32), (118 : Int32), (101 : Int32), (32 : Int32), (122 : Int32), (101 : Int32), (114 : Int32), (111 : Int32)]) G1 h10 n0 Z11 F19 F20 F21 Ex10 Fc10 Fv10 F22 Av10 F13 (by show ¬ (G1 = (0 : Int32)); exact P5) (by show ¬ (18 : Int32) < 0; exact (by decide))) hZ10 (hw _ (List.mem_of_getElem? (i := 19) rfl)) (hw _ (List.mem_of_getElem? (i := 7) rfl)) (by decide) (by decide)) q23a q23c (g := (mkF m 126 #[.val (.long qp), .second, .val (.int pk), .val (.int v3), .val (.long j45), .second, .val (.ref x1_ra), .val (.ref a10)] [(.ref a10), (.ref x1_ra)])) rfl (by rw [hml]; rfl) (Steps.refl _) (argsL := [(.ref a10)]) (rest := []) (lenOf pd_2 rfl) rfl (by show 2 * 0 + _ ≤ _; exact Nat.le_of_eq rfl) (hb hby at_126) (fun _ _ => ⟨rfl, e10, (by decide : 4 + 0 ≤ _), (by decide : 152 + 0 ≤ _)⟩)
      dsimp only [Pt.U, Pt.locs, Pt.cells, Pt.slots] at X23 l23 y23 z23 st23 hQ23
      subst l23 y23 z23
      obtain ⟨rfl, N23q, e23⟩ := hQ23
      have N23 := Fr.app N1 N23q
      refine Go.st (fun _ k => st23.trans k) ?_
      show Go p.tables e below _ (T23.setTop (mkF m 129 #[.val (.long qp), .second, .val (.int pk), .val (.int v3), .val (.long j45), .second, .val (.ref x1_ra), .val (.ref a10)] [(.int (1 : Int32))]))
      have hl24 : ¬ ((1 : Int32) = (0 : Int32)) := by decide
      refine Go.st (fun _ k => XS.ifNo X23.here hx rfl (hb hby at_129) rfl (Jvm.Free.XT.i0_eq_f hl24) k) ?_
      show Go p.tables e below _ (T23.setTop (mkF m 132 #[.val (.long qp), .second, .val (.int pk), .val (.int v3), .val (.long j45), .second, .val (.ref x1_ra), .val (.ref a10)] []))
      refine Go.st (fun _ k => XS.iconst X23.here hx rfl (hb hby at_132) k) ?_
      show Go p.tables e below _ (T23.setTop (mkF m 133 #[.val (.long qp), .second, .val (.int pk), .val (.int v3), .val (.long j45), .second, .val (.ref x1_ra), .val (.ref a10)] [(.int (1 : Int32))]))
      refine Go.st (fun _ k => XS.goto X23.here hx rfl (pc0 := 133) (pc' := 137) rfl (hb hby at_133) (by decide) (by decide) k) ?_
      show Go p.tables e below _ (T23.setTop (mkF m 137 #[.val (.long qp), .second, .val (.int pk), .val (.int v3), .val (.long j45), .second, .val (.ref x1_ra), .val (.ref a10)] [(.int (1 : Int32))]))
      subst hG
      obtain ⟨fs, hr, hrun, hended, hend⟩ := X23.leaveW (s := s) hS10 (by rw [e23]; exact hk10) (v := some (.int (nar .boolean (1 : Int32)))) (fun h => by rw [Bd.returns] at h; cases h)
      refine ⟨_, _, ?_, hrun, hended, _, _, rfl, ?_, ?_, hend.1, hend.2.1, hend.2.2.1, hend.2.2.2.mono (by decide) (by decide)⟩
      · exact retN X23 hx (t := .boolean) Bd.returns (by simp) (hb hby at_137) hr
      · show Q_law Z qp pk G1 tk tb tkk h0 n0 _ T23.heap _
        rw [e23]
        exact ⟨rfl, N23, K12⟩
      · show CHr Z consts_1 s.vm s.heap T23.vm T23.heap
        rw [hh, e23]
        exact (((hR0.trans CR1).trans CR10)).trans (CHv.at X23 hZ10 hEL CR10.1)
    · skip
      by_cases k2 : (9999999 : Int64) < j45
      · skip
        by_cases k3 : ((j45 / (10 : Int64)) * (10 : Int64)) = j45
        · skip
          show Go p.tables e below _ (s₁.setTop (mkF m 45 #[.val (.long qp), .second, .val (.int pk), .val (.int v3), .val (.long j45), .second, .unset, .unset] []))
          refine Go.st (fun _ k => XS.lload X0.here hx rfl (hb hby at_45) rfl k) ?_
          show Go p.tables e below _ (s₁.setTop (mkF m 47 #[.val (.long qp), .second, .val (.int pk), .val (.int v3), .val (.long j45), .second, .unset, .unset] [(.long j45)]))
          obtain ⟨_, _, ⟨T25, L25, k25, n25⟩, -, X25, ⟨Lc25, hQ25, l25, y25, z25⟩, st25⟩ := Jvm.LawKit.callS X0 hx (y := (⟨"io/floorbook/engine/Limits", "priceProblem", "(J)Ljava/lang/String;"⟩ : MethodName)) hown (mvT hZ (hw _ (List.mem_of_getElem? (i := 2) rfl))) (mvT hZ (hw _ (List.mem_of_getElem? (i := 3) rfl))) (mvT hZ (hw _ (List.mem_of_getElem? (i := 4) rfl))) (mvT hZ (hw _ (List.mem_of_getElem? (i := 5) rfl))) (by decide) (backOf (W := 0) (rm_ppD l Z a0 hw [] j45 h0 n0 Z0 (by show (0 : Int64) < j45; exact (own_p2 k1)) (by show ¬ (j45 < (10000000 : Int64)); exact (own_p3 k2)) (by show (j45 % (10 : Int64)) = (0 : Int64); exact ((own_p5 _).mp k3))) hZ (hw _ (List.mem_of_getElem? (i := 5) rfl)) (hw _ (List.mem_of_getElem? (i := 4) rfl)) (by decide) (by decide)) (g := (mkF m 47 #[.val (.long qp), .second, .val (.int pk), .val (.int v3), .val (.long j45), .second, .unset, .unset] [(.long j45)])) rfl (by rw [hml]; rfl) (argsL := [(.long j45)]) (rest := []) (lenOf pd_1 rfl) rfl (by show 2 * 0 + _ ≤ _; exact Nat.le_of_eq rfl) (hb hby at_47) (fun _ _ => ⟨rfl, e0, (by decide : 0 + 0 ≤ _), (by decide : 0 + 0 ≤ _)⟩)
          dsimp only [Pt.U, Pt.locs, Pt.cells, Pt.slots] at X25 l25 y25 z25 st25 hQ25
          subst l25 y25 z25
          obtain ⟨rfl, N25q, e25⟩ := hQ25
          have N25 := Fr.app N0 N25q
          refine Go.st st25 ?_
          show Go p.tables e below _ (T25.setTop (mkF m 50 #[.val (.long qp), .second, .val (.int pk), .val (.int v3), .val (.long j45), .second, .unset, .unset] [.null]))
          refine Go.st (fun _ k => XS.astore X25.here hx rfl (hb hby at_50) rfl rfl (l' := #[.val (.long qp), .second, .val (.int pk), .val (.int v3), .val (.long j45), .second, .val .null, .unset]) rfl k) ?_
          show Go p.tables e below _ (T25.setTop (mkF m 52 #[.val (.long qp), .second, .val (.int pk), .val (.int v3), .val (.long j45), .second, .val .null, .unset] []))
          show Go p.tables e below _ (T25.setTop (mkF m 52 #[.val (.long qp), .second, .val (.int pk), .val (.int v3), .val (.long j45), .second, .val .null, .unset] []))
          refine Go.st (fun _ k => XS.lload X25.here hx rfl (hb hby at_52) rfl k) ?_
          show Go p.tables e below _ (T25.setTop (mkF m 54 #[.val (.long qp), .second, .val (.int pk), .val (.int v3), .val (.long j45), .second, .val .null, .unset] [(.long j45)]))
          refine Go.st (fun _ k => XS.lconst X25.here hx rfl (hb hby at_54) k) ?_
          show Go p.tables e below _ (T25.setTop (mkF m 55 #[.val (.long qp), .second, .val (.int pk), .val (.int v3), .val (.long j45), .second, .val .null, .unset] [(.long (1 : Int64)), (.long j45)]))
          refine Go.st (fun _ k => Jvm.Free.XT.lcmp X25.here hx rfl (hb hby at_55) rfl k) ?_
          show Go p.tables e below _ (T25.setTop (mkF m 56 #[.val (.long qp), .second, .val (.int pk), .val (.int v3), .val (.long j45), .second, .val .null, .unset] [(.int (Jvm.Free.XT.cmpL j45 (1 : Int64)))]))
          have hc56 : ¬ (j45 < (1 : Int64)) := k1
          refine Go.st (fun _ k => XS.ifYes X25.here hx rfl (pc0 := 56) (pc' := 66) rfl (hb hby at_56) rfl (Jvm.Free.XT.ll_ge_t hc56) (by decide) (by decide) k) ?_
          show Go p.tables e below _ (T25.setTop (mkF m 66 #[.val (.long qp), .second, .val (.int pk), .val (.int v3), .val (.long j45), .second, .val .null, .unset] []))
          refine Go.st (fun _ k => XS.lload X25.here hx rfl (hb hby at_66) rfl k) ?_
          show Go p.tables e below _ (T25.setTop (mkF m 68 #[.val (.long qp), .second, .val (.int pk), .val (.int v3), .val (.long j45), .second, .val .null, .unset] [(.long j45)]))
          refine Go.st (fun _ k => X25.ldc2Long hx hown (mvT hZ (hw _ (List.mem_of_getElem? (i := 21) rfl))) (g := (mkF m 68 #[.val (.long qp), .second, .val (.int pk), .val (.int v3), .val (.long j45), .second, .val .null, .unset] [(.long j45)])) rfl (hb hby at_68) _ k) ?_
          show Go p.tables e below _ (T25.setTop (mkF m 71 #[.val (.long qp), .second, .val (.int pk), .val (.int v3), .val (.long j45), .second, .val .null, .unset] [(.long (9999999 : Int64)), (.long j45)]))
          refine Go.st (fun _ k => Jvm.Free.XT.lcmp X25.here hx rfl (hb hby at_71) rfl k) ?_
          show Go p.tables e below _ (T25.setTop (mkF m 72 #[.val (.long qp), .second, .val (.int pk), .val (.int v3), .val (.long j45), .second, .val .null, .unset] [(.int (Jvm.Free.XT.cmpL j45 (9999999 : Int64)))]))
          have hc72 : (9999999 : Int64) < j45 := k2
          refine Go.st (fun _ k => XS.ifNo X25.here hx rfl (hb hby at_72) rfl (Jvm.Free.XT.ll_le_f hc72) k) ?_
          show Go p.tables e below _ (T25.setTop (mkF m 75 #[.val (.long qp), .second, .val (.int pk), .val (.int v3), .val (.long j45), .second, .val .null, .unset] []))
          refine Go.st (fun _ k => XS.lload X25.here hx rfl (hb hby at_75) rfl k) ?_
          show Go p.tables e below _ (T25.setTop (mkF m 77 #[.val (.long qp), .second, .val (.int pk), .val (.int v3), .val (.long j45), .second, .val .null, .unset] [(.long j45)]))
          refine Go.st (fun _ k => X25.ldc2Long hx hown (mvT hZ (hw _ (List.mem_of_getElem? (i := 24) rfl))) (g := (mkF m 77 #[.val (.long qp), .second, .val (.int pk), .val (.int v3), .val (.long j45), .second, .val .null, .unset] [(.long j45)])) rfl (hb hby at_77) _ k) ?_
          show Go p.tables e below _ (T25.setTop (mkF m 80 #[.val (.long qp), .second, .val (.int pk), .val (.int v3), .val (.long j45), .second, .val .null, .unset] [(.long (10 : Int64)), (.long j45)]))
          refine Go.st (fun _ k => XS.ldiv X25.here hx rfl (hb hby at_80) rfl (by decide) k) ?_
          show Go p.tables e below _ (T25.setTop (mkF m 81 #[.val (.long qp), .second, .val (.int pk), .val (.int v3), .val (.long j45), .second, .val .null, .unset] [(.long (j45 / (10 : Int64)))]))
          refine Go.st (fun _ k => X25.ldc2Long hx hown (mvT hZ (hw _ (List.mem_of_getElem? (i := 24) rfl))) (g := (mkF m 81 #[.val (.long qp), .second, .val (.int pk), .val (.int v3), .val (.long j45), .second, .val .null, .unset] [(.long (j45 / (10 : Int64)))])) rfl (hb hby at_81) _ k) ?_
          show Go p.tables e below _ (T25.setTop (mkF m 84 #[.val (.long qp), .second, .val (.int pk), .val (.int v3), .val (.long j45), .second, .val .null, .unset] [(.long (10 : Int64)), (.long (j45 / (10 : Int64)))]))
          refine Go.st (fun _ k => XS.lmul X25.here hx rfl (hb hby at_84) rfl k) ?_
          show Go p.tables e below _ (T25.setTop (mkF m 85 #[.val (.long qp), .second, .val (.int pk), .val (.int v3), .val (.long j45), .second, .val .null, .unset] [(.long ((j45 / (10 : Int64)) * (10 : Int64)))]))
          refine Go.st (fun _ k => XS.lload X25.here hx rfl (hb hby at_85) rfl k) ?_
          show Go p.tables e below _ (T25.setTop (mkF m 87 #[.val (.long qp), .second, .val (.int pk), .val (.int v3), .val (.long j45), .second, .val .null, .unset] [(.long j45), (.long ((j45 / (10 : Int64)) * (10 : Int64)))]))
          refine Go.st (fun _ k => Jvm.Free.XT.lcmp X25.here hx rfl (hb hby at_87) rfl k) ?_
          show Go p.tables e below _ (T25.setTop (mkF m 88 #[.val (.long qp), .second, .val (.int pk), .val (.int v3), .val (.long j45), .second, .val .null, .unset] [(.int (Jvm.Free.XT.cmpL ((j45 / (10 : Int64)) * (10 : Int64)) j45))]))
          have hc88 : ((j45 / (10 : Int64)) * (10 : Int64)) = j45 := k3
          refine Go.st (fun _ k => XS.ifYes X25.here hx rfl (pc0 := 88) (pc' := 98) rfl (hb hby at_88) rfl (Jvm.Free.XT.ll_eq_t hc88) (by decide) (by decide) k) ?_
          show Go p.tables e below _ (T25.setTop (mkF m 98 #[.val (.long qp), .second, .val (.int pk), .val (.int v3), .val (.long j45), .second, .val .null, .unset] []))
          refine Go.st (fun _ k => XS.aconstNull X25.here hx rfl (hb hby at_98) k) ?_
          show Go p.tables e below _ (T25.setTop (mkF m 99 #[.val (.long qp), .second, .val (.int pk), .val (.int v3), .val (.long j45), .second, .val .null, .unset] [.null]))
          refine Go.st (fun _ k => XS.astore X25.here hx rfl (hb hby at_99) rfl rfl (l' := #[.val (.long qp), .second, .val (.int pk), .val (.int v3), .val (.long j45), .second, .val .null, .val .null]) rfl k) ?_
          show Go p.tables e below _ (T25.setTop (mkF m 101 #[.val (.long qp), .second, .val (.int pk), .val (.int v3), .val (.long j45), .second, .val .null, .val .null] []))
          show Go p.tables e below _ (T25.setTop (mkF m 101 #[.val (.long qp), .second, .val (.int pk), .val (.int v3), .val (.long j45), .second, .val .null, .val .null] []))
          refine Go.st (fun _ k => XS.aload X25.here hx rfl (hb hby at_101) rfl rfl k) ?_
          show Go p.tables e below _ (T25.setTop (mkF m 103 #[.val (.long qp), .second, .val (.int pk), .val (.int v3), .val (.long j45), .second, .val .null, .val .null] [.null]))
          refine Go.st (fun _ k => XS.ifnonnullNo X25.here hx rfl (hb hby at_103) rfl k) ?_
          show Go p.tables e below _ (T25.setTop (mkF m 106 #[.val (.long qp), .second, .val (.int pk), .val (.int v3), .val (.long j45), .second, .val .null, .val .null] []))
          refine Go.st (fun _ k => XS.aload X25.here hx rfl (hb hby at_106) rfl rfl k) ?_
          show Go p.tables e below _ (T25.setTop (mkF m 108 #[.val (.long qp), .second, .val (.int pk), .val (.int v3), .val (.long j45), .second, .val .null, .val .null] [.null]))
          refine Go.st (fun _ k => XS.ifnonnullNo X25.here hx rfl (hb hby at_108) rfl k) ?_
          show Go p.tables e below _ (T25.setTop (mkF m 111 #[.val (.long qp), .second, .val (.int pk), .val (.int v3), .val (.long j45), .second, .val .null, .val .null] []))
          refine Go.st (fun _ k => XS.iconst X25.here hx rfl (hb hby at_111) k) ?_
          show Go p.tables e below _ (T25.setTop (mkF m 112 #[.val (.long qp), .second, .val (.int pk), .val (.int v3), .val (.long j45), .second, .val .null, .val .null] [(.int (1 : Int32))]))
          refine Go.st (fun _ k => XS.goto X25.here hx rfl (pc0 := 112) (pc' := 116) rfl (hb hby at_112) (by decide) (by decide) k) ?_
          show Go p.tables e below _ (T25.setTop (mkF m 116 #[.val (.long qp), .second, .val (.int pk), .val (.int v3), .val (.long j45), .second, .val .null, .val .null] [(.int (1 : Int32))]))
          subst hG
          obtain ⟨fs, hr, hrun, hended, hend⟩ := X25.leaveW (s := s) hS0 (by rw [e25]; exact hk0) (v := some (.int (nar .boolean (1 : Int32)))) (fun h => by rw [Bd.returns] at h; cases h)
          refine ⟨_, _, ?_, hrun, hended, _, _, rfl, ?_, ?_, hend.1, hend.2.1, hend.2.2.1, hend.2.2.2.mono (by decide) (by decide)⟩
          · exact retN X25 hx (t := .boolean) Bd.returns (by simp) (hb hby at_116) hr
          · show Q_law Z qp pk G1 tk tb tkk h0 n0 _ T25.heap _
            rw [e25]
            exact ⟨rfl, N25, K0⟩
          · show CHr Z consts_1 s.vm s.heap T25.vm T25.heap
            rw [hh, e25]
            exact (hR0).trans (CHv.at X25 hZ hEL hCH)
        · skip
          show Go p.tables e below _ (s₁.setTop (mkF m 45 #[.val (.long qp), .second, .val (.int pk), .val (.int v3), .val (.long j45), .second, .unset, .unset] []))
          refine Go.st (fun _ k => XS.lload X0.here hx rfl (hb hby at_45) rfl k) ?_
          show Go p.tables e below _ (s₁.setTop (mkF m 47 #[.val (.long qp), .second, .val (.int pk), .val (.int v3), .val (.long j45), .second, .unset, .unset] [(.long j45)]))
          obtain ⟨_, _, ⟨T26, L26, k26, n26⟩, -, X26, ⟨Lc26, hQ26, l26, y26, z26⟩, st26⟩ := Jvm.LawKit.callS X0 hx (y := (⟨"io/floorbook/engine/Limits", "priceProblem", "(J)Ljava/lang/String;"⟩ : MethodName)) hown (mvT hZ (hw _ (List.mem_of_getElem? (i := 2) rfl))) (mvT hZ (hw _ (List.mem_of_getElem? (i := 3) rfl))) (mvT hZ (hw _ (List.mem_of_getElem? (i := 4) rfl))) (mvT hZ (hw _ (List.mem_of_getElem? (i := 5) rfl))) (by decide) (backOf (W := 0) (rm_ppB l Z a0 hw [] j45 tk h0 n0 Z0 (by show (0 : Int64) < j45; exact (own_p2 k1)) (by show ¬ (j45 < (10000000 : Int64)); exact (own_p3 k2)) (by show ¬ ((j45 % (10 : Int64)) = (0 : Int64)); exact (fun z => k3 ((own_p5 _).mpr z))) Pf2) hZ (hw _ (List.mem_of_getElem? (i := 5) rfl)) (hw _ (List.mem_of_getElem? (i := 4) rfl)) (by decide) (by decide)) (g := (mkF m 47 #[.val (.long qp), .second, .val (.int pk), .val (.int v3), .val (.long j45), .second, .unset, .unset] [(.long j45)])) rfl (by rw [hml]; rfl) (argsL := [(.long j45)]) (rest := []) (lenOf pd_1 rfl) rfl (by show 2 * 0 + _ ≤ _; exact Nat.le_of_eq rfl) (hb hby at_47) (fun _ _ => ⟨rfl, e0, (by decide : 0 + 0 ≤ _), (by decide : 0 + 0 ≤ _)⟩)
          dsimp only [Pt.U, Pt.locs, Pt.cells, Pt.slots] at X26 l26 y26 z26 st26 hQ26
          subst l26 y26 z26
          obtain ⟨rfl, N26q, e26⟩ := hQ26
          have N26 := Fr.app N0 N26q
          refine Go.st st26 ?_
          show Go p.tables e below _ (T26.setTop (mkF m 50 #[.val (.long qp), .second, .val (.int pk), .val (.int v3), .val (.long j45), .second, .unset, .unset] [(.ref tk)]))
          refine Go.st (fun _ k => XS.astore X26.here hx rfl (hb hby at_50) rfl rfl (l' := #[.val (.long qp), .second, .val (.int pk), .val (.int v3), .val (.long j45), .second, .val (.ref tk), .unset]) rfl k) ?_
          show Go p.tables e below _ (T26.setTop (mkF m 52 #[.val (.long qp), .second, .val (.int pk), .val (.int v3), .val (.long j45), .second, .val (.ref tk), .unset] []))
          show Go p.tables e below _ (T26.setTop (mkF m 52 #[.val (.long qp), .second, .val (.int pk), .val (.int v3), .val (.long j45), .second, .val (.ref tk), .unset] []))
          refine Go.st (fun _ k => XS.lload X26.here hx rfl (hb hby at_52) rfl k) ?_
          show Go p.tables e below _ (T26.setTop (mkF m 54 #[.val (.long qp), .second, .val (.int pk), .val (.int v3), .val (.long j45), .second, .val (.ref tk), .unset] [(.long j45)]))
          refine Go.st (fun _ k => XS.lconst X26.here hx rfl (hb hby at_54) k) ?_
          show Go p.tables e below _ (T26.setTop (mkF m 55 #[.val (.long qp), .second, .val (.int pk), .val (.int v3), .val (.long j45), .second, .val (.ref tk), .unset] [(.long (1 : Int64)), (.long j45)]))
          refine Go.st (fun _ k => Jvm.Free.XT.lcmp X26.here hx rfl (hb hby at_55) rfl k) ?_
          show Go p.tables e below _ (T26.setTop (mkF m 56 #[.val (.long qp), .second, .val (.int pk), .val (.int v3), .val (.long j45), .second, .val (.ref tk), .unset] [(.int (Jvm.Free.XT.cmpL j45 (1 : Int64)))]))
          have hc56 : ¬ (j45 < (1 : Int64)) := k1
          refine Go.st (fun _ k => XS.ifYes X26.here hx rfl (pc0 := 56) (pc' := 66) rfl (hb hby at_56) rfl (Jvm.Free.XT.ll_ge_t hc56) (by decide) (by decide) k) ?_
          show Go p.tables e below _ (T26.setTop (mkF m 66 #[.val (.long qp), .second, .val (.int pk), .val (.int v3), .val (.long j45), .second, .val (.ref tk), .unset] []))
          refine Go.st (fun _ k => XS.lload X26.here hx rfl (hb hby at_66) rfl k) ?_
          show Go p.tables e below _ (T26.setTop (mkF m 68 #[.val (.long qp), .second, .val (.int pk), .val (.int v3), .val (.long j45), .second, .val (.ref tk), .unset] [(.long j45)]))
          refine Go.st (fun _ k => X26.ldc2Long hx hown (mvT hZ (hw _ (List.mem_of_getElem? (i := 21) rfl))) (g := (mkF m 68 #[.val (.long qp), .second, .val (.int pk), .val (.int v3), .val (.long j45), .second, .val (.ref tk), .unset] [(.long j45)])) rfl (hb hby at_68) _ k) ?_
          show Go p.tables e below _ (T26.setTop (mkF m 71 #[.val (.long qp), .second, .val (.int pk), .val (.int v3), .val (.long j45), .second, .val (.ref tk), .unset] [(.long (9999999 : Int64)), (.long j45)]))
          refine Go.st (fun _ k => Jvm.Free.XT.lcmp X26.here hx rfl (hb hby at_71) rfl k) ?_
          show Go p.tables e below _ (T26.setTop (mkF m 72 #[.val (.long qp), .second, .val (.int pk), .val (.int v3), .val (.long j45), .second, .val (.ref tk), .unset] [(.int (Jvm.Free.XT.cmpL j45 (9999999 : Int64)))]))
          have hc72 : (9999999 : Int64) < j45 := k2
          refine Go.st (fun _ k => XS.ifNo X26.here hx rfl (hb hby at_72) rfl (Jvm.Free.XT.ll_le_f hc72) k) ?_
          show Go p.tables e below _ (T26.setTop (mkF m 75 #[.val (.long qp), .second, .val (.int pk), .val (.int v3), .val (.long j45), .second, .val (.ref tk), .unset] []))
          refine Go.st (fun _ k => XS.lload X26.here hx rfl (hb hby at_75) rfl k) ?_
          show Go p.tables e below _ (T26.setTop (mkF m 77 #[.val (.long qp), .second, .val (.int pk), .val (.int v3), .val (.long j45), .second, .val (.ref tk), .unset] [(.long j45)]))
          refine Go.st (fun _ k => X26.ldc2Long hx hown (mvT hZ (hw _ (List.mem_of_getElem? (i := 24) rfl))) (g := (mkF m 77 #[.val (.long qp), .second, .val (.int pk), .val (.int v3), .val (.long j45), .second, .val (.ref tk), .unset] [(.long j45)])) rfl (hb hby at_77) _ k) ?_
          show Go p.tables e below _ (T26.setTop (mkF m 80 #[.val (.long qp), .second, .val (.int pk), .val (.int v3), .val (.long j45), .second, .val (.ref tk), .unset] [(.long (10 : Int64)), (.long j45)]))
          refine Go.st (fun _ k => XS.ldiv X26.here hx rfl (hb hby at_80) rfl (by decide) k) ?_
          show Go p.tables e below _ (T26.setTop (mkF m 81 #[.val (.long qp), .second, .val (.int pk), .val (.int v3), .val (.long j45), .second, .val (.ref tk), .unset] [(.long (j45 / (10 : Int64)))]))
          refine Go.st (fun _ k => X26.ldc2Long hx hown (mvT hZ (hw _ (List.mem_of_getElem? (i := 24) rfl))) (g := (mkF m 81 #[.val (.long qp), .second, .val (.int pk), .val (.int v3), .val (.long j45), .second, .val (.ref tk), .unset] [(.long (j45 / (10 : Int64)))])) rfl (hb hby at_81) _ k) ?_
          show Go p.tables e below _ (T26.setTop (mkF m 84 #[.val (.long qp), .second, .val (.int pk), .val (.int v3), .val (.long j45), .second, .val (.ref tk), .unset] [(.long (10 : Int64)), (.long (j45 / (10 : Int64)))]))
          refine Go.st (fun _ k => XS.lmul X26.here hx rfl (hb hby at_84) rfl k) ?_
          show Go p.tables e below _ (T26.setTop (mkF m 85 #[.val (.long qp), .second, .val (.int pk), .val (.int v3), .val (.long j45), .second, .val (.ref tk), .unset] [(.long ((j45 / (10 : Int64)) * (10 : Int64)))]))
          refine Go.st (fun _ k => XS.lload X26.here hx rfl (hb hby at_85) rfl k) ?_
          show Go p.tables e below _ (T26.setTop (mkF m 87 #[.val (.long qp), .second, .val (.int pk), .val (.int v3), .val (.long j45), .second, .val (.ref tk), .unset] [(.long j45), (.long ((j45 / (10 : Int64)) * (10 : Int64)))]))
          refine Go.st (fun _ k => Jvm.Free.XT.lcmp X26.here hx rfl (hb hby at_87) rfl k) ?_
          show Go p.tables e below _ (T26.setTop (mkF m 88 #[.val (.long qp), .second, .val (.int pk), .val (.int v3), .val (.long j45), .second, .val (.ref tk), .unset] [(.int (Jvm.Free.XT.cmpL ((j45 / (10 : Int64)) * (10 : Int64)) j45))]))
          have hc88 : ¬ (((j45 / (10 : Int64)) * (10 : Int64)) = j45) := k3
          refine Go.st (fun _ k => XS.ifNo X26.here hx rfl (hb hby at_88) rfl (Jvm.Free.XT.ll_eq_f hc88) k) ?_
          show Go p.tables e below _ (T26.setTop (mkF m 91 #[.val (.long qp), .second, .val (.int pk), .val (.int v3), .val (.long j45), .second, .val (.ref tk), .unset] []))
          obtain ⟨a27, T27, h27, k127, b27, kc27, X27, e27, E27, hS27, hk27, hZ27, hown27, Ex27, Fc27, Fv27, Av27, la27, lb27, CR27, Li27, Sf27, st27⟩ := ldcCH (s := s) X26 hx hZ hown (hw _ (List.mem_of_getElem? (i := 27) rfl)) (fun a ha => hw a (own_strAtoms a ha)) e26 hS0 hk0 hEL (own_mem_2) hCH (vs := [(.int (109 : Int32)), (.int (117 : Int32)), (.int (115 : Int32)), (.int (116 : Int32)), (.int (32 : Int32)), (.int (98 : Int32)), (.int (101 : Int32)), (.int (32 : Int32)), (.int (105 : Int32)), (.int (110 : Int32)), (.int (32 : Int32)), (.int (119 : Int32)), (.int (104 : Int32)), (.int (111 : Int32)), (.int (108 : Int32)), (.int (101 : Int32)), (.int (32 : Int32)), (.int (116 : Int32)), (.int (101 : Int32)), (.int (110 : Int32)), (.int (32 : Int32)), (.int (99 : Int32)), (.int (101 : Int32)), (.int (110 : Int32)), (.int (116 : Int32)), (.int (115 : Int32)), (.int (32 : Int32)), (.int (97 : Int32)), (.int (116 : Int32)), (.int (32 : Int32)), (.int (49 : Int32)), (.int (48 : Int32)), (.int (48 : Int32)), (.int (48 : Int32)), (.int (48 : Int32)), (.int (48 : Int32)), (.int (46 : Int32)), (.int (48 : Int32)), (.int (48 : Int32)), (.int (32 : Int32)), (.int (97 : Int32)), (.int (110 : Int32)), (.int (100 : Int32)), (.int (32 : Int32)), (.int (97 : Int32)), (.int (98 : Int32)), (.int (111 : Int32)), (.int (118 : Int32)), (.int (101 : Int32))]) (z := (49 : Int32)) ⟨by decide, by rfl⟩ (by decide) (by decide) (g := (mkF m 91 #[.val (.long qp), .second, .val (.int pk), .val (.int v3), .val (.long j45), .second, .val (.ref tk), .unset] [])) rfl (hb hby at_91) (n := 196) (by decide) (by decide) (by decide) (by decide)
          refine Go.st st27 ?_
          have Z28 : n0 ≤ h27.size := Nat.le_trans Z0 E27.1
          have K29 : Keep h0 h27 [] := K0.ext E27
          have F30 : Sta Z h27 "java/lang/String" "COMPACT_STRINGS" "Z" (.int G1) := Pf0.ext E27
          have F31 : Sta Z h27 "io/floorbook/engine/Limits" "TICK_RULE" "Ljava/lang/String;" (.ref tk) := Pf2.ext E27
          have F32 : Exa Z h27 tk "java/lang/String" := Pf3.ext E27
          have F33 : Fld Z h27 tk "java/lang/String" "coder" "B" (.int (0 : Int32)) := Pf4.ext E27
          have F34 : Fld Z h27 tk "java/lang/String" "value" "[B" (.ref tb) := Pf5.ext E27
          have F35 : Arv Z h27 tb tkk .byte (49 : Int32) [(.int (109 : Int32)), (.int (117 : Int32)), (.int (115 : Int32)), (.int (116 : Int32)), (.int (32 : Int32)), (.int (98 : Int32)), (.int (101 : Int32)), (.int (32 : Int32)), (.int (105 : Int32)), (.int (110 : Int32)), (.int (32 : Int32)), (.int (119 : Int32)), (.int (104 : Int32)), (.int (111 : Int32)), (.int (108 : Int32)), (.int (101 : Int32)), (.int (32 : Int32)), (.int (116 : Int32)), (.int (101 : Int32)), (.int (110 : Int32)), (.int (32 : Int32)), (.int (99 : Int32)), (.int (101 : Int32)), (.int (110 : Int32)), (.int (116 : Int32)), (.int (115 : Int32)), (.int (32 : Int32)), (.int (97 : Int32)), (.int (116 : Int32)), (.int (32 : Int32)), (.int (49 : Int32)), (.int (48 : Int32)), (.int (48 : Int32)), (.int (48 : Int32)), (.int (48 : Int32)), (.int (48 : Int32)), (.int (46 : Int32)), (.int (48 : Int32)), (.int (48 : Int32)), (.int (32 : Int32)), (.int (97 : Int32)), (.int (110 : Int32)), (.int (100 : Int32)), (.int (32 : Int32)), (.int (97 : Int32)), (.int (98 : Int32)), (.int (111 : Int32)), (.int (118 : Int32)), (.int (101 : Int32))] (.int (0 : Int32)) := Pf6.ext E27
          show Go p.tables e below _ (T27.setTop (mkF m 93 #[.val (.long qp), .second, .val (.int pk), .val (.int v3), .val (.long j45), .second, .val (.ref tk), .unset] [(.ref a27)]))
          refine Go.st (fun _ k => XS.astore X27.here hx rfl (hb hby at_93) rfl rfl (l' := #[.val (.long qp), .second, .val (.int pk), .val (.int v3), .val (.long j45), .second, .val (.ref tk), .val (.ref a27)]) rfl k) ?_
          show Go p.tables e below _ (T27.setTop (mkF m 95 #[.val (.long qp), .second, .val (.int pk), .val (.int v3), .val (.long j45), .second, .val (.ref tk), .val (.ref a27)] []))
          show Go p.tables e below _ (T27.setTop (mkF m 95 #[.val (.long qp), .second, .val (.int pk), .val (.int v3), .val (.long j45), .second, .val (.ref tk), .val (.ref a27)] []))
          refine Go.st (fun _ k => XS.goto X27.here hx rfl (pc0 := 95) (pc' := 101) rfl (hb hby at_95) (by decide) (by decide) k) ?_
          show Go p.tables e below _ (T27.setTop (mkF m 101 #[.val (.long qp), .second, .val (.int pk), .val (.int v3), .val (.long j45), .second, .val (.ref tk), .val (.ref a27)] []))
          refine Go.st (fun _ k => XS.aload X27.here hx rfl (hb hby at_101) rfl rfl k) ?_
          show Go p.tables e below _ (T27.setTop (mkF m 103 #[.val (.long qp), .second, .val (.int pk), .val (.int v3), .val (.long j45), .second, .val (.ref tk), .val (.ref a27)] [(.ref a27)]))
          refine Go.st (fun _ k => XS.ifnonnullYes X27.here hx rfl (pc0 := 103) (pc' := 117) rfl (hb hby at_103) rfl (by decide) (by decide) k) ?_
          show Go p.tables e below _ (T27.setTop (mkF m 117 #[.val (.long qp), .second, .val (.int pk), .val (.int v3), .val (.long j45), .second, .val (.ref tk), .val (.ref a27)] []))
          refine Go.st (fun _ k => XS.aload X27.here hx rfl (hb hby at_117) rfl rfl k) ?_
          show Go p.tables e below _ (T27.setTop (mkF m 119 #[.val (.long qp), .second, .val (.int pk), .val (.int v3), .val (.long j45), .second, .val (.ref tk), .val (.ref a27)] [(.ref tk)]))
          refine Go.st (fun _ k => XS.ifnullNo X27.here hx rfl (hb hby at_119) rfl k) ?_
          show Go p.tables e below _ (T27.setTop (mkF m 122 #[.val (.long qp), .second, .val (.int pk), .val (.int v3), .val (.long j45), .second, .val (.ref tk), .val (.ref a27)] []))
          refine Go.st (fun _ k => XS.aload X27.here hx rfl (hb hby at_122) rfl rfl k) ?_
          show Go p.tables e below _ (T27.setTop (mkF m 124 #[.val (.long qp), .second, .val (.int pk), .val (.int v3), .val (.long j45), .second, .val (.ref tk), .val (.ref a27)] [(.ref tk)]))
          refine Go.st (fun _ k => XS.aload X27.here hx rfl (hb hby at_124) rfl rfl k) ?_
          show Go p.tables e below _ (T27.setTop (mkF m 126 #[.val (.long qp), .second, .val (.int pk), .val (.int v3), .val (.long j45), .second, .val (.ref tk), .val (.ref a27)] [(.ref a27), (.ref tk)]))
          obtain ⟨cq36, kq36, q36a, q36b, q36c⟩ := isOf hZ27 e27 F32
          obtain ⟨_, _, ⟨T36, L36, k36, n36⟩, -, X36, ⟨Lc36, hQ36, l36, y36, z36⟩, st36⟩ := X27.virtualBack hx (y := (⟨"java/lang/String", "equals", "(Ljava/lang/Object;)Z"⟩ : MethodName)) (z := (⟨"java/lang/String", "equals", "(Ljava/lang/Object;)Z"⟩ : MethodName)) hown27 (mvT hZ27 (hw _ (List.mem_of_getElem? (i := 15) rfl))) (mvT hZ27 (hw _ (List.mem_of_getElem? (i := 16) rfl))) (notFace_of_selects (args := #[]) (mvT hZ27 (hw _ (List.mem_of_getElem? (i := 18) rfl)))) (mvT hZ27 (hw _ (List.mem_of_getElem? (i := 18) rfl))) (mvT hZ27 (hw _ (List.mem_of_getElem? (i := 17) rfl))) (by decide) (backOf (W := 0) (rm_seq l Z a0 hw [] tk a27 tb b27 tkk kc27 (49 : Int32) ([(109 : Int32), (117 : Int32), (115 : Int32), (116 : Int32), (32 : Int32), (98 : Int32), (101 : Int32), (32 : Int32), (105 : Int32), (110 : Int32), (32 : Int32), (119 : Int32), (104 : Int32), (111 : Int32), (108 : Int32), (101 : Int32), (32 : Int32), (116 : Int32), (101 : Int32), (110 : Int32), (32 : Int32), (99 : Int32), (101 : Int32), (110 : Int32), (116 : Int32), (115 : Int32), (32 : Int32), (97 : Int32), (116 : Int32), (32 : Int32), (49 : Int32), (48 : Int32), (48 : Int32), (48 : Int32), (48 : Int32), (48 : Int32), (46 : Int32), (48 : Int32), (48 : Int32), (32 : Int32), (97 : Int32), (110 : Int32), (100 : Int32), (32 : Int32), (97 : Int32), (98 : Int32), (111 : Int32), (118 : Int32), (101 : Int32)]) G1 h27 n0 Z28 F32 F33 F34 Ex27 Fc27 Fv27 F35 Av27 F30 (by show ¬ (G1 = (0 : Int32)); exact P5) (by show ¬ (49 : Int32) < 0; exact (by decide))) hZ27 (hw _ (List.mem_of_getElem? (i := 19) rfl)) (hw _ (List.mem_of_getElem? (i := 7) rfl)) (by decide) (by decide)) q36a q36c (g := (mkF m 126 #[.val (.long qp), .second, .val (.int pk), .val (.int v3), .val (.long j45), .second, .val (.ref tk), .val (.ref a27)] [(.ref a27), (.ref tk)])) rfl (by rw [hml]; rfl) (Steps.refl _) (argsL := [(.ref a27)]) (rest := []) (lenOf pd_2 rfl) rfl (by show 2 * 0 + _ ≤ _; exact Nat.le_of_eq rfl) (hb hby at_126) (fun _ _ => ⟨rfl, e27, (by decide : 2 + 0 ≤ _), (by decide : 200 + 0 ≤ _)⟩)
          dsimp only [Pt.U, Pt.locs, Pt.cells, Pt.slots] at X36 l36 y36 z36 st36 hQ36
          subst l36 y36 z36
          obtain ⟨rfl, N36q, e36⟩ := hQ36
          have N36 := Fr.app N26 N36q
          refine Go.st (fun _ k => st36.trans k) ?_
          show Go p.tables e below _ (T36.setTop (mkF m 129 #[.val (.long qp), .second, .val (.int pk), .val (.int v3), .val (.long j45), .second, .val (.ref tk), .val (.ref a27)] [(.int (1 : Int32))]))
          have hl37 : ¬ ((1 : Int32) = (0 : Int32)) := by decide
          refine Go.st (fun _ k => XS.ifNo X36.here hx rfl (hb hby at_129) rfl (Jvm.Free.XT.i0_eq_f hl37) k) ?_
          show Go p.tables e below _ (T36.setTop (mkF m 132 #[.val (.long qp), .second, .val (.int pk), .val (.int v3), .val (.long j45), .second, .val (.ref tk), .val (.ref a27)] []))
          refine Go.st (fun _ k => XS.iconst X36.here hx rfl (hb hby at_132) k) ?_
          show Go p.tables e below _ (T36.setTop (mkF m 133 #[.val (.long qp), .second, .val (.int pk), .val (.int v3), .val (.long j45), .second, .val (.ref tk), .val (.ref a27)] [(.int (1 : Int32))]))
          refine Go.st (fun _ k => XS.goto X36.here hx rfl (pc0 := 133) (pc' := 137) rfl (hb hby at_133) (by decide) (by decide) k) ?_
          show Go p.tables e below _ (T36.setTop (mkF m 137 #[.val (.long qp), .second, .val (.int pk), .val (.int v3), .val (.long j45), .second, .val (.ref tk), .val (.ref a27)] [(.int (1 : Int32))]))
          subst hG
          obtain ⟨fs, hr, hrun, hended, hend⟩ := X36.leaveW (s := s) hS27 (by rw [e36]; exact hk27) (v := some (.int (nar .boolean (1 : Int32)))) (fun h => by rw [Bd.returns] at h; cases h)
          refine ⟨_, _, ?_, hrun, hended, _, _, rfl, ?_, ?_, hend.1, hend.2.1, hend.2.2.1, hend.2.2.2.mono (by decide) (by decide)⟩
          · exact retN X36 hx (t := .boolean) Bd.returns (by simp) (hb hby at_137) hr
          · show Q_law Z qp pk G1 tk tb tkk h0 n0 _ T36.heap _
            rw [e36]
            exact ⟨rfl, N36, K29⟩
          · show CHr Z consts_1 s.vm s.heap T36.vm T36.heap
            rw [hh, e36]
            exact ((hR0.trans CR27)).trans (CHv.at X36 hZ27 hEL CR27.1)
      · skip
        show Go p.tables e below _ (s₁.setTop (mkF m 45 #[.val (.long qp), .second, .val (.int pk), .val (.int v3), .val (.long j45), .second, .unset, .unset] []))
        refine Go.st (fun _ k => XS.lload X0.here hx rfl (hb hby at_45) rfl k) ?_
        show Go p.tables e below _ (s₁.setTop (mkF m 47 #[.val (.long qp), .second, .val (.int pk), .val (.int v3), .val (.long j45), .second, .unset, .unset] [(.long j45)]))
        obtain ⟨_, _, ⟨T38, L38, k38, n38⟩, -, X38, ⟨Lc38, hQ38, l38, y38, z38⟩, st38⟩ := Jvm.LawKit.callS X0 hx (y := (⟨"io/floorbook/engine/Limits", "priceProblem", "(J)Ljava/lang/String;"⟩ : MethodName)) hown (mvT hZ (hw _ (List.mem_of_getElem? (i := 2) rfl))) (mvT hZ (hw _ (List.mem_of_getElem? (i := 3) rfl))) (mvT hZ (hw _ (List.mem_of_getElem? (i := 4) rfl))) (mvT hZ (hw _ (List.mem_of_getElem? (i := 5) rfl))) (by decide) (backOf (W := 0) (rm_ppC l Z a0 hw [] j45 h0 n0 Z0 (by show (0 : Int64) < j45; exact (own_p2 k1)) (by show j45 < (10000000 : Int64); exact (own_p4 k2))) hZ (hw _ (List.mem_of_getElem? (i := 5) rfl)) (hw _ (List.mem_of_getElem? (i := 4) rfl)) (by decide) (by decide)) (g := (mkF m 47 #[.val (.long qp), .second, .val (.int pk), .val (.int v3), .val (.long j45), .second, .unset, .unset] [(.long j45)])) rfl (by rw [hml]; rfl) (argsL := [(.long j45)]) (rest := []) (lenOf pd_1 rfl) rfl (by show 2 * 0 + _ ≤ _; exact Nat.le_of_eq rfl) (hb hby at_47) (fun _ _ => ⟨rfl, e0, (by decide : 0 + 0 ≤ _), (by decide : 0 + 0 ≤ _)⟩)
        dsimp only [Pt.U, Pt.locs, Pt.cells, Pt.slots] at X38 l38 y38 z38 st38 hQ38
        subst l38 y38 z38
        obtain ⟨rfl, N38q, e38⟩ := hQ38
        have N38 := Fr.app N0 N38q
        refine Go.st st38 ?_
        show Go p.tables e below _ (T38.setTop (mkF m 50 #[.val (.long qp), .second, .val (.int pk), .val (.int v3), .val (.long j45), .second, .unset, .unset] [.null]))
        refine Go.st (fun _ k => XS.astore X38.here hx rfl (hb hby at_50) rfl rfl (l' := #[.val (.long qp), .second, .val (.int pk), .val (.int v3), .val (.long j45), .second, .val .null, .unset]) rfl k) ?_
        show Go p.tables e below _ (T38.setTop (mkF m 52 #[.val (.long qp), .second, .val (.int pk), .val (.int v3), .val (.long j45), .second, .val .null, .unset] []))
        show Go p.tables e below _ (T38.setTop (mkF m 52 #[.val (.long qp), .second, .val (.int pk), .val (.int v3), .val (.long j45), .second, .val .null, .unset] []))
        refine Go.st (fun _ k => XS.lload X38.here hx rfl (hb hby at_52) rfl k) ?_
        show Go p.tables e below _ (T38.setTop (mkF m 54 #[.val (.long qp), .second, .val (.int pk), .val (.int v3), .val (.long j45), .second, .val .null, .unset] [(.long j45)]))
        refine Go.st (fun _ k => XS.lconst X38.here hx rfl (hb hby at_54) k) ?_
        show Go p.tables e below _ (T38.setTop (mkF m 55 #[.val (.long qp), .second, .val (.int pk), .val (.int v3), .val (.long j45), .second, .val .null, .unset] [(.long (1 : Int64)), (.long j45)]))
        refine Go.st (fun _ k => Jvm.Free.XT.lcmp X38.here hx rfl (hb hby at_55) rfl k) ?_
        show Go p.tables e below _ (T38.setTop (mkF m 56 #[.val (.long qp), .second, .val (.int pk), .val (.int v3), .val (.long j45), .second, .val .null, .unset] [(.int (Jvm.Free.XT.cmpL j45 (1 : Int64)))]))
        have hc56 : ¬ (j45 < (1 : Int64)) := k1
        refine Go.st (fun _ k => XS.ifYes X38.here hx rfl (pc0 := 56) (pc' := 66) rfl (hb hby at_56) rfl (Jvm.Free.XT.ll_ge_t hc56) (by decide) (by decide) k) ?_
        show Go p.tables e below _ (T38.setTop (mkF m 66 #[.val (.long qp), .second, .val (.int pk), .val (.int v3), .val (.long j45), .second, .val .null, .unset] []))
        refine Go.st (fun _ k => XS.lload X38.here hx rfl (hb hby at_66) rfl k) ?_
        show Go p.tables e below _ (T38.setTop (mkF m 68 #[.val (.long qp), .second, .val (.int pk), .val (.int v3), .val (.long j45), .second, .val .null, .unset] [(.long j45)]))
        refine Go.st (fun _ k => X38.ldc2Long hx hown (mvT hZ (hw _ (List.mem_of_getElem? (i := 21) rfl))) (g := (mkF m 68 #[.val (.long qp), .second, .val (.int pk), .val (.int v3), .val (.long j45), .second, .val .null, .unset] [(.long j45)])) rfl (hb hby at_68) _ k) ?_
        show Go p.tables e below _ (T38.setTop (mkF m 71 #[.val (.long qp), .second, .val (.int pk), .val (.int v3), .val (.long j45), .second, .val .null, .unset] [(.long (9999999 : Int64)), (.long j45)]))
        refine Go.st (fun _ k => Jvm.Free.XT.lcmp X38.here hx rfl (hb hby at_71) rfl k) ?_
        show Go p.tables e below _ (T38.setTop (mkF m 72 #[.val (.long qp), .second, .val (.int pk), .val (.int v3), .val (.long j45), .second, .val .null, .unset] [(.int (Jvm.Free.XT.cmpL j45 (9999999 : Int64)))]))
        have hc72 : ¬ ((9999999 : Int64) < j45) := k2
        refine Go.st (fun _ k => XS.ifYes X38.here hx rfl (pc0 := 72) (pc' := 98) rfl (hb hby at_72) rfl (Jvm.Free.XT.ll_le_t hc72) (by decide) (by decide) k) ?_
        show Go p.tables e below _ (T38.setTop (mkF m 98 #[.val (.long qp), .second, .val (.int pk), .val (.int v3), .val (.long j45), .second, .val .null, .unset] []))
        refine Go.st (fun _ k => XS.aconstNull X38.here hx rfl (hb hby at_98) k) ?_
        show Go p.tables e below _ (T38.setTop (mkF m 99 #[.val (.long qp), .second, .val (.int pk), .val (.int v3), .val (.long j45), .second, .val .null, .unset] [.null]))
        refine Go.st (fun _ k => XS.astore X38.here hx rfl (hb hby at_99) rfl rfl (l' := #[.val (.long qp), .second, .val (.int pk), .val (.int v3), .val (.long j45), .second, .val .null, .val .null]) rfl k) ?_
        show Go p.tables e below _ (T38.setTop (mkF m 101 #[.val (.long qp), .second, .val (.int pk), .val (.int v3), .val (.long j45), .second, .val .null, .val .null] []))
        show Go p.tables e below _ (T38.setTop (mkF m 101 #[.val (.long qp), .second, .val (.int pk), .val (.int v3), .val (.long j45), .second, .val .null, .val .null] []))
        refine Go.st (fun _ k => XS.aload X38.here hx rfl (hb hby at_101) rfl rfl k) ?_
        show Go p.tables e below _ (T38.setTop (mkF m 103 #[.val (.long qp), .second, .val (.int pk), .val (.int v3), .val (.long j45), .second, .val .null, .val .null] [.null]))
        refine Go.st (fun _ k => XS.ifnonnullNo X38.here hx rfl (hb hby at_103) rfl k) ?_
        show Go p.tables e below _ (T38.setTop (mkF m 106 #[.val (.long qp), .second, .val (.int pk), .val (.int v3), .val (.long j45), .second, .val .null, .val .null] []))
        refine Go.st (fun _ k => XS.aload X38.here hx rfl (hb hby at_106) rfl rfl k) ?_
        show Go p.tables e below _ (T38.setTop (mkF m 108 #[.val (.long qp), .second, .val (.int pk), .val (.int v3), .val (.long j45), .second, .val .null, .val .null] [.null]))
        refine Go.st (fun _ k => XS.ifnonnullNo X38.here hx rfl (hb hby at_108) rfl k) ?_
        show Go p.tables e below _ (T38.setTop (mkF m 111 #[.val (.long qp), .second, .val (.int pk), .val (.int v3), .val (.long j45), .second, .val .null, .val .null] []))
        refine Go.st (fun _ k => XS.iconst X38.here hx rfl (hb hby at_111) k) ?_
        show Go p.tables e below _ (T38.setTop (mkF m 112 #[.val (.long qp), .second, .val (.int pk), .val (.int v3), .val (.long j45), .second, .val .null, .val .null] [(.int (1 : Int32))]))
        refine Go.st (fun _ k => XS.goto X38.here hx rfl (pc0 := 112) (pc' := 116) rfl (hb hby at_112) (by decide) (by decide) k) ?_
        show Go p.tables e below _ (T38.setTop (mkF m 116 #[.val (.long qp), .second, .val (.int pk), .val (.int v3), .val (.long j45), .second, .val .null, .val .null] [(.int (1 : Int32))]))
        subst hG
        obtain ⟨fs, hr, hrun, hended, hend⟩ := X38.leaveW (s := s) hS0 (by rw [e38]; exact hk0) (v := some (.int (nar .boolean (1 : Int32)))) (fun h => by rw [Bd.returns] at h; cases h)
        refine ⟨_, _, ?_, hrun, hended, _, _, rfl, ?_, ?_, hend.1, hend.2.1, hend.2.2.1, hend.2.2.2.mono (by decide) (by decide)⟩
        · exact retN X38 hx (t := .boolean) Bd.returns (by simp) (hb hby at_116) hr
        · show Q_law Z qp pk G1 tk tb tkk h0 n0 _ T38.heap _
          rw [e38]
          exact ⟨rfl, N38, K0⟩
        · show CHr Z consts_1 s.vm s.heap T38.vm T38.heap
          rw [hh, e38]
          exact (hR0).trans (CHv.at X38 hZ hEL hCH)
  by_cases hc6 : v3 = (1 : Int32)
  · skip
    refine Go.st (fun _ k => XS.icmpNo X0.here hx rfl (hb hby at_6) rfl (Jvm.Free.XT.ii_ne_f hc6) k) ?_
    show Go p.tables e below _ (s₁.setTop (mkF m 9 #[.val (.long qp), .second, .val (.int pk), .val (.int v3), .unset, .unset, .unset, .unset] []))
    refine Go.st (fun _ k => X0.ldc2Long hx hown (mvT hZ (hw _ (List.mem_of_getElem? (i := 22) rfl))) (g := (mkF m 9 #[.val (.long qp), .second, .val (.int pk), .val (.int v3), .unset, .unset, .unset, .unset] [])) rfl (hb hby at_9) _ k) ?_
    show Go p.tables e below _ (s₁.setTop (mkF m 12 #[.val (.long qp), .second, .val (.int pk), .val (.int v3), .unset, .unset, .unset, .unset] [(.long (9999872 : Int64))]))
    refine Go.st (fun _ k => XS.lloadN X0.here hx rfl (hb hby at_12) rfl k) ?_
    show Go p.tables e below _ (s₁.setTop (mkF m 13 #[.val (.long qp), .second, .val (.int pk), .val (.int v3), .unset, .unset, .unset, .unset] [(.long qp), (.long (9999872 : Int64))]))
    refine Go.st (fun _ k => X0.ldc2Long hx hown (mvT hZ (hw _ (List.mem_of_getElem? (i := 1) rfl))) (g := (mkF m 13 #[.val (.long qp), .second, .val (.int pk), .val (.int v3), .unset, .unset, .unset, .unset] [(.long qp), (.long (9999872 : Int64))])) rfl (hb hby at_13) _ k) ?_
    show Go p.tables e below _ (s₁.setTop (mkF m 16 #[.val (.long qp), .second, .val (.int pk), .val (.int v3), .unset, .unset, .unset, .unset] [(.long (255 : Int64)), (.long qp), (.long (9999872 : Int64))]))
    refine Go.st (fun _ k => XS.land X0.here hx rfl (hb hby at_16) rfl k) ?_
    show Go p.tables e below _ (s₁.setTop (mkF m 17 #[.val (.long qp), .second, .val (.int pk), .val (.int v3), .unset, .unset, .unset, .unset] [(.long (qp &&& (255 : Int64))), (.long (9999872 : Int64))]))
    refine Go.st (fun _ k => XS.ladd X0.here hx rfl (hb hby at_17) rfl k) ?_
    show Go p.tables e below _ (s₁.setTop (mkF m 18 #[.val (.long qp), .second, .val (.int pk), .val (.int v3), .unset, .unset, .unset, .unset] [(.long ((9999872 : Int64) + (qp &&& (255 : Int64))))]))
    refine Go.st (fun _ k => XS.lstore X0.here hx rfl (hb hby at_18) rfl (l' := #[.val (.long qp), .second, .val (.int pk), .val (.int v3), .val (.long ((9999872 : Int64) + (qp &&& (255 : Int64)))), .second, .unset, .unset]) rfl k) ?_
    show Go p.tables e below _ (s₁.setTop (mkF m 20 #[.val (.long qp), .second, .val (.int pk), .val (.int v3), .val (.long ((9999872 : Int64) + (qp &&& (255 : Int64)))), .second, .unset, .unset] []))
    generalize hqv18 : ((9999872 : Int64) + (qp &&& (255 : Int64))) = v18
    show Go p.tables e below _ (s₁.setTop (mkF m 20 #[.val (.long qp), .second, .val (.int pk), .val (.int v3), .val (.long v18), .second, .unset, .unset] []))
    refine Go.st (fun _ k => XS.goto X0.here hx rfl (pc0 := 20) (pc' := 45) rfl (hb hby at_20) (by decide) (by decide) k) ?_
    show Go p.tables e below _ (s₁.setTop (mkF m 45 #[.val (.long qp), .second, .val (.int pk), .val (.int v3), .val (.long v18), .second, .unset, .unset] []))
    exact J45 _
  · skip
    refine Go.st (fun _ k => XS.icmpYes X0.here hx rfl (pc0 := 6) (pc' := 23) rfl (hb hby at_6) rfl (Jvm.Free.XT.ii_ne_t hc6) (by decide) (by decide) k) ?_
    show Go p.tables e below _ (s₁.setTop (mkF m 23 #[.val (.long qp), .second, .val (.int pk), .val (.int v3), .unset, .unset, .unset, .unset] []))
    refine Go.st (fun _ k => XS.iloadN X0.here hx rfl (hb hby at_23) rfl k) ?_
    show Go p.tables e below _ (s₁.setTop (mkF m 24 #[.val (.long qp), .second, .val (.int pk), .val (.int v3), .unset, .unset, .unset, .unset] [(.int v3)]))
    refine Go.st (fun _ k => XS.iconst X0.here hx rfl (hb hby at_24) k) ?_
    show Go p.tables e below _ (s₁.setTop (mkF m 25 #[.val (.long qp), .second, .val (.int pk), .val (.int v3), .unset, .unset, .unset, .unset] [(.int (2 : Int32)), (.int v3)]))
    by_cases hc25 : v3 = (2 : Int32)
    · skip
      refine Go.st (fun _ k => XS.icmpNo X0.here hx rfl (hb hby at_25) rfl (Jvm.Free.XT.ii_ne_f hc25) k) ?_
      show Go p.tables e below _ (s₁.setTop (mkF m 28 #[.val (.long qp), .second, .val (.int pk), .val (.int v3), .unset, .unset, .unset, .unset] []))
      refine Go.st (fun _ k => X0.ldc2Long hx hown (mvT hZ (hw _ (List.mem_of_getElem? (i := 0) rfl))) (g := (mkF m 28 #[.val (.long qp), .second, .val (.int pk), .val (.int v3), .unset, .unset, .unset, .unset] [])) rfl (hb hby at_28) _ k) ?_
      show Go p.tables e below _ (s₁.setTop (mkF m 31 #[.val (.long qp), .second, .val (.int pk), .val (.int v3), .unset, .unset, .unset, .unset] [(.long (-128 : Int64))]))
      refine Go.st (fun _ k => XS.lloadN X0.here hx rfl (hb hby at_31) rfl k) ?_
      show Go p.tables e below _ (s₁.setTop (mkF m 32 #[.val (.long qp), .second, .val (.int pk), .val (.int v3), .unset, .unset, .unset, .unset] [(.long qp), (.long (-128 : Int64))]))
      refine Go.st (fun _ k => X0.ldc2Long hx hown (mvT hZ (hw _ (List.mem_of_getElem? (i := 1) rfl))) (g := (mkF m 32 #[.val (.long qp), .second, .val (.int pk), .val (.int v3), .unset, .unset, .unset, .unset] [(.long qp), (.long (-128 : Int64))])) rfl (hb hby at_32) _ k) ?_
      show Go p.tables e below _ (s₁.setTop (mkF m 35 #[.val (.long qp), .second, .val (.int pk), .val (.int v3), .unset, .unset, .unset, .unset] [(.long (255 : Int64)), (.long qp), (.long (-128 : Int64))]))
      refine Go.st (fun _ k => XS.land X0.here hx rfl (hb hby at_35) rfl k) ?_
      show Go p.tables e below _ (s₁.setTop (mkF m 36 #[.val (.long qp), .second, .val (.int pk), .val (.int v3), .unset, .unset, .unset, .unset] [(.long (qp &&& (255 : Int64))), (.long (-128 : Int64))]))
      refine Go.st (fun _ k => XS.ladd X0.here hx rfl (hb hby at_36) rfl k) ?_
      show Go p.tables e below _ (s₁.setTop (mkF m 37 #[.val (.long qp), .second, .val (.int pk), .val (.int v3), .unset, .unset, .unset, .unset] [(.long ((-128 : Int64) + (qp &&& (255 : Int64))))]))
      refine Go.st (fun _ k => XS.lstore X0.here hx rfl (hb hby at_37) rfl (l' := #[.val (.long qp), .second, .val (.int pk), .val (.int v3), .val (.long ((-128 : Int64) + (qp &&& (255 : Int64)))), .second, .unset, .unset]) rfl k) ?_
      show Go p.tables e below _ (s₁.setTop (mkF m 39 #[.val (.long qp), .second, .val (.int pk), .val (.int v3), .val (.long ((-128 : Int64) + (qp &&& (255 : Int64)))), .second, .unset, .unset] []))
      generalize hqv37 : ((-128 : Int64) + (qp &&& (255 : Int64))) = v37
      show Go p.tables e below _ (s₁.setTop (mkF m 39 #[.val (.long qp), .second, .val (.int pk), .val (.int v3), .val (.long v37), .second, .unset, .unset] []))
      refine Go.st (fun _ k => XS.goto X0.here hx rfl (pc0 := 39) (pc' := 45) rfl (hb hby at_39) (by decide) (by decide) k) ?_
      show Go p.tables e below _ (s₁.setTop (mkF m 45 #[.val (.long qp), .second, .val (.int pk), .val (.int v3), .val (.long v37), .second, .unset, .unset] []))
      exact J45 _
    · skip
      refine Go.st (fun _ k => XS.icmpYes X0.here hx rfl (pc0 := 25) (pc' := 42) rfl (hb hby at_25) rfl (Jvm.Free.XT.ii_ne_t hc25) (by decide) (by decide) k) ?_
      show Go p.tables e below _ (s₁.setTop (mkF m 42 #[.val (.long qp), .second, .val (.int pk), .val (.int v3), .unset, .unset, .unset, .unset] []))
      refine Go.st (fun _ k => XS.lloadN X0.here hx rfl (hb hby at_42) rfl k) ?_
      show Go p.tables e below _ (s₁.setTop (mkF m 43 #[.val (.long qp), .second, .val (.int pk), .val (.int v3), .unset, .unset, .unset, .unset] [(.long qp)]))
      refine Go.st (fun _ k => XS.lstore X0.here hx rfl (hb hby at_43) rfl (l' := #[.val (.long qp), .second, .val (.int pk), .val (.int v3), .val (.long qp), .second, .unset, .unset]) rfl k) ?_
      show Go p.tables e below _ (s₁.setTop (mkF m 45 #[.val (.long qp), .second, .val (.int pk), .val (.int v3), .val (.long qp), .second, .unset, .unset] []))
      show Go p.tables e below _ (s₁.setTop (mkF m 45 #[.val (.long qp), .second, .val (.int pk), .val (.int v3), .val (.long qp), .second, .unset, .unset] []))
      exact J45 _
theorem own_elem {s : State} {args : Array Value} {t : Jvm.Term} {x : Addr} {c : Cell} {k y : Int32} (et : t.eval args s none [] s = some (.ref x)) (ha : s.arrayAt? x = some c) (hk : ¬ k < 0) (h : (Jvm.Cond.eq (Jvm.Term.elem t (Jvm.Term.int k)) (Jvm.Term.int y)).value args s none s [] = some true) : c.slots[k.toNatClampNeg]? = some (.int y) := by
  have h1 := eqv_i (Term.int_eval y) h
  rw [elem_f et (Term.int_eval k) ha hk] at h1
  exact h1
theorem own_len {s : State} {args : Array Value} {t : Jvm.Term} {x : Addr} {c : Cell} {y : Int32} (et : t.eval args s none [] s = some (.ref x)) (ha : s.arrayAt? x = some c) (h : (Jvm.Cond.eq (Jvm.Term.length t) (Jvm.Term.int y)).value args s none s [] = some true) : c.slots.size < 2 ^ 31 ∧ c.slots.size.toInt32 = y := by
  have L := eqv_i (Term.int_eval y) h
  have e1 : (Jvm.Term.length t).eval args s none [] s = (do
      let .ref a ← t.eval args s none [] s | none
      let n := (← s.arrayAt? a).slots.size
      if n < 2 ^ 31 then pure (.int n.toInt32) else none) := rfl
  have L' : (if c.slots.size < 2 ^ 31 then some (Value.int c.slots.size.toInt32) else none) = some (.int y) := by
    rw [← L, e1, et]
    show _ = (s.arrayAt? x).bind fun z => if z.slots.size < 2 ^ 31 then some (Value.int z.slots.size.toInt32) else none
    rw [ha]
    rfl
  by_cases hlt : c.slots.size < 2 ^ 31
  · rw [if_pos hlt] at L'
    exact ⟨hlt, Value.int.inj (Option.some.inj L')⟩
  · rw [if_neg hlt] at L'
    cases L'
theorem own_or_f {args : Array Value} {s : State} {c d : Jvm.Cond} {idx : List Nat} (h : (Jvm.Cond.or c d).value args s none s idx = some true) (hc : c.value args s none s idx = some false) : d.value args s none s idx = some true := by
  have e : (Jvm.Cond.or c d).value args s none s idx = (match c.value args s none s idx with | some false => d.value args s none s idx | x => x) := rfl
  rw [e, hc] at h
  exact h
theorem own_allr {s : State} {args : Array Value} {t : Jvm.Term} {x : Addr} {c : Cell} {j lo hi y : Int32} (et : ∀ idx, t.eval args s none idx s = some (.ref x)) (ha : s.arrayAt? x = some c) (hj : ¬ j < 0) (h1 : ¬ j < lo) (h2 : ¬ hi ≤ j) (hs : j.toNatClampNeg < c.slots.size)
    (h : (Jvm.Cond.all t (Jvm.Cond.or (Jvm.Cond.lt (Jvm.Term.index 0) (Jvm.Term.int lo)) (Jvm.Cond.or (Jvm.Cond.le (Jvm.Term.int hi) (Jvm.Term.index 0)) (Jvm.Cond.eq (Jvm.Term.elem t (Jvm.Term.index 0)) (Jvm.Term.int y))))).value args s none s [] = some true) : c.slots[j.toNatClampNeg]? = some (.int y) := by
  have u := Cond.all_elim (et []) ha h j.toNatClampNeg hs
  have a1 : (Jvm.Cond.lt (Jvm.Term.index 0) (Jvm.Term.int lo)).value args s none s [j.toNatClampNeg] = some false := by
    rw [Cond.lt_ints (idx_at hj) (Term.int_eval lo)]
    exact congrArg some (decide_eq_false h1)
  have a2 : (Jvm.Cond.le (Jvm.Term.int hi) (Jvm.Term.index 0)).value args s none s [j.toNatClampNeg] = some false := by
    rw [Cond.le_ints (Term.int_eval hi) (idx_at hj)]
    exact congrArg some (decide_eq_false h2)
  have v := own_or_f (own_or_f u a1) a2
  have h3 := eqv_i (Term.int_eval y) v
  rw [elem_f (et _) (idx_at hj) ha hj] at h3
  exact h3
theorem own_tick {s : State} {args : Array Value} (hfit : Fit s) (hn : narrow_1.value args s none s [] = some true)
    (hi : (Jvm.Cond.initializedFor "io/floorbook/engine/Limits" "TICK_RULE" "Ljava/lang/String;").before args s = true ∨ ((Jvm.Cond.initialized "io/floorbook/engine/Limits").before args s = true ∧ (Jvm.Cond.laysStatic "io/floorbook/engine/Limits" "TICK_RULE" "Ljava/lang/String;").before args s = true)) :
    ∃ (tk tb : Addr) (kk : ClassId), Sta s s.heap "io/floorbook/engine/Limits" "TICK_RULE" "Ljava/lang/String;" (.ref tk) ∧ Exa s s.heap tk "java/lang/String" ∧ Fld s s.heap tk "java/lang/String" "coder" "B" (.int (0 : Int32)) ∧ Fld s s.heap tk "java/lang/String" "value" "[B" (.ref tb) ∧ Arv s s.heap tb kk .byte (49 : Int32) [(.int (109 : Int32)), (.int (117 : Int32)), (.int (115 : Int32)), (.int (116 : Int32)), (.int (32 : Int32)), (.int (98 : Int32)), (.int (101 : Int32)), (.int (32 : Int32)), (.int (105 : Int32)), (.int (110 : Int32)), (.int (32 : Int32)), (.int (119 : Int32)), (.int (104 : Int32)), (.int (111 : Int32)), (.int (108 : Int32)), (.int (101 : Int32)), (.int (32 : Int32)), (.int (116 : Int32)), (.int (101 : Int32)), (.int (110 : Int32)), (.int (32 : Int32)), (.int (99 : Int32)), (.int (101 : Int32)), (.int (110 : Int32)), (.int (116 : Int32)), (.int (115 : Int32)), (.int (32 : Int32)), (.int (97 : Int32)), (.int (116 : Int32)), (.int (32 : Int32)), (.int (49 : Int32)), (.int (48 : Int32)), (.int (48 : Int32)), (.int (48 : Int32)), (.int (48 : Int32)), (.int (48 : Int32)), (.int (46 : Int32)), (.int (48 : Int32)), (.int (48 : Int32)), (.int (32 : Int32)), (.int (97 : Int32)), (.int (110 : Int32)), (.int (100 : Int32)), (.int (32 : Int32)), (.int (97 : Int32)), (.int (98 : Int32)), (.int (111 : Int32)), (.int (118 : Int32)), (.int (101 : Int32))] (.int (0 : Int32)) := by
  obtain ⟨n1, r1⟩ := and_e hn
  obtain ⟨n2, r2⟩ := and_e r1
  obtain ⟨n3, r3⟩ := and_e r2
  obtain ⟨n4, r4⟩ := and_e r3
  obtain ⟨tk, ev⟩ := exa_v n1
  have E := Exa.start ev n1
  have C := eqv_i (Term.int_eval 0) n2
  rw [fld_at ev] at C
  obtain ⟨tb, evb⟩ := arr_v n3
  have Vv := evb
  rw [fld_at ev] at Vv
  obtain ⟨c, A⟩ := Arr.start evb n3
  have hat : s.arrayAt? tb = some c := A.fin (Vm.Alike.refl _)
  obtain ⟨hz1, hz2⟩ := own_len evb hat n4
  obtain ⟨m0, r5⟩ := and_e r4
  obtain ⟨m1, r6⟩ := and_e r5
  obtain ⟨m2, r7⟩ := and_e r6
  obtain ⟨m3, r8⟩ := and_e r7
  obtain ⟨m4, r9⟩ := and_e r8
  obtain ⟨m5, r10⟩ := and_e r9
  obtain ⟨m6, r11⟩ := and_e r10
  obtain ⟨m7, r12⟩ := and_e r11
  obtain ⟨m8, r13⟩ := and_e r12
  obtain ⟨m9, r14⟩ := and_e r13
  obtain ⟨m10, r15⟩ := and_e r14
  obtain ⟨m11, r16⟩ := and_e r15
  obtain ⟨m12, r17⟩ := and_e r16
  obtain ⟨m13, r18⟩ := and_e r17
  obtain ⟨m14, r19⟩ := and_e r18
  obtain ⟨m15, r20⟩ := and_e r19
  obtain ⟨m16, r21⟩ := and_e r20
  obtain ⟨m17, r22⟩ := and_e r21
  obtain ⟨m18, r23⟩ := and_e r22
  obtain ⟨m19, r24⟩ := and_e r23
  obtain ⟨m20, r25⟩ := and_e r24
  obtain ⟨m21, r26⟩ := and_e r25
  obtain ⟨m22, r27⟩ := and_e r26
  obtain ⟨m23, r28⟩ := and_e r27
  obtain ⟨m24, r29⟩ := and_e r28
  obtain ⟨m25, r30⟩ := and_e r29
  obtain ⟨m26, r31⟩ := and_e r30
  obtain ⟨m27, r32⟩ := and_e r31
  obtain ⟨m28, r33⟩ := and_e r32
  obtain ⟨m29, r34⟩ := and_e r33
  obtain ⟨m30, r35⟩ := and_e r34
  obtain ⟨m31, r36⟩ := and_e r35
  obtain ⟨m32, r37⟩ := and_e r36
  obtain ⟨m33, r38⟩ := and_e r37
  obtain ⟨m34, r39⟩ := and_e r38
  obtain ⟨m35, r40⟩ := and_e r39
  obtain ⟨m36, r41⟩ := and_e r40
  obtain ⟨m37, r42⟩ := and_e r41
  obtain ⟨m38, r43⟩ := and_e r42
  obtain ⟨m39, r44⟩ := and_e r43
  obtain ⟨m40, r45⟩ := and_e r44
  obtain ⟨m41, r46⟩ := and_e r45
  obtain ⟨m42, r47⟩ := and_e r46
  obtain ⟨m43, r48⟩ := and_e r47
  have hsz : c.slots.size = 49 := by
    have h1 := len_toInt hz1
    rw [hz2] at h1
    have h2 : (49 : Int32).toInt = 49 := by decide
    omega
  refine ⟨tk, tb, c.cls, Sta.start ev hi, E, Fld.start C, Fld.start Vv, Arv.start hfit A hz1 hz2 (by decide) rfl ?_⟩
  exact ⟨own_elem evb hat (by decide) m0, own_elem evb hat (by decide) m1, own_elem evb hat (by decide) m2, own_elem evb hat (by decide) m3, own_elem evb hat (by decide) m4, own_elem evb hat (by decide) m5, own_elem evb hat (by decide) m6, own_elem evb hat (by decide) m7, own_elem evb hat (by decide) m8, own_elem evb hat (by decide) m9, own_elem evb hat (by decide) m10, own_elem evb hat (by decide) m11, own_elem evb hat (by decide) m12, own_elem evb hat (by decide) m13, own_elem evb hat (by decide) m14, own_elem evb hat (by decide) m15, own_elem evb hat (by decide) m16, own_elem evb hat (by decide) m17, own_elem evb hat (by decide) m18, own_elem evb hat (by decide) m19, own_elem evb hat (by decide) m20, own_elem evb hat (by decide) m21, own_elem evb hat (by decide) m22, own_elem evb hat (by decide) m23, own_elem evb hat (by decide) m24, own_elem evb hat (by decide) m25, own_elem evb hat (by decide) m26, own_elem evb hat (by decide) m27, own_elem evb hat (by decide) m28, own_elem evb hat (by decide) m29, own_elem evb hat (by decide) m30, own_allr (j := 31) (fun idx => evb) hat (by decide) (by decide) (by decide) (by rw [hsz]; decide) m31, own_allr (j := 32) (fun idx => evb) hat (by decide) (by decide) (by decide) (by rw [hsz]; decide) m31, own_allr (j := 33) (fun idx => evb) hat (by decide) (by decide) (by decide) (by rw [hsz]; decide) m31, own_allr (j := 34) (fun idx => evb) hat (by decide) (by decide) (by decide) (by rw [hsz]; decide) m31, own_allr (j := 35) (fun idx => evb) hat (by decide) (by decide) (by decide) (by rw [hsz]; decide) m31, own_elem evb hat (by decide) m32, own_elem evb hat (by decide) m33, own_elem evb hat (by decide) m34, own_elem evb hat (by decide) m35, own_elem evb hat (by decide) m36, own_elem evb hat (by decide) m37, own_elem evb hat (by decide) m38, own_elem evb hat (by decide) m39, own_elem evb hat (by decide) m40, own_elem evb hat (by decide) m41, own_elem evb hat (by decide) m42, own_elem evb hat (by decide) m43, own_elem evb hat (by decide) r48, trivial⟩

set_option maxRecDepth 65536 in
set_option maxHeartbeats 40000000 in
theorem comes_1 {Post : Tables → Env → Array Value → State → Outcome → State → Prop} (hpost : ∀ tb e args s v u, (limb_1_1.after args s (.returned v) u = true ∧ limb_1_2.after args s (.returned v) u = true ∧ True) → ReturnedEndW s (.returned v) u (Jvm.fieldLocs frame_1_writes args s ++ Jvm.arrayLocs frame_1_arrays args s ++ Jvm.staticLocs frame_1_statics s) 8 3136 → Post tb e args s (.returned v) u) :
    ArmFor flags0 classFile x code maxLocals ret World_1 tables_1 room_1 Calls_1 rest_1 Pre_1 Post := by
  intro l hfl _ _ p e ha hc hk s m args below hf hA hF happ hP
  obtain ⟨hcalls, hrest, hpre⟩ := hP
  obtain ⟨-, -, -, hnamed, -, -, -, hat⟩ := (Spec.applies_iff hf).mp happ
  obtain ⟨hg, hn⟩ := and_e (Cond.before_iff.mp (show (Jvm.Cond.and given_1 narrow_1).before args s = true from hpre))
  obtain ⟨hcount, hg0⟩ := and_e hg
  obtain ⟨hv0, hg1⟩ := and_e hg0
  obtain ⟨w0, w1, rfl⟩ : ∃ w0 w1 : Value, args = #[w0, w1] := by
    have hs : args.size = 2 := by simpa [Cond.value, given_1] using hcount
    obtain ⟨L⟩ := args
    match L, hs with
    | [w0, w1], _ => exact ⟨w0, w1, rfl⟩
  have hw := fun d (hd : d ∈ tables_1) => atoms_spec (ws := Jvm.Cond.code x code maxLocals ret :: tables_1) hat d (List.mem_cons_of_mem _ hd)
  have hfit : Fit s := fun {y c} hc i hi => by
    obtain ⟨ha, rfl⟩ := Array.getElem?_eq_some_iff.mp hc
    have q := List.all_eq_true.mp ((Array.all_eq_true_iff_forall_mem.mp hF) _ (Array.getElem_mem ha)) i (List.mem_range.mpr hi)
    simpa [Array.getElem?_eq_getElem hi] using q
  obtain ⟨i0, ei0⟩ := isL_v hv0
  obtain rfl : w0 = (.long i0) := Option.some.inj ei0
  obtain ⟨i1, ei1⟩ := is_v hg1
  obtain rfl : w1 = (.int i1) := Option.some.inj ei1
  obtain ⟨hsets, hown0⟩ := atoms_of _ (rest_1_c_eq ▸ (show rest_1_c.before _ s = true from hrest))
  have n5 := not_v (Cond.before_iff.mp (hsets _ (List.mem_of_getElem? (i := 2) rfl)))
  obtain ⟨G1, e10⟩ := is_v (Cond.before_iff.mp (hsets _ (List.mem_of_getElem? (i := 1) rfl)))
  have O2 : Sta s s.heap "java/lang/String" "COMPACT_STRINGS" "Z" (.int G1) := Sta.start e10 (Or.inl (hsets _ (List.mem_of_getElem? (i := 0) rfl)))
  have P5 : ¬ (G1 = (0 : Int32)) := gotF (Cond.eq_ints e10 (Term.int_eval (0))) n5
  obtain ⟨tk, tb, tkk, Sd, F1, F2, F3, F4⟩ := own_tick hfit hn (Or.inr ⟨(hw _ (List.mem_of_getElem? (i := 4) rfl)), (hw _ (List.mem_of_getElem? (i := 26) rfl))⟩)
  have hEL : EW s _ consts_1 := EW.cons (hw _ (List.mem_of_getElem? (i := 6) rfl)) (by decide) (EW.cons (hw _ (List.mem_of_getElem? (i := 14) rfl)) (by decide) (EW.cons (hw _ (List.mem_of_getElem? (i := 27) rfl)) (by decide) (EW.nil)))
  have hCH : CHv s consts_1 s.vm s.heap := CHv.start hEL (fun p hp => hcalls.1 p hp) (show Jvm.Lit.compactW.before _ s = true from (hsets _ (List.mem_of_getElem? (i := 2) rfl))) (hw _ (List.mem_of_getElem? (i := 9) rfl)) (hw _ (List.mem_of_getElem? (i := 8) rfl))
  obtain ⟨n, o, h1, h2, h3, _, L, rfl, ⟨rfl, N, -⟩, -, hq⟩ := rm_law l s _ hw tables_1 i0 i1 G1 tk tb tkk s.heap s.heap.size (Nat.le_refl _) hEL O2 P5 Sd F1 F2 F3 F4 p e ha hc hk s m _ below hf ((Spec.applies_iff_loose hf).mp happ).1 ⟨rfl, State.Warmed39.refl s, rfl, hCH⟩ trivial
  refine ⟨n, _, h1, h2, h3, hpost _ _ _ _ _ _ ⟨Cond.after_iff.mpr rfl, Cond.after_iff.mpr (eq_i res_at (Term.int_eval (1)) rfl), trivial⟩ ⟨hq.1, hq.2.1, hq.2.2.1, (hq.2.2.2.sift fun y hy => Or.inr (N y hy)).mono (by decide) (by decide)⟩⟩
theorem main_1_1 : Claimed_1_1 := comes_1 fun _ _ _ _ _ _ h hF => ⟨h.1, hF⟩
theorem main_1_2 : Claimed_1_2 := comes_1 fun _ _ _ _ _ _ h hF => ⟨h.2.1, hF⟩
end Jvm.Pilot.@@N@@
namespace Jvm.Pilot.@@N@@
open Jvm Jvm.ClassFile Sem Op Lib Jvm.Free Jvm.Stand Jvm.Pilot.@@N@@.Jvm.D
/-! MADE BY PROGRAM (witnessworld.py) out of the Statement's table words and the real class files: 17 classes; the members and pool entries that the words name. The judged class is class 1, her method 1. -/
namespace start1
open Jvm.ClassFile
def u (s : String) : CpInfo := .utf8 (stringToUtf16 s)
/-- a pool by its gaps: so many unusable entries, then the entry; so many at the end -/
def gap : Nat → List CpInfo → List CpInfo
  | 0, r => r
  | n + 1, r => .unusable :: gap n r
def poolList (es : List (Nat × CpInfo)) (last : Nat) : List CpInfo := es.foldr (fun e r => gap e.1 (e.2 :: r)) (gap last [])
def pool (es : List (Nat × CpInfo)) (last : Nat) : Array CpInfo := ⟨poolList es last⟩
def fileOf (pool : Array CpInfo) (this : Nat) (attrs : Array Attribute := #[]) (ms : Array MethodInfo := #[]) (fl : Nat := 33) (sup : Nat := 0) (ifs : Array Nat := #[]) (fds : Array FieldInfo := #[]) : ClassFile where
  minorVersion := 0
  majorVersion := 65
  constantPool := pool
  accessFlags := fl
  thisClass := this
  superClass := sup
  interfaces := ifs
  fields := fds
  methods := ms
  attributes := attrs
def plain (name : String) (sup : Option ClassId) : Class where
  name := name
  kind := .ordinary
  loader := none
  accessFlags := 33
  super := sup
  interfaces := #[]
  cf := none
  fields := #[]
  methods := #[]
  instanceTypes := #[]
  staticTypes := #[]
  resolved := #[]
  callSites := []
  init := .initialized
  statics := none
  mirror := none

def pool0 : Array CpInfo := pool [(5, u "<init>"), (0, u "()V"), (1, .class_ 10), (1, u "java/lang/Object")] 113

def k0m0 : Method := { name := "<init>", desc := "()V", sig := { parameters := [], returnType := none }, accessFlags := 1, code := none }
/-- java/lang/Object -/
def k0 : Class := { plain "java/lang/Object" none with
  accessFlags := 33
  interfaces := #[]
  cf := some (fileOf pool0 8 #[] #[{ accessFlags := 1, nameIndex := 5, descriptorIndex := 6, attributes := #[] }] 33 0 #[] #[])
  fields := #[]
  methods := #[k0m0]
  instanceTypes := #[]
  staticTypes := #[]
  resolved := Array.replicate 124 none
  statics := none }

def pool1 : Array CpInfo := pool [(2, .class_ 4), (1, u "java/lang/Object"), (0, u "<init>"), (0, u "()V"), (0, .long 9999872), (1, .long 255), (1, .long 18446744073709551488), (1, .methodref 14 15), (0, .class_ 16), (0, .nameAndType 17 18), (0, u "io/floorbook/engine/Limits"), (0, u "priceProblem"), (0, u "(J)Ljava/lang/String;"), (0, .string 20), (0, u "must be above zero"), (0, .long 9999999), (1, .long 10), (1, .string 26), (0, u "must be in whole ten cents at 100000.00 and above"), (0, .methodref 28 29), (0, .class_ 30), (0, .nameAndType 31 32), (0, u "java/lang/String"), (0, u "equals"), (0, u "(Ljava/lang/Object;)Z"), (0, .class_ 34), (0, u "io/floorbook/engine/LimitsPriceProblemPinLaw"), (2, u "law"), (0, u "(JI)Z")] 3

def k1m0 : Method := { name := "<init>", desc := "()V", sig := { parameters := [], returnType := none }, accessFlags := 1, code := none }
def k1c1 : Code := { maxStack := 6, maxLocals := 8, code := code, exceptionTable := #[], attributes := #[] }
def k1m1 : Method := { name := "law", desc := "(JI)Z", sig := { parameters := [.long, .int], returnType := some .boolean }, accessFlags := 9, code := some k1c1 }
/-- io/floorbook/engine/LimitsPriceProblemPinLaw -/
def k1 : Class := { plain "io/floorbook/engine/LimitsPriceProblemPinLaw" (some 0) with
  accessFlags := 49
  interfaces := #[]
  cf := some (fileOf pool1 33 #[] #[{ accessFlags := 1, nameIndex := 5, descriptorIndex := 6, attributes := #[] }, { accessFlags := 9, nameIndex := 37, descriptorIndex := 38, attributes := #[] }] 49 2 #[] #[])
  fields := #[]
  methods := #[k1m0, k1m1]
  instanceTypes := #[]
  staticTypes := #[]
  resolved := Array.replicate 42 none
  statics := none }

def pool2 : Array CpInfo := pool [(1, .class_ 2), (0, u "io/floorbook/engine/Limits"), (1, .class_ 6), (1, u "java/lang/Object"), (0, u "<init>"), (0, u "()V"), (2, u "ID_CHARACTERS"), (0, u "[J"), (8, u "NAME_CHARACTERS"), (24, .string 47), (0, u "must be above zero"), (0, .long 10000000), (1, .long 10), (1, .fieldref 1 53), (0, .nameAndType 54 55), (0, u "TICK_RULE"), (0, u "Ljava/lang/String;"), (27, u "(J)Ljava/lang/String;"), (1, u "MAX_ID_LENGTH"), (0, u "I"), (2, u "MAX_FLOOR_BROKER_NAME_LENGTH"), (1, u "ROUND_LOT"), (0, u "J"), (0, u "MAX_QUANTITY"), (0, u "TEN_CENT_STEPS_FROM"), (0, u "ID_RULE"), (0, u "FLOOR_BROKER_NAME_RULE"), (0, u "QUANTITY_RULE"), (0, u "COMMITMENT_RULE"), (0, u "DISPLAY_RULE"), (11, u "priceProblem")] 21

def k2m0 : Method := { name := "<init>", desc := "()V", sig := { parameters := [], returnType := none }, accessFlags := 2, code := none }
def k2c1 : Code := { maxStack := 4, maxLocals := 2, code := prog_21_method_8_code, exceptionTable := #[], attributes := #[] }
def k2m1 : Method := { name := "priceProblem", desc := "(J)Ljava/lang/String;", sig := { parameters := [.long], returnType := some (.object "java/lang/String") }, accessFlags := 9, code := some k2c1 }
/-- io/floorbook/engine/Limits -/
def k2 : Class := { plain "io/floorbook/engine/Limits" (some 0) with
  accessFlags := 49
  interfaces := #[]
  cf := some (fileOf pool2 1 #[] #[{ accessFlags := 2, nameIndex := 7, descriptorIndex := 8, attributes := #[] }, { accessFlags := 9, nameIndex := 111, descriptorIndex := 83, attributes := #[] }] 49 4 #[] #[{ accessFlags := 25, nameIndex := 85, descriptorIndex := 86, attributes := #[] }, { accessFlags := 25, nameIndex := 89, descriptorIndex := 86, attributes := #[] }, { accessFlags := 25, nameIndex := 91, descriptorIndex := 92, attributes := #[] }, { accessFlags := 25, nameIndex := 93, descriptorIndex := 92, attributes := #[] }, { accessFlags := 25, nameIndex := 94, descriptorIndex := 92, attributes := #[] }, { accessFlags := 26, nameIndex := 21, descriptorIndex := 12, attributes := #[] }, { accessFlags := 26, nameIndex := 11, descriptorIndex := 12, attributes := #[] }, { accessFlags := 26, nameIndex := 95, descriptorIndex := 55, attributes := #[] }, { accessFlags := 26, nameIndex := 96, descriptorIndex := 55, attributes := #[] }, { accessFlags := 26, nameIndex := 97, descriptorIndex := 55, attributes := #[] }, { accessFlags := 26, nameIndex := 98, descriptorIndex := 55, attributes := #[] }, { accessFlags := 26, nameIndex := 99, descriptorIndex := 55, attributes := #[] }, { accessFlags := 26, nameIndex := 54, descriptorIndex := 55, attributes := #[] }])
  fields := #[{ name := "MAX_ID_LENGTH", type := .int, accessFlags := 25, slot := 0, constantValue := 0 }, { name := "MAX_FLOOR_BROKER_NAME_LENGTH", type := .int, accessFlags := 25, slot := 1, constantValue := 0 }, { name := "ROUND_LOT", type := .long, accessFlags := 25, slot := 2, constantValue := 0 }, { name := "MAX_QUANTITY", type := .long, accessFlags := 25, slot := 3, constantValue := 0 }, { name := "TEN_CENT_STEPS_FROM", type := .long, accessFlags := 25, slot := 4, constantValue := 0 }, { name := "NAME_CHARACTERS", type := (.array .long), accessFlags := 26, slot := 5, constantValue := 0 }, { name := "ID_CHARACTERS", type := (.array .long), accessFlags := 26, slot := 6, constantValue := 0 }, { name := "ID_RULE", type := (.object "java/lang/String"), accessFlags := 26, slot := 7, constantValue := 0 }, { name := "FLOOR_BROKER_NAME_RULE", type := (.object "java/lang/String"), accessFlags := 26, slot := 8, constantValue := 0 }, { name := "QUANTITY_RULE", type := (.object "java/lang/String"), accessFlags := 26, slot := 9, constantValue := 0 }, { name := "COMMITMENT_RULE", type := (.object "java/lang/String"), accessFlags := 26, slot := 10, constantValue := 0 }, { name := "DISPLAY_RULE", type := (.object "java/lang/String"), accessFlags := 26, slot := 11, constantValue := 0 }, { name := "TICK_RULE", type := (.object "java/lang/String"), accessFlags := 26, slot := 12, constantValue := 0 }]
  methods := #[k2m0, k2m1]
  instanceTypes := #[]
  staticTypes := #[.int, .int, .long, .long, .long, (.array .long), (.array .long), (.object "java/lang/String"), (.object "java/lang/String"), (.object "java/lang/String"), (.object "java/lang/String"), (.object "java/lang/String"), (.object "java/lang/String")]
  resolved := Array.replicate 133 none
  statics := some 0 }

def pool3 : Array CpInfo := pool [(1, .class_ 2), (0, u "java/io/Serializable"), (0, .class_ 4), (0, u "java/lang/Object")] 2

/-- java/io/Serializable -/
def k3 : Class := { plain "java/io/Serializable" (some 0) with
  accessFlags := 1537
  interfaces := #[]
  cf := some (fileOf pool3 1 #[] #[] 1537 3 #[] #[])
  fields := #[]
  methods := #[]
  instanceTypes := #[]
  staticTypes := #[]
  resolved := Array.replicate 7 none
  statics := none }

def pool4 : Array CpInfo := pool [(1, .class_ 2), (0, u "java/lang/Comparable"), (0, .class_ 4), (0, u "java/lang/Object")] 7

/-- java/lang/Comparable -/
def k4 : Class := { plain "java/lang/Comparable" (some 0) with
  accessFlags := 1537
  interfaces := #[]
  cf := some (fileOf pool4 1 #[] #[] 1537 3 #[] #[])
  fields := #[]
  methods := #[]
  instanceTypes := #[]
  staticTypes := #[]
  resolved := Array.replicate 12 none
  statics := none }

def pool5 : Array CpInfo := pool [(2, .class_ 4), (1, u "java/lang/CharSequence"), (42, .class_ 48), (0, u "java/lang/CharSequence$1CodePointIterator"), (10, .class_ 60), (0, u "java/lang/CharSequence$1CharIterator"), (5, .class_ 67), (0, u "java/lang/Object")] 63

/-- java/lang/CharSequence -/
def k5 : Class := { plain "java/lang/CharSequence" (some 0) with
  accessFlags := 1537
  interfaces := #[]
  cf := some (fileOf pool5 2 #[.nestMembers #[47, 59]] #[] 1537 66 #[] #[])
  fields := #[]
  methods := #[]
  instanceTypes := #[]
  staticTypes := #[]
  resolved := Array.replicate 131 none
  statics := none }

def pool6 : Array CpInfo := pool [(1, .class_ 2), (0, u "java/lang/constant/Constable"), (0, .class_ 4), (0, u "java/lang/Object")] 6

/-- java/lang/constant/Constable -/
def k6 : Class := { plain "java/lang/constant/Constable" (some 0) with
  accessFlags := 1537
  interfaces := #[]
  cf := some (fileOf pool6 1 #[] #[] 1537 3 #[] #[])
  fields := #[]
  methods := #[]
  instanceTypes := #[]
  staticTypes := #[]
  resolved := Array.replicate 11 none
  statics := none }

def pool7 : Array CpInfo := pool [(1, .class_ 2), (0, u "java/lang/constant/ConstantDesc"), (0, .class_ 4), (0, u "java/lang/Object")] 32

/-- java/lang/constant/ConstantDesc -/
def k7 : Class := { plain "java/lang/constant/ConstantDesc" (some 0) with
  accessFlags := 1537
  interfaces := #[]
  cf := some (fileOf pool7 1 #[] #[] 1537 3 #[] #[])
  fields := #[]
  methods := #[]
  instanceTypes := #[]
  staticTypes := #[]
  resolved := Array.replicate 37 none
  statics := none }

def pool8 : Array CpInfo := pool [(2, .class_ 4), (1, u "java/lang/Object"), (0, u "<init>"), (0, u "()V"), (2, .fieldref 10 11), (0, .class_ 12), (0, .nameAndType 13 14), (0, u "java/lang/String"), (0, u "value"), (0, u "[B"), (0, .fieldref 10 16), (0, .nameAndType 17 18), (0, u "coder"), (0, u "B"), (2, u "hash"), (0, u "I"), (2, u "hashIsZero"), (0, u "Z"), (11, .fieldref 10 39), (0, .nameAndType 40 26), (0, u "COMPACT_STRINGS"), (66, .class_ 109), (1, u "java/lang/StringLatin1"), (431, .methodref 107 542), (0, .nameAndType 543 544), (0, u "equals"), (0, u "([B[B)Z"), (28, u "(Ljava/lang/Object;)Z"), (1, .class_ 576), (0, u "java/lang/CharSequence"), (22, u "CASE_INSENSITIVE_ORDER"), (0, u "Ljava/util/Comparator;"), (500, u "serialPersistentFields"), (0, u "[Ljava/io/ObjectStreamField;"), (0, .class_ 1104), (0, u "java/lang/String$CaseInsensitiveComparator"), (1, .class_ 1107), (0, u "java/io/Serializable"), (0, .class_ 1109), (0, u "java/lang/Comparable"), (0, .class_ 1111), (0, u "java/lang/constant/Constable"), (0, .class_ 1113), (0, u "java/lang/constant/ConstantDesc"), (2, u "serialVersionUID"), (0, u "J"), (3, u "REPL"), (0, u "C"), (2, u "LATIN1"), (1, u "UTF16")] 323

def k8m0 : Method := { name := "<init>", desc := "()V", sig := { parameters := [], returnType := none }, accessFlags := 1, code := none }
def k8c1 : Code := { maxStack := 2, maxLocals := 3, code := jdk_42_method_66_code, exceptionTable := #[], attributes := #[] }
def k8m1 : Method := { name := "equals", desc := "(Ljava/lang/Object;)Z", sig := { parameters := [(.object "java/lang/Object")], returnType := some .boolean }, accessFlags := 1, code := some k8c1 }
/-- java/lang/String -/
def k8 : Class := { plain "java/lang/String" (some 0) with
  accessFlags := 49
  interfaces := #[3, 4, 5, 6, 7]
  cf := some (fileOf pool8 10 #[.nestMembers #[1103]] #[{ accessFlags := 1, nameIndex := 5, descriptorIndex := 6, attributes := #[] }, { accessFlags := 1, nameIndex := 543, descriptorIndex := 573, attributes := #[] }] 49 2 #[1106, 1108, 575, 1110, 1112] #[{ accessFlags := 18, nameIndex := 13, descriptorIndex := 14, attributes := #[] }, { accessFlags := 18, nameIndex := 17, descriptorIndex := 18, attributes := #[] }, { accessFlags := 2, nameIndex := 21, descriptorIndex := 22, attributes := #[] }, { accessFlags := 2, nameIndex := 25, descriptorIndex := 26, attributes := #[] }, { accessFlags := 26, nameIndex := 1116, descriptorIndex := 1117, attributes := #[] }, { accessFlags := 24, nameIndex := 40, descriptorIndex := 26, attributes := #[] }, { accessFlags := 26, nameIndex := 1101, descriptorIndex := 1102, attributes := #[] }, { accessFlags := 26, nameIndex := 1121, descriptorIndex := 1122, attributes := #[] }, { accessFlags := 25, nameIndex := 599, descriptorIndex := 600, attributes := #[] }, { accessFlags := 24, nameIndex := 1125, descriptorIndex := 18, attributes := #[] }, { accessFlags := 24, nameIndex := 1127, descriptorIndex := 18, attributes := #[] }])
  fields := #[{ name := "value", type := (.array .byte), accessFlags := 18, slot := 0, constantValue := 0 }, { name := "coder", type := .byte, accessFlags := 18, slot := 1, constantValue := 0 }, { name := "hash", type := .int, accessFlags := 2, slot := 2, constantValue := 0 }, { name := "hashIsZero", type := .boolean, accessFlags := 2, slot := 3, constantValue := 0 }, { name := "serialVersionUID", type := .long, accessFlags := 26, slot := 0, constantValue := 0 }, { name := "COMPACT_STRINGS", type := .boolean, accessFlags := 24, slot := 1, constantValue := 0 }, { name := "serialPersistentFields", type := (.array (.object "java/io/ObjectStreamField")), accessFlags := 26, slot := 2, constantValue := 0 }, { name := "REPL", type := .char, accessFlags := 26, slot := 3, constantValue := 0 }, { name := "CASE_INSENSITIVE_ORDER", type := (.object "java/util/Comparator"), accessFlags := 25, slot := 4, constantValue := 0 }, { name := "LATIN1", type := .byte, accessFlags := 24, slot := 5, constantValue := 0 }, { name := "UTF16", type := .byte, accessFlags := 24, slot := 6, constantValue := 0 }]
  methods := #[k8m0, k8m1]
  instanceTypes := #[(.array .byte), .byte, .int, .boolean]
  staticTypes := #[.long, .boolean, (.array (.object "java/io/ObjectStreamField")), .char, (.object "java/util/Comparator"), .byte, .byte]
  resolved := Array.replicate 1451 none
  statics := some 1 }

def pool9 : Array CpInfo := pool [(4, .class_ 6), (1, u "java/lang/Object"), (0, u "<init>"), (0, u "()V"), (5, .class_ 16), (1, u "java/lang/StringLatin1"), (104, u "$assertionsDisabled"), (0, u "Z"), (98, .class_ 223), (1, u "java/lang/StringLatin1$LinesSpliterator"), (57, u "equals"), (0, u "([B[B)Z"), (107, .class_ 391), (0, u "java/lang/StringLatin1$CharsSpliterator")] 3

def k9m0 : Method := { name := "<init>", desc := "()V", sig := { parameters := [], returnType := none }, accessFlags := 0, code := none }
def k9c1 : Code := { maxStack := 3, maxLocals := 3, code := jdk_43_method_13_code, exceptionTable := #[], attributes := #[] }
def k9m1 : Method := { name := "equals", desc := "([B[B)Z", sig := { parameters := [(.array .byte), (.array .byte)], returnType := some .boolean }, accessFlags := 9, code := some k9c1 }
/-- java/lang/StringLatin1 -/
def k9 : Class := { plain "java/lang/StringLatin1" (some 0) with
  accessFlags := 48
  interfaces := #[]
  cf := some (fileOf pool9 14 #[.nestMembers #[390, 221]] #[{ accessFlags := 0, nameIndex := 7, descriptorIndex := 8, attributes := #[] }, { accessFlags := 9, nameIndex := 281, descriptorIndex := 282, attributes := #[] }] 48 4 #[] #[{ accessFlags := 4120, nameIndex := 121, descriptorIndex := 122, attributes := #[] }])
  fields := #[{ name := "$assertionsDisabled", type := .boolean, accessFlags := 4120, slot := 0, constantValue := 0 }]
  methods := #[k9m0, k9m1]
  instanceTypes := #[]
  staticTypes := #[.boolean]
  resolved := Array.replicate 395 none
  statics := none }

def pool10 : Array CpInfo := pool [(2, .class_ 4), (1, u "java/lang/Object"), (0, u "<init>"), (0, u "()V"), (17, .class_ 26), (1, u "jdk/internal/util/Preconditions"), (28, .class_ 56), (0, u "jdk/internal/util/Preconditions$4"), (57, .class_ 115), (0, u "jdk/internal/util/Preconditions$1"), (7, u "SIOOBE_FORMATTER"), (0, u "Ljava/util/function/BiFunction;"), (0, .class_ 126), (0, u "jdk/internal/util/Preconditions$2"), (3, u "AIOOBE_FORMATTER"), (0, .class_ 132), (0, u "jdk/internal/util/Preconditions$3"), (3, u "IOOBE_FORMATTER")] 57

def k10m0 : Method := { name := "<init>", desc := "()V", sig := { parameters := [], returnType := none }, accessFlags := 1, code := none }
/-- jdk/internal/util/Preconditions -/
def k10 : Class := { plain "jdk/internal/util/Preconditions" (some 0) with
  accessFlags := 33
  interfaces := #[]
  cf := some (fileOf pool10 24 #[.nestMembers #[55, 131, 125, 114]] #[{ accessFlags := 1, nameIndex := 5, descriptorIndex := 6, attributes := #[] }] 33 2 #[] #[{ accessFlags := 25, nameIndex := 123, descriptorIndex := 124, attributes := #[] }, { accessFlags := 25, nameIndex := 130, descriptorIndex := 124, attributes := #[] }, { accessFlags := 25, nameIndex := 136, descriptorIndex := 124, attributes := #[] }])
  fields := #[{ name := "SIOOBE_FORMATTER", type := (.object "java/util/function/BiFunction"), accessFlags := 25, slot := 0, constantValue := 0 }, { name := "AIOOBE_FORMATTER", type := (.object "java/util/function/BiFunction"), accessFlags := 25, slot := 1, constantValue := 0 }, { name := "IOOBE_FORMATTER", type := (.object "java/util/function/BiFunction"), accessFlags := 25, slot := 2, constantValue := 0 }]
  methods := #[k10m0]
  instanceTypes := #[]
  staticTypes := #[(.object "java/util/function/BiFunction"), (.object "java/util/function/BiFunction"), (.object "java/util/function/BiFunction")]
  resolved := Array.replicate 194 none
  statics := some 2 }

def pool11 : Array CpInfo := pool [(9, u "<init>"), (6, .class_ 18), (1, u "java/lang/Object"), (0, u "()V"), (1, .class_ 23), (1, u "jdk/internal/util/ArraysSupport"), (0, u "LOG2_ARRAY_LONG_INDEX_SCALE"), (0, u "I"), (2, u "U"), (0, u "Ljdk/internal/misc/Unsafe;"), (8, u "BIG_ENDIAN"), (0, u "Z"), (8, u "LOG2_BYTE_BIT_SIZE"), (4, u "LOG2_ARRAY_INT_INDEX_SCALE"), (54, u "JLA"), (0, u "Ljdk/internal/access/JavaLangAccess;"), (11, u "LOG2_ARRAY_BOOLEAN_INDEX_SCALE"), (9, u "LOG2_ARRAY_BYTE_INDEX_SCALE"), (5, u "LOG2_ARRAY_CHAR_INDEX_SCALE"), (5, u "LOG2_ARRAY_SHORT_INDEX_SCALE"), (18, u "LOG2_ARRAY_FLOAT_INDEX_SCALE"), (24, u "LOG2_ARRAY_DOUBLE_INDEX_SCALE"), (89, u "T_BOOLEAN"), (2, u "T_CHAR"), (1, u "T_FLOAT"), (1, u "T_DOUBLE"), (1, u "T_BYTE"), (1, u "T_SHORT"), (1, u "T_INT"), (1, u "T_LONG"), (1, u "SOFT_MAX_ARRAY_LENGTH")] 83

def k11m0 : Method := { name := "<init>", desc := "()V", sig := { parameters := [], returnType := none }, accessFlags := 2, code := none }
/-- jdk/internal/util/ArraysSupport -/
def k11 : Class := { plain "jdk/internal/util/ArraysSupport" (some 0) with
  accessFlags := 33
  interfaces := #[]
  cf := some (fileOf pool11 21 #[] #[{ accessFlags := 2, nameIndex := 9, descriptorIndex := 19, attributes := #[] }] 33 16 #[] #[{ accessFlags := 24, nameIndex := 28, descriptorIndex := 29, attributes := #[] }, { accessFlags := 26, nameIndex := 38, descriptorIndex := 39, attributes := #[] }, { accessFlags := 25, nameIndex := 121, descriptorIndex := 25, attributes := #[] }, { accessFlags := 25, nameIndex := 131, descriptorIndex := 25, attributes := #[] }, { accessFlags := 25, nameIndex := 137, descriptorIndex := 25, attributes := #[] }, { accessFlags := 25, nameIndex := 143, descriptorIndex := 25, attributes := #[] }, { accessFlags := 25, nameIndex := 53, descriptorIndex := 25, attributes := #[] }, { accessFlags := 25, nameIndex := 24, descriptorIndex := 25, attributes := #[] }, { accessFlags := 25, nameIndex := 162, descriptorIndex := 25, attributes := #[] }, { accessFlags := 25, nameIndex := 187, descriptorIndex := 25, attributes := #[] }, { accessFlags := 26, nameIndex := 48, descriptorIndex := 25, attributes := #[] }, { accessFlags := 25, nameIndex := 277, descriptorIndex := 25, attributes := #[] }, { accessFlags := 25, nameIndex := 280, descriptorIndex := 25, attributes := #[] }, { accessFlags := 25, nameIndex := 282, descriptorIndex := 25, attributes := #[] }, { accessFlags := 25, nameIndex := 284, descriptorIndex := 25, attributes := #[] }, { accessFlags := 25, nameIndex := 286, descriptorIndex := 25, attributes := #[] }, { accessFlags := 25, nameIndex := 288, descriptorIndex := 25, attributes := #[] }, { accessFlags := 25, nameIndex := 290, descriptorIndex := 25, attributes := #[] }, { accessFlags := 25, nameIndex := 292, descriptorIndex := 25, attributes := #[] }, { accessFlags := 26, nameIndex := 108, descriptorIndex := 109, attributes := #[] }, { accessFlags := 25, nameIndex := 294, descriptorIndex := 25, attributes := #[] }])
  fields := #[{ name := "U", type := (.object "jdk/internal/misc/Unsafe"), accessFlags := 24, slot := 0, constantValue := 0 }, { name := "BIG_ENDIAN", type := .boolean, accessFlags := 26, slot := 1, constantValue := 0 }, { name := "LOG2_ARRAY_BOOLEAN_INDEX_SCALE", type := .int, accessFlags := 25, slot := 2, constantValue := 0 }, { name := "LOG2_ARRAY_BYTE_INDEX_SCALE", type := .int, accessFlags := 25, slot := 3, constantValue := 0 }, { name := "LOG2_ARRAY_CHAR_INDEX_SCALE", type := .int, accessFlags := 25, slot := 4, constantValue := 0 }, { name := "LOG2_ARRAY_SHORT_INDEX_SCALE", type := .int, accessFlags := 25, slot := 5, constantValue := 0 }, { name := "LOG2_ARRAY_INT_INDEX_SCALE", type := .int, accessFlags := 25, slot := 6, constantValue := 0 }, { name := "LOG2_ARRAY_LONG_INDEX_SCALE", type := .int, accessFlags := 25, slot := 7, constantValue := 0 }, { name := "LOG2_ARRAY_FLOAT_INDEX_SCALE", type := .int, accessFlags := 25, slot := 8, constantValue := 0 }, { name := "LOG2_ARRAY_DOUBLE_INDEX_SCALE", type := .int, accessFlags := 25, slot := 9, constantValue := 0 }, { name := "LOG2_BYTE_BIT_SIZE", type := .int, accessFlags := 26, slot := 10, constantValue := 0 }, { name := "T_BOOLEAN", type := .int, accessFlags := 25, slot := 11, constantValue := 0 }, { name := "T_CHAR", type := .int, accessFlags := 25, slot := 12, constantValue := 0 }, { name := "T_FLOAT", type := .int, accessFlags := 25, slot := 13, constantValue := 0 }, { name := "T_DOUBLE", type := .int, accessFlags := 25, slot := 14, constantValue := 0 }, { name := "T_BYTE", type := .int, accessFlags := 25, slot := 15, constantValue := 0 }, { name := "T_SHORT", type := .int, accessFlags := 25, slot := 16, constantValue := 0 }, { name := "T_INT", type := .int, accessFlags := 25, slot := 17, constantValue := 0 }, { name := "T_LONG", type := .int, accessFlags := 25, slot := 18, constantValue := 0 }, { name := "JLA", type := (.object "jdk/internal/access/JavaLangAccess"), accessFlags := 26, slot := 19, constantValue := 0 }, { name := "SOFT_MAX_ARRAY_LENGTH", type := .int, accessFlags := 25, slot := 20, constantValue := 0 }]
  methods := #[k11m0]
  instanceTypes := #[]
  staticTypes := #[(.object "jdk/internal/misc/Unsafe"), .boolean, .int, .int, .int, .int, .int, .int, .int, .int, .int, .int, .int, .int, .int, .int, .int, .int, .int, (.object "jdk/internal/access/JavaLangAccess"), .int]
  resolved := Array.replicate 378 none
  statics := none }

def pool12 : Array CpInfo := pool [(1, u "java/lang/Cloneable"), (0, .class_ 1), (0, u "java/lang/Object"), (0, .class_ 3)] 3

/-- java/lang/Cloneable -/
def k12 : Class := { plain "java/lang/Cloneable" (some 0) with
  accessFlags := 1537
  interfaces := #[]
  cf := some (fileOf pool12 2 #[] #[] 1537 4 #[] #[])
  fields := #[]
  methods := #[]
  instanceTypes := #[]
  staticTypes := #[]
  resolved := Array.replicate 8 none
  statics := none }

/-- the primitive byte -/
def k13 : Class := { plain "byte" none with kind := .primitive 'B', accessFlags := 0x411 }
/-- [B -/
def k14 : Class := { plain "[B" (some 0) with kind := .array 13 .byte, interfaces := #[12, 3], accessFlags := 1041 }

/-- the primitive int -/
def k15 : Class := { plain "int" none with kind := .primitive 'I', accessFlags := 0x411 }
/-- [I -/
def k16 : Class := { plain "[I" (some 0) with kind := .array 15 .int, interfaces := #[12, 3], accessFlags := 1041 }

def heap : Heap := #[{ cls := 2, slots := #[.int 0, .int 0, .long 0, .long 0, .long 0, .null, .null, .null, .null, .null, .null, .null, .ref 4], vm := .statics 2 },
  { cls := 8, slots := #[.long 0, .int 1, .null, .int 0, .null, .int 0, .int 0], vm := .statics 8 },
  { cls := 10, slots := #[.null, .null, .null], vm := .statics 10 },
  { cls := 14, slots := #[.int 109, .int 117, .int 115, .int 116, .int 32, .int 98, .int 101, .int 32, .int 105, .int 110, .int 32, .int 119, .int 104, .int 111, .int 108, .int 101, .int 32, .int 116, .int 101, .int 110, .int 32, .int 99, .int 101, .int 110, .int 116, .int 115, .int 32, .int 97, .int 116, .int 32, .int 49, .int 48, .int 48, .int 48, .int 48, .int 48, .int 46, .int 48, .int 48, .int 32, .int 97, .int 110, .int 100, .int 32, .int 97, .int 98, .int 111, .int 118, .int 101], vm := .none },
  { cls := 8, slots := #[.ref 3, .int 0, .int 0, .int 0], vm := .none }]
def classes : Array Class := #[k0, k1, k2, k3, k4, k5, k6, k7, k8, k9, k10, k11, k12, k13, k14, k15, k16]
def interned : List (Array UInt16 × Addr) := []
def slotsUsed : Nat := 76
def theMethod : MethodId := ⟨1, 1⟩
def args0 : Array Value := #[.long 5, .int 7]
def aboutOver (below : List Frame) : State where
  vm := { classes := classes, interned := interned.toArray }
  heap := heap
  slotsUsed := slotsUsed
  threads := #[{ frames := .invoking theMethod args0 :: below }]
def below0 : List Frame := [.native { method := ⟨0, 0⟩, args := #[] }]
def about1 : State := aboutOver below0
def p0 : Program := .bare "" "" ""
def e0 : Env := launch0.env 0 0 0
theorem w_frames : about1.frames = Frame.invoking theMethod args0 :: below0 := rfl
set_option maxRecDepth 65536 in
theorem w_args : argsFit about1.vm theMethod args0 = true := by decide +kernel
set_option maxRecDepth 65536 in
theorem w_heap : heapFits about1 = true := by decide +kernel
set_option maxRecDepth 65536 in
theorem w_runnable : about1.curStatus? = some .runnable := by decide +kernel
set_option maxRecDepth 65536 in
theorem w_alone : about1.alone = true := by decide +kernel
set_option maxRecDepth 65536 in
theorem w_named : about1.methodNamed? x = some theMethod := by decide +kernel
set_option maxRecDepth 65536 in
theorem w_hears : about1.hears theMethod below0 = true := by decide +kernel
set_option maxRecDepth 65536 in
theorem w_ripe : about1.ripe theMethod args0 below0 = true := by decide +kernel
theorem w_running : about1.status = .running := rfl
set_option maxRecDepth 65536 in
theorem w_room : about1.hasRoom e0.platform room_1 = true :=
  launch0.hasRoom_least _ room_1 (by decide +kernel) (by decide +kernel) (by decide +kernel) (by decide +kernel) (by decide +kernel) (by decide +kernel)
theorem allAtoms_all (ts : List Jvm.Cond) (a : Array Jvm.Value) (st : Jvm.State) : (allAtoms ts).before a st = ts.all (fun c => c.before a st) := by
  induction ts with
  | nil => rfl
  | cons c t ih =>
    show (Jvm.Cond.and c (allAtoms t)).before a st = _
    rw [Jvm.Cond.before_and, ih, List.all_cons]
def words1 : List Jvm.Cond := Jvm.Cond.code x code maxLocals ret :: tables_1
/-- a 'code' word, met by the world's own term for the bytes: nothing is compared byte by byte -/
theorem code_word {y : MethodName} {bytes : ByteArray} {mx : Nat} {rt : Option FieldType} {a : Array Value} {s : State} {m : MethodId} {meth : Method} {c : Code} (h1 : s.methodNamed? y = some m) (h2 : s.vm.method? m = some meth) (h3 : meth.code = some c) (h4 : c.code = bytes)
    (h5 : (c.maxLocals == mx && c.exceptionTable.isEmpty && decide (c.maxStack ≤ mostOperands) && decide (meth.sig.returnType = rt) && !meth.locks && decide (parseMethodDescriptor y.desc = some meth.sig)) = true) : (Jvm.Cond.code y bytes mx rt).before a s = true := by
  simp only [Bool.and_eq_true, beq_iff_eq, Bool.not_eq_true', decide_eq_true_eq] at h5
  obtain ⟨⟨⟨⟨⟨g1, g2⟩, g3⟩, g4⟩, g5⟩, g6⟩ := h5
  simp [Cond.before, Cond.holds, Cond.value, h1, h2, h3, h4, g1, g2, g3, g4, g5, g6]
def isCode : Jvm.Cond → Bool
  | .code _ _ _ _ => true
  | _ => false
theorem all_split {L : List Jvm.Cond} {P : Jvm.Cond → Bool} (h1 : L.all (fun c => isCode c || P c) = true) (h2 : ∀ c ∈ L.filter isCode, P c = true) : L.all P = true := by
  refine List.all_eq_true.mpr fun c hc => ?_
  have h := List.all_eq_true.mp h1 c hc
  rcases Bool.eq_false_or_eq_true (isCode c) with hi | hi
  · exact h2 c (List.mem_filter.mpr ⟨hc, hi⟩)
  · simpa [hi] using h
set_option maxRecDepth 65536 in
theorem w_c0 : (Jvm.Cond.code x code maxLocals ret).before args0 about1 = true := code_word (m := ⟨1, 1⟩) (meth := k1m1) (c := k1c1) (by decide +kernel) rfl rfl rfl (by decide +kernel)
set_option maxRecDepth 65536 in
theorem w_c1 : (Jvm.Cond.code ({ cls := "io/floorbook/engine/Limits", name := "priceProblem", desc := "(J)Ljava/lang/String;" } : Jvm.MethodName) prog_21_method_8_code (2 : Nat) (Option.some (Jvm.ClassFile.FieldType.object "java/lang/String"))).before args0 about1 = true := code_word (m := ⟨2, 1⟩) (meth := k2m1) (c := k2c1) (by decide +kernel) rfl rfl rfl (by decide +kernel)
set_option maxRecDepth 65536 in
theorem w_c2 : (Jvm.Cond.code ({ cls := "java/lang/String", name := "equals", desc := "(Ljava/lang/Object;)Z" } : Jvm.MethodName) jdk_42_method_66_code (3 : Nat) (Option.some Jvm.ClassFile.FieldType.boolean)).before args0 about1 = true := code_word (m := ⟨8, 1⟩) (meth := k8m1) (c := k8c1) (by decide +kernel) rfl rfl rfl (by decide +kernel)
set_option maxRecDepth 65536 in
theorem w_c3 : (Jvm.Cond.code ({ cls := "java/lang/StringLatin1", name := "equals", desc := "([B[B)Z" } : Jvm.MethodName) jdk_43_method_13_code (3 : Nat) (Option.some Jvm.ClassFile.FieldType.boolean)).before args0 about1 = true := code_word (m := ⟨9, 1⟩) (meth := k9m1) (c := k9c1) (by decide +kernel) rfl rfl rfl (by decide +kernel)
def codes1 : List Jvm.Cond := [Jvm.Cond.code x code maxLocals ret, Jvm.Cond.code ({ cls := "io/floorbook/engine/Limits", name := "priceProblem", desc := "(J)Ljava/lang/String;" } : Jvm.MethodName) prog_21_method_8_code (2 : Nat) (Option.some (Jvm.ClassFile.FieldType.object "java/lang/String")), Jvm.Cond.code ({ cls := "java/lang/String", name := "equals", desc := "(Ljava/lang/Object;)Z" } : Jvm.MethodName) jdk_42_method_66_code (3 : Nat) (Option.some Jvm.ClassFile.FieldType.boolean), Jvm.Cond.code ({ cls := "java/lang/StringLatin1", name := "equals", desc := "([B[B)Z" } : Jvm.MethodName) jdk_43_method_13_code (3 : Nat) (Option.some Jvm.ClassFile.FieldType.boolean)]
set_option maxRecDepth 65536 in
theorem codes_eq : words1.filter isCode = codes1 := rfl
theorem w_codes : ∀ c ∈ words1.filter isCode, c.before args0 about1 = true := by
  rw [codes_eq]
  intro c hc
  simp only [codes1, List.mem_cons, List.not_mem_nil, or_false] at hc
  rcases hc with rfl | rfl | rfl | rfl
  · exact w_c0
  · exact w_c1
  · exact w_c2
  · exact w_c3
set_option maxRecDepth 65536 in
theorem w_t1 : (words1.take 24).all (fun c => isCode c || c.before args0 about1) = true := by decide +kernel
set_option maxRecDepth 65536 in
theorem w_t2 : (words1.drop 24).all (fun c => isCode c || c.before args0 about1) = true := by decide +kernel
theorem w_tables : (allAtoms (Jvm.Cond.code x code maxLocals ret :: tables_1)).before args0 about1 = true := by
  rw [allAtoms_all]
  show words1.all (fun c => c.before args0 about1) = true
  refine all_split ?_ w_codes
  rw [← List.take_append_drop 24 words1, List.all_append, w_t1, w_t2]
  rfl
set_option maxRecDepth 65536 in
theorem w_rest : rest_1_c.before args0 about1 = true := by decide +kernel
set_option maxRecDepth 65536 in
theorem w_case : (Jvm.Cond.and given_1 narrow_1).before args0 about1 = true := by decide +kernel
set_option maxRecDepth 65536 in
theorem w_consts : constsHeld consts_1 about1 := Jvm.Lit.constsHeldB_iff.mp (by decide +kernel)
theorem w_applies : (headSpec (Jvm.Cond.code x code maxLocals ret :: tables_1) room_1).applies x e0.platform about1 = true :=
  (Spec.applies_iff w_frames).mpr ⟨w_running, w_runnable, w_alone, w_named, w_hears, w_ripe, w_room, w_tables⟩
theorem atStart : AtStart classFile x code maxLocals ret World_1 tables_1 room_1 Calls_1 rest_1 Pre_1 launch0 p0 e0 about1 theMethod args0 below0 :=
  ⟨lists_1, trivial, launch0.admits_env _ _ _, launch0.least_env, fairChoices_fair.cas, fairChoices_fair.clock, w_frames, w_args, w_heap, w_applies, ⟨w_consts, trivial⟩, w_rest, w_case⟩
end start1
theorem witness_1 : WitnessClaimed_1 := ⟨start1.p0, start1.e0, start1.about1, start1.theMethod, start1.args0, start1.below0, start1.atStart⟩
end Jvm.Pilot.@@N@@
