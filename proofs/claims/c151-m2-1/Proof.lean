import JvmDerived
import JvmDerived.Pilot.@@N@@Statement
import JvmDerived.Pilot.@@N@@Code
set_option linter.unusedVariables false
set_option linter.unusedSimpArgs false
@@BLOCK:NumsL.lean.txt@@
namespace Jvm.RoadKit
open Sem ClassFile Op Lib Jvm.Stand Jvm.Free Jvm.LawKit
section New
variable {p : Program} {l : Launch} {e : Env} {R : Room} {s : State} {m : MethodId} {args : Array Value} {below : List Frame} {meth : Method} {c : Code} {T : State} {locs : List Loc} {cells slots : Nat}
theorem retI (X : Stand p l e R s m args below meth c T locs cells slots) (hx : p.tables.exec = Jvm.exec) {pc : Nat} {Ls : Array Slot} {z : Int32} {rest : List Value} (hret : meth.sig.returnType = some .int) (hd : decode c.code pc = .ok (.ireturn, 1)) {fs : List Frame}
    (hl : ∀ (f : JFrame) (acts : List Action), f.method = m → f.locked = none → f.entered = [] → (doReturn e (T.setTop f) acts (some (.int z))).1 = T.setFrames fs) : Steps p.tables e below (T.setTop (mkF m pc Ls (.int z :: rest))) (T.setFrames fs) := by
  have hm' : T.vm.method? m = some meth := X.method'
  have hn : narrow .int (.int z) = .int z := rfl
  show Steps p.tables e below (T.setTop { method := m, pc := pc, locals := Ls, stack := _ :: rest, locked := none }) _
  jvm_step X.here [X.here.top, hx, hd, hm', hret, hn]
  first | (intro acts; rw [hl _ acts rfl rfl rfl]) | rw [hl _ _ rfl rfl rfl]
  exact Steps.refl _
end New
end Jvm.RoadKit
namespace Jvm.Pilot.@@N@@
open Jvm Jvm.ClassFile Sem Op Lib Jvm.Free Jvm.Stand Jvm.LawKit Jvm.RoadKit Bundle Jvm.Pilot.@@N@@.Jvm.D
/-- from here the run comes to an end of which G holds -/
def Go (tb : Tables) (e : Env) (below : List Frame) (G : State → Outcome → Prop) (U : State) : Prop := ∃ t o, Steps tb e below U t ∧ G t o
theorem Go.st {tb : Tables} {e : Env} {below : List Frame} {G : State → Outcome → Prop} {U U' : State} (h : ∀ t, Steps tb e below U' t → Steps tb e below U t) (k : Go tb e below G U') : Go tb e below G U :=
  let ⟨t, o, a, b⟩ := k
  ⟨t, o, h t a, b⟩
theorem Go.start {tb : Tables} {e : Env} {below : List Frame} {G0 : State → Outcome → Prop} {U : State} (h : ∀ G, G = G0 → Go tb e below G U) : Go tb e below G0 U := h _ rfl
theorem Go.join {tb : Tables} {e : Env} {below : List Frame} {G : State → Outcome → Prop} {U : State} {α : Type} {F : α → State} (k : ∀ z, Go tb e below G (F z)) (h : (∀ z, Go tb e below G (F z)) → Go tb e below G U) : Go tb e below G U := h k
theorem Go.joinR {tb : Tables} {e : Env} {below : List Frame} {G : State → Outcome → Prop} {U : State} {α : Type} {F : α → State} {R : α → Prop} (k : ∀ z, R z → Go tb e below G (F z)) (h : (∀ z, R z → Go tb e below G (F z)) → Go tb e below G U) : Go tb e below G U := h k
theorem own_stakeep {Z : State} {h h' : Heap} {C n d : String} {v : Value} (F : Sta Z h C n d v) (K : Keep h h' []) : Sta Z h' C n d v := F.ext ⟨K.1, fun a c q => K.2.1 a c q List.not_mem_nil⟩
theorem own_stakeepW {Z : State} {h h' : Heap} {ws : List Addr} {C n d : String} {v : Value} (F : Sta Z h C n d v) (K : Keep h h' ws) (q : ∀ x ∈ ws, ∀ c : Cell, h[x]? = some c → c.vm.isStatics = false) : Sta Z h' C n d v := by
  obtain ⟨cf, i, k, f, st, cell, t1, t2, t3, t4, t5, t6, t7⟩ := F
  exact ⟨cf, i, k, f, st, cell, t1, t2, t3, t4, K.2.1 st cell t5 (fun hm => by rw [q st hm cell t5] at t6; cases t6), t6, t7⟩
theorem own_lrem {tb : Tables} {e : Env} {below : List Frame} {T target : State} {g : JFrame} {n : Nat} {x y : Int64} {rest : List Value} (k : Steps tb e below (T.setTop { g with pc := n, stack := .long (x % y) :: rest }) target) :
    Steps tb e below (T.setTop { g with pc := n, stack := .long (x - (x / y) * y) :: rest }) target := by
  rw [lrem_mod]
  exact k
theorem i64_addc (x y : Int64) : (x + y).toInt = x.toInt + y.toInt ∧ -2 ^ 63 ≤ x.toInt + y.toInt ∧ x.toInt + y.toInt < 2 ^ 63 ∨ (x + y).toInt = x.toInt + y.toInt - 2 ^ 64 ∧ 2 ^ 63 ≤ x.toInt + y.toInt ∨ (x + y).toInt = x.toInt + y.toInt + 2 ^ 64 ∧ x.toInt + y.toInt < -2 ^ 63 := by
  have h := Int64.toInt_add x y
  have a1 := Int64.le_toInt x
  have a2 := Int64.toInt_lt x
  have b1 := Int64.le_toInt y
  have b2 := Int64.toInt_lt y
  rw [Int.bmod_def] at h
  split at h <;> omega
theorem i64_subc (x y : Int64) : (x - y).toInt = x.toInt - y.toInt ∧ -2 ^ 63 ≤ x.toInt - y.toInt ∧ x.toInt - y.toInt < 2 ^ 63 ∨ (x - y).toInt = x.toInt - y.toInt - 2 ^ 64 ∧ 2 ^ 63 ≤ x.toInt - y.toInt ∨ (x - y).toInt = x.toInt - y.toInt + 2 ^ 64 ∧ x.toInt - y.toInt < -2 ^ 63 := by
  have h := Int64.toInt_sub x y
  have a1 := Int64.le_toInt x
  have a2 := Int64.toInt_lt x
  have b1 := Int64.le_toInt y
  have b2 := Int64.toInt_lt y
  rw [Int.bmod_def] at h
  split at h <;> omega
theorem i32_i2c (x : Int32) : (x.toUInt32.toUInt16.toUInt32.toInt32).toInt = x.toInt % 65536 := by
  have h1 : (x.toUInt32.toUInt16.toUInt32.toInt32).toInt = ((x.toUInt32.toUInt16.toUInt32).toNat : Int).bmod (2 ^ 32) := by
    rw [← Int32.toInt_toBitVec, BitVec.toInt_eq_toNat_bmod]; rfl
  have h2 : (x.toUInt32.toUInt16.toUInt32).toNat = x.toBitVec.toNat % 65536 := by
    simp [UInt32.toNat_toUInt16, UInt16.toNat_toUInt32]; rfl
  have h3 : x.toInt = (x.toBitVec.toNat : Int).bmod (2 ^ 32) := by
    rw [← Int32.toInt_toBitVec, BitVec.toInt_eq_toNat_bmod]
  have h4 := x.toBitVec.isLt
  rw [h1, h2, h3, Int.bmod_def, Int.bmod_def]
  split <;> split <;> omega
theorem i32_addc (x y : Int32) : (x + y).toInt = x.toInt + y.toInt ∧ -2 ^ 31 ≤ x.toInt + y.toInt ∧ x.toInt + y.toInt < 2 ^ 31 ∨ (x + y).toInt = x.toInt + y.toInt - 2 ^ 32 ∧ 2 ^ 31 ≤ x.toInt + y.toInt ∨ (x + y).toInt = x.toInt + y.toInt + 2 ^ 32 ∧ x.toInt + y.toInt < -2 ^ 31 := by
  have h := Int32.toInt_add x y
  have a1 := Int32.le_toInt x
  have a2 := Int32.toInt_lt x
  have b1 := Int32.le_toInt y
  have b2 := Int32.toInt_lt y
  rw [Int.bmod_def] at h
  split at h <;> omega
theorem i32_subc (x y : Int32) : (x - y).toInt = x.toInt - y.toInt ∧ -2 ^ 31 ≤ x.toInt - y.toInt ∧ x.toInt - y.toInt < 2 ^ 31 ∨ (x - y).toInt = x.toInt - y.toInt - 2 ^ 32 ∧ 2 ^ 31 ≤ x.toInt - y.toInt ∨ (x - y).toInt = x.toInt - y.toInt + 2 ^ 32 ∧ x.toInt - y.toInt < -2 ^ 31 := by
  have h := Int32.toInt_sub x y
  have a1 := Int32.le_toInt x
  have a2 := Int32.toInt_lt x
  have b1 := Int32.le_toInt y
  have b2 := Int32.toInt_lt y
  rw [Int.bmod_def] at h
  split at h <;> omega
theorem own_eq32 {a b : Int32} (h : a.toInt = b.toInt) : a = b := Int32.toInt_inj.mp h
theorem own_eq64 {a b : Int64} (h : a.toInt = b.toInt) : a = b := Int64.toInt_inj.mp h
theorem own_lt64 {a b : Int64} (h : a.toInt < b.toInt) : a < b := Int64.lt_iff_toInt_lt.mpr h
theorem own_lt32 {a b : Int32} (h : a.toInt < b.toInt) : a < b := Int32.lt_iff_toInt_lt.mpr h
theorem own_nlt64 {a b : Int64} (h : b.toInt ≤ a.toInt) : ¬ a < b := fun z => by have := Int64.lt_iff_toInt_lt.mp z; omega
theorem own_nlt32 {a b : Int32} (h : b.toInt ≤ a.toInt) : ¬ a < b := fun z => by have := Int32.lt_iff_toInt_lt.mp z; omega
theorem own_ne32 {a b : Int32} (h : a.toInt ≠ b.toInt) : ¬ a = b := fun z => h (by rw [z])
theorem own_ne64 {a b : Int64} (h : a.toInt ≠ b.toInt) : ¬ a = b := fun z => h (by rw [z])
theorem ow {Z : State} {a0 : Array Value} (hw : ∀ d ∈ tables_1, d.before a0 Z = true) (i : Nat) {d : Jvm.Cond} (h : tables_1[i]? = some d) : d.before a0 Z = true := hw d (List.mem_of_getElem? h)
theorem oz_ {n : Nat} {h h' : Heap} {a : Addr} {sl : Nat} {v : Value} (z : n ≤ h.size) (W : Wr h h' a sl v) : n ≤ h'.size := Nat.le_trans z (Nat.le_of_eq W.size.symm)
theorem nm_ {α : Type} {a : α} : ¬ a ∈ ([] : List α) := List.not_mem_nil
theorem nn_ {α : Type} {a : α} {C : Prop} (h : a ∈ ([] : List α)) : C := absurd h List.not_mem_nil
theorem on_ {a x n : Nat} (h : a < n) (g : x = n) : a ≠ x := by omega
theorem om_ {a x n : Nat} (h : a < n) (g : n ≤ x) : a ≠ x := by omega
theorem own_strAtoms : ∀ a ∈ Bundle.stringAtoms, a ∈ tables_1 := by decide +kernel
section OwnCls
variable {p : Program} {l : Launch} {e : Env} {R : Room} {s : State} {m : MethodId} {args : Array Value} {below : List Frame} {meth : Method} {c : Code} {T : State} {locs : List Loc} {cells slots : Nat} {Z : State} {a0 : Array Value} {h : Heap}
/-- what has no superclass is no subclass of another -/
theorem own_nsroot {O K : String} {t : ClassId} (w : (Jvm.Cond.noSuperclass O).before a0 Z = true) (g1 : Z.vm.findClass K = some t) (hn : O ≠ K) : NS Z O K := by
  obtain ⟨c, k, h1, h2, h3, -⟩ := Cond.noSuperclass_spec w
  have hct : (c == t) = false := beq_false_of_ne (ids_ne h1 g1 hn)
  have go : ∀ n, Z.vm.isSubclassAux n c t = false := fun n => match n with
    | 0 => rfl
    | _ + 1 => by rw [Vm.isSubclassAux, hct, h2]; dsimp only; rw [h3]; rfl
  exact ⟨c, t, h1, g1, go⟩
/-- an ordinary class is not assignable to a class that is no interface and none of its superclasses -/
theorem own_noassign {vm : Vm} {c t : ClassId} {kc kt : Class} (h1 : vm.classes[c]? = some kc) (h2 : vm.classes[t]? = some kt) (hk : kc.kind = .ordinary) (hi : kt.isInterface = false) (hne : c ≠ t) (hs : vm.isSubclass c t = false) : vm.assignable c t = false := by
  have hct : (c == t) = false := beq_false_of_ne hne
  unfold Vm.assignable
  rw [Vm.assignableAux, hct, h1, h2]
  rcases kt with ⟨⟩
  rename_i kd
  simp_all
  split <;> simp_all
theorem own_nsno {C S K : String} {t : ClassId} {kt : Class} (w : (Jvm.Cond.superclass C S).before a0 Z = true) (g1 : Z.vm.findClass K = some t) (g2 : Z.vm.classes[t]? = some kt) (g3 : kt.isInterface = false) (n : NS Z C K) (hn : C ≠ K) : ∃ c t, Z.vm.findClass C = some c ∧ Z.vm.findClass K = some t ∧ Z.vm.assignable c t = false := by
  obtain ⟨c, t', f1, f2, sub⟩ := n
  obtain rfl : t = t' := Option.some.inj (g1.symm.trans f2)
  obtain ⟨-, kc, -, -, o1, -, -, o2, -⟩ := Cond.superclass_spec f1 w
  exact ⟨c, t, f1, f2, own_noassign o1 g2 o2 g3 (ids_ne f1 f2 hn) (sub _)⟩
theorem own_kinst {K : String} {n : Nat} (w : (Jvm.Cond.instantiable K n).before a0 Z = true) : ∃ t kt, Z.vm.findClass K = some t ∧ Z.vm.classes[t]? = some kt ∧ kt.isInterface = false := by
  obtain ⟨t, k, h1, h2, -, h3, -⟩ := Cond.instantiable_spec w
  rw [Bool.or_eq_false_iff] at h3
  exact ⟨t, k, h1, h2, h3.1⟩
theorem own_ksel {K C : String} {x y : MethodName} (hy : y.cls = K) (w : (Jvm.Cond.selects C x y).before a0 Z = true) : ∃ t kt, Z.vm.findClass K = some t ∧ Z.vm.classes[t]? = some kt ∧ kt.isInterface = false := by
  obtain ⟨c, r, mm, -, -, h1, -, mk, h2, h3⟩ := Cond.selects_spec w
  exact ⟨mm.cls, mk, by rw [← hy]; exact findClass_of_methodNamed h1, h2, h3⟩
/-- the Class object of C by ldc -/
theorem own_ldcM (X : Stand p l e R s m args below meth c T locs cells slots) (hx : p.tables.exec = Jvm.exec) (hZ : Z.Warmed39 s.vm) {own C : String} {index : Nat} (hown : s.vm.findClass own = some m.cls) (w : (Jvm.Cond.classLink own index C).before a0 Z = true) (eT : T.heap = h) {mr : Addr} (M : Mir Z C mr)
    {g : JFrame} (hg : g.method = m) (hd : decode c.code g.pc = .ok (.ldc index, 2)) : ∃ T', Stand p l e R s m args below meth c T' locs cells slots ∧ T'.heap = h ∧ ∀ target, Steps p.tables e below (T'.setTop { g with pc := g.pc + 2, stack := .ref mr :: g.stack }) target → Steps p.tables e below (T.setTop g) target := by
  obtain ⟨cc, kc, m1, m2, m3, -⟩ := M
  obtain ⟨k', q, ek⟩ := hZ.alike.2.2 _ _ m2
  have f1 : s.vm.findClass C = some cc := by rw [hZ.alike.findClass]; exact m1
  have f2 : k'.mirror = some mr := by rw [ek]; exact m3
  obtain ⟨vm', X', st⟩ := X.ldcMirror hx hown (mv hZ w) (a := mr) (by simp [Term.eval, f1, q, f2]) hg hd
  exact ⟨_, X', eT, st⟩
theorem own_mir {C : String} (hm : Jvm.D.MirrorMade Z C) : ∃ mr, Mir Z C mr := by
  obtain ⟨c, k, mm, h⟩ := hm
  exact ⟨mm, c, k, h⟩
theorem own_selp {y : MethodName} {n : Nat} (wi : (Jvm.Cond.instantiable y.cls n).before a0 Z = true) (wp : (Jvm.Cond.privateMethod y).before a0 Z = true) (wm : (Jvm.Cond.instanceMethod y).before a0 Z = true) (hy : y.cls ≠ "java/lang/invoke/MethodHandle" ∧ y.cls ≠ "java/lang/invoke/VarHandle") : (Jvm.Cond.selects y.cls y y).before a0 Z = true := by
  obtain ⟨t, k, h1, h2, h3⟩ := own_kinst wi
  exact Jvm.Stand.selects_self_of_private h1 h2 h3 (Cond.privateMethod_at wp) wm hy
end OwnCls

def hnF (a b : Int32) : Int32 := if a = b then 0 else 1
def emF (a : Int32) : Int32 := if a = 0 then 1 else 0
def cbF (r d : Int64) : Int64 := if r = 0 then d else r
theorem own_cache {v : Int64} (h : 0 ≤ v.toInt) (h2 : v.toInt ≤ 127) : ((v.toInt32 + (128 : Int32)) - (128 : Int32)).toInt64 = v ∧ ¬ ((v.toInt32 + (128 : Int32)) < 0) ∧ (v.toInt32 + (128 : Int32)).toNatClampNeg < 256 := by
  have e128 : (128 : Int32).toInt = 128 := by decide
  have e0 : (0 : Int32).toInt = 0 := by decide
  have h1 : v.toInt32.toInt = v.toInt := Jvm.Kit.i32_of_i64 (by omega) (by omega)
  have h3 : (v.toInt32 + (128 : Int32)).toInt = v.toInt + 128 := by rw [Jvm.Kit.i32_add (by omega) (by omega), h1, e128]
  have h4 : ((v.toInt32 + (128 : Int32)) - (128 : Int32)).toInt = v.toInt := by rw [Jvm.Kit.i32_sub (by omega) (by omega), h3, e128]; omega
  have h5 : ¬ ((v.toInt32 + (128 : Int32)) < 0) := own_nlt32 (by omega)
  have h6 := nat_of h5
  refine ⟨own_eq64 ?_, h5, by omega⟩
  rw [Int32.toInt_toInt64, h4]
theorem own_cin {n : Nat} {j : Int32} (h : n = (256 : Int32).toNatClampNeg) (h1 : ¬ j < 0) (h2 : j.toNatClampNeg < 256) : ¬ (j < 0 ∨ n ≤ j.toNatClampNeg) := by
  have e : (256 : Int32).toNatClampNeg = 256 := by decide
  intro z
  rcases z with z | z
  · exact h1 z
  · omega
theorem pn_0 : plainName "java/util/AbstractCollection" = true := by first | (simp [plainName, overriddenIn]; done) | decide +kernel
theorem d0_0 : decode jdk_22_method_1_code 0 = .ok (.aload_n 0, 1) := by decide +kernel
theorem d0_1 : decode jdk_22_method_1_code 1 = .ok (.invokespecial 1, 3) := by decide +kernel
theorem d0_4 : decode jdk_22_method_1_code 4 = .ok (.return_, 1) := by decide +kernel
theorem ef_acin (m : MethodId) (so : Addr) : entryFrame m #[(.ref so)] 1 = mkF m 0 #[.val (.ref so)] [] := by first | (simp [entryFrame, mkF, argsToLocals, Value.category]; done) | rfl
def Q_acin (Z : State) (so : Addr) (h0 : Heap) (n0 : Nat) (v : Option Value) (h : Heap) (L : List Loc) : Prop := v = none ∧ Fr n0 L ∧ h = h0
set_option maxRecDepth 65536 in
set_option maxHeartbeats 40000000 in
theorem rm_acin (l : Launch) (Z : State) (a0 : Array Value) (hw : ∀ d ∈ tables_1, d.before a0 Z = true) (ws : List Jvm.Cond) (so : Addr) (h0 : Heap) (n0 : Nat) (Z0 : n0 ≤ h0.size)  :
    MetFree l (⟨"java/util/AbstractCollection", "<init>", "()V"⟩ : MethodName) (head1 (Jvm.Cond.code (⟨"java/util/AbstractCollection", "<init>", "()V"⟩ : MethodName) jdk_22_method_1_code 1 none :: ws) ({ frames := 1, cells := 0, slots := 0, locals := 12 } : Room)) (fun a U => a = #[(.ref so)] ∧ Z.Warmed39 U.vm ∧ U.heap = h0) (fun _ _ _ _ _ => True) (fun _ U o U' => ∃ v L, o = .returned v ∧ Q_acin Z so h0 n0 v U'.heap L ∧ FrameEnd U o U' L ({ frames := 1, cells := 0, slots := 0, locals := 12 } : Room).cells ({ frames := 1, cells := 0, slots := 0, locals := 12 } : Room).slots) := by
  refine MetFree.of_bodySF (plainFor_of_name pn_0) hisR ?_
  intro p e s m args below meth c s₁ Bd hml0 hP hK
  obtain ⟨rfl, hZ, hh⟩ := hP
  have hx := Bd.exec
  have hby := Bd.bytes
  have hml : c.maxLocals = 1 := hml0
  have hown : s.vm.findClass "java/util/AbstractCollection" = some m.cls := findClass_of_methodNamed Bd.named
  have hnm := (name_of_methodNamed Bd.named Bd.method).1
  have X0 : Stand p l e ({ frames := 1, cells := 0, slots := 0, locals := 12 } : Room) s m #[(.ref so)] below meth c s₁ [] 0 0 := Stand.of_body Bd
  have e0 : s₁.heap = h0 := by rw [← hh, Bd.state]; rfl
  have N0 := Fr.nil n0
  have K0 : Keep h0 h0 [] := Keep.refl h0 []
  show Go p.tables e below _ (s₁.setTop (entryFrame m #[(.ref so)] 1))
  refine Go.start ?_
  intro G hG
  refine Go.st (fun t k => castTop (ef_acin m so) k) ?_
  show Go _ _ _ _ (s₁.setTop (mkF m 0 #[.val (.ref so)] []))
  refine Go.st (fun _ k => XS.aloadN X0.here hx rfl (hb hby d0_0) rfl rfl k) ?_
  show Go _ _ _ _ (s₁.setTop (mkF m 1 #[.val (.ref so)] [(.ref so)]))
  obtain ⟨T1, X1, e1, st1⟩ := initO X0 hx hZ hown (ow hw 21 rfl) (ow hw 22 rfl) (ow hw 23 rfl) e0 (g := (mkF m 1 #[.val (.ref so)] [(.ref so)])) rfl (by rw [hml]; rfl) rfl (hb hby d0_1) (by decide) (W := 0) (by show 2 * 0 + _ ≤ _; exact Nat.le_of_eq rfl) (by decide)
  refine Go.st st1 ?_
  show Go _ _ _ _ (T1.setTop (mkF m 4 #[.val (.ref so)] []))
  subst hG
  obtain ⟨fs, hr, hrun, hended, hW, hsame⟩ := X1.leave (v := none) (fun _ => rfl)
  refine ⟨_, _, ?_, hrun, hended, _, _, rfl, ?_, ⟨_, rfl⟩, hW, hsame.mono (by decide) (by decide)⟩
  · exact X1.returnOut hx Bd.returns (hb hby d0_4) hr
  · show Q_acin Z so h0 n0 _ T1.heap _
    rw [e1]
    exact ⟨rfl, N0, rfl⟩
theorem pd_0 : parseMethodDescriptor "()V" = some ⟨[], none⟩ := by decide +kernel
theorem pn_1 : plainName "java/util/AbstractList" = true := by first | (simp [plainName, overriddenIn]; done) | decide +kernel
theorem d1_0 : decode jdk_39_method_1_code 0 = .ok (.aload_n 0, 1) := by decide +kernel
theorem d1_1 : decode jdk_39_method_1_code 1 = .ok (.invokespecial 1, 3) := by decide +kernel
theorem d1_4 : decode jdk_39_method_1_code 4 = .ok (.aload_n 0, 1) := by decide +kernel
theorem d1_5 : decode jdk_39_method_1_code 5 = .ok (.iconst 0, 1) := by decide +kernel
theorem d1_6 : decode jdk_39_method_1_code 6 = .ok (.putfield 7, 3) := by decide +kernel
theorem d1_9 : decode jdk_39_method_1_code 9 = .ok (.return_, 1) := by decide +kernel
theorem ef_ablin (m : MethodId) (so : Addr) : entryFrame m #[(.ref so)] 1 = mkF m 0 #[.val (.ref so)] [] := by first | (simp [entryFrame, mkF, argsToLocals, Value.category]; done) | rfl
def Q_ablin (Z : State) (so : Addr) (h0 : Heap) (n0 : Nat) (v : Option Value) (h : Heap) (L : List Loc) : Prop := v = none ∧ Fr n0 L ∧ Keep h0 h [so] ∧ Exa Z h so "java/util/ArrayList" ∧ Fld Z h so "java/util/AbstractList" "modCount" "I" (.int (0 : Int32)) ∧ Fld Z h so "java/util/ArrayList" "elementData" "[Ljava/lang/Object;" .null ∧ Fld Z h so "java/util/ArrayList" "size" "I" (.int (0 : Int32))
set_option maxRecDepth 65536 in
set_option maxHeartbeats 40000000 in
theorem rm_ablin (l : Launch) (Z : State) (a0 : Array Value) (hw : ∀ d ∈ tables_1, d.before a0 Z = true) (ws : List Jvm.Cond) (so : Addr) (h0 : Heap) (n0 : Nat) (Z0 : n0 ≤ h0.size) (Pf0 : Exa Z h0 so "java/util/ArrayList") (Pf1 : Fld Z h0 so "java/util/AbstractList" "modCount" "I" (.int (0 : Int32))) (Pf2 : Fld Z h0 so "java/util/ArrayList" "elementData" "[Ljava/lang/Object;" .null) (Pf3 : Fld Z h0 so "java/util/ArrayList" "size" "I" (.int (0 : Int32))) (Pf4 : n0 ≤ so) :
    MetFree l (⟨"java/util/AbstractList", "<init>", "()V"⟩ : MethodName) (head1 (Jvm.Cond.code (⟨"java/util/AbstractList", "<init>", "()V"⟩ : MethodName) jdk_39_method_1_code 1 none :: ws) ({ frames := 2, cells := 0, slots := 0, locals := 24 } : Room)) (fun a U => a = #[(.ref so)] ∧ Z.Warmed39 U.vm ∧ U.heap = h0) (fun _ _ _ _ _ => True) (fun _ U o U' => ∃ v L, o = .returned v ∧ Q_ablin Z so h0 n0 v U'.heap L ∧ FrameEnd U o U' L ({ frames := 2, cells := 0, slots := 0, locals := 24 } : Room).cells ({ frames := 2, cells := 0, slots := 0, locals := 24 } : Room).slots) := by
  refine MetFree.of_bodySF (plainFor_of_name pn_1) hisR ?_
  intro p e s m args below meth c s₁ Bd hml0 hP hK
  obtain ⟨rfl, hZ, hh⟩ := hP
  have hx := Bd.exec
  have hby := Bd.bytes
  have hml : c.maxLocals = 1 := hml0
  have hown : s.vm.findClass "java/util/AbstractList" = some m.cls := findClass_of_methodNamed Bd.named
  have hnm := (name_of_methodNamed Bd.named Bd.method).1
  have X0 : Stand p l e ({ frames := 2, cells := 0, slots := 0, locals := 24 } : Room) s m #[(.ref so)] below meth c s₁ [] 0 0 := Stand.of_body Bd
  have e0 : s₁.heap = h0 := by rw [← hh, Bd.state]; rfl
  have N0 := Fr.nil n0
  have K0 : Keep h0 h0 [so] := Keep.refl h0 [so]
  show Go p.tables e below _ (s₁.setTop (entryFrame m #[(.ref so)] 1))
  refine Go.start ?_
  intro G hG
  refine Go.st (fun t k => castTop (ef_ablin m so) k) ?_
  show Go _ _ _ _ (s₁.setTop (mkF m 0 #[.val (.ref so)] []))
  refine Go.st (fun _ k => XS.aloadN X0.here hx rfl (hb hby d1_0) rfl rfl k) ?_
  show Go _ _ _ _ (s₁.setTop (mkF m 1 #[.val (.ref so)] [(.ref so)]))
  obtain ⟨_, _, ⟨T1, L1, k1, n1⟩, -, X1, ⟨Lc1, hQ1, l1, y1, z1⟩, st1⟩ := X0.specialBack hx (y := (⟨"java/util/AbstractCollection", "<init>", "()V"⟩ : MethodName)) rfl hown (mvT hZ (ow hw 15 rfl)) (mvT hZ (ow hw 16 rfl)) (mvT hZ (ow hw 20 rfl)) (by decide) (backOf (W := 0) (rm_acin l Z a0 hw [] so h0 n0 Z0 ) hZ (ow hw 20 rfl) (ow hw 19 rfl) (by decide) (by decide)) (g := (mkF m 1 #[.val (.ref so)] [(.ref so)])) rfl (by rw [hml]; rfl) (Steps.refl _) (a := so) (argsL := []) (rest := []) (lenOf pd_0 rfl) rfl (by show 2 * 0 + _ ≤ _; exact Nat.le_of_eq rfl) (hb hby d1_1) (fun _ _ => ⟨rfl, e0, (by decide : 0 + 0 ≤ _), (by decide : 0 + 0 ≤ _)⟩)
  dsimp only [Pt.U, Pt.locs, Pt.cells, Pt.slots] at X1 l1 y1 z1 st1 hQ1
  rw [l1, y1, z1] at X1
  obtain ⟨rfl, N1q, e1⟩ := hQ1
  have N1 := Fr.app N0 N1q
  refine Go.st (fun _ k => st1.trans k) ?_
  show Go _ _ _ _ (T1.setTop (mkF m 4 #[.val (.ref so)] []))
  refine Go.st (fun _ k => XS.aloadN X1.here hx rfl (hb hby d1_4) rfl rfl k) ?_
  show Go _ _ _ _ (T1.setTop (mkF m 5 #[.val (.ref so)] [(.ref so)]))
  refine Go.st (fun _ k => XS.iconst X1.here hx rfl (hb hby d1_5) k) ?_
  show Go _ _ _ _ (T1.setTop (mkF m 6 #[.val (.ref so)] [(.int (0 : Int32)), (.ref so)]))
  obtain ⟨T2, h2, X2, e2, W2, st2⟩ := putF X1 hx hZ hown (host := "") (Or.inl (ow hw 24 rfl)) Via.refl e1 Pf1 Pf0 (Or.inl (ow hw 25 rfl)) (ow hw 4 rfl) (ty := .int) (by decide) rfl rfl (g := (mkF m 6 #[.val (.ref so)] [(.int (0 : Int32)), (.ref so)])) rfl rfl (hb hby d1_6)
  refine Go.st st2 ?_
  have F3 := Pf0.wr W2
  have F4 := Pf1.same W2
  have F5 := Pf2.other W2 (Or.inr (slot_ne (Or.inl (ow hw 28 rfl)) (Or.inl (ow hw 25 rfl)) (by decide) (t := (.array (.object "java/lang/Object"))) (t' := .int) (by decide) (by decide)))
  have F6 := Pf3.other W2 (Or.inr (slot_ne (Or.inl (ow hw 45 rfl)) (Or.inl (ow hw 25 rfl)) (by decide) (t := .int) (t' := .int) (by decide) (by decide)))
  have K7 := K0.wr W2 (Or.inl (List.mem_of_getElem? (i := 0) rfl))
  have Z8 := oz_ Z0 W2
  have N9 := Fr.snoc X2 N1 Pf4
  show Go _ _ _ _ (T2.setTop (mkF m 9 #[.val (.ref so)] []))
  subst hG
  obtain ⟨fs, hr, hrun, hended, hW, hsame⟩ := X2.leave (v := none) (fun _ => rfl)
  refine ⟨_, _, ?_, hrun, hended, _, _, rfl, ?_, ⟨_, rfl⟩, hW, hsame.mono (by decide) (by decide)⟩
  · exact X2.returnOut hx Bd.returns (hb hby d1_9) hr
  · show Q_ablin Z so h0 n0 _ T2.heap _
    rw [e2]
    exact ⟨rfl, N9, K7, F3, F4, F5, F6⟩
theorem pn_2 : plainName "java/util/ArrayList" = true := by first | (simp [plainName, overriddenIn]; done) | decide +kernel
theorem d2_0 : decode jdk_38_method_2_code 0 = .ok (.aload_n 0, 1) := by decide +kernel
theorem d2_1 : decode jdk_38_method_2_code 1 = .ok (.invokespecial 1, 3) := by decide +kernel
theorem d2_4 : decode jdk_38_method_2_code 4 = .ok (.aload_n 0, 1) := by decide +kernel
theorem d2_5 : decode jdk_38_method_2_code 5 = .ok (.getstatic 39, 3) := by decide +kernel
theorem d2_8 : decode jdk_38_method_2_code 8 = .ok (.putfield 9, 3) := by decide +kernel
theorem d2_11 : decode jdk_38_method_2_code 11 = .ok (.return_, 1) := by decide +kernel
theorem ef_alin (m : MethodId) (so : Addr) : entryFrame m #[(.ref so)] 1 = mkF m 0 #[.val (.ref so)] [] := by first | (simp [entryFrame, mkF, argsToLocals, Value.category]; done) | rfl
def Q_alin (Z : State) (so : Addr) (de : Addr) (h0 : Heap) (n0 : Nat) (v : Option Value) (h : Heap) (L : List Loc) : Prop := v = none ∧ Fr n0 L ∧ Keep h0 h [so] ∧ Exa Z h so "java/util/ArrayList" ∧ Fld Z h so "java/util/AbstractList" "modCount" "I" (.int (0 : Int32)) ∧ Fld Z h so "java/util/ArrayList" "elementData" "[Ljava/lang/Object;" (.ref de) ∧ Fld Z h so "java/util/ArrayList" "size" "I" (.int (0 : Int32))
set_option maxRecDepth 65536 in
set_option maxHeartbeats 40000000 in
theorem rm_alin (l : Launch) (Z : State) (a0 : Array Value) (hw : ∀ d ∈ tables_1, d.before a0 Z = true) (ws : List Jvm.Cond) (so : Addr) (de : Addr) (h0 : Heap) (n0 : Nat) (Z0 : n0 ≤ h0.size) (Pf0 : Exa Z h0 so "java/util/ArrayList") (Pf1 : Fld Z h0 so "java/util/AbstractList" "modCount" "I" (.int (0 : Int32))) (Pf2 : Fld Z h0 so "java/util/ArrayList" "elementData" "[Ljava/lang/Object;" .null) (Pf3 : Fld Z h0 so "java/util/ArrayList" "size" "I" (.int (0 : Int32))) (Pf4 : n0 ≤ so) (Pf5 : Sta Z h0 "java/util/ArrayList" "DEFAULTCAPACITY_EMPTY_ELEMENTDATA" "[Ljava/lang/Object;" (.ref de)) :
    MetFree l (⟨"java/util/ArrayList", "<init>", "()V"⟩ : MethodName) (head1 (Jvm.Cond.code (⟨"java/util/ArrayList", "<init>", "()V"⟩ : MethodName) jdk_38_method_2_code 1 none :: ws) ({ frames := 3, cells := 0, slots := 0, locals := 36 } : Room)) (fun a U => a = #[(.ref so)] ∧ Z.Warmed39 U.vm ∧ U.heap = h0) (fun _ _ _ _ _ => True) (fun _ U o U' => ∃ v L, o = .returned v ∧ Q_alin Z so de h0 n0 v U'.heap L ∧ FrameEnd U o U' L ({ frames := 3, cells := 0, slots := 0, locals := 36 } : Room).cells ({ frames := 3, cells := 0, slots := 0, locals := 36 } : Room).slots) := by
  refine MetFree.of_bodySF (plainFor_of_name pn_2) hisR ?_
  intro p e s m args below meth c s₁ Bd hml0 hP hK
  obtain ⟨rfl, hZ, hh⟩ := hP
  have hx := Bd.exec
  have hby := Bd.bytes
  have hml : c.maxLocals = 1 := hml0
  have hown : s.vm.findClass "java/util/ArrayList" = some m.cls := findClass_of_methodNamed Bd.named
  have hnm := (name_of_methodNamed Bd.named Bd.method).1
  have X0 : Stand p l e ({ frames := 3, cells := 0, slots := 0, locals := 36 } : Room) s m #[(.ref so)] below meth c s₁ [] 0 0 := Stand.of_body Bd
  have e0 : s₁.heap = h0 := by rw [← hh, Bd.state]; rfl
  have N0 := Fr.nil n0
  have K0 : Keep h0 h0 [so] := Keep.refl h0 [so]
  show Go p.tables e below _ (s₁.setTop (entryFrame m #[(.ref so)] 1))
  refine Go.start ?_
  intro G hG
  refine Go.st (fun t k => castTop (ef_alin m so) k) ?_
  show Go _ _ _ _ (s₁.setTop (mkF m 0 #[.val (.ref so)] []))
  refine Go.st (fun _ k => XS.aloadN X0.here hx rfl (hb hby d2_0) rfl rfl k) ?_
  show Go _ _ _ _ (s₁.setTop (mkF m 1 #[.val (.ref so)] [(.ref so)]))
  obtain ⟨_, _, ⟨T1, L1, k1, n1⟩, -, X1, ⟨Lc1, hQ1, l1, y1, z1⟩, st1⟩ := X0.specialBack hx (y := (⟨"java/util/AbstractList", "<init>", "()V"⟩ : MethodName)) rfl hown (mvT hZ (ow hw 9 rfl)) (mvT hZ (ow hw 10 rfl)) (mvT hZ (ow hw 14 rfl)) (by decide) (backOf (W := 0) (rm_ablin l Z a0 hw [] so h0 n0 Z0 Pf0 Pf1 Pf2 Pf3 Pf4) hZ (ow hw 14 rfl) (ow hw 13 rfl) (by decide) (by decide)) (g := (mkF m 1 #[.val (.ref so)] [(.ref so)])) rfl (by rw [hml]; rfl) (Steps.refl _) (a := so) (argsL := []) (rest := []) (lenOf pd_0 rfl) rfl (by show 2 * 0 + _ ≤ _; exact Nat.le_of_eq rfl) (hb hby d2_1) (fun _ _ => ⟨rfl, e0, (by decide : 0 + 0 ≤ _), (by decide : 0 + 0 ≤ _)⟩)
  dsimp only [Pt.U, Pt.locs, Pt.cells, Pt.slots] at X1 l1 y1 z1 st1 hQ1
  rw [l1, y1, z1] at X1
  obtain ⟨rfl, N1q, K1q, Fq1_0, Fq1_1, Fq1_2, Fq1_3⟩ := hQ1
  have N1 := Fr.app N0 N1q
  refine Go.st (fun _ k => st1.trans k) ?_
  have Z2 : n0 ≤ T1.heap.size := Nat.le_trans Z0 K1q.1
  have K3 := K0.trans K1q (fun z hz => (List.mem_cons.mp hz).elim (fun q => by rw [q]; exact Or.inl (List.mem_of_getElem? (i := 0) rfl)) nn_)
  have F4 := Pf0.keep K1q
  have F5 := own_stakeepW Pf5 K1q (allS (P := fun x => ∀ c : Cell, h0[x]? = some c → c.vm.isStatics = false) (old_plain Pf3) all0)
  show Go _ _ _ _ (T1.setTop (mkF m 4 #[.val (.ref so)] []))
  refine Go.st (fun _ k => XS.aloadN X1.here hx rfl (hb hby d2_4) rfl rfl k) ?_
  show Go _ _ _ _ (T1.setTop (mkF m 5 #[.val (.ref so)] [(.ref so)]))
  obtain ⟨T6, X6, e6, st6⟩ := getS2 X1 hx hZ hown (host := "") (Or.inl (ow hw 26 rfl)) Via.refl (rfl : T1.heap = T1.heap) F5 (g := (mkF m 5 #[.val (.ref so)] [(.ref so)])) rfl (hb hby d2_5)
  refine Go.st st6 ?_
  show Go _ _ _ _ (T6.setTop (mkF m 8 #[.val (.ref so)] [(.ref de), (.ref so)]))
  obtain ⟨T7, h7, X7, e7, W7, st7⟩ := putF X6 hx hZ hown (host := "") (Or.inl (ow hw 27 rfl)) Via.refl e6 Fq1_2 Fq1_0 (Or.inl (ow hw 28 rfl)) (ow hw 4 rfl) (ty := (.array (.object "java/lang/Object"))) (by decide) rfl rfl (g := (mkF m 8 #[.val (.ref so)] [(.ref de), (.ref so)])) rfl rfl (hb hby d2_8)
  refine Go.st st7 ?_
  have F8 := F5.wr W7
  have F9 := Fq1_0.wr W7
  have F10 := Fq1_1.other W7 (Or.inr (slot_ne (Or.inl (ow hw 25 rfl)) (Or.inl (ow hw 28 rfl)) (by decide) (t := .int) (t' := (.array (.object "java/lang/Object"))) (by decide) (by decide)))
  have F11 := Fq1_2.same W7
  have F12 := Fq1_3.other W7 (Or.inr (slot_ne (Or.inl (ow hw 45 rfl)) (Or.inl (ow hw 28 rfl)) (by decide) (t := .int) (t' := (.array (.object "java/lang/Object"))) (by decide) (by decide)))
  have K13 := K3.wr W7 (Or.inl (List.mem_of_getElem? (i := 0) rfl))
  have Z14 := oz_ Z2 W7
  have N15 := Fr.snoc X7 N1 Pf4
  show Go _ _ _ _ (T7.setTop (mkF m 11 #[.val (.ref so)] []))
  subst hG
  obtain ⟨fs, hr, hrun, hended, hW, hsame⟩ := X7.leave (v := none) (fun _ => rfl)
  refine ⟨_, _, ?_, hrun, hended, _, _, rfl, ?_, ⟨_, rfl⟩, hW, hsame.mono (by decide) (by decide)⟩
  · exact X7.returnOut hx Bd.returns (hb hby d2_11) hr
  · show Q_alin Z so de h0 n0 _ T7.heap _
    rw [e7]
    exact ⟨rfl, N15, K13, F9, F10, F11, F12⟩
theorem pn_3 : plainName "java/lang/Number" = true := by first | (simp [plainName, overriddenIn]; done) | decide +kernel
theorem d3_0 : decode jdk_18_method_1_code 0 = .ok (.aload_n 0, 1) := by decide +kernel
theorem d3_1 : decode jdk_18_method_1_code 1 = .ok (.invokespecial 1, 3) := by decide +kernel
theorem d3_4 : decode jdk_18_method_1_code 4 = .ok (.return_, 1) := by decide +kernel
theorem ef_numin (m : MethodId) (so : Addr) : entryFrame m #[(.ref so)] 1 = mkF m 0 #[.val (.ref so)] [] := by first | (simp [entryFrame, mkF, argsToLocals, Value.category]; done) | rfl
def Q_numin (Z : State) (so : Addr) (h0 : Heap) (n0 : Nat) (v : Option Value) (h : Heap) (L : List Loc) : Prop := v = none ∧ Fr n0 L ∧ h = h0
set_option maxRecDepth 65536 in
set_option maxHeartbeats 40000000 in
theorem rm_numin (l : Launch) (Z : State) (a0 : Array Value) (hw : ∀ d ∈ tables_1, d.before a0 Z = true) (ws : List Jvm.Cond) (so : Addr) (h0 : Heap) (n0 : Nat) (Z0 : n0 ≤ h0.size)  :
    MetFree l (⟨"java/lang/Number", "<init>", "()V"⟩ : MethodName) (head1 (Jvm.Cond.code (⟨"java/lang/Number", "<init>", "()V"⟩ : MethodName) jdk_18_method_1_code 1 none :: ws) ({ frames := 1, cells := 0, slots := 0, locals := 12 } : Room)) (fun a U => a = #[(.ref so)] ∧ Z.Warmed39 U.vm ∧ U.heap = h0) (fun _ _ _ _ _ => True) (fun _ U o U' => ∃ v L, o = .returned v ∧ Q_numin Z so h0 n0 v U'.heap L ∧ FrameEnd U o U' L ({ frames := 1, cells := 0, slots := 0, locals := 12 } : Room).cells ({ frames := 1, cells := 0, slots := 0, locals := 12 } : Room).slots) := by
  refine MetFree.of_bodySF (plainFor_of_name pn_3) hisR ?_
  intro p e s m args below meth c s₁ Bd hml0 hP hK
  obtain ⟨rfl, hZ, hh⟩ := hP
  have hx := Bd.exec
  have hby := Bd.bytes
  have hml : c.maxLocals = 1 := hml0
  have hown : s.vm.findClass "java/lang/Number" = some m.cls := findClass_of_methodNamed Bd.named
  have hnm := (name_of_methodNamed Bd.named Bd.method).1
  have X0 : Stand p l e ({ frames := 1, cells := 0, slots := 0, locals := 12 } : Room) s m #[(.ref so)] below meth c s₁ [] 0 0 := Stand.of_body Bd
  have e0 : s₁.heap = h0 := by rw [← hh, Bd.state]; rfl
  have N0 := Fr.nil n0
  have K0 : Keep h0 h0 [] := Keep.refl h0 []
  show Go p.tables e below _ (s₁.setTop (entryFrame m #[(.ref so)] 1))
  refine Go.start ?_
  intro G hG
  refine Go.st (fun t k => castTop (ef_numin m so) k) ?_
  show Go _ _ _ _ (s₁.setTop (mkF m 0 #[.val (.ref so)] []))
  refine Go.st (fun _ k => XS.aloadN X0.here hx rfl (hb hby d3_0) rfl rfl k) ?_
  show Go _ _ _ _ (s₁.setTop (mkF m 1 #[.val (.ref so)] [(.ref so)]))
  obtain ⟨T1, X1, e1, st1⟩ := initO X0 hx hZ hown (ow hw 362 rfl) (ow hw 22 rfl) (ow hw 23 rfl) e0 (g := (mkF m 1 #[.val (.ref so)] [(.ref so)])) rfl (by rw [hml]; rfl) rfl (hb hby d3_1) (by decide) (W := 0) (by show 2 * 0 + _ ≤ _; exact Nat.le_of_eq rfl) (by decide)
  refine Go.st st1 ?_
  show Go _ _ _ _ (T1.setTop (mkF m 4 #[.val (.ref so)] []))
  subst hG
  obtain ⟨fs, hr, hrun, hended, hW, hsame⟩ := X1.leave (v := none) (fun _ => rfl)
  refine ⟨_, _, ?_, hrun, hended, _, _, rfl, ?_, ⟨_, rfl⟩, hW, hsame.mono (by decide) (by decide)⟩
  · exact X1.returnOut hx Bd.returns (hb hby d3_4) hr
  · show Q_numin Z so h0 n0 _ T1.heap _
    rw [e1]
    exact ⟨rfl, N0, rfl⟩
theorem pn_4 : plainName "java/lang/Long" = true := by first | (simp [plainName, overriddenIn]; done) | decide +kernel
theorem d4_0 : decode jdk_35_method_26_code 0 = .ok (.aload_n 0, 1) := by decide +kernel
theorem d4_1 : decode jdk_35_method_26_code 1 = .ok (.invokespecial 270, 3) := by decide +kernel
theorem d4_4 : decode jdk_35_method_26_code 4 = .ok (.aload_n 0, 1) := by decide +kernel
theorem d4_5 : decode jdk_35_method_26_code 5 = .ok (.lload_n 1, 1) := by decide +kernel
theorem d4_6 : decode jdk_35_method_26_code 6 = .ok (.putfield 273, 3) := by decide +kernel
theorem d4_9 : decode jdk_35_method_26_code 9 = .ok (.return_, 1) := by decide +kernel
theorem ef_lgin (m : MethodId) (so : Addr) (pv : Int64) : entryFrame m #[(.ref so), (.long pv)] 3 = mkF m 0 #[.val (.ref so), .val (.long pv), .second] [] := by first | (simp [entryFrame, mkF, argsToLocals, Value.category]; done) | rfl
def Q_lgin (Z : State) (so : Addr) (pv : Int64) (h0 : Heap) (n0 : Nat) (v : Option Value) (h : Heap) (L : List Loc) : Prop := v = none ∧ Fr n0 L ∧ Keep h0 h [so] ∧ Exa Z h so "java/lang/Long" ∧ Fld Z h so "java/lang/Long" "value" "J" (.long pv)
set_option maxRecDepth 65536 in
set_option maxHeartbeats 40000000 in
theorem rm_lgin (l : Launch) (Z : State) (a0 : Array Value) (hw : ∀ d ∈ tables_1, d.before a0 Z = true) (ws : List Jvm.Cond) (so : Addr) (pv : Int64) (h0 : Heap) (n0 : Nat) (Z0 : n0 ≤ h0.size) (Pf0 : Exa Z h0 so "java/lang/Long") (Pf1 : Fld Z h0 so "java/lang/Long" "value" "J" (.long (0 : Int64))) (Pf2 : n0 ≤ so) :
    MetFree l (⟨"java/lang/Long", "<init>", "(J)V"⟩ : MethodName) (head1 (Jvm.Cond.code (⟨"java/lang/Long", "<init>", "(J)V"⟩ : MethodName) jdk_35_method_26_code 3 none :: ws) ({ frames := 2, cells := 0, slots := 0, locals := 24 } : Room)) (fun a U => a = #[(.ref so), (.long pv)] ∧ Z.Warmed39 U.vm ∧ U.heap = h0) (fun _ _ _ _ _ => True) (fun _ U o U' => ∃ v L, o = .returned v ∧ Q_lgin Z so pv h0 n0 v U'.heap L ∧ FrameEnd U o U' L ({ frames := 2, cells := 0, slots := 0, locals := 24 } : Room).cells ({ frames := 2, cells := 0, slots := 0, locals := 24 } : Room).slots) := by
  refine MetFree.of_bodySF (plainFor_of_name pn_4) hisR ?_
  intro p e s m args below meth c s₁ Bd hml0 hP hK
  obtain ⟨rfl, hZ, hh⟩ := hP
  have hx := Bd.exec
  have hby := Bd.bytes
  have hml : c.maxLocals = 3 := hml0
  have hown : s.vm.findClass "java/lang/Long" = some m.cls := findClass_of_methodNamed Bd.named
  have hnm := (name_of_methodNamed Bd.named Bd.method).1
  have X0 : Stand p l e ({ frames := 2, cells := 0, slots := 0, locals := 24 } : Room) s m #[(.ref so), (.long pv)] below meth c s₁ [] 0 0 := Stand.of_body Bd
  have e0 : s₁.heap = h0 := by rw [← hh, Bd.state]; rfl
  have N0 := Fr.nil n0
  have K0 : Keep h0 h0 [so] := Keep.refl h0 [so]
  show Go p.tables e below _ (s₁.setTop (entryFrame m #[(.ref so), (.long pv)] 3))
  refine Go.start ?_
  intro G hG
  refine Go.st (fun t k => castTop (ef_lgin m so pv) k) ?_
  show Go _ _ _ _ (s₁.setTop (mkF m 0 #[.val (.ref so), .val (.long pv), .second] []))
  refine Go.st (fun _ k => XS.aloadN X0.here hx rfl (hb hby d4_0) rfl rfl k) ?_
  show Go _ _ _ _ (s₁.setTop (mkF m 1 #[.val (.ref so), .val (.long pv), .second] [(.ref so)]))
  obtain ⟨_, _, ⟨T1, L1, k1, n1⟩, -, X1, ⟨Lc1, hQ1, l1, y1, z1⟩, st1⟩ := X0.specialBack hx (y := (⟨"java/lang/Number", "<init>", "()V"⟩ : MethodName)) rfl hown (mvT hZ (ow hw 356 rfl)) (mvT hZ (ow hw 357 rfl)) (mvT hZ (ow hw 361 rfl)) (by decide) (backOf (W := 0) (rm_numin l Z a0 hw [] so h0 n0 Z0 ) hZ (ow hw 361 rfl) (ow hw 360 rfl) (by decide) (by decide)) (g := (mkF m 1 #[.val (.ref so), .val (.long pv), .second] [(.ref so)])) rfl (by rw [hml]; rfl) (Steps.refl _) (a := so) (argsL := []) (rest := []) (lenOf pd_0 rfl) rfl (by show 2 * 0 + _ ≤ _; exact Nat.le_of_eq rfl) (hb hby d4_1) (fun _ _ => ⟨rfl, e0, (by decide : 0 + 0 ≤ _), (by decide : 0 + 0 ≤ _)⟩)
  dsimp only [Pt.U, Pt.locs, Pt.cells, Pt.slots] at X1 l1 y1 z1 st1 hQ1
  rw [l1, y1, z1] at X1
  obtain ⟨rfl, N1q, e1⟩ := hQ1
  have N1 := Fr.app N0 N1q
  refine Go.st (fun _ k => st1.trans k) ?_
  show Go _ _ _ _ (T1.setTop (mkF m 4 #[.val (.ref so), .val (.long pv), .second] []))
  refine Go.st (fun _ k => XS.aloadN X1.here hx rfl (hb hby d4_4) rfl rfl k) ?_
  show Go _ _ _ _ (T1.setTop (mkF m 5 #[.val (.ref so), .val (.long pv), .second] [(.ref so)]))
  refine Go.st (fun _ k => XS.lloadN X1.here hx rfl (hb hby d4_5) rfl k) ?_
  show Go _ _ _ _ (T1.setTop (mkF m 6 #[.val (.ref so), .val (.long pv), .second] [(.long pv), (.ref so)]))
  obtain ⟨T2, h2, X2, e2, W2, st2⟩ := putF X1 hx hZ hown (host := "") (Or.inl (ow hw 132 rfl)) Via.refl e1 Pf1 Pf0 (Or.inr ⟨(ow hw 133 rfl), rfl, hnm⟩) (ow hw 352 rfl) (ty := .long) (by decide) rfl rfl (g := (mkF m 6 #[.val (.ref so), .val (.long pv), .second] [(.long pv), (.ref so)])) rfl rfl (hb hby d4_6)
  refine Go.st st2 ?_
  have F3 := Pf0.wr W2
  have F4 := Pf1.same W2
  have K5 := K0.wr W2 (Or.inl (List.mem_of_getElem? (i := 0) rfl))
  have Z6 := oz_ Z0 W2
  have N7 := Fr.snoc X2 N1 Pf2
  show Go _ _ _ _ (T2.setTop (mkF m 9 #[.val (.ref so), .val (.long pv), .second] []))
  subst hG
  obtain ⟨fs, hr, hrun, hended, hW, hsame⟩ := X2.leave (v := none) (fun _ => rfl)
  refine ⟨_, _, ?_, hrun, hended, _, _, rfl, ?_, ⟨_, rfl⟩, hW, hsame.mono (by decide) (by decide)⟩
  · exact X2.returnOut hx Bd.returns (hb hby d4_9) hr
  · show Q_lgin Z so pv h0 n0 _ T2.heap _
    rw [e2]
    exact ⟨rfl, N7, K5, F3, F4⟩
theorem pd_1 : parseMethodDescriptor "(J)V" = some ⟨[.long], none⟩ := by decide +kernel
theorem d5_0 : decode jdk_35_method_24_code 0 = .ok (.sipush 128, 3) := by decide +kernel
theorem d5_3 : decode jdk_35_method_24_code 3 = .ok (.istore_n 2, 1) := by decide +kernel
theorem d5_4 : decode jdk_35_method_24_code 4 = .ok (.lload_n 0, 1) := by decide +kernel
theorem d5_5 : decode jdk_35_method_24_code 5 = .ok (.ldc2_w 230, 3) := by decide +kernel
theorem d5_8 : decode jdk_35_method_24_code 8 = .ok (.lcmp, 1) := by decide +kernel
theorem d5_9 : decode jdk_35_method_24_code 9 = .ok (.ifCond .lt 22, 3) := by decide +kernel
theorem d5_12 : decode jdk_35_method_24_code 12 = .ok (.lload_n 0, 1) := by decide +kernel
theorem d5_13 : decode jdk_35_method_24_code 13 = .ok (.ldc2_w 232, 3) := by decide +kernel
theorem d5_16 : decode jdk_35_method_24_code 16 = .ok (.lcmp, 1) := by decide +kernel
theorem d5_17 : decode jdk_35_method_24_code 17 = .ok (.ifCond .gt 14, 3) := by decide +kernel
theorem d5_20 : decode jdk_35_method_24_code 20 = .ok (.getstatic 234, 3) := by decide +kernel
theorem d5_23 : decode jdk_35_method_24_code 23 = .ok (.lload_n 0, 1) := by decide +kernel
theorem d5_24 : decode jdk_35_method_24_code 24 = .ok (.l2i, 1) := by decide +kernel
theorem d5_25 : decode jdk_35_method_24_code 25 = .ok (.sipush 128, 3) := by decide +kernel
theorem d5_28 : decode jdk_35_method_24_code 28 = .ok (.iadd, 1) := by decide +kernel
theorem d5_29 : decode jdk_35_method_24_code 29 = .ok (.aaload, 1) := by decide +kernel
theorem d5_30 : decode jdk_35_method_24_code 30 = .ok (.areturn, 1) := by decide +kernel
theorem d5_31 : decode jdk_35_method_24_code 31 = .ok (.new 1, 3) := by decide +kernel
theorem d5_34 : decode jdk_35_method_24_code 34 = .ok (.dup, 1) := by decide +kernel
theorem d5_35 : decode jdk_35_method_24_code 35 = .ok (.lload_n 0, 1) := by decide +kernel
theorem d5_36 : decode jdk_35_method_24_code 36 = .ok (.invokespecial 240, 3) := by decide +kernel
theorem d5_39 : decode jdk_35_method_24_code 39 = .ok (.areturn, 1) := by decide +kernel
theorem ef_lgval (m : MethodId) (pv : Int64) : entryFrame m #[(.long pv)] 3 = mkF m 0 #[.val (.long pv), .second, .unset] [] := by first | (simp [entryFrame, mkF, argsToLocals, Value.category]; done) | rfl
def Q_lgval (Z : State) (pv : Int64) (ca : Addr) (cc : Cell) (h0 : Heap) (n0 : Nat) (v : Option Value) (h : Heap) (L : List Loc) : Prop := ∃ fr : Addr, v = some (.ref fr) ∧ Fr n0 L ∧ Keep h0 h [] ∧ Exa Z h fr "java/lang/Long" ∧ Fld Z h fr "java/lang/Long" "value" "J" (.long pv)
set_option maxRecDepth 65536 in
set_option maxHeartbeats 40000000 in
theorem rm_lgval (l : Launch) (Z : State) (a0 : Array Value) (hw : ∀ d ∈ tables_1, d.before a0 Z = true) (ws : List Jvm.Cond) (pv : Int64) (ca : Addr) (cc : Cell) (h0 : Heap) (n0 : Nat) (Z0 : n0 ≤ h0.size) (Pf0 : Old Z n0 h0) (Pf1 : Sta Z h0 "java/lang/Long$LongCache" "cache" "[Ljava/lang/Long;" (.ref ca)) (hbx : Bxs Z ca cc "java/lang/Long" "J" (256 : Int32) (fun j => .long (j - (128 : Int32)).toInt64)) (hpv : 0 ≤ pv.toInt ∧ pv.toInt < 86400001) :
    MetFree l (⟨"java/lang/Long", "valueOf", "(J)Ljava/lang/Long;"⟩ : MethodName) (head1 (Jvm.Cond.code (⟨"java/lang/Long", "valueOf", "(J)Ljava/lang/Long;"⟩ : MethodName) jdk_35_method_24_code 3 (some (.object "java/lang/Long")) :: ws) ({ frames := 3, cells := 1, slots := 1, locals := 39 } : Room)) (fun a U => a = #[(.long pv)] ∧ Z.Warmed39 U.vm ∧ U.heap = h0) (fun _ _ _ _ _ => True) (fun _ U o U' => ∃ v L, o = .returned v ∧ Q_lgval Z pv ca cc h0 n0 v U'.heap L ∧ FrameEnd U o U' L ({ frames := 3, cells := 1, slots := 1, locals := 39 } : Room).cells ({ frames := 3, cells := 1, slots := 1, locals := 39 } : Room).slots) := by
  refine MetFree.of_bodySF (plainFor_of_name pn_4) hisR ?_
  intro p e s m args below meth c s₁ Bd hml0 hP hK
  obtain ⟨rfl, hZ, hh⟩ := hP
  have hx := Bd.exec
  have hby := Bd.bytes
  have hml : c.maxLocals = 3 := hml0
  have hown : s.vm.findClass "java/lang/Long" = some m.cls := findClass_of_methodNamed Bd.named
  have hnm := (name_of_methodNamed Bd.named Bd.method).1
  have X0 : Stand p l e ({ frames := 3, cells := 1, slots := 1, locals := 39 } : Room) s m #[(.long pv)] below meth c s₁ [] 0 0 := Stand.of_body Bd
  have e0 : s₁.heap = h0 := by rw [← hh, Bd.state]; rfl
  have N0 := Fr.nil n0
  have K0 : Keep h0 h0 [] := Keep.refl h0 []
  show Go p.tables e below _ (s₁.setTop (entryFrame m #[(.long pv)] 3))
  refine Go.start ?_
  intro G hG
  refine Go.st (fun t k => castTop (ef_lgval m pv) k) ?_
  have m128 : (-128 : Int64).toInt = -128 := by decide
  show Go _ _ _ _ (s₁.setTop (mkF m 0 #[.val (.long pv), .second, .unset] []))
  refine Go.st (fun _ k => XS.sipush X0.here hx rfl (hb hby d5_0) k) ?_
  show Go _ _ _ _ (s₁.setTop (mkF m 3 #[.val (.long pv), .second, .unset] [(.int (128 : Int32))]))
  refine Go.st (fun _ k => XS.istoreN X0.here hx rfl (hb hby d5_3) rfl (l' := #[.val (.long pv), .second, .val (.int (128 : Int32))]) rfl k) ?_
  show Go _ _ _ _ (s₁.setTop (mkF m 4 #[.val (.long pv), .second, .val (.int (128 : Int32))] []))
  refine Go.st (fun _ k => XS.lloadN X0.here hx rfl (hb hby d5_4) rfl k) ?_
  show Go _ _ _ _ (s₁.setTop (mkF m 5 #[.val (.long pv), .second, .val (.int (128 : Int32))] [(.long pv)]))
  refine Go.st (fun _ k => X0.ldc2Long hx hown (mvT hZ (ow hw 33 rfl)) (g := (mkF m 5 #[.val (.long pv), .second, .val (.int (128 : Int32))] [(.long pv)])) rfl (hb hby d5_5) _ k) ?_
  show Go _ _ _ _ (s₁.setTop (mkF m 8 #[.val (.long pv), .second, .val (.int (128 : Int32))] [(.long (-128 : Int64)), (.long pv)]))
  refine Go.st (fun _ k => Jvm.Free.XT.lcmp X0.here hx rfl (hb hby d5_8) rfl k) ?_
  show Go _ _ _ _ (s₁.setTop (mkF m 9 #[.val (.long pv), .second, .val (.int (128 : Int32))] [(.int (Jvm.Free.XT.cmpL pv (-128 : Int64)))]))
  have hc9 : ¬ (pv < (-128 : Int64)) := own_nlt64 (by omega)
  have lt_m12864 : (-128 : Int64).toInt = -128 := by decide
  have hi9 : ¬ ((pv).toInt < ((-128 : Int64)).toInt) := fun z => hc9 (Int64.lt_iff_toInt_lt.mpr z)
  refine Go.st (fun _ k => XS.ifNo X0.here hx rfl (hb hby d5_9) rfl (Jvm.Free.XT.ll_lt_f hc9) k) ?_
  show Go _ _ _ _ (s₁.setTop (mkF m 12 #[.val (.long pv), .second, .val (.int (128 : Int32))] []))
  refine Go.st (fun _ k => XS.lloadN X0.here hx rfl (hb hby d5_12) rfl k) ?_
  show Go _ _ _ _ (s₁.setTop (mkF m 13 #[.val (.long pv), .second, .val (.int (128 : Int32))] [(.long pv)]))
  refine Go.st (fun _ k => X0.ldc2Long hx hown (mvT hZ (ow hw 34 rfl)) (g := (mkF m 13 #[.val (.long pv), .second, .val (.int (128 : Int32))] [(.long pv)])) rfl (hb hby d5_13) _ k) ?_
  show Go _ _ _ _ (s₁.setTop (mkF m 16 #[.val (.long pv), .second, .val (.int (128 : Int32))] [(.long (127 : Int64)), (.long pv)]))
  refine Go.st (fun _ k => Jvm.Free.XT.lcmp X0.here hx rfl (hb hby d5_16) rfl k) ?_
  show Go _ _ _ _ (s₁.setTop (mkF m 17 #[.val (.long pv), .second, .val (.int (128 : Int32))] [(.int (Jvm.Free.XT.cmpL pv (127 : Int64)))]))
  by_cases hc17 : (127 : Int64) < pv
  · skip
    have lt_12764 : (127 : Int64).toInt = 127 := by decide
    have hi17 : ((127 : Int64)).toInt < (pv).toInt := Int64.lt_iff_toInt_lt.mp hc17
    refine Go.st (fun _ k => XS.ifYes X0.here hx rfl (pc0 := 17) (pc' := 31) rfl (hb hby d5_17) rfl (Jvm.Free.XT.ll_gt_t hc17) (by decide) (by decide) k) ?_
    show Go _ _ _ _ (s₁.setTop (mkF m 31 #[.val (.long pv), .second, .val (.int (128 : Int32))] []))
    obtain ⟨T1, h1, X1, e1, E1, A1, D1, -, st1⟩ := newO X0 hx hZ hown (ow hw 351 rfl) (ow hw 352 rfl) (ow hw 31 rfl) e0 (g := (mkF m 31 #[.val (.long pv), .second, .val (.int (128 : Int32))] [])) rfl (hb hby d5_31) (by decide) (by decide)
    obtain ⟨b1, g1⟩ : ∃ z, z = h0.size := ⟨_, rfl⟩
    rw [← g1] at A1 D1 st1
    refine Go.st st1 ?_
    have ge2 : n0 ≤ b1 := Nat.le_trans Z0 (Nat.le_of_eq g1.symm)
    have sz3 : h0.size ≤ b1 := Nat.le_trans K0.1 (Nat.le_of_eq g1.symm)
    have Z4 : n0 ≤ h1.size := Nat.le_trans Z0 E1.1
    have K5 := K0.ext E1
    have F6 := Pf0.ext E1
    have F7 := Pf1.ext E1
    have F8 : Fld Z h1 b1 "java/lang/Long" "value" "J" (.long (0 : Int64)) := D1 (Or.inr (ow hw 133 rfl)) (ty := .long) (by decide)
    show Go _ _ _ _ (T1.setTop (mkF m 34 #[.val (.long pv), .second, .val (.int (128 : Int32))] [(.ref b1)]))
    refine Go.st (fun _ k => XS.dup X1.here hx rfl (hb hby d5_34) rfl rfl k) ?_
    show Go _ _ _ _ (T1.setTop (mkF m 35 #[.val (.long pv), .second, .val (.int (128 : Int32))] [(.ref b1), (.ref b1)]))
    refine Go.st (fun _ k => XS.lloadN X1.here hx rfl (hb hby d5_35) rfl k) ?_
    show Go _ _ _ _ (T1.setTop (mkF m 36 #[.val (.long pv), .second, .val (.int (128 : Int32))] [(.long pv), (.ref b1), (.ref b1)]))
    obtain ⟨_, _, ⟨T9, L9, k9, n9⟩, -, X9, ⟨Lc9, hQ9, l9, y9, z9⟩, st9⟩ := X1.specialBack hx (y := (⟨"java/lang/Long", "<init>", "(J)V"⟩ : MethodName)) rfl hown (mvT hZ (ow hw 353 rfl)) (mvT hZ (ow hw 354 rfl)) (mvT hZ (ow hw 355 rfl)) (by decide) (backOf (W := 1) (rm_lgin l Z a0 hw [] b1 pv h1 n0 Z4 A1 F8 ge2) hZ (ow hw 355 rfl) (ow hw 31 rfl) (by decide) (by decide)) (g := (mkF m 36 #[.val (.long pv), .second, .val (.int (128 : Int32))] [(.long pv), (.ref b1), (.ref b1)])) rfl (by rw [hml]; rfl) (Steps.refl _) (a := b1) (argsL := [(.long pv)]) (rest := [(.ref b1)]) (lenOf pd_1 rfl) rfl (by show 2 * 0 + _ ≤ _; exact Nat.le_of_eq rfl) (hb hby d5_36) (fun _ _ => ⟨rfl, e1, (by decide : 1 + 0 ≤ _), (by decide : 1 + 0 ≤ _)⟩)
    dsimp only [Pt.U, Pt.locs, Pt.cells, Pt.slots] at X9 l9 y9 z9 st9 hQ9
    rw [l9, y9, z9] at X9
    obtain ⟨rfl, N9q, K9q, Fq9_0, Fq9_1⟩ := hQ9
    have N9 := Fr.app N0 N9q
    refine Go.st (fun _ k => st9.trans k) ?_
    have Z10 : n0 ≤ T9.heap.size := Nat.le_trans Z4 K9q.1
    have K11 := K5.trans K9q (fun z hz => (List.mem_cons.mp hz).elim (fun q => by rw [q]; exact Or.inr sz3) nn_)
    have F12 := F6.keep K9q (allS ge2 all0)
    have F13 := own_stakeepW F7 K9q (allS (P := fun x => ∀ c : Cell, h1[x]? = some c → c.vm.isStatics = false) (old_plain F8) all0)
    have F14 := A1.keep K9q
    show Go _ _ _ _ (T9.setTop (mkF m 39 #[.val (.long pv), .second, .val (.int (128 : Int32))] [(.ref b1)]))
    subst hG
    obtain ⟨fs, hr, hrun, hended, hW, hsame⟩ := X9.leave (v := some (.ref b1)) (fun h => by rw [Bd.returns] at h; cases h)
    refine ⟨_, _, ?_, hrun, hended, _, _, rfl, ?_, ⟨_, rfl⟩, hW, hsame.mono (by decide) (by decide)⟩
    · exact retOut X9 hx Bd.returns rfl (Or.inr (Or.inr (Or.inr (Or.inr ⟨rfl, rfl, rfl⟩)))) (hb hby d5_39) hr
    · show Q_lgval Z pv ca cc h0 n0 _ T9.heap _
      exact ⟨b1, rfl, N9, K11, Fq9_0, Fq9_1⟩
  · skip
    have lt_12764 : (127 : Int64).toInt = 127 := by decide
    have hi17 : ¬ (((127 : Int64)).toInt < (pv).toInt) := fun z => hc17 (Int64.lt_iff_toInt_lt.mpr z)
    refine Go.st (fun _ k => XS.ifNo X0.here hx rfl (hb hby d5_17) rfl (Jvm.Free.XT.ll_gt_f hc17) k) ?_
    show Go _ _ _ _ (s₁.setTop (mkF m 20 #[.val (.long pv), .second, .val (.int (128 : Int32))] []))
    obtain ⟨T15, X15, e15, st15⟩ := getS2 X0 hx hZ hown (host := "") (Or.inl (ow hw 35 rfl)) Via.refl e0 Pf1 (g := (mkF m 20 #[.val (.long pv), .second, .val (.int (128 : Int32))] [])) rfl (hb hby d5_20)
    refine Go.st st15 ?_
    show Go _ _ _ _ (T15.setTop (mkF m 23 #[.val (.long pv), .second, .val (.int (128 : Int32))] [(.ref ca)]))
    refine Go.st (fun _ k => XS.lloadN X15.here hx rfl (hb hby d5_23) rfl k) ?_
    show Go _ _ _ _ (T15.setTop (mkF m 24 #[.val (.long pv), .second, .val (.int (128 : Int32))] [(.long pv), (.ref ca)]))
    refine Go.st (fun _ k => XS.l2i X15.here hx rfl (hb hby d5_24) rfl k) ?_
    show Go _ _ _ _ (T15.setTop (mkF m 25 #[.val (.long pv), .second, .val (.int (128 : Int32))] [(.int (pv.toInt32)), (.ref ca)]))
    refine Go.st (fun _ k => XS.sipush X15.here hx rfl (hb hby d5_25) k) ?_
    show Go _ _ _ _ (T15.setTop (mkF m 28 #[.val (.long pv), .second, .val (.int (128 : Int32))] [(.int (128 : Int32)), (.int (pv.toInt32)), (.ref ca)]))
    refine Go.st (fun _ k => XS.iadd X15.here hx rfl (hb hby d5_28) rfl k) ?_
    show Go _ _ _ _ (T15.setTop (mkF m 29 #[.val (.long pv), .second, .val (.int (128 : Int32))] [(.int ((pv.toInt32) + (128 : Int32))), (.ref ca)]))
    obtain ⟨oc1, oc2, oc3⟩ := own_cache hpv.1 (by omega)
    obtain ⟨bx1, bx2, bx3⟩ := hbx.ext Pf0.2
    have hin : ¬ ((pv.toInt32 + (128 : Int32)) < 0 ∨ cc.slots.size ≤ (pv.toInt32 + (128 : Int32)).toNatClampNeg) := own_cin bx2 oc2 oc3
    obtain ⟨bl, bl1, bl2, bl3⟩ := hbx.2.2.2 (pv.toInt32 + (128 : Int32)) hin
    dsimp only at bl3
    rw [oc1] at bl3
    have F16a := bl2.ext Pf0.2
    have F16b := bl3.ext Pf0.2
    refine Go.st (fun _ k => X15.aaload hx (j := (pv.toInt32 + (128 : Int32))) (v := .ref bl) (by rw [e15]; exact bx1.1) (State.isArrayOf_alike hZ.alike bx1.2.1) rfl bx1.2.2 hin bl1 (g := (mkF m 29 #[.val (.long pv), .second, .val (.int (128 : Int32))] [(.int ((pv.toInt32) + (128 : Int32))), (.ref ca)])) rfl rfl (hb hby d5_29) _ k) ?_
    show Go _ _ _ _ (T15.setTop (mkF m 30 #[.val (.long pv), .second, .val (.int (128 : Int32))] [(.ref bl)]))
    subst hG
    obtain ⟨fs, hr, hrun, hended, hW, hsame⟩ := X15.leave (v := some (.ref bl)) (fun h => by rw [Bd.returns] at h; cases h)
    refine ⟨_, _, ?_, hrun, hended, _, _, rfl, ?_, ⟨_, rfl⟩, hW, hsame.mono (by decide) (by decide)⟩
    · exact retOut X15 hx Bd.returns rfl (Or.inr (Or.inr (Or.inr (Or.inr ⟨rfl, rfl, rfl⟩)))) (hb hby d5_30) hr
    · show Q_lgval Z pv ca cc h0 n0 _ T15.heap _
      rw [e15]
      exact ⟨bl, rfl, N0, K0, F16a, F16b⟩
theorem d6_0 : decode jdk_29_method_65_code 0 = .ok (.iload_n 0, 1) := by decide +kernel
theorem d6_1 : decode jdk_29_method_65_code 1 = .ok (.iload_n 1, 1) := by decide +kernel
theorem d6_2 : decode jdk_29_method_65_code 2 = .ok (.if_icmp .lt 7, 3) := by decide +kernel
theorem d6_5 : decode jdk_29_method_65_code 5 = .ok (.iload_n 0, 1) := by decide +kernel
theorem d6_6 : decode jdk_29_method_65_code 6 = .ok (.goto 4, 3) := by decide +kernel
theorem d6_10 : decode jdk_29_method_65_code 10 = .ok (.ireturn, 1) := by decide +kernel
theorem ef_mmax (m : MethodId) (px : Int32) (py : Int32) : entryFrame m #[(.int px), (.int py)] 2 = mkF m 0 #[.val (.int px), .val (.int py)] [] := by first | (simp [entryFrame, mkF, argsToLocals, Value.category]; done) | rfl
def Q_mmax (Z : State) (px : Int32) (py : Int32) (h0 : Heap) (n0 : Nat) (v : Option Value) (h : Heap) (L : List Loc) : Prop := v = some (.int px) ∧ Fr n0 L ∧ h = h0
set_option maxRecDepth 65536 in
set_option maxHeartbeats 40000000 in
theorem rm_mmax (l : Launch) (Z : State) (a0 : Array Value) (hw : ∀ d ∈ tables_1, d.before a0 Z = true) (ws : List Jvm.Cond) (px : Int32) (py : Int32) (h0 : Heap) (n0 : Nat) (Z0 : n0 ≤ h0.size) (hmx : ¬ px < py) :
    MetFree l (⟨"java/lang/Math", "max", "(II)I"⟩ : MethodName) (head1 (Jvm.Cond.code (⟨"java/lang/Math", "max", "(II)I"⟩ : MethodName) jdk_29_method_65_code 2 (some .int) :: ws) ({ frames := 0, cells := 0, slots := 0, locals := 0 } : Room)) (fun a U => a = #[(.int px), (.int py)] ∧ Z.Warmed39 U.vm ∧ U.heap = h0) (fun _ _ _ _ _ => True) (fun _ U o U' => ∃ v L, o = .returned v ∧ Q_mmax Z px py h0 n0 v U'.heap L ∧ FrameEnd U o U' L ({ frames := 0, cells := 0, slots := 0, locals := 0 } : Room).cells ({ frames := 0, cells := 0, slots := 0, locals := 0 } : Room).slots) := by
  refine MetFree.of_bodySF (by decide +kernel) hisR ?_
  intro p e s m args below meth c s₁ Bd hml0 hP hK
  obtain ⟨rfl, hZ, hh⟩ := hP
  have hx := Bd.exec
  have hby := Bd.bytes
  have hml : c.maxLocals = 2 := hml0
  have hown : s.vm.findClass "java/lang/Math" = some m.cls := findClass_of_methodNamed Bd.named
  have hnm := (name_of_methodNamed Bd.named Bd.method).1
  have X0 : Stand p l e ({ frames := 0, cells := 0, slots := 0, locals := 0 } : Room) s m #[(.int px), (.int py)] below meth c s₁ [] 0 0 := Stand.of_body Bd
  have e0 : s₁.heap = h0 := by rw [← hh, Bd.state]; rfl
  have N0 := Fr.nil n0
  have K0 : Keep h0 h0 [] := Keep.refl h0 []
  show Go p.tables e below _ (s₁.setTop (entryFrame m #[(.int px), (.int py)] 2))
  refine Go.start ?_
  intro G hG
  refine Go.st (fun t k => castTop (ef_mmax m px py) k) ?_
  show Go _ _ _ _ (s₁.setTop (mkF m 0 #[.val (.int px), .val (.int py)] []))
  refine Go.st (fun _ k => XS.iloadN X0.here hx rfl (hb hby d6_0) rfl k) ?_
  show Go _ _ _ _ (s₁.setTop (mkF m 1 #[.val (.int px), .val (.int py)] [(.int px)]))
  refine Go.st (fun _ k => XS.iloadN X0.here hx rfl (hb hby d6_1) rfl k) ?_
  show Go _ _ _ _ (s₁.setTop (mkF m 2 #[.val (.int px), .val (.int py)] [(.int py), (.int px)]))
  have hc2 : ¬ (px < py) := hmx
  refine Go.st (fun _ k => XS.icmpNo X0.here hx rfl (hb hby d6_2) rfl (Jvm.Free.XT.ii_lt_f hc2) k) ?_
  show Go _ _ _ _ (s₁.setTop (mkF m 5 #[.val (.int px), .val (.int py)] []))
  refine Go.st (fun _ k => XS.iloadN X0.here hx rfl (hb hby d6_5) rfl k) ?_
  show Go _ _ _ _ (s₁.setTop (mkF m 6 #[.val (.int px), .val (.int py)] [(.int px)]))
  refine Go.st (fun _ k => XS.goto X0.here hx rfl (pc0 := 6) (pc' := 10) rfl (hb hby d6_6) (by decide) (by decide) k) ?_
  show Go _ _ _ _ (s₁.setTop (mkF m 10 #[.val (.int px), .val (.int py)] [(.int px)]))
  subst hG
  obtain ⟨fs, hr, hrun, hended, hW, hsame⟩ := X0.leave (v := some (.int px)) (fun h => by rw [Bd.returns] at h; cases h)
  refine ⟨_, _, ?_, hrun, hended, _, _, rfl, ?_, ⟨_, rfl⟩, hW, hsame.mono (by decide) (by decide)⟩
  · exact retI X0 hx Bd.returns (hb hby d6_10) hr
  · show Q_mmax Z px py h0 n0 _ s₁.heap _
    rw [e0]
    exact ⟨rfl, N0, rfl⟩
theorem d7_0 : decode jdk_29_method_69_code 0 = .ok (.iload_n 0, 1) := by decide +kernel
theorem d7_1 : decode jdk_29_method_69_code 1 = .ok (.iload_n 1, 1) := by decide +kernel
theorem d7_2 : decode jdk_29_method_69_code 2 = .ok (.if_icmp .gt 7, 3) := by decide +kernel
theorem d7_9 : decode jdk_29_method_69_code 9 = .ok (.iload_n 1, 1) := by decide +kernel
theorem d7_10 : decode jdk_29_method_69_code 10 = .ok (.ireturn, 1) := by decide +kernel
theorem ef_mmin (m : MethodId) (px : Int32) (py : Int32) : entryFrame m #[(.int px), (.int py)] 2 = mkF m 0 #[.val (.int px), .val (.int py)] [] := by first | (simp [entryFrame, mkF, argsToLocals, Value.category]; done) | rfl
def Q_mmin (Z : State) (px : Int32) (py : Int32) (h0 : Heap) (n0 : Nat) (v : Option Value) (h : Heap) (L : List Loc) : Prop := v = some (.int py) ∧ Fr n0 L ∧ h = h0
set_option maxRecDepth 65536 in
set_option maxHeartbeats 40000000 in
theorem rm_mmin (l : Launch) (Z : State) (a0 : Array Value) (hw : ∀ d ∈ tables_1, d.before a0 Z = true) (ws : List Jvm.Cond) (px : Int32) (py : Int32) (h0 : Heap) (n0 : Nat) (Z0 : n0 ≤ h0.size) (hmn : py < px) :
    MetFree l (⟨"java/lang/Math", "min", "(II)I"⟩ : MethodName) (head1 (Jvm.Cond.code (⟨"java/lang/Math", "min", "(II)I"⟩ : MethodName) jdk_29_method_69_code 2 (some .int) :: ws) ({ frames := 0, cells := 0, slots := 0, locals := 0 } : Room)) (fun a U => a = #[(.int px), (.int py)] ∧ Z.Warmed39 U.vm ∧ U.heap = h0) (fun _ _ _ _ _ => True) (fun _ U o U' => ∃ v L, o = .returned v ∧ Q_mmin Z px py h0 n0 v U'.heap L ∧ FrameEnd U o U' L ({ frames := 0, cells := 0, slots := 0, locals := 0 } : Room).cells ({ frames := 0, cells := 0, slots := 0, locals := 0 } : Room).slots) := by
  refine MetFree.of_bodySF (by decide +kernel) hisR ?_
  intro p e s m args below meth c s₁ Bd hml0 hP hK
  obtain ⟨rfl, hZ, hh⟩ := hP
  have hx := Bd.exec
  have hby := Bd.bytes
  have hml : c.maxLocals = 2 := hml0
  have hown : s.vm.findClass "java/lang/Math" = some m.cls := findClass_of_methodNamed Bd.named
  have hnm := (name_of_methodNamed Bd.named Bd.method).1
  have X0 : Stand p l e ({ frames := 0, cells := 0, slots := 0, locals := 0 } : Room) s m #[(.int px), (.int py)] below meth c s₁ [] 0 0 := Stand.of_body Bd
  have e0 : s₁.heap = h0 := by rw [← hh, Bd.state]; rfl
  have N0 := Fr.nil n0
  have K0 : Keep h0 h0 [] := Keep.refl h0 []
  show Go p.tables e below _ (s₁.setTop (entryFrame m #[(.int px), (.int py)] 2))
  refine Go.start ?_
  intro G hG
  refine Go.st (fun t k => castTop (ef_mmin m px py) k) ?_
  show Go _ _ _ _ (s₁.setTop (mkF m 0 #[.val (.int px), .val (.int py)] []))
  refine Go.st (fun _ k => XS.iloadN X0.here hx rfl (hb hby d7_0) rfl k) ?_
  show Go _ _ _ _ (s₁.setTop (mkF m 1 #[.val (.int px), .val (.int py)] [(.int px)]))
  refine Go.st (fun _ k => XS.iloadN X0.here hx rfl (hb hby d7_1) rfl k) ?_
  show Go _ _ _ _ (s₁.setTop (mkF m 2 #[.val (.int px), .val (.int py)] [(.int py), (.int px)]))
  have hc2 : py < px := hmn
  refine Go.st (fun _ k => XS.icmpYes X0.here hx rfl (pc0 := 2) (pc' := 9) rfl (hb hby d7_2) rfl (Jvm.Free.XT.ii_gt_t hc2) (by decide) (by decide) k) ?_
  show Go _ _ _ _ (s₁.setTop (mkF m 9 #[.val (.int px), .val (.int py)] []))
  refine Go.st (fun _ k => XS.iloadN X0.here hx rfl (hb hby d7_9) rfl k) ?_
  show Go _ _ _ _ (s₁.setTop (mkF m 10 #[.val (.int px), .val (.int py)] [(.int py)]))
  subst hG
  obtain ⟨fs, hr, hrun, hended, hW, hsame⟩ := X0.leave (v := some (.int py)) (fun h => by rw [Bd.returns] at h; cases h)
  refine ⟨_, _, ?_, hrun, hended, _, _, rfl, ?_, ⟨_, rfl⟩, hW, hsame.mono (by decide) (by decide)⟩
  · exact retI X0 hx Bd.returns (hb hby d7_10) hr
  · show Q_mmin Z px py h0 n0 _ s₁.heap _
    rw [e0]
    exact ⟨rfl, N0, rfl⟩
theorem pd_2 : parseMethodDescriptor "(II)I" = some ⟨[.int, .int], some .int⟩ := by decide +kernel
theorem d8_0 : decode jdk_38_method_6_code 0 = .ok (.aload_n 0, 1) := by decide +kernel
theorem d8_1 : decode jdk_38_method_6_code 1 = .ok (.getfield 9, 3) := by decide +kernel
theorem d8_4 : decode jdk_38_method_6_code 4 = .ok (.arraylength, 1) := by decide +kernel
theorem d8_5 : decode jdk_38_method_6_code 5 = .ok (.istore_n 2, 1) := by decide +kernel
theorem d8_6 : decode jdk_38_method_6_code 6 = .ok (.iload_n 2, 1) := by decide +kernel
theorem d8_7 : decode jdk_38_method_6_code 7 = .ok (.ifCond .gt 13, 3) := by decide +kernel
theorem d8_10 : decode jdk_38_method_6_code 10 = .ok (.aload_n 0, 1) := by decide +kernel
theorem d8_11 : decode jdk_38_method_6_code 11 = .ok (.getfield 9, 3) := by decide +kernel
theorem d8_14 : decode jdk_38_method_6_code 14 = .ok (.getstatic 39, 3) := by decide +kernel
theorem d8_17 : decode jdk_38_method_6_code 17 = .ok (.if_acmp .eq 28, 3) := by decide +kernel
theorem d8_45 : decode jdk_38_method_6_code 45 = .ok (.aload_n 0, 1) := by decide +kernel
theorem d8_46 : decode jdk_38_method_6_code 46 = .ok (.bipush 10, 2) := by decide +kernel
theorem d8_48 : decode jdk_38_method_6_code 48 = .ok (.iload_n 1, 1) := by decide +kernel
theorem d8_49 : decode jdk_38_method_6_code 49 = .ok (.invokestatic 79, 3) := by decide +kernel
theorem d8_52 : decode jdk_38_method_6_code 52 = .ok (.anewarray 7, 3) := by decide +kernel
theorem d8_55 : decode jdk_38_method_6_code 55 = .ok (.dup_x1, 1) := by decide +kernel
theorem d8_56 : decode jdk_38_method_6_code 56 = .ok (.putfield 9, 3) := by decide +kernel
theorem d8_59 : decode jdk_38_method_6_code 59 = .ok (.areturn, 1) := by decide +kernel
theorem ef_growI (m : MethodId) (so : Addr) (pm : Int32) : entryFrame m #[(.ref so), (.int pm)] 4 = mkF m 0 #[.val (.ref so), .val (.int pm), .unset, .unset] [] := by first | (simp [entryFrame, mkF, argsToLocals, Value.category]; done) | rfl
def Q_growI (Z : State) (so : Addr) (pm : Int32) (de : Addr) (kd : ClassId) (mc : Int32) (h0 : Heap) (n0 : Nat) (v : Option Value) (h : Heap) (L : List Loc) : Prop := ∃ fr : Addr, ∃ kk : ClassId, v = some (.ref fr) ∧ Fr n0 L ∧ Keep h0 h [so] ∧ n0 ≤ fr ∧ h0.size ≤ fr ∧ Exa Z h so "java/util/ArrayList" ∧ Fld Z h so "java/util/AbstractList" "modCount" "I" (.int mc) ∧ Fld Z h so "java/util/ArrayList" "elementData" "[Ljava/lang/Object;" (.ref fr) ∧ Fld Z h so "java/util/ArrayList" "size" "I" (.int (0 : Int32)) ∧ Arv Z h fr kk (.object "java/lang/Object") (10 : Int32) [.null, .null, .null, .null, .null, .null, .null, .null, .null, .null] .null ∧ Exa Z h fr "[Ljava/lang/Object;" ∧ Ovr Z kk "java/lang/Object"
set_option maxRecDepth 65536 in
set_option maxHeartbeats 40000000 in
theorem rm_growI (l : Launch) (Z : State) (a0 : Array Value) (hw : ∀ d ∈ tables_1, d.before a0 Z = true) (ws : List Jvm.Cond) (so : Addr) (pm : Int32) (de : Addr) (kd : ClassId) (mc : Int32) (h0 : Heap) (n0 : Nat) (Z0 : n0 ≤ h0.size) (Pf0 : Exa Z h0 so "java/util/ArrayList") (Pf1 : Fld Z h0 so "java/util/AbstractList" "modCount" "I" (.int mc)) (Pf2 : Fld Z h0 so "java/util/ArrayList" "elementData" "[Ljava/lang/Object;" (.ref de)) (Pf3 : Fld Z h0 so "java/util/ArrayList" "size" "I" (.int (0 : Int32))) (Pf4 : Arv Z h0 de kd (.object "java/lang/Object") (0 : Int32) [] .null) (Pf5 : Exa Z h0 de "[Ljava/lang/Object;") (Pf6 : Sta Z h0 "java/util/ArrayList" "DEFAULTCAPACITY_EMPTY_ELEMENTDATA" "[Ljava/lang/Object;" (.ref de)) (Pf7 : n0 ≤ so) (hpm : pm = (1 : Int32)) :
    MetFree l (⟨"java/util/ArrayList", "grow", "(I)[Ljava/lang/Object;"⟩ : MethodName) (head1 (Jvm.Cond.code (⟨"java/util/ArrayList", "grow", "(I)[Ljava/lang/Object;"⟩ : MethodName) jdk_38_method_6_code 4 (some (.array (.object "java/lang/Object"))) :: ws) ({ frames := 1, cells := 1, slots := 10, locals := 14 } : Room)) (fun a U => a = #[(.ref so), (.int pm)] ∧ Z.Warmed39 U.vm ∧ U.heap = h0) (fun _ _ _ _ _ => True) (fun _ U o U' => ∃ v L, o = .returned v ∧ Q_growI Z so pm de kd mc h0 n0 v U'.heap L ∧ FrameEnd U o U' L ({ frames := 1, cells := 1, slots := 10, locals := 14 } : Room).cells ({ frames := 1, cells := 1, slots := 10, locals := 14 } : Room).slots) := by
  refine MetFree.of_bodySF (plainFor_of_name pn_2) hisR ?_
  intro p e s m args below meth c s₁ Bd hml0 hP hK
  obtain ⟨rfl, hZ, hh⟩ := hP
  have hx := Bd.exec
  have hby := Bd.bytes
  have hml : c.maxLocals = 4 := hml0
  have hown : s.vm.findClass "java/util/ArrayList" = some m.cls := findClass_of_methodNamed Bd.named
  have hnm := (name_of_methodNamed Bd.named Bd.method).1
  have X0 : Stand p l e ({ frames := 1, cells := 1, slots := 10, locals := 14 } : Room) s m #[(.ref so), (.int pm)] below meth c s₁ [] 0 0 := Stand.of_body Bd
  have e0 : s₁.heap = h0 := by rw [← hh, Bd.state]; rfl
  have N0 := Fr.nil n0
  have K0 : Keep h0 h0 [so] := Keep.refl h0 [so]
  show Go p.tables e below _ (s₁.setTop (entryFrame m #[(.ref so), (.int pm)] 4))
  refine Go.start ?_
  intro G hG
  refine Go.st (fun t k => castTop (ef_growI m so pm) k) ?_
  subst hpm
  show Go _ _ _ _ (s₁.setTop (mkF m 0 #[.val (.ref so), .val (.int (1 : Int32)), .unset, .unset] []))
  refine Go.st (fun _ k => XS.aloadN X0.here hx rfl (hb hby d8_0) rfl rfl k) ?_
  show Go _ _ _ _ (s₁.setTop (mkF m 1 #[.val (.ref so), .val (.int (1 : Int32)), .unset, .unset] [(.ref so)]))
  obtain ⟨T1, X1, e1, st1⟩ := getF X0 hx hZ hown (host := "") (Or.inl (ow hw 27 rfl)) Via.refl e0 Pf2 (g := (mkF m 1 #[.val (.ref so), .val (.int (1 : Int32)), .unset, .unset] [(.ref so)])) rfl rfl (hb hby d8_1)
  refine Go.st st1 ?_
  show Go _ _ _ _ (T1.setTop (mkF m 4 #[.val (.ref so), .val (.int (1 : Int32)), .unset, .unset] [(.ref de)]))
  obtain ⟨cl2, Ar2, -, S2, M2, -, -⟩ := id Pf4
  refine Go.st (fun _ k => X1.arraylength hx (by rw [e1]; exact Ar2.1) (State.isArrayOf_alike hZ.alike Ar2.2.1) (g := (mkF m 4 #[.val (.ref so), .val (.int (1 : Int32)), .unset, .unset] [(.ref de)])) rfl rfl (hb hby d8_4) _ k) ?_
  rw [len_of S2 M2]
  show Go _ _ _ _ (T1.setTop (mkF m 5 #[.val (.ref so), .val (.int (1 : Int32)), .unset, .unset] [(.int (0 : Int32))]))
  refine Go.st (fun _ k => XS.istoreN X1.here hx rfl (hb hby d8_5) rfl (l' := #[.val (.ref so), .val (.int (1 : Int32)), .val (.int (0 : Int32)), .unset]) rfl k) ?_
  show Go _ _ _ _ (T1.setTop (mkF m 6 #[.val (.ref so), .val (.int (1 : Int32)), .val (.int (0 : Int32)), .unset] []))
  refine Go.st (fun _ k => XS.iloadN X1.here hx rfl (hb hby d8_6) rfl k) ?_
  show Go _ _ _ _ (T1.setTop (mkF m 7 #[.val (.ref so), .val (.int (1 : Int32)), .val (.int (0 : Int32)), .unset] [(.int (0 : Int32))]))
  have hl3 : ¬ ((0 : Int32) < (0 : Int32)) := by decide
  refine Go.st (fun _ k => XS.ifNo X1.here hx rfl (hb hby d8_7) rfl (Jvm.Free.XT.i0_gt_f hl3) k) ?_
  show Go _ _ _ _ (T1.setTop (mkF m 10 #[.val (.ref so), .val (.int (1 : Int32)), .val (.int (0 : Int32)), .unset] []))
  refine Go.st (fun _ k => XS.aloadN X1.here hx rfl (hb hby d8_10) rfl rfl k) ?_
  show Go _ _ _ _ (T1.setTop (mkF m 11 #[.val (.ref so), .val (.int (1 : Int32)), .val (.int (0 : Int32)), .unset] [(.ref so)]))
  obtain ⟨T4, X4, e4, st4⟩ := getF X1 hx hZ hown (host := "") (Or.inl (ow hw 27 rfl)) Via.refl e1 Pf2 (g := (mkF m 11 #[.val (.ref so), .val (.int (1 : Int32)), .val (.int (0 : Int32)), .unset] [(.ref so)])) rfl rfl (hb hby d8_11)
  refine Go.st st4 ?_
  show Go _ _ _ _ (T4.setTop (mkF m 14 #[.val (.ref so), .val (.int (1 : Int32)), .val (.int (0 : Int32)), .unset] [(.ref de)]))
  obtain ⟨T5, X5, e5, st5⟩ := getS2 X4 hx hZ hown (host := "") (Or.inl (ow hw 26 rfl)) Via.refl e4 Pf6 (g := (mkF m 14 #[.val (.ref so), .val (.int (1 : Int32)), .val (.int (0 : Int32)), .unset] [(.ref de)])) rfl (hb hby d8_14)
  refine Go.st st5 ?_
  show Go _ _ _ _ (T5.setTop (mkF m 17 #[.val (.ref so), .val (.int (1 : Int32)), .val (.int (0 : Int32)), .unset] [(.ref de), (.ref de)]))
  refine Go.st (fun _ k => Jvm.RoadKit.acmp (g := (mkF m 17 #[.val (.ref so), .val (.int (1 : Int32)), .val (.int (0 : Int32)), .unset] [(.ref de), (.ref de)])) X5 hx rfl rfl rfl (pc0 := 17) (pc' := 45) (same := true) rfl (hb hby d8_17) rfl (decide_eq_true rfl) (by decide) (by decide) k) ?_
  show Go _ _ _ _ (T5.setTop (mkF m 45 #[.val (.ref so), .val (.int (1 : Int32)), .val (.int (0 : Int32)), .unset] []))
  refine Go.st (fun _ k => XS.aloadN X5.here hx rfl (hb hby d8_45) rfl rfl k) ?_
  show Go _ _ _ _ (T5.setTop (mkF m 46 #[.val (.ref so), .val (.int (1 : Int32)), .val (.int (0 : Int32)), .unset] [(.ref so)]))
  refine Go.st (fun _ k => XS.bipush X5.here hx rfl (hb hby d8_46) k) ?_
  show Go _ _ _ _ (T5.setTop (mkF m 48 #[.val (.ref so), .val (.int (1 : Int32)), .val (.int (0 : Int32)), .unset] [(.int (10 : Int32)), (.ref so)]))
  refine Go.st (fun _ k => XS.iloadN X5.here hx rfl (hb hby d8_48) rfl k) ?_
  show Go _ _ _ _ (T5.setTop (mkF m 49 #[.val (.ref so), .val (.int (1 : Int32)), .val (.int (0 : Int32)), .unset] [(.int (1 : Int32)), (.int (10 : Int32)), (.ref so)]))
  obtain ⟨_, _, ⟨T6, L6, k6, n6⟩, -, X6, ⟨Lc6, hQ6, l6, y6, z6⟩, st6⟩ := Jvm.LawKit.callS X5 hx (y := (⟨"java/lang/Math", "max", "(II)I"⟩ : MethodName)) hown (mvT hZ (ow hw 61 rfl)) (mvT hZ (ow hw 62 rfl)) (mvT hZ (ow hw 63 rfl)) (mvT hZ (ow hw 64 rfl)) (by decide) (backOf (W := 1) (rm_mmax l Z a0 hw [] (10 : Int32) (1 : Int32) h0 n0 Z0 (by show ¬ (10 : Int32) < (1 : Int32); exact by decide)) hZ (ow hw 64 rfl) (ow hw 63 rfl) (by decide) (by decide)) (g := (mkF m 49 #[.val (.ref so), .val (.int (1 : Int32)), .val (.int (0 : Int32)), .unset] [(.int (1 : Int32)), (.int (10 : Int32)), (.ref so)])) rfl (by rw [hml]; rfl) (argsL := [(.int (10 : Int32)), (.int (1 : Int32))]) (rest := [(.ref so)]) (lenOf pd_2 rfl) rfl (by show 2 * 0 + _ ≤ _; exact Nat.le_of_eq rfl) (hb hby d8_49) (fun _ _ => ⟨rfl, e5, (by decide : 0 + 0 ≤ _), (by decide : 0 + 0 ≤ _)⟩)
  dsimp only [Pt.U, Pt.locs, Pt.cells, Pt.slots] at X6 l6 y6 z6 st6 hQ6
  rw [l6, y6, z6] at X6
  obtain ⟨rfl, N6q, e6⟩ := hQ6
  have N6 := Fr.app N0 N6q
  refine Go.st st6 ?_
  show Go _ _ _ _ (T6.setTop (mkF m 52 #[.val (.ref so), .val (.int (1 : Int32)), .val (.int (0 : Int32)), .unset] [(.int (10 : Int32)), (.ref so)]))
  obtain ⟨T7, h7, k7, X7, e7, E7, A7, C7, O7, st7⟩ := newRE X6 hx hZ hown (ow hw 65 rfl) (ow hw 66 rfl) e6 (g := (mkF m 52 #[.val (.ref so), .val (.int (1 : Int32)), .val (.int (0 : Int32)), .unset] [(.int (10 : Int32)), (.ref so)])) rfl (hb hby d8_52) rfl (by decide) (cap := 10) (by decide) (by decide) (by decide) (by decide) (ad := "[Ljava/lang/Object;") (by decide)
  obtain ⟨b7, g7⟩ : ∃ z, z = h0.size := ⟨_, rfl⟩
  rw [← g7] at A7 C7 st7
  refine Go.st st7 ?_
  have ne8 := on_ Pf0.lt g7
  have ne9 := on_ Pf4.lt g7
  have ge10 : n0 ≤ b7 := Nat.le_trans Z0 (Nat.le_of_eq g7.symm)
  have sz11 : h0.size ≤ b7 := Nat.le_trans K0.1 (Nat.le_of_eq g7.symm)
  have Z12 : n0 ≤ h7.size := Nat.le_trans Z0 E7.1
  have K13 := K0.ext E7
  have F14 := Pf0.ext E7
  have F15 := Pf1.ext E7
  have F16 := Pf2.ext E7
  have F17 := Pf3.ext E7
  have F18 := Pf4.ext E7
  have F19 := Pf5.ext E7
  have F20 := Pf6.ext E7
  have F21 : Arv Z h7 b7 k7 (.object "java/lang/Object") (10 : Int32) [.null, .null, .null, .null, .null, .null, .null, .null, .null, .null] .null := (Arv.new A7 (by decide)).pad (pad_rep [] .null 10)
  show Go _ _ _ _ (T7.setTop (mkF m 55 #[.val (.ref so), .val (.int (1 : Int32)), .val (.int (0 : Int32)), .unset] [(.ref b7), (.ref so)]))
  refine Go.st (fun _ k => XS.dupX1 X7.here hx rfl (hb hby d8_55) rfl rfl rfl k) ?_
  show Go _ _ _ _ (T7.setTop (mkF m 56 #[.val (.ref so), .val (.int (1 : Int32)), .val (.int (0 : Int32)), .unset] [(.ref b7), (.ref so), (.ref b7)]))
  obtain ⟨T22, h22, X22, e22, W22, st22⟩ := putF X7 hx hZ hown (host := "") (Or.inl (ow hw 27 rfl)) Via.refl e7 F16 F14 (Or.inl (ow hw 28 rfl)) (ow hw 4 rfl) (ty := (.array (.object "java/lang/Object"))) (by decide) rfl rfl (g := (mkF m 56 #[.val (.ref so), .val (.int (1 : Int32)), .val (.int (0 : Int32)), .unset] [(.ref b7), (.ref so), (.ref b7)])) rfl rfl (hb hby d8_56)
  refine Go.st st22 ?_
  have F23 := F14.wr W22
  have F24 := F15.other W22 (Or.inr (slot_ne (Or.inl (ow hw 25 rfl)) (Or.inl (ow hw 28 rfl)) (by decide) (t := .int) (t' := (.array (.object "java/lang/Object"))) (by decide) (by decide)))
  have F25 := F16.same W22
  have F26 := F17.other W22 (Or.inr (slot_ne (Or.inl (ow hw 45 rfl)) (Or.inl (ow hw 28 rfl)) (by decide) (t := .int) (t' := (.array (.object "java/lang/Object"))) (by decide) (by decide)))
  have F27 := F18.other W22 (Exa.ne F19 F14 (by decide))
  have F28 := F19.wr W22
  have F29 := F20.wr W22
  have F30 := F21.other W22 (Ne.symm ne8)
  have F31 := C7.wr W22
  have K32 := K13.wr W22 (Or.inl (List.mem_of_getElem? (i := 0) rfl))
  have Z33 := oz_ Z12 W22
  have N34 := Fr.snoc X22 N6 Pf7
  show Go _ _ _ _ (T22.setTop (mkF m 59 #[.val (.ref so), .val (.int (1 : Int32)), .val (.int (0 : Int32)), .unset] [(.ref b7)]))
  subst hG
  obtain ⟨fs, hr, hrun, hended, hW, hsame⟩ := X22.leave (v := some (.ref b7)) (fun h => by rw [Bd.returns] at h; cases h)
  refine ⟨_, _, ?_, hrun, hended, _, _, rfl, ?_, ⟨_, rfl⟩, hW, hsame.mono (by decide) (by decide)⟩
  · exact retOut X22 hx Bd.returns rfl (Or.inr (Or.inr (Or.inr (Or.inr ⟨rfl, rfl, rfl⟩)))) (hb hby d8_59) hr
  · show Q_growI Z so (1 : Int32) de kd mc h0 n0 _ T22.heap _
    rw [e22]
    exact ⟨b7, k7, rfl, N34, K32, ge10, sz11, F23, F24, F25, F26, F30, F31, O7⟩
theorem pd_3 : parseMethodDescriptor "(I)[Ljava/lang/Object;" = some ⟨[.int], some (.array (.object "java/lang/Object"))⟩ := by decide +kernel
theorem d9_0 : decode jdk_38_method_7_code 0 = .ok (.aload_n 0, 1) := by decide +kernel
theorem d9_1 : decode jdk_38_method_7_code 1 = .ok (.aload_n 0, 1) := by decide +kernel
theorem d9_2 : decode jdk_38_method_7_code 2 = .ok (.getfield 48, 3) := by decide +kernel
theorem d9_5 : decode jdk_38_method_7_code 5 = .ok (.iconst 1, 1) := by decide +kernel
theorem d9_6 : decode jdk_38_method_7_code 6 = .ok (.iadd, 1) := by decide +kernel
theorem d9_7 : decode jdk_38_method_7_code 7 = .ok (.invokevirtual 69, 3) := by decide +kernel
theorem d9_10 : decode jdk_38_method_7_code 10 = .ok (.areturn, 1) := by decide +kernel
theorem ef_grow0 (m : MethodId) (so : Addr) : entryFrame m #[(.ref so)] 1 = mkF m 0 #[.val (.ref so)] [] := by first | (simp [entryFrame, mkF, argsToLocals, Value.category]; done) | rfl
def Q_grow0 (Z : State) (so : Addr) (de : Addr) (kd : ClassId) (mc : Int32) (h0 : Heap) (n0 : Nat) (v : Option Value) (h : Heap) (L : List Loc) : Prop := ∃ fr : Addr, ∃ kk : ClassId, v = some (.ref fr) ∧ Fr n0 L ∧ Keep h0 h [so] ∧ n0 ≤ fr ∧ h0.size ≤ fr ∧ Exa Z h so "java/util/ArrayList" ∧ Fld Z h so "java/util/AbstractList" "modCount" "I" (.int mc) ∧ Fld Z h so "java/util/ArrayList" "elementData" "[Ljava/lang/Object;" (.ref fr) ∧ Fld Z h so "java/util/ArrayList" "size" "I" (.int (0 : Int32)) ∧ Arv Z h fr kk (.object "java/lang/Object") (10 : Int32) [.null, .null, .null, .null, .null, .null, .null, .null, .null, .null] .null ∧ Exa Z h fr "[Ljava/lang/Object;" ∧ Ovr Z kk "java/lang/Object"
set_option maxRecDepth 65536 in
set_option maxHeartbeats 40000000 in
theorem rm_grow0 (l : Launch) (Z : State) (a0 : Array Value) (hw : ∀ d ∈ tables_1, d.before a0 Z = true) (ws : List Jvm.Cond) (so : Addr) (de : Addr) (kd : ClassId) (mc : Int32) (h0 : Heap) (n0 : Nat) (Z0 : n0 ≤ h0.size) (Pf0 : Exa Z h0 so "java/util/ArrayList") (Pf1 : Fld Z h0 so "java/util/AbstractList" "modCount" "I" (.int mc)) (Pf2 : Fld Z h0 so "java/util/ArrayList" "elementData" "[Ljava/lang/Object;" (.ref de)) (Pf3 : Fld Z h0 so "java/util/ArrayList" "size" "I" (.int (0 : Int32))) (Pf4 : Arv Z h0 de kd (.object "java/lang/Object") (0 : Int32) [] .null) (Pf5 : Exa Z h0 de "[Ljava/lang/Object;") (Pf6 : Sta Z h0 "java/util/ArrayList" "DEFAULTCAPACITY_EMPTY_ELEMENTDATA" "[Ljava/lang/Object;" (.ref de)) (Pf7 : n0 ≤ so) :
    MetFree l (⟨"java/util/ArrayList", "grow", "()[Ljava/lang/Object;"⟩ : MethodName) (head1 (Jvm.Cond.code (⟨"java/util/ArrayList", "grow", "()[Ljava/lang/Object;"⟩ : MethodName) jdk_38_method_7_code 1 (some (.array (.object "java/lang/Object"))) :: ws) ({ frames := 2, cells := 1, slots := 10, locals := 29 } : Room)) (fun a U => a = #[(.ref so)] ∧ Z.Warmed39 U.vm ∧ U.heap = h0) (fun _ _ _ _ _ => True) (fun _ U o U' => ∃ v L, o = .returned v ∧ Q_grow0 Z so de kd mc h0 n0 v U'.heap L ∧ FrameEnd U o U' L ({ frames := 2, cells := 1, slots := 10, locals := 29 } : Room).cells ({ frames := 2, cells := 1, slots := 10, locals := 29 } : Room).slots) := by
  refine MetFree.of_bodySF (plainFor_of_name pn_2) hisR ?_
  intro p e s m args below meth c s₁ Bd hml0 hP hK
  obtain ⟨rfl, hZ, hh⟩ := hP
  have hx := Bd.exec
  have hby := Bd.bytes
  have hml : c.maxLocals = 1 := hml0
  have hown : s.vm.findClass "java/util/ArrayList" = some m.cls := findClass_of_methodNamed Bd.named
  have hnm := (name_of_methodNamed Bd.named Bd.method).1
  have X0 : Stand p l e ({ frames := 2, cells := 1, slots := 10, locals := 29 } : Room) s m #[(.ref so)] below meth c s₁ [] 0 0 := Stand.of_body Bd
  have e0 : s₁.heap = h0 := by rw [← hh, Bd.state]; rfl
  have N0 := Fr.nil n0
  have K0 : Keep h0 h0 [so] := Keep.refl h0 [so]
  show Go p.tables e below _ (s₁.setTop (entryFrame m #[(.ref so)] 1))
  refine Go.start ?_
  intro G hG
  refine Go.st (fun t k => castTop (ef_grow0 m so) k) ?_
  show Go _ _ _ _ (s₁.setTop (mkF m 0 #[.val (.ref so)] []))
  refine Go.st (fun _ k => XS.aloadN X0.here hx rfl (hb hby d9_0) rfl rfl k) ?_
  show Go _ _ _ _ (s₁.setTop (mkF m 1 #[.val (.ref so)] [(.ref so)]))
  refine Go.st (fun _ k => XS.aloadN X0.here hx rfl (hb hby d9_1) rfl rfl k) ?_
  show Go _ _ _ _ (s₁.setTop (mkF m 2 #[.val (.ref so)] [(.ref so), (.ref so)]))
  obtain ⟨T1, X1, e1, st1⟩ := getF X0 hx hZ hown (host := "") (Or.inl (ow hw 44 rfl)) Via.refl e0 Pf3 (g := (mkF m 2 #[.val (.ref so)] [(.ref so), (.ref so)])) rfl rfl (hb hby d9_2)
  refine Go.st st1 ?_
  show Go _ _ _ _ (T1.setTop (mkF m 5 #[.val (.ref so)] [(.int (0 : Int32)), (.ref so)]))
  refine Go.st (fun _ k => XS.iconst X1.here hx rfl (hb hby d9_5) k) ?_
  show Go _ _ _ _ (T1.setTop (mkF m 6 #[.val (.ref so)] [(.int (1 : Int32)), (.int (0 : Int32)), (.ref so)]))
  refine Go.st (fun _ k => XS.iadd X1.here hx rfl (hb hby d9_6) rfl k) ?_
  show Go _ _ _ _ (T1.setTop (mkF m 7 #[.val (.ref so)] [(.int ((0 : Int32) + (1 : Int32))), (.ref so)]))
  rw [show ((0 : Int32) + (1 : Int32)) = (1 : Int32) from by decide]
  show Go _ _ _ _ (T1.setTop (mkF m 7 #[.val (.ref so)] [(.int (1 : Int32)), (.ref so)]))
  obtain ⟨cq2, q2, q2'⟩ := Pf0.cell
  obtain ⟨_, _, ⟨T2, L2, k2, n2⟩, -, X2, ⟨Lc2, hQ2, l2, y2, z2⟩, st2⟩ := X1.privateBack hx (y := (⟨"java/util/ArrayList", "grow", "(I)[Ljava/lang/Object;"⟩ : MethodName)) hown (mvT hZ (ow hw 56 rfl)) (mvT hZ (ow hw 57 rfl)) (mvT hZ (ow hw 59 rfl)) (Cond.privateMethod_at (mvP hZ (ow hw 58 rfl) (args := #[]))) (mvT hZ (ow hw 60 rfl)) (by decide) (backOf (W := 0) (rm_growI l Z a0 hw [] so (1 : Int32) de kd mc h0 n0 Z0 Pf0 Pf1 Pf2 Pf3 Pf4 Pf5 Pf6 Pf7 (by show (1 : Int32) = (1 : Int32); exact rfl)) hZ (ow hw 60 rfl) (ow hw 5 rfl) (by decide) (by decide)) (g := (mkF m 7 #[.val (.ref so)] [(.int (1 : Int32)), (.ref so)])) rfl (by rw [hml]; rfl) (Steps.refl _) (a := so) (by rw [e1]; exact q2) q2' (argsL := [(.int (1 : Int32))]) (rest := []) (lenOf pd_3 rfl) rfl (by show 2 * 0 + _ ≤ _; exact Nat.le_of_eq rfl) (hb hby d9_7) (fun _ _ => ⟨rfl, e1, (by decide : 0 + 1 ≤ _), (by decide : 0 + 10 ≤ _)⟩)
  dsimp only [Pt.U, Pt.locs, Pt.cells, Pt.slots] at X2 l2 y2 z2 st2 hQ2
  rw [l2, y2, z2] at X2
  obtain ⟨b2_fr, x2_kk, rfl, N2q, K2q, g2_fr, s2_fr, Fq2_0, Fq2_1, Fq2_2, Fq2_3, Fq2_4, Fq2_5, pr2_ov⟩ := hQ2
  have N2 := Fr.app N0 N2q
  refine Go.st (fun _ k => st2.trans k) ?_
  have ne3 := om_ Pf0.lt s2_fr
  have ne4 := om_ Pf4.lt s2_fr
  have sz5 : h0.size ≤ b2_fr := Nat.le_trans K0.1 s2_fr
  have Z6 : n0 ≤ T2.heap.size := Nat.le_trans Z0 K2q.1
  have K7 := K0.trans K2q (fun z hz => (List.mem_cons.mp hz).elim (fun q => by rw [q]; exact Or.inl (List.mem_of_getElem? (i := 0) rfl)) nn_)
  have F8 := Pf0.keep K2q
  have F9 := Pf4.keep K2q (fun z => (List.mem_cons.mp z).elim (Exa.ne Pf5 Pf0 (by decide)) nn_)
  have F10 := Pf5.keep K2q
  have F11 := own_stakeepW Pf6 K2q (allS (P := fun x => ∀ c : Cell, h0[x]? = some c → c.vm.isStatics = false) (old_plain Pf3) all0)
  show Go _ _ _ _ (T2.setTop (mkF m 10 #[.val (.ref so)] [(.ref b2_fr)]))
  subst hG
  obtain ⟨fs, hr, hrun, hended, hW, hsame⟩ := X2.leave (v := some (.ref b2_fr)) (fun h => by rw [Bd.returns] at h; cases h)
  refine ⟨_, _, ?_, hrun, hended, _, _, rfl, ?_, ⟨_, rfl⟩, hW, hsame.mono (by decide) (by decide)⟩
  · exact retOut X2 hx Bd.returns rfl (Or.inr (Or.inr (Or.inr (Or.inr ⟨rfl, rfl, rfl⟩)))) (hb hby d9_10) hr
  · show Q_grow0 Z so de kd mc h0 n0 _ T2.heap _
    exact ⟨b2_fr, x2_kk, rfl, N2, K7, g2_fr, sz5, Fq2_0, Fq2_1, Fq2_2, Fq2_3, Fq2_4, Fq2_5, pr2_ov⟩
theorem pd_4 : parseMethodDescriptor "()[Ljava/lang/Object;" = some ⟨[], some (.array (.object "java/lang/Object"))⟩ := by decide +kernel
theorem d10_0 : decode jdk_38_method_24_code 0 = .ok (.iload_n 3, 1) := by decide +kernel
theorem d10_1 : decode jdk_38_method_24_code 1 = .ok (.aload_n 2, 1) := by decide +kernel
theorem d10_2 : decode jdk_38_method_24_code 2 = .ok (.arraylength, 1) := by decide +kernel
theorem d10_3 : decode jdk_38_method_24_code 3 = .ok (.if_icmp .ne 8, 3) := by decide +kernel
theorem d10_6 : decode jdk_38_method_24_code 6 = .ok (.aload_n 0, 1) := by decide +kernel
theorem d10_7 : decode jdk_38_method_24_code 7 = .ok (.invokevirtual 129, 3) := by decide +kernel
theorem d10_10 : decode jdk_38_method_24_code 10 = .ok (.astore_n 2, 1) := by decide +kernel
theorem d10_11 : decode jdk_38_method_24_code 11 = .ok (.aload_n 2, 1) := by decide +kernel
theorem d10_12 : decode jdk_38_method_24_code 12 = .ok (.iload_n 3, 1) := by decide +kernel
theorem d10_13 : decode jdk_38_method_24_code 13 = .ok (.aload_n 1, 1) := by decide +kernel
theorem d10_14 : decode jdk_38_method_24_code 14 = .ok (.aastore, 1) := by decide +kernel
theorem d10_15 : decode jdk_38_method_24_code 15 = .ok (.aload_n 0, 1) := by decide +kernel
theorem d10_16 : decode jdk_38_method_24_code 16 = .ok (.iload_n 3, 1) := by decide +kernel
theorem d10_17 : decode jdk_38_method_24_code 17 = .ok (.iconst 1, 1) := by decide +kernel
theorem d10_18 : decode jdk_38_method_24_code 18 = .ok (.iadd, 1) := by decide +kernel
theorem d10_19 : decode jdk_38_method_24_code 19 = .ok (.putfield 48, 3) := by decide +kernel
theorem d10_22 : decode jdk_38_method_24_code 22 = .ok (.return_, 1) := by decide +kernel
theorem ef_add3 (m : MethodId) (so : Addr) (eo : Addr) (ao : Addr) (ps : Int32) : entryFrame m #[(.ref so), (.ref eo), (.ref ao), (.int ps)] 4 = mkF m 0 #[.val (.ref so), .val (.ref eo), .val (.ref ao), .val (.int ps)] [] := by first | (simp [entryFrame, mkF, argsToLocals, Value.category]; done) | rfl
def Q_add3 (Z : State) (so : Addr) (eo : Addr) (ao : Addr) (ps : Int32) (kd : ClassId) (mc : Int32) (h0 : Heap) (n0 : Nat) (v : Option Value) (h : Heap) (L : List Loc) : Prop := ∃ fr : Addr, ∃ kk : ClassId, v = none ∧ Fr n0 L ∧ Keep h0 h [so] ∧ n0 ≤ fr ∧ h0.size ≤ fr ∧ Exa Z h so "java/util/ArrayList" ∧ Fld Z h so "java/util/AbstractList" "modCount" "I" (.int mc) ∧ Fld Z h so "java/util/ArrayList" "elementData" "[Ljava/lang/Object;" (.ref fr) ∧ Fld Z h so "java/util/ArrayList" "size" "I" (.int (1 : Int32)) ∧ Arv Z h fr kk (.object "java/lang/Object") (10 : Int32) [(.ref eo), .null, .null, .null, .null, .null, .null, .null, .null, .null] .null ∧ Exa Z h fr "[Ljava/lang/Object;" ∧ Ovr Z kk "java/lang/Object"
set_option maxRecDepth 65536 in
set_option maxHeartbeats 40000000 in
theorem rm_add3 (l : Launch) (Z : State) (a0 : Array Value) (hw : ∀ d ∈ tables_1, d.before a0 Z = true) (ws : List Jvm.Cond) (so : Addr) (eo : Addr) (ao : Addr) (ps : Int32) (kd : ClassId) (mc : Int32) (h0 : Heap) (n0 : Nat) (Z0 : n0 ≤ h0.size) (Pf0 : Exa Z h0 so "java/util/ArrayList") (Pf1 : Fld Z h0 so "java/util/AbstractList" "modCount" "I" (.int mc)) (Pf2 : Fld Z h0 so "java/util/ArrayList" "elementData" "[Ljava/lang/Object;" (.ref ao)) (Pf3 : Fld Z h0 so "java/util/ArrayList" "size" "I" (.int (0 : Int32))) (Pf4 : Arv Z h0 ao kd (.object "java/lang/Object") (0 : Int32) [] .null) (Pf5 : Exa Z h0 ao "[Ljava/lang/Object;") (Pf6 : Sta Z h0 "java/util/ArrayList" "DEFAULTCAPACITY_EMPTY_ELEMENTDATA" "[Ljava/lang/Object;" (.ref ao)) (Pf7 : Exa Z h0 eo "java/lang/Long") (Pf8 : n0 ≤ so) (hps : ps = (0 : Int32)) :
    MetFree l (⟨"java/util/ArrayList", "add", "(Ljava/lang/Object;[Ljava/lang/Object;I)V"⟩ : MethodName) (head1 (Jvm.Cond.code (⟨"java/util/ArrayList", "add", "(Ljava/lang/Object;[Ljava/lang/Object;I)V"⟩ : MethodName) jdk_38_method_24_code 4 none :: ws) ({ frames := 3, cells := 1, slots := 10, locals := 41 } : Room)) (fun a U => a = #[(.ref so), (.ref eo), (.ref ao), (.int ps)] ∧ Z.Warmed39 U.vm ∧ U.heap = h0) (fun _ _ _ _ _ => True) (fun _ U o U' => ∃ v L, o = .returned v ∧ Q_add3 Z so eo ao ps kd mc h0 n0 v U'.heap L ∧ FrameEnd U o U' L ({ frames := 3, cells := 1, slots := 10, locals := 41 } : Room).cells ({ frames := 3, cells := 1, slots := 10, locals := 41 } : Room).slots) := by
  refine MetFree.of_bodySF (plainFor_of_name pn_2) hisR ?_
  intro p e s m args below meth c s₁ Bd hml0 hP hK
  obtain ⟨rfl, hZ, hh⟩ := hP
  have hx := Bd.exec
  have hby := Bd.bytes
  have hml : c.maxLocals = 4 := hml0
  have hown : s.vm.findClass "java/util/ArrayList" = some m.cls := findClass_of_methodNamed Bd.named
  have hnm := (name_of_methodNamed Bd.named Bd.method).1
  have X0 : Stand p l e ({ frames := 3, cells := 1, slots := 10, locals := 41 } : Room) s m #[(.ref so), (.ref eo), (.ref ao), (.int ps)] below meth c s₁ [] 0 0 := Stand.of_body Bd
  have e0 : s₁.heap = h0 := by rw [← hh, Bd.state]; rfl
  have N0 := Fr.nil n0
  have K0 : Keep h0 h0 [so] := Keep.refl h0 [so]
  show Go p.tables e below _ (s₁.setTop (entryFrame m #[(.ref so), (.ref eo), (.ref ao), (.int ps)] 4))
  refine Go.start ?_
  intro G hG
  refine Go.st (fun t k => castTop (ef_add3 m so eo ao ps) k) ?_
  subst hps
  show Go _ _ _ _ (s₁.setTop (mkF m 0 #[.val (.ref so), .val (.ref eo), .val (.ref ao), .val (.int (0 : Int32))] []))
  refine Go.st (fun _ k => XS.iloadN X0.here hx rfl (hb hby d10_0) rfl k) ?_
  show Go _ _ _ _ (s₁.setTop (mkF m 1 #[.val (.ref so), .val (.ref eo), .val (.ref ao), .val (.int (0 : Int32))] [(.int (0 : Int32))]))
  refine Go.st (fun _ k => XS.aloadN X0.here hx rfl (hb hby d10_1) rfl rfl k) ?_
  show Go _ _ _ _ (s₁.setTop (mkF m 2 #[.val (.ref so), .val (.ref eo), .val (.ref ao), .val (.int (0 : Int32))] [(.ref ao), (.int (0 : Int32))]))
  obtain ⟨cl1, Ar1, -, S1, M1, -, -⟩ := id Pf4
  refine Go.st (fun _ k => X0.arraylength hx (by rw [e0]; exact Ar1.1) (State.isArrayOf_alike hZ.alike Ar1.2.1) (g := (mkF m 2 #[.val (.ref so), .val (.ref eo), .val (.ref ao), .val (.int (0 : Int32))] [(.ref ao), (.int (0 : Int32))])) rfl rfl (hb hby d10_2) _ k) ?_
  rw [len_of S1 M1]
  show Go _ _ _ _ (s₁.setTop (mkF m 3 #[.val (.ref so), .val (.ref eo), .val (.ref ao), .val (.int (0 : Int32))] [(.int (0 : Int32)), (.int (0 : Int32))]))
  have hl2 : (0 : Int32) = (0 : Int32) := by decide
  refine Go.st (fun _ k => XS.icmpNo X0.here hx rfl (hb hby d10_3) rfl (Jvm.Free.XT.ii_ne_f hl2) k) ?_
  show Go _ _ _ _ (s₁.setTop (mkF m 6 #[.val (.ref so), .val (.ref eo), .val (.ref ao), .val (.int (0 : Int32))] []))
  refine Go.st (fun _ k => XS.aloadN X0.here hx rfl (hb hby d10_6) rfl rfl k) ?_
  show Go _ _ _ _ (s₁.setTop (mkF m 7 #[.val (.ref so), .val (.ref eo), .val (.ref ao), .val (.int (0 : Int32))] [(.ref so)]))
  obtain ⟨cq3, q3, q3'⟩ := Pf0.cell
  obtain ⟨_, _, ⟨T3, L3, k3, n3⟩, -, X3, ⟨Lc3, hQ3, l3, y3, z3⟩, st3⟩ := X0.privateBack hx (y := (⟨"java/util/ArrayList", "grow", "()[Ljava/lang/Object;"⟩ : MethodName)) hown (mvT hZ (ow hw 51 rfl)) (mvT hZ (ow hw 52 rfl)) (mvT hZ (ow hw 54 rfl)) (Cond.privateMethod_at (mvP hZ (ow hw 53 rfl) (args := #[]))) (mvT hZ (ow hw 55 rfl)) (by decide) (backOf (W := 0) (rm_grow0 l Z a0 hw [] so ao kd mc h0 n0 Z0 Pf0 Pf1 Pf2 Pf3 Pf4 Pf5 Pf6 Pf8) hZ (ow hw 55 rfl) (ow hw 5 rfl) (by decide) (by decide)) (g := (mkF m 7 #[.val (.ref so), .val (.ref eo), .val (.ref ao), .val (.int (0 : Int32))] [(.ref so)])) rfl (by rw [hml]; rfl) (Steps.refl _) (a := so) (by rw [e0]; exact q3) q3' (argsL := []) (rest := []) (lenOf pd_4 rfl) rfl (by show 2 * 0 + _ ≤ _; exact Nat.le_of_eq rfl) (hb hby d10_7) (fun _ _ => ⟨rfl, e0, (by decide : 0 + 1 ≤ _), (by decide : 0 + 10 ≤ _)⟩)
  dsimp only [Pt.U, Pt.locs, Pt.cells, Pt.slots] at X3 l3 y3 z3 st3 hQ3
  rw [l3, y3, z3] at X3
  obtain ⟨b3_fr, x3_kk, rfl, N3q, K3q, g3_fr, s3_fr, Fq3_0, Fq3_1, Fq3_2, Fq3_3, Fq3_4, Fq3_5, pr3_ov⟩ := hQ3
  have N3 := Fr.app N0 N3q
  refine Go.st (fun _ k => st3.trans k) ?_
  have ne4 := om_ Pf0.lt s3_fr
  have ne5 := om_ Pf4.lt s3_fr
  have ne6 := om_ Pf7.lt s3_fr
  have sz7 : h0.size ≤ b3_fr := Nat.le_trans K0.1 s3_fr
  have Z8 : n0 ≤ T3.heap.size := Nat.le_trans Z0 K3q.1
  have K9 := K0.trans K3q (fun z hz => (List.mem_cons.mp hz).elim (fun q => by rw [q]; exact Or.inl (List.mem_of_getElem? (i := 0) rfl)) nn_)
  have F10 := Pf0.keep K3q
  have F11 := Pf4.keep K3q (fun z => (List.mem_cons.mp z).elim (Exa.ne Pf5 Pf0 (by decide)) nn_)
  have F12 := Pf5.keep K3q
  have F13 := own_stakeepW Pf6 K3q (allS (P := fun x => ∀ c : Cell, h0[x]? = some c → c.vm.isStatics = false) (old_plain Pf3) all0)
  have F14 := Pf7.keep K3q
  show Go _ _ _ _ (T3.setTop (mkF m 10 #[.val (.ref so), .val (.ref eo), .val (.ref ao), .val (.int (0 : Int32))] [(.ref b3_fr)]))
  refine Go.st (fun _ k => XS.astoreN X3.here hx rfl (hb hby d10_10) rfl rfl (l' := #[.val (.ref so), .val (.ref eo), .val (.ref b3_fr), .val (.int (0 : Int32))]) rfl k) ?_
  show Go _ _ _ _ (T3.setTop (mkF m 11 #[.val (.ref so), .val (.ref eo), .val (.ref b3_fr), .val (.int (0 : Int32))] []))
  refine Go.st (fun _ k => XS.aloadN X3.here hx rfl (hb hby d10_11) rfl rfl k) ?_
  show Go _ _ _ _ (T3.setTop (mkF m 12 #[.val (.ref so), .val (.ref eo), .val (.ref b3_fr), .val (.int (0 : Int32))] [(.ref b3_fr)]))
  refine Go.st (fun _ k => XS.iloadN X3.here hx rfl (hb hby d10_12) rfl k) ?_
  show Go _ _ _ _ (T3.setTop (mkF m 13 #[.val (.ref so), .val (.ref eo), .val (.ref b3_fr), .val (.int (0 : Int32))] [(.int (0 : Int32)), (.ref b3_fr)]))
  refine Go.st (fun _ k => XS.aloadN X3.here hx rfl (hb hby d10_13) rfl rfl k) ?_
  show Go _ _ _ _ (T3.setTop (mkF m 14 #[.val (.ref so), .val (.ref eo), .val (.ref b3_fr), .val (.int (0 : Int32))] [(.ref eo), (.int (0 : Int32)), (.ref b3_fr)]))
  obtain ⟨cl15, Ar15, q15, S15, M15, H15, G15⟩ := id Fq3_4
  have hin15 : ¬ ((0 : Int32) < 0 ∨ cl15.slots.size ≤ ((0 : Int32)).toNatClampNeg) := inb_of S15 ⟨by decide, by decide⟩
  obtain ⟨T15, h15, X15, e15, W15, st15⟩ := stR X3 hx hZ (rfl : T3.heap = T3.heap) Ar15 (j := (0 : Int32)) hin15 rfl (Sto.of Ar15 (by rw [q15]; exact pr3_ov) (Ins.of_exa F14 (ow hw 67 rfl))) (g := (mkF m 14 #[.val (.ref so), .val (.ref eo), .val (.ref b3_fr), .val (.int (0 : Int32))] [(.ref eo), (.int (0 : Int32)), (.ref b3_fr)])) rfl rfl (hb hby d10_14)
  refine Go.st st15 ?_
  have F16 := F11.other W15 ne5
  have F17 := F12.wr W15
  have F18 := F13.wr W15
  have F19 := F14.wr W15
  have F20 := Fq3_0.wr W15
  have F21 := Fq3_1.other W15 (Or.inl ne4)
  have F22 := Fq3_2.other W15 (Or.inl ne4)
  have F23 := Fq3_3.other W15 (Or.inl ne4)
  have F24 : Arv Z h15 b3_fr x3_kk (.object "java/lang/Object") (10 : Int32) [(.ref eo), .null, .null, .null, .null, .null, .null, .null, .null, .null] .null := Arv.set Ar15 q15 S15 M15 H15 G15 rfl W15 0 rfl (Nat.le_of_ble_eq_true rfl)
  have F25 := Fq3_5.wr W15
  have K26 := K9.wr W15 (Or.inr sz7)
  have Z27 := oz_ Z8 W15
  have N28 := Fr.snoc X15 N3 g3_fr
  show Go _ _ _ _ (T15.setTop (mkF m 15 #[.val (.ref so), .val (.ref eo), .val (.ref b3_fr), .val (.int (0 : Int32))] []))
  refine Go.st (fun _ k => XS.aloadN X15.here hx rfl (hb hby d10_15) rfl rfl k) ?_
  show Go _ _ _ _ (T15.setTop (mkF m 16 #[.val (.ref so), .val (.ref eo), .val (.ref b3_fr), .val (.int (0 : Int32))] [(.ref so)]))
  refine Go.st (fun _ k => XS.iloadN X15.here hx rfl (hb hby d10_16) rfl k) ?_
  show Go _ _ _ _ (T15.setTop (mkF m 17 #[.val (.ref so), .val (.ref eo), .val (.ref b3_fr), .val (.int (0 : Int32))] [(.int (0 : Int32)), (.ref so)]))
  refine Go.st (fun _ k => XS.iconst X15.here hx rfl (hb hby d10_17) k) ?_
  show Go _ _ _ _ (T15.setTop (mkF m 18 #[.val (.ref so), .val (.ref eo), .val (.ref b3_fr), .val (.int (0 : Int32))] [(.int (1 : Int32)), (.int (0 : Int32)), (.ref so)]))
  refine Go.st (fun _ k => XS.iadd X15.here hx rfl (hb hby d10_18) rfl k) ?_
  show Go _ _ _ _ (T15.setTop (mkF m 19 #[.val (.ref so), .val (.ref eo), .val (.ref b3_fr), .val (.int (0 : Int32))] [(.int ((0 : Int32) + (1 : Int32))), (.ref so)]))
  rw [show ((0 : Int32) + (1 : Int32)) = (1 : Int32) from by decide]
  show Go _ _ _ _ (T15.setTop (mkF m 19 #[.val (.ref so), .val (.ref eo), .val (.ref b3_fr), .val (.int (0 : Int32))] [(.int (1 : Int32)), (.ref so)]))
  obtain ⟨T29, h29, X29, e29, W29, st29⟩ := putF X15 hx hZ hown (host := "") (Or.inl (ow hw 44 rfl)) Via.refl e15 F23 F20 (Or.inl (ow hw 45 rfl)) (ow hw 4 rfl) (ty := .int) (by decide) rfl rfl (g := (mkF m 19 #[.val (.ref so), .val (.ref eo), .val (.ref b3_fr), .val (.int (0 : Int32))] [(.int (1 : Int32)), (.ref so)])) rfl rfl (hb hby d10_19)
  refine Go.st st29 ?_
  have F30 := F16.other W29 (Exa.ne F17 F20 (by decide))
  have F31 := F17.wr W29
  have F32 := F18.wr W29
  have F33 := F19.wr W29
  have F34 := F20.wr W29
  have F35 := F21.other W29 (Or.inr (slot_ne (Or.inl (ow hw 25 rfl)) (Or.inl (ow hw 45 rfl)) (by decide) (t := .int) (t' := .int) (by decide) (by decide)))
  have F36 := F22.other W29 (Or.inr (slot_ne (Or.inl (ow hw 28 rfl)) (Or.inl (ow hw 45 rfl)) (by decide) (t := (.array (.object "java/lang/Object"))) (t' := .int) (by decide) (by decide)))
  have F37 := F23.same W29
  have F38 := F24.other W29 (Ne.symm ne4)
  have F39 := F25.wr W29
  have K40 := K26.wr W29 (Or.inl (List.mem_of_getElem? (i := 0) rfl))
  have Z41 := oz_ Z27 W29
  have N42 := Fr.snoc X29 N28 Pf8
  show Go _ _ _ _ (T29.setTop (mkF m 22 #[.val (.ref so), .val (.ref eo), .val (.ref b3_fr), .val (.int (0 : Int32))] []))
  subst hG
  obtain ⟨fs, hr, hrun, hended, hW, hsame⟩ := X29.leave (v := none) (fun _ => rfl)
  refine ⟨_, _, ?_, hrun, hended, _, _, rfl, ?_, ⟨_, rfl⟩, hW, hsame.mono (by decide) (by decide)⟩
  · exact X29.returnOut hx Bd.returns (hb hby d10_22) hr
  · show Q_add3 Z so eo ao (0 : Int32) kd mc h0 n0 _ T29.heap _
    rw [e29]
    exact ⟨b3_fr, x3_kk, rfl, N42, K40, g3_fr, sz7, F34, F35, F36, F37, F38, F39, pr3_ov⟩
theorem pd_5 : parseMethodDescriptor "(Ljava/lang/Object;[Ljava/lang/Object;I)V" = some ⟨[(.object "java/lang/Object"), (.array (.object "java/lang/Object")), .int], none⟩ := by decide +kernel
theorem d11_0 : decode jdk_38_method_25_code 0 = .ok (.aload_n 0, 1) := by decide +kernel
theorem d11_1 : decode jdk_38_method_25_code 1 = .ok (.dup, 1) := by decide +kernel
theorem d11_2 : decode jdk_38_method_25_code 2 = .ok (.getfield 63, 3) := by decide +kernel
theorem d11_5 : decode jdk_38_method_25_code 5 = .ok (.iconst 1, 1) := by decide +kernel
theorem d11_6 : decode jdk_38_method_25_code 6 = .ok (.iadd, 1) := by decide +kernel
theorem d11_7 : decode jdk_38_method_25_code 7 = .ok (.putfield 63, 3) := by decide +kernel
theorem d11_10 : decode jdk_38_method_25_code 10 = .ok (.aload_n 0, 1) := by decide +kernel
theorem d11_11 : decode jdk_38_method_25_code 11 = .ok (.aload_n 1, 1) := by decide +kernel
theorem d11_12 : decode jdk_38_method_25_code 12 = .ok (.aload_n 0, 1) := by decide +kernel
theorem d11_13 : decode jdk_38_method_25_code 13 = .ok (.getfield 9, 3) := by decide +kernel
theorem d11_16 : decode jdk_38_method_25_code 16 = .ok (.aload_n 0, 1) := by decide +kernel
theorem d11_17 : decode jdk_38_method_25_code 17 = .ok (.getfield 48, 3) := by decide +kernel
theorem d11_20 : decode jdk_38_method_25_code 20 = .ok (.invokevirtual 131, 3) := by decide +kernel
theorem d11_23 : decode jdk_38_method_25_code 23 = .ok (.iconst 1, 1) := by decide +kernel
theorem d11_24 : decode jdk_38_method_25_code 24 = .ok (.ireturn, 1) := by decide +kernel
theorem ef_add1 (m : MethodId) (so : Addr) (eo : Addr) : entryFrame m #[(.ref so), (.ref eo)] 2 = mkF m 0 #[.val (.ref so), .val (.ref eo)] [] := by first | (simp [entryFrame, mkF, argsToLocals, Value.category]; done) | rfl
def Q_add1 (Z : State) (so : Addr) (eo : Addr) (de : Addr) (kd : ClassId) (h0 : Heap) (n0 : Nat) (v : Option Value) (h : Heap) (L : List Loc) : Prop := ∃ fr : Addr, ∃ kk : ClassId, v = some (.int (1 : Int32)) ∧ Fr n0 L ∧ Keep h0 h [so] ∧ n0 ≤ fr ∧ h0.size ≤ fr ∧ Exa Z h so "java/util/ArrayList" ∧ Fld Z h so "java/util/AbstractList" "modCount" "I" (.int (1 : Int32)) ∧ Fld Z h so "java/util/ArrayList" "elementData" "[Ljava/lang/Object;" (.ref fr) ∧ Fld Z h so "java/util/ArrayList" "size" "I" (.int (1 : Int32)) ∧ Arv Z h fr kk (.object "java/lang/Object") (10 : Int32) [(.ref eo), .null, .null, .null, .null, .null, .null, .null, .null, .null] .null ∧ Exa Z h fr "[Ljava/lang/Object;" ∧ Ovr Z kk "java/lang/Object"
set_option maxRecDepth 65536 in
set_option maxHeartbeats 40000000 in
theorem rm_add1 (l : Launch) (Z : State) (a0 : Array Value) (hw : ∀ d ∈ tables_1, d.before a0 Z = true) (ws : List Jvm.Cond) (so : Addr) (eo : Addr) (de : Addr) (kd : ClassId) (h0 : Heap) (n0 : Nat) (Z0 : n0 ≤ h0.size) (Pf0 : Exa Z h0 so "java/util/ArrayList") (Pf1 : Fld Z h0 so "java/util/AbstractList" "modCount" "I" (.int (0 : Int32))) (Pf2 : Fld Z h0 so "java/util/ArrayList" "elementData" "[Ljava/lang/Object;" (.ref de)) (Pf3 : Fld Z h0 so "java/util/ArrayList" "size" "I" (.int (0 : Int32))) (Pf4 : Arv Z h0 de kd (.object "java/lang/Object") (0 : Int32) [] .null) (Pf5 : Exa Z h0 de "[Ljava/lang/Object;") (Pf6 : Sta Z h0 "java/util/ArrayList" "DEFAULTCAPACITY_EMPTY_ELEMENTDATA" "[Ljava/lang/Object;" (.ref de)) (Pf7 : Exa Z h0 eo "java/lang/Long") (Pf8 : n0 ≤ so) :
    MetFree l (⟨"java/util/ArrayList", "add", "(Ljava/lang/Object;)Z"⟩ : MethodName) (head1 (Jvm.Cond.code (⟨"java/util/ArrayList", "add", "(Ljava/lang/Object;)Z"⟩ : MethodName) jdk_38_method_25_code 2 (some .boolean) :: ws) ({ frames := 4, cells := 1, slots := 10, locals := 56 } : Room)) (fun a U => a = #[(.ref so), (.ref eo)] ∧ Z.Warmed39 U.vm ∧ U.heap = h0) (fun _ _ _ _ _ => True) (fun _ U o U' => ∃ v L, o = .returned v ∧ Q_add1 Z so eo de kd h0 n0 v U'.heap L ∧ FrameEnd U o U' L ({ frames := 4, cells := 1, slots := 10, locals := 56 } : Room).cells ({ frames := 4, cells := 1, slots := 10, locals := 56 } : Room).slots) := by
  refine MetFree.of_bodySF (plainFor_of_name pn_2) hisR ?_
  intro p e s m args below meth c s₁ Bd hml0 hP hK
  obtain ⟨rfl, hZ, hh⟩ := hP
  have hx := Bd.exec
  have hby := Bd.bytes
  have hml : c.maxLocals = 2 := hml0
  have hown : s.vm.findClass "java/util/ArrayList" = some m.cls := findClass_of_methodNamed Bd.named
  have hnm := (name_of_methodNamed Bd.named Bd.method).1
  have X0 : Stand p l e ({ frames := 4, cells := 1, slots := 10, locals := 56 } : Room) s m #[(.ref so), (.ref eo)] below meth c s₁ [] 0 0 := Stand.of_body Bd
  have e0 : s₁.heap = h0 := by rw [← hh, Bd.state]; rfl
  have N0 := Fr.nil n0
  have K0 : Keep h0 h0 [so] := Keep.refl h0 [so]
  show Go p.tables e below _ (s₁.setTop (entryFrame m #[(.ref so), (.ref eo)] 2))
  refine Go.start ?_
  intro G hG
  refine Go.st (fun t k => castTop (ef_add1 m so eo) k) ?_
  show Go _ _ _ _ (s₁.setTop (mkF m 0 #[.val (.ref so), .val (.ref eo)] []))
  refine Go.st (fun _ k => XS.aloadN X0.here hx rfl (hb hby d11_0) rfl rfl k) ?_
  show Go _ _ _ _ (s₁.setTop (mkF m 1 #[.val (.ref so), .val (.ref eo)] [(.ref so)]))
  refine Go.st (fun _ k => XS.dup X0.here hx rfl (hb hby d11_1) rfl rfl k) ?_
  show Go _ _ _ _ (s₁.setTop (mkF m 2 #[.val (.ref so), .val (.ref eo)] [(.ref so), (.ref so)]))
  obtain ⟨T1, X1, e1, st1⟩ := getF X0 hx hZ hown (host := "") (Or.inl (ow hw 42 rfl)) (Via.of (ow hw 43 rfl)) e0 Pf1 (g := (mkF m 2 #[.val (.ref so), .val (.ref eo)] [(.ref so), (.ref so)])) rfl rfl (hb hby d11_2)
  refine Go.st st1 ?_
  show Go _ _ _ _ (T1.setTop (mkF m 5 #[.val (.ref so), .val (.ref eo)] [(.int (0 : Int32)), (.ref so)]))
  refine Go.st (fun _ k => XS.iconst X1.here hx rfl (hb hby d11_5) k) ?_
  show Go _ _ _ _ (T1.setTop (mkF m 6 #[.val (.ref so), .val (.ref eo)] [(.int (1 : Int32)), (.int (0 : Int32)), (.ref so)]))
  refine Go.st (fun _ k => XS.iadd X1.here hx rfl (hb hby d11_6) rfl k) ?_
  show Go _ _ _ _ (T1.setTop (mkF m 7 #[.val (.ref so), .val (.ref eo)] [(.int ((0 : Int32) + (1 : Int32))), (.ref so)]))
  rw [show ((0 : Int32) + (1 : Int32)) = (1 : Int32) from by decide]
  show Go _ _ _ _ (T1.setTop (mkF m 7 #[.val (.ref so), .val (.ref eo)] [(.int (1 : Int32)), (.ref so)]))
  obtain ⟨T2, h2, X2, e2, W2, st2⟩ := putF X1 hx hZ hown (host := "") (Or.inl (ow hw 42 rfl)) (Via.of (ow hw 43 rfl)) e1 Pf1 Pf0 (Or.inl (ow hw 25 rfl)) (ow hw 4 rfl) (ty := .int) (by decide) rfl rfl (g := (mkF m 7 #[.val (.ref so), .val (.ref eo)] [(.int (1 : Int32)), (.ref so)])) rfl rfl (hb hby d11_7)
  refine Go.st st2 ?_
  have F3 := Pf0.wr W2
  have F4 := Pf1.same W2
  have F5 := Pf2.other W2 (Or.inr (slot_ne (Or.inl (ow hw 28 rfl)) (Or.inl (ow hw 25 rfl)) (by decide) (t := (.array (.object "java/lang/Object"))) (t' := .int) (by decide) (by decide)))
  have F6 := Pf3.other W2 (Or.inr (slot_ne (Or.inl (ow hw 45 rfl)) (Or.inl (ow hw 25 rfl)) (by decide) (t := .int) (t' := .int) (by decide) (by decide)))
  have F7 := Pf4.other W2 (Exa.ne Pf5 Pf0 (by decide))
  have F8 := Pf5.wr W2
  have F9 := Pf6.wr W2
  have F10 := Pf7.wr W2
  have K11 := K0.wr W2 (Or.inl (List.mem_of_getElem? (i := 0) rfl))
  have Z12 := oz_ Z0 W2
  have N13 := Fr.snoc X2 N0 Pf8
  show Go _ _ _ _ (T2.setTop (mkF m 10 #[.val (.ref so), .val (.ref eo)] []))
  refine Go.st (fun _ k => XS.aloadN X2.here hx rfl (hb hby d11_10) rfl rfl k) ?_
  show Go _ _ _ _ (T2.setTop (mkF m 11 #[.val (.ref so), .val (.ref eo)] [(.ref so)]))
  refine Go.st (fun _ k => XS.aloadN X2.here hx rfl (hb hby d11_11) rfl rfl k) ?_
  show Go _ _ _ _ (T2.setTop (mkF m 12 #[.val (.ref so), .val (.ref eo)] [(.ref eo), (.ref so)]))
  refine Go.st (fun _ k => XS.aloadN X2.here hx rfl (hb hby d11_12) rfl rfl k) ?_
  show Go _ _ _ _ (T2.setTop (mkF m 13 #[.val (.ref so), .val (.ref eo)] [(.ref so), (.ref eo), (.ref so)]))
  obtain ⟨T14, X14, e14, st14⟩ := getF X2 hx hZ hown (host := "") (Or.inl (ow hw 27 rfl)) Via.refl e2 F5 (g := (mkF m 13 #[.val (.ref so), .val (.ref eo)] [(.ref so), (.ref eo), (.ref so)])) rfl rfl (hb hby d11_13)
  refine Go.st st14 ?_
  show Go _ _ _ _ (T14.setTop (mkF m 16 #[.val (.ref so), .val (.ref eo)] [(.ref de), (.ref eo), (.ref so)]))
  refine Go.st (fun _ k => XS.aloadN X14.here hx rfl (hb hby d11_16) rfl rfl k) ?_
  show Go _ _ _ _ (T14.setTop (mkF m 17 #[.val (.ref so), .val (.ref eo)] [(.ref so), (.ref de), (.ref eo), (.ref so)]))
  obtain ⟨T15, X15, e15, st15⟩ := getF X14 hx hZ hown (host := "") (Or.inl (ow hw 44 rfl)) Via.refl e14 F6 (g := (mkF m 17 #[.val (.ref so), .val (.ref eo)] [(.ref so), (.ref de), (.ref eo), (.ref so)])) rfl rfl (hb hby d11_17)
  refine Go.st st15 ?_
  show Go _ _ _ _ (T15.setTop (mkF m 20 #[.val (.ref so), .val (.ref eo)] [(.int (0 : Int32)), (.ref de), (.ref eo), (.ref so)]))
  obtain ⟨cq16, q16, q16'⟩ := F3.cell
  obtain ⟨_, _, ⟨T16, L16, k16, n16⟩, -, X16, ⟨Lc16, hQ16, l16, y16, z16⟩, st16⟩ := X15.privateBack hx (y := (⟨"java/util/ArrayList", "add", "(Ljava/lang/Object;[Ljava/lang/Object;I)V"⟩ : MethodName)) hown (mvT hZ (ow hw 46 rfl)) (mvT hZ (ow hw 47 rfl)) (mvT hZ (ow hw 49 rfl)) (Cond.privateMethod_at (mvP hZ (ow hw 48 rfl) (args := #[]))) (mvT hZ (ow hw 50 rfl)) (by decide) (backOf (W := 0) (rm_add3 l Z a0 hw [] so eo de (0 : Int32) kd (1 : Int32) h2 n0 Z12 F3 F4 F5 F6 F7 F8 F9 F10 Pf8 (by show (0 : Int32) = (0 : Int32); exact rfl)) hZ (ow hw 50 rfl) (ow hw 5 rfl) (by decide) (by decide)) (g := (mkF m 20 #[.val (.ref so), .val (.ref eo)] [(.int (0 : Int32)), (.ref de), (.ref eo), (.ref so)])) rfl (by rw [hml]; rfl) (Steps.refl _) (a := so) (by rw [e15]; exact q16) q16' (argsL := [(.ref eo), (.ref de), (.int (0 : Int32))]) (rest := []) (lenOf pd_5 rfl) rfl (by show 2 * 0 + _ ≤ _; exact Nat.le_of_eq rfl) (hb hby d11_20) (fun _ _ => ⟨rfl, e15, (by decide : 0 + 1 ≤ _), (by decide : 0 + 10 ≤ _)⟩)
  dsimp only [Pt.U, Pt.locs, Pt.cells, Pt.slots] at X16 l16 y16 z16 st16 hQ16
  rw [l16, y16, z16] at X16
  obtain ⟨b16_fr, x16_kk, rfl, N16q, K16q, g16_fr, s16_fr, Fq16_0, Fq16_1, Fq16_2, Fq16_3, Fq16_4, Fq16_5, pr16_ov⟩ := hQ16
  have N16 := Fr.app N13 N16q
  refine Go.st (fun _ k => st16.trans k) ?_
  have ne17 := om_ F3.lt s16_fr
  have ne18 := om_ F7.lt s16_fr
  have ne19 := om_ F10.lt s16_fr
  have sz20 : h0.size ≤ b16_fr := Nat.le_trans K11.1 s16_fr
  have Z21 : n0 ≤ T16.heap.size := Nat.le_trans Z12 K16q.1
  have K22 := K11.trans K16q (fun z hz => (List.mem_cons.mp hz).elim (fun q => by rw [q]; exact Or.inl (List.mem_of_getElem? (i := 0) rfl)) nn_)
  have F23 := F3.keep K16q
  have F24 := F7.keep K16q (fun z => (List.mem_cons.mp z).elim (Exa.ne F8 F3 (by decide)) nn_)
  have F25 := F8.keep K16q
  have F26 := own_stakeepW F9 K16q (allS (P := fun x => ∀ c : Cell, h2[x]? = some c → c.vm.isStatics = false) (old_plain F6) all0)
  have F27 := F10.keep K16q
  show Go _ _ _ _ (T16.setTop (mkF m 23 #[.val (.ref so), .val (.ref eo)] []))
  refine Go.st (fun _ k => XS.iconst X16.here hx rfl (hb hby d11_23) k) ?_
  show Go _ _ _ _ (T16.setTop (mkF m 24 #[.val (.ref so), .val (.ref eo)] [(.int (1 : Int32))]))
  subst hG
  obtain ⟨fs, hr, hrun, hended, hW, hsame⟩ := X16.leave (v := some (.int (nar .boolean (1 : Int32)))) (fun h => by rw [Bd.returns] at h; cases h)
  refine ⟨_, _, ?_, hrun, hended, _, _, rfl, ?_, ⟨_, rfl⟩, hW, hsame.mono (by decide) (by decide)⟩
  · exact retN X16 hx (t := .boolean) Bd.returns (by simp) (hb hby d11_24) hr
  · show Q_add1 Z so eo de kd h0 n0 _ T16.heap _
    exact ⟨b16_fr, x16_kk, rfl, N16, K22, g16_fr, sz20, Fq16_0, Fq16_1, Fq16_2, Fq16_3, Fq16_4, Fq16_5, pr16_ov⟩
theorem pn_5 : plainName "java/util/ArrayList$Itr" = true := by first | (simp [plainName, overriddenIn]; done) | decide +kernel
theorem d12_0 : decode jdk_49_method_1_code 0 = .ok (.aload_n 0, 1) := by decide +kernel
theorem d12_1 : decode jdk_49_method_1_code 1 = .ok (.aload_n 1, 1) := by decide +kernel
theorem d12_2 : decode jdk_49_method_1_code 2 = .ok (.putfield 1, 3) := by decide +kernel
theorem d12_5 : decode jdk_49_method_1_code 5 = .ok (.aload_n 0, 1) := by decide +kernel
theorem d12_6 : decode jdk_49_method_1_code 6 = .ok (.invokespecial 7, 3) := by decide +kernel
theorem d12_9 : decode jdk_49_method_1_code 9 = .ok (.aload_n 0, 1) := by decide +kernel
theorem d12_10 : decode jdk_49_method_1_code 10 = .ok (.iconst (-1), 1) := by decide +kernel
theorem d12_11 : decode jdk_49_method_1_code 11 = .ok (.putfield 13, 3) := by decide +kernel
theorem d12_14 : decode jdk_49_method_1_code 14 = .ok (.aload_n 0, 1) := by decide +kernel
theorem d12_15 : decode jdk_49_method_1_code 15 = .ok (.aload_n 0, 1) := by decide +kernel
theorem d12_16 : decode jdk_49_method_1_code 16 = .ok (.getfield 1, 3) := by decide +kernel
theorem d12_19 : decode jdk_49_method_1_code 19 = .ok (.getfield 17, 3) := by decide +kernel
theorem d12_22 : decode jdk_49_method_1_code 22 = .ok (.putfield 22, 3) := by decide +kernel
theorem d12_25 : decode jdk_49_method_1_code 25 = .ok (.return_, 1) := by decide +kernel
theorem ef_itin (m : MethodId) (so : Addr) (lo : Addr) : entryFrame m #[(.ref so), (.ref lo)] 2 = mkF m 0 #[.val (.ref so), .val (.ref lo)] [] := by first | (simp [entryFrame, mkF, argsToLocals, Value.category]; done) | rfl
def Q_itin (Z : State) (so : Addr) (lo : Addr) (ed : Addr) (sz : Int32) (mc : Int32) (h0 : Heap) (n0 : Nat) (v : Option Value) (h : Heap) (L : List Loc) : Prop := v = none ∧ Fr n0 L ∧ Keep h0 h [so] ∧ Exa Z h so "java/util/ArrayList$Itr" ∧ Fld Z h so "java/util/ArrayList$Itr" "this$0" "Ljava/util/ArrayList;" (.ref lo) ∧ Fld Z h so "java/util/ArrayList$Itr" "cursor" "I" (.int (0 : Int32)) ∧ Fld Z h so "java/util/ArrayList$Itr" "lastRet" "I" (.int (-1 : Int32)) ∧ Fld Z h so "java/util/ArrayList$Itr" "expectedModCount" "I" (.int mc)
set_option maxRecDepth 65536 in
set_option maxHeartbeats 40000000 in
theorem rm_itin (l : Launch) (Z : State) (a0 : Array Value) (hw : ∀ d ∈ tables_1, d.before a0 Z = true) (ws : List Jvm.Cond) (so : Addr) (lo : Addr) (ed : Addr) (sz : Int32) (mc : Int32) (h0 : Heap) (n0 : Nat) (Z0 : n0 ≤ h0.size) (Pf0 : Exa Z h0 so "java/util/ArrayList$Itr") (Pf1 : Fld Z h0 so "java/util/ArrayList$Itr" "this$0" "Ljava/util/ArrayList;" .null) (Pf2 : Fld Z h0 so "java/util/ArrayList$Itr" "cursor" "I" (.int (0 : Int32))) (Pf3 : Fld Z h0 so "java/util/ArrayList$Itr" "lastRet" "I" (.int (0 : Int32))) (Pf4 : Fld Z h0 so "java/util/ArrayList$Itr" "expectedModCount" "I" (.int (0 : Int32))) (Pf5 : Exa Z h0 lo "java/util/ArrayList") (Pf6 : Fld Z h0 lo "java/util/AbstractList" "modCount" "I" (.int mc)) (Pf7 : Fld Z h0 lo "java/util/ArrayList" "elementData" "[Ljava/lang/Object;" (.ref ed)) (Pf8 : Fld Z h0 lo "java/util/ArrayList" "size" "I" (.int sz)) (Pf9 : n0 ≤ so) :
    MetFree l (⟨"java/util/ArrayList$Itr", "<init>", "(Ljava/util/ArrayList;)V"⟩ : MethodName) (head1 (Jvm.Cond.code (⟨"java/util/ArrayList$Itr", "<init>", "(Ljava/util/ArrayList;)V"⟩ : MethodName) jdk_49_method_1_code 2 none :: ws) ({ frames := 1, cells := 0, slots := 0, locals := 12 } : Room)) (fun a U => a = #[(.ref so), (.ref lo)] ∧ Z.Warmed39 U.vm ∧ U.heap = h0) (fun _ _ _ _ _ => True) (fun _ U o U' => ∃ v L, o = .returned v ∧ Q_itin Z so lo ed sz mc h0 n0 v U'.heap L ∧ FrameEnd U o U' L ({ frames := 1, cells := 0, slots := 0, locals := 12 } : Room).cells ({ frames := 1, cells := 0, slots := 0, locals := 12 } : Room).slots) := by
  refine MetFree.of_bodySF (plainFor_of_name pn_5) hisR ?_
  intro p e s m args below meth c s₁ Bd hml0 hP hK
  obtain ⟨rfl, hZ, hh⟩ := hP
  have hx := Bd.exec
  have hby := Bd.bytes
  have hml : c.maxLocals = 2 := hml0
  have hown : s.vm.findClass "java/util/ArrayList$Itr" = some m.cls := findClass_of_methodNamed Bd.named
  have hnm := (name_of_methodNamed Bd.named Bd.method).1
  have X0 : Stand p l e ({ frames := 1, cells := 0, slots := 0, locals := 12 } : Room) s m #[(.ref so), (.ref lo)] below meth c s₁ [] 0 0 := Stand.of_body Bd
  have e0 : s₁.heap = h0 := by rw [← hh, Bd.state]; rfl
  have N0 := Fr.nil n0
  have K0 : Keep h0 h0 [so] := Keep.refl h0 [so]
  show Go p.tables e below _ (s₁.setTop (entryFrame m #[(.ref so), (.ref lo)] 2))
  refine Go.start ?_
  intro G hG
  refine Go.st (fun t k => castTop (ef_itin m so lo) k) ?_
  show Go _ _ _ _ (s₁.setTop (mkF m 0 #[.val (.ref so), .val (.ref lo)] []))
  refine Go.st (fun _ k => XS.aloadN X0.here hx rfl (hb hby d12_0) rfl rfl k) ?_
  show Go _ _ _ _ (s₁.setTop (mkF m 1 #[.val (.ref so), .val (.ref lo)] [(.ref so)]))
  refine Go.st (fun _ k => XS.aloadN X0.here hx rfl (hb hby d12_1) rfl rfl k) ?_
  show Go _ _ _ _ (s₁.setTop (mkF m 2 #[.val (.ref so), .val (.ref lo)] [(.ref lo), (.ref so)]))
  obtain ⟨T1, h1, X1, e1, W1, st1⟩ := putF X0 hx hZ hown (host := "") (Or.inl (ow hw 91 rfl)) Via.refl e0 Pf1 Pf0 (Or.inr ⟨(ow hw 92 rfl), rfl, hnm⟩) (ow hw 85 rfl) (ty := (.object "java/util/ArrayList")) (by decide) rfl rfl (g := (mkF m 2 #[.val (.ref so), .val (.ref lo)] [(.ref lo), (.ref so)])) rfl rfl (hb hby d12_2)
  refine Go.st st1 ?_
  have F2 := Pf0.wr W1
  have F3 := Pf1.same W1
  have F4 := Pf2.other W1 (Or.inr (slot_ne (Or.inl (ow hw 109 rfl)) (Or.inr (ow hw 92 rfl)) (by decide) (t := .int) (t' := (.object "java/util/ArrayList")) (by decide) (by decide)))
  have F5 := Pf3.other W1 (Or.inr (slot_ne (Or.inl (ow hw 95 rfl)) (Or.inr (ow hw 92 rfl)) (by decide) (t := .int) (t' := (.object "java/util/ArrayList")) (by decide) (by decide)))
  have F6 := Pf4.other W1 (Or.inr (slot_ne (Or.inl (ow hw 98 rfl)) (Or.inr (ow hw 92 rfl)) (by decide) (t := .int) (t' := (.object "java/util/ArrayList")) (by decide) (by decide)))
  have F7 := Pf5.wr W1
  have F8 := Pf6.other W1 (Or.inl (Exa.ne Pf5 Pf0 (by decide)))
  have F9 := Pf7.other W1 (Or.inl (Exa.ne Pf5 Pf0 (by decide)))
  have F10 := Pf8.other W1 (Or.inl (Exa.ne Pf5 Pf0 (by decide)))
  have K11 := K0.wr W1 (Or.inl (List.mem_of_getElem? (i := 0) rfl))
  have Z12 := oz_ Z0 W1
  have N13 := Fr.snoc X1 N0 Pf9
  show Go _ _ _ _ (T1.setTop (mkF m 5 #[.val (.ref so), .val (.ref lo)] []))
  refine Go.st (fun _ k => XS.aloadN X1.here hx rfl (hb hby d12_5) rfl rfl k) ?_
  show Go _ _ _ _ (T1.setTop (mkF m 6 #[.val (.ref so), .val (.ref lo)] [(.ref so)]))
  obtain ⟨T14, X14, e14, st14⟩ := initO X1 hx hZ hown (ow hw 93 rfl) (ow hw 22 rfl) (ow hw 23 rfl) e1 (g := (mkF m 6 #[.val (.ref so), .val (.ref lo)] [(.ref so)])) rfl (by rw [hml]; rfl) rfl (hb hby d12_6) (by decide) (W := 0) (by show 2 * 0 + _ ≤ _; exact Nat.le_of_eq rfl) (by decide)
  refine Go.st st14 ?_
  show Go _ _ _ _ (T14.setTop (mkF m 9 #[.val (.ref so), .val (.ref lo)] []))
  refine Go.st (fun _ k => XS.aloadN X14.here hx rfl (hb hby d12_9) rfl rfl k) ?_
  show Go _ _ _ _ (T14.setTop (mkF m 10 #[.val (.ref so), .val (.ref lo)] [(.ref so)]))
  refine Go.st (fun _ k => XS.iconst X14.here hx rfl (hb hby d12_10) k) ?_
  show Go _ _ _ _ (T14.setTop (mkF m 11 #[.val (.ref so), .val (.ref lo)] [(.int (-1 : Int32)), (.ref so)]))
  obtain ⟨T15, h15, X15, e15, W15, st15⟩ := putF X14 hx hZ hown (host := "") (Or.inl (ow hw 94 rfl)) Via.refl e14 F5 F2 (Or.inl (ow hw 95 rfl)) (ow hw 85 rfl) (ty := .int) (by decide) rfl rfl (g := (mkF m 11 #[.val (.ref so), .val (.ref lo)] [(.int (-1 : Int32)), (.ref so)])) rfl rfl (hb hby d12_11)
  refine Go.st st15 ?_
  have F16 := F2.wr W15
  have F17 := F3.other W15 (Or.inr (slot_ne (Or.inr (ow hw 92 rfl)) (Or.inl (ow hw 95 rfl)) (by decide) (t := (.object "java/util/ArrayList")) (t' := .int) (by decide) (by decide)))
  have F18 := F4.other W15 (Or.inr (slot_ne (Or.inl (ow hw 109 rfl)) (Or.inl (ow hw 95 rfl)) (by decide) (t := .int) (t' := .int) (by decide) (by decide)))
  have F19 := F5.same W15
  have F20 := F6.other W15 (Or.inr (slot_ne (Or.inl (ow hw 98 rfl)) (Or.inl (ow hw 95 rfl)) (by decide) (t := .int) (t' := .int) (by decide) (by decide)))
  have F21 := F7.wr W15
  have F22 := F8.other W15 (Or.inl (Exa.ne F7 F2 (by decide)))
  have F23 := F9.other W15 (Or.inl (Exa.ne F7 F2 (by decide)))
  have F24 := F10.other W15 (Or.inl (Exa.ne F7 F2 (by decide)))
  have K25 := K11.wr W15 (Or.inl (List.mem_of_getElem? (i := 0) rfl))
  have Z26 := oz_ Z12 W15
  have N27 := Fr.snoc X15 N13 Pf9
  show Go _ _ _ _ (T15.setTop (mkF m 14 #[.val (.ref so), .val (.ref lo)] []))
  refine Go.st (fun _ k => XS.aloadN X15.here hx rfl (hb hby d12_14) rfl rfl k) ?_
  show Go _ _ _ _ (T15.setTop (mkF m 15 #[.val (.ref so), .val (.ref lo)] [(.ref so)]))
  refine Go.st (fun _ k => XS.aloadN X15.here hx rfl (hb hby d12_15) rfl rfl k) ?_
  show Go _ _ _ _ (T15.setTop (mkF m 16 #[.val (.ref so), .val (.ref lo)] [(.ref so), (.ref so)]))
  obtain ⟨T28, X28, e28, st28⟩ := getF X15 hx hZ hown (host := "") (Or.inl (ow hw 91 rfl)) Via.refl e15 F17 (g := (mkF m 16 #[.val (.ref so), .val (.ref lo)] [(.ref so), (.ref so)])) rfl rfl (hb hby d12_16)
  refine Go.st st28 ?_
  show Go _ _ _ _ (T28.setTop (mkF m 19 #[.val (.ref so), .val (.ref lo)] [(.ref lo), (.ref so)]))
  obtain ⟨T29, X29, e29, st29⟩ := getF X28 hx hZ hown (host := "") (Or.inl (ow hw 96 rfl)) (Via.of (ow hw 43 rfl)) e28 F22 (g := (mkF m 19 #[.val (.ref so), .val (.ref lo)] [(.ref lo), (.ref so)])) rfl rfl (hb hby d12_19)
  refine Go.st st29 ?_
  show Go _ _ _ _ (T29.setTop (mkF m 22 #[.val (.ref so), .val (.ref lo)] [(.int mc), (.ref so)]))
  obtain ⟨T30, h30, X30, e30, W30, st30⟩ := putF X29 hx hZ hown (host := "") (Or.inl (ow hw 97 rfl)) Via.refl e29 F20 F16 (Or.inl (ow hw 98 rfl)) (ow hw 85 rfl) (ty := .int) (by decide) rfl rfl (g := (mkF m 22 #[.val (.ref so), .val (.ref lo)] [(.int mc), (.ref so)])) rfl rfl (hb hby d12_22)
  refine Go.st st30 ?_
  have F31 := F16.wr W30
  have F32 := F17.other W30 (Or.inr (slot_ne (Or.inr (ow hw 92 rfl)) (Or.inl (ow hw 98 rfl)) (by decide) (t := (.object "java/util/ArrayList")) (t' := .int) (by decide) (by decide)))
  have F33 := F18.other W30 (Or.inr (slot_ne (Or.inl (ow hw 109 rfl)) (Or.inl (ow hw 98 rfl)) (by decide) (t := .int) (t' := .int) (by decide) (by decide)))
  have F34 := F19.other W30 (Or.inr (slot_ne (Or.inl (ow hw 95 rfl)) (Or.inl (ow hw 98 rfl)) (by decide) (t := .int) (t' := .int) (by decide) (by decide)))
  have F35 := F20.same W30
  have F36 := F21.wr W30
  have F37 := F22.other W30 (Or.inl (Exa.ne F21 F16 (by decide)))
  have F38 := F23.other W30 (Or.inl (Exa.ne F21 F16 (by decide)))
  have F39 := F24.other W30 (Or.inl (Exa.ne F21 F16 (by decide)))
  have K40 := K25.wr W30 (Or.inl (List.mem_of_getElem? (i := 0) rfl))
  have Z41 := oz_ Z26 W30
  have N42 := Fr.snoc X30 N27 Pf9
  show Go _ _ _ _ (T30.setTop (mkF m 25 #[.val (.ref so), .val (.ref lo)] []))
  subst hG
  obtain ⟨fs, hr, hrun, hended, hW, hsame⟩ := X30.leave (v := none) (fun _ => rfl)
  refine ⟨_, _, ?_, hrun, hended, _, _, rfl, ?_, ⟨_, rfl⟩, hW, hsame.mono (by decide) (by decide)⟩
  · exact X30.returnOut hx Bd.returns (hb hby d12_25) hr
  · show Q_itin Z so lo ed sz mc h0 n0 _ T30.heap _
    rw [e30]
    exact ⟨rfl, N42, K40, F31, F32, F33, F34, F35⟩
theorem pd_6 : parseMethodDescriptor "(Ljava/util/ArrayList;)V" = some ⟨[(.object "java/util/ArrayList")], none⟩ := by decide +kernel
theorem d13_0 : decode jdk_38_method_55_code 0 = .ok (.new 267, 3) := by decide +kernel
theorem d13_3 : decode jdk_38_method_55_code 3 = .ok (.dup, 1) := by decide +kernel
theorem d13_4 : decode jdk_38_method_55_code 4 = .ok (.aload_n 0, 1) := by decide +kernel
theorem d13_5 : decode jdk_38_method_55_code 5 = .ok (.invokespecial 269, 3) := by decide +kernel
theorem d13_8 : decode jdk_38_method_55_code 8 = .ok (.areturn, 1) := by decide +kernel
theorem ef_iter (m : MethodId) (so : Addr) : entryFrame m #[(.ref so)] 1 = mkF m 0 #[.val (.ref so)] [] := by first | (simp [entryFrame, mkF, argsToLocals, Value.category]; done) | rfl
def Q_iter (Z : State) (so : Addr) (ed : Addr) (sz : Int32) (mc : Int32) (h0 : Heap) (n0 : Nat) (v : Option Value) (h : Heap) (L : List Loc) : Prop := ∃ fr : Addr, v = some (.ref fr) ∧ Fr n0 L ∧ Keep h0 h [] ∧ n0 ≤ fr ∧ h0.size ≤ fr ∧ Exa Z h fr "java/util/ArrayList$Itr" ∧ Fld Z h fr "java/util/ArrayList$Itr" "this$0" "Ljava/util/ArrayList;" (.ref so) ∧ Fld Z h fr "java/util/ArrayList$Itr" "cursor" "I" (.int (0 : Int32)) ∧ Fld Z h fr "java/util/ArrayList$Itr" "lastRet" "I" (.int (-1 : Int32)) ∧ Fld Z h fr "java/util/ArrayList$Itr" "expectedModCount" "I" (.int mc)
set_option maxRecDepth 65536 in
set_option maxHeartbeats 40000000 in
theorem rm_iter (l : Launch) (Z : State) (a0 : Array Value) (hw : ∀ d ∈ tables_1, d.before a0 Z = true) (ws : List Jvm.Cond) (so : Addr) (ed : Addr) (sz : Int32) (mc : Int32) (h0 : Heap) (n0 : Nat) (Z0 : n0 ≤ h0.size) (Pf0 : Exa Z h0 so "java/util/ArrayList") (Pf1 : Fld Z h0 so "java/util/AbstractList" "modCount" "I" (.int mc)) (Pf2 : Fld Z h0 so "java/util/ArrayList" "elementData" "[Ljava/lang/Object;" (.ref ed)) (Pf3 : Fld Z h0 so "java/util/ArrayList" "size" "I" (.int sz)) :
    MetFree l (⟨"java/util/ArrayList", "iterator", "()Ljava/util/Iterator;"⟩ : MethodName) (head1 (Jvm.Cond.code (⟨"java/util/ArrayList", "iterator", "()Ljava/util/Iterator;"⟩ : MethodName) jdk_38_method_55_code 1 (some (.object "java/util/Iterator")) :: ws) ({ frames := 2, cells := 1, slots := 4, locals := 26 } : Room)) (fun a U => a = #[(.ref so)] ∧ Z.Warmed39 U.vm ∧ U.heap = h0) (fun _ _ _ _ _ => True) (fun _ U o U' => ∃ v L, o = .returned v ∧ Q_iter Z so ed sz mc h0 n0 v U'.heap L ∧ FrameEnd U o U' L ({ frames := 2, cells := 1, slots := 4, locals := 26 } : Room).cells ({ frames := 2, cells := 1, slots := 4, locals := 26 } : Room).slots) := by
  refine MetFree.of_bodySF (plainFor_of_name pn_2) hisR ?_
  intro p e s m args below meth c s₁ Bd hml0 hP hK
  obtain ⟨rfl, hZ, hh⟩ := hP
  have hx := Bd.exec
  have hby := Bd.bytes
  have hml : c.maxLocals = 1 := hml0
  have hown : s.vm.findClass "java/util/ArrayList" = some m.cls := findClass_of_methodNamed Bd.named
  have hnm := (name_of_methodNamed Bd.named Bd.method).1
  have X0 : Stand p l e ({ frames := 2, cells := 1, slots := 4, locals := 26 } : Room) s m #[(.ref so)] below meth c s₁ [] 0 0 := Stand.of_body Bd
  have e0 : s₁.heap = h0 := by rw [← hh, Bd.state]; rfl
  have N0 := Fr.nil n0
  have K0 : Keep h0 h0 [] := Keep.refl h0 []
  show Go p.tables e below _ (s₁.setTop (entryFrame m #[(.ref so)] 1))
  refine Go.start ?_
  intro G hG
  refine Go.st (fun t k => castTop (ef_iter m so) k) ?_
  show Go _ _ _ _ (s₁.setTop (mkF m 0 #[.val (.ref so)] []))
  obtain ⟨T1, h1, X1, e1, E1, A1, D1, -, st1⟩ := newO X0 hx hZ hown (ow hw 84 rfl) (ow hw 85 rfl) (ow hw 86 rfl) e0 (g := (mkF m 0 #[.val (.ref so)] [])) rfl (hb hby d13_0) (by decide) (by decide)
  obtain ⟨b1, g1⟩ : ∃ z, z = h0.size := ⟨_, rfl⟩
  rw [← g1] at A1 D1 st1
  refine Go.st st1 ?_
  have ne2 := on_ Pf0.lt g1
  have ge3 : n0 ≤ b1 := Nat.le_trans Z0 (Nat.le_of_eq g1.symm)
  have sz4 : h0.size ≤ b1 := Nat.le_trans K0.1 (Nat.le_of_eq g1.symm)
  have Z5 : n0 ≤ h1.size := Nat.le_trans Z0 E1.1
  have K6 := K0.ext E1
  have F7 := Pf0.ext E1
  have F8 := Pf1.ext E1
  have F9 := Pf2.ext E1
  have F10 := Pf3.ext E1
  have F11 : Fld Z h1 b1 "java/util/ArrayList$Itr" "this$0" "Ljava/util/ArrayList;" .null := D1 (Or.inr (ow hw 92 rfl)) (ty := (.object "java/util/ArrayList")) (by decide)
  have F12 : Fld Z h1 b1 "java/util/ArrayList$Itr" "lastRet" "I" (.int (0 : Int32)) := D1 (Or.inl (ow hw 95 rfl)) (ty := .int) (by decide)
  have F13 : Fld Z h1 b1 "java/util/ArrayList$Itr" "expectedModCount" "I" (.int (0 : Int32)) := D1 (Or.inl (ow hw 98 rfl)) (ty := .int) (by decide)
  have F14 : Fld Z h1 b1 "java/util/ArrayList$Itr" "cursor" "I" (.int (0 : Int32)) := D1 (Or.inl (ow hw 109 rfl)) (ty := .int) (by decide)
  show Go _ _ _ _ (T1.setTop (mkF m 3 #[.val (.ref so)] [(.ref b1)]))
  refine Go.st (fun _ k => XS.dup X1.here hx rfl (hb hby d13_3) rfl rfl k) ?_
  show Go _ _ _ _ (T1.setTop (mkF m 4 #[.val (.ref so)] [(.ref b1), (.ref b1)]))
  refine Go.st (fun _ k => XS.aloadN X1.here hx rfl (hb hby d13_4) rfl rfl k) ?_
  show Go _ _ _ _ (T1.setTop (mkF m 5 #[.val (.ref so)] [(.ref so), (.ref b1), (.ref b1)]))
  obtain ⟨_, _, ⟨T15, L15, k15, n15⟩, -, X15, ⟨Lc15, hQ15, l15, y15, z15⟩, st15⟩ := X1.specialBack hx (y := (⟨"java/util/ArrayList$Itr", "<init>", "(Ljava/util/ArrayList;)V"⟩ : MethodName)) rfl hown (mvT hZ (ow hw 87 rfl)) (mvT hZ (ow hw 88 rfl)) (mvT hZ (ow hw 90 rfl)) (by decide) (backOf (W := 1) (rm_itin l Z a0 hw [] b1 so ed sz mc h1 n0 Z5 A1 F11 F14 F12 F13 F7 F8 F9 F10 ge3) hZ (ow hw 90 rfl) (ow hw 86 rfl) (by decide) (by decide)) (g := (mkF m 5 #[.val (.ref so)] [(.ref so), (.ref b1), (.ref b1)])) rfl (by rw [hml]; rfl) (Steps.refl _) (a := b1) (argsL := [(.ref so)]) (rest := [(.ref b1)]) (lenOf pd_6 rfl) rfl (by show 2 * 0 + _ ≤ _; exact Nat.le_of_eq rfl) (hb hby d13_5) (fun _ _ => ⟨rfl, e1, (by decide : 1 + 0 ≤ _), (by decide : 4 + 0 ≤ _)⟩)
  dsimp only [Pt.U, Pt.locs, Pt.cells, Pt.slots] at X15 l15 y15 z15 st15 hQ15
  rw [l15, y15, z15] at X15
  obtain ⟨rfl, N15q, K15q, Fq15_0, Fq15_1, Fq15_2, Fq15_3, Fq15_4⟩ := hQ15
  have N15 := Fr.app N0 N15q
  refine Go.st (fun _ k => st15.trans k) ?_
  have Z16 : n0 ≤ T15.heap.size := Nat.le_trans Z5 K15q.1
  have K17 := K6.trans K15q (fun z hz => (List.mem_cons.mp hz).elim (fun q => by rw [q]; exact Or.inr sz4) nn_)
  have F18 := F7.keep K15q
  have F19 := F8.keep K15q (fun z => (List.mem_cons.mp z).elim ne2 nn_)
  have F20 := F9.keep K15q (fun z => (List.mem_cons.mp z).elim ne2 nn_)
  have F21 := F10.keep K15q (fun z => (List.mem_cons.mp z).elim ne2 nn_)
  have F22 := A1.keep K15q
  show Go _ _ _ _ (T15.setTop (mkF m 8 #[.val (.ref so)] [(.ref b1)]))
  subst hG
  obtain ⟨fs, hr, hrun, hended, hW, hsame⟩ := X15.leave (v := some (.ref b1)) (fun h => by rw [Bd.returns] at h; cases h)
  refine ⟨_, _, ?_, hrun, hended, _, _, rfl, ?_, ⟨_, rfl⟩, hW, hsame.mono (by decide) (by decide)⟩
  · exact retOut X15 hx Bd.returns rfl (Or.inr (Or.inr (Or.inr (Or.inr ⟨rfl, rfl, rfl⟩)))) (hb hby d13_8) hr
  · show Q_iter Z so ed sz mc h0 n0 _ T15.heap _
    exact ⟨b1, rfl, N15, K17, ge3, sz4, Fq15_0, Fq15_1, Fq15_2, Fq15_3, Fq15_4⟩
theorem d14_0 : decode jdk_49_method_2_code 0 = .ok (.aload_n 0, 1) := by decide +kernel
theorem d14_1 : decode jdk_49_method_2_code 1 = .ok (.getfield 25, 3) := by decide +kernel
theorem d14_4 : decode jdk_49_method_2_code 4 = .ok (.aload_n 0, 1) := by decide +kernel
theorem d14_5 : decode jdk_49_method_2_code 5 = .ok (.getfield 1, 3) := by decide +kernel
theorem d14_8 : decode jdk_49_method_2_code 8 = .ok (.getfield 28, 3) := by decide +kernel
theorem d14_11 : decode jdk_49_method_2_code 11 = .ok (.if_icmp .eq 7, 3) := by decide +kernel
theorem d14_14 : decode jdk_49_method_2_code 14 = .ok (.iconst 1, 1) := by decide +kernel
theorem d14_15 : decode jdk_49_method_2_code 15 = .ok (.goto 4, 3) := by decide +kernel
theorem d14_18 : decode jdk_49_method_2_code 18 = .ok (.iconst 0, 1) := by decide +kernel
theorem d14_19 : decode jdk_49_method_2_code 19 = .ok (.ireturn, 1) := by decide +kernel
theorem ef_hasn (m : MethodId) (so : Addr) : entryFrame m #[(.ref so)] 1 = mkF m 0 #[.val (.ref so)] [] := by first | (simp [entryFrame, mkF, argsToLocals, Value.category]; done) | rfl
def Q_hasn (Z : State) (so : Addr) (lo : Addr) (cu : Int32) (la : Int32) (ed : Addr) (sz : Int32) (mc : Int32) (h0 : Heap) (n0 : Nat) (v : Option Value) (h : Heap) (L : List Loc) : Prop := v = some (.int (hnF cu sz)) ∧ Fr n0 L ∧ h = h0
set_option maxRecDepth 65536 in
set_option maxHeartbeats 40000000 in
theorem rm_hasn (l : Launch) (Z : State) (a0 : Array Value) (hw : ∀ d ∈ tables_1, d.before a0 Z = true) (ws : List Jvm.Cond) (so : Addr) (lo : Addr) (cu : Int32) (la : Int32) (ed : Addr) (sz : Int32) (mc : Int32) (h0 : Heap) (n0 : Nat) (Z0 : n0 ≤ h0.size) (Pf0 : Exa Z h0 so "java/util/ArrayList$Itr") (Pf1 : Fld Z h0 so "java/util/ArrayList$Itr" "this$0" "Ljava/util/ArrayList;" (.ref lo)) (Pf2 : Fld Z h0 so "java/util/ArrayList$Itr" "cursor" "I" (.int cu)) (Pf3 : Fld Z h0 so "java/util/ArrayList$Itr" "lastRet" "I" (.int la)) (Pf4 : Fld Z h0 so "java/util/ArrayList$Itr" "expectedModCount" "I" (.int mc)) (Pf5 : Exa Z h0 lo "java/util/ArrayList") (Pf6 : Fld Z h0 lo "java/util/AbstractList" "modCount" "I" (.int mc)) (Pf7 : Fld Z h0 lo "java/util/ArrayList" "elementData" "[Ljava/lang/Object;" (.ref ed)) (Pf8 : Fld Z h0 lo "java/util/ArrayList" "size" "I" (.int sz)) :
    MetFree l (⟨"java/util/ArrayList$Itr", "hasNext", "()Z"⟩ : MethodName) (head1 (Jvm.Cond.code (⟨"java/util/ArrayList$Itr", "hasNext", "()Z"⟩ : MethodName) jdk_49_method_2_code 1 (some .boolean) :: ws) ({ frames := 0, cells := 0, slots := 0, locals := 0 } : Room)) (fun a U => a = #[(.ref so)] ∧ Z.Warmed39 U.vm ∧ U.heap = h0) (fun _ _ _ _ _ => True) (fun _ U o U' => ∃ v L, o = .returned v ∧ Q_hasn Z so lo cu la ed sz mc h0 n0 v U'.heap L ∧ FrameEnd U o U' L ({ frames := 0, cells := 0, slots := 0, locals := 0 } : Room).cells ({ frames := 0, cells := 0, slots := 0, locals := 0 } : Room).slots) := by
  refine MetFree.of_bodySF (plainFor_of_name pn_5) hisR ?_
  intro p e s m args below meth c s₁ Bd hml0 hP hK
  obtain ⟨rfl, hZ, hh⟩ := hP
  have hx := Bd.exec
  have hby := Bd.bytes
  have hml : c.maxLocals = 1 := hml0
  have hown : s.vm.findClass "java/util/ArrayList$Itr" = some m.cls := findClass_of_methodNamed Bd.named
  have hnm := (name_of_methodNamed Bd.named Bd.method).1
  have X0 : Stand p l e ({ frames := 0, cells := 0, slots := 0, locals := 0 } : Room) s m #[(.ref so)] below meth c s₁ [] 0 0 := Stand.of_body Bd
  have e0 : s₁.heap = h0 := by rw [← hh, Bd.state]; rfl
  have N0 := Fr.nil n0
  have K0 : Keep h0 h0 [] := Keep.refl h0 []
  show Go p.tables e below _ (s₁.setTop (entryFrame m #[(.ref so)] 1))
  refine Go.start ?_
  intro G hG
  refine Go.st (fun t k => castTop (ef_hasn m so) k) ?_
  show Go _ _ _ _ (s₁.setTop (mkF m 0 #[.val (.ref so)] []))
  refine Go.st (fun _ k => XS.aloadN X0.here hx rfl (hb hby d14_0) rfl rfl k) ?_
  show Go _ _ _ _ (s₁.setTop (mkF m 1 #[.val (.ref so)] [(.ref so)]))
  obtain ⟨T1, X1, e1, st1⟩ := getF X0 hx hZ hown (host := "") (Or.inl (ow hw 108 rfl)) Via.refl e0 Pf2 (g := (mkF m 1 #[.val (.ref so)] [(.ref so)])) rfl rfl (hb hby d14_1)
  refine Go.st st1 ?_
  show Go _ _ _ _ (T1.setTop (mkF m 4 #[.val (.ref so)] [(.int cu)]))
  refine Go.st (fun _ k => XS.aloadN X1.here hx rfl (hb hby d14_4) rfl rfl k) ?_
  show Go _ _ _ _ (T1.setTop (mkF m 5 #[.val (.ref so)] [(.ref so), (.int cu)]))
  obtain ⟨T2, X2, e2, st2⟩ := getF X1 hx hZ hown (host := "") (Or.inl (ow hw 91 rfl)) Via.refl e1 Pf1 (g := (mkF m 5 #[.val (.ref so)] [(.ref so), (.int cu)])) rfl rfl (hb hby d14_5)
  refine Go.st st2 ?_
  show Go _ _ _ _ (T2.setTop (mkF m 8 #[.val (.ref so)] [(.ref lo), (.int cu)]))
  obtain ⟨T3, X3, e3, st3⟩ := getF X2 hx hZ hown (Or.inr (ow hw 110 rfl)) Via.refl e2 Pf8 (g := (mkF m 8 #[.val (.ref so)] [(.ref lo), (.int cu)])) rfl rfl (hb hby d14_8)
  refine Go.st st3 ?_
  show Go _ _ _ _ (T3.setTop (mkF m 11 #[.val (.ref so)] [(.int sz), (.int cu)]))
  by_cases hc11 : cu = sz
  · skip
    refine Go.st (fun _ k => XS.icmpYes X3.here hx rfl (pc0 := 11) (pc' := 18) rfl (hb hby d14_11) rfl (Jvm.Free.XT.ii_eq_t hc11) (by decide) (by decide) k) ?_
    show Go _ _ _ _ (T3.setTop (mkF m 18 #[.val (.ref so)] []))
    refine Go.st (fun _ k => XS.iconst X3.here hx rfl (hb hby d14_18) k) ?_
    show Go _ _ _ _ (T3.setTop (mkF m 19 #[.val (.ref so)] [(.int (0 : Int32))]))
    subst hG
    obtain ⟨fs, hr, hrun, hended, hW, hsame⟩ := X3.leave (v := some (.int (nar .boolean (0 : Int32)))) (fun h => by rw [Bd.returns] at h; cases h)
    refine ⟨_, _, ?_, hrun, hended, _, _, rfl, ?_, ⟨_, rfl⟩, hW, hsame.mono (by decide) (by decide)⟩
    · exact retN X3 hx (t := .boolean) Bd.returns (by simp) (hb hby d14_19) hr
    · show Q_hasn Z so lo cu la ed sz mc h0 n0 _ T3.heap _
      rw [e3]
      exact ⟨(by simp only [hnF, if_pos hc11]; rfl), N0, rfl⟩
  · skip
    refine Go.st (fun _ k => XS.icmpNo X3.here hx rfl (hb hby d14_11) rfl (Jvm.Free.XT.ii_eq_f hc11) k) ?_
    show Go _ _ _ _ (T3.setTop (mkF m 14 #[.val (.ref so)] []))
    refine Go.st (fun _ k => XS.iconst X3.here hx rfl (hb hby d14_14) k) ?_
    show Go _ _ _ _ (T3.setTop (mkF m 15 #[.val (.ref so)] [(.int (1 : Int32))]))
    refine Go.st (fun _ k => XS.goto X3.here hx rfl (pc0 := 15) (pc' := 19) rfl (hb hby d14_15) (by decide) (by decide) k) ?_
    show Go _ _ _ _ (T3.setTop (mkF m 19 #[.val (.ref so)] [(.int (1 : Int32))]))
    subst hG
    obtain ⟨fs, hr, hrun, hended, hW, hsame⟩ := X3.leave (v := some (.int (nar .boolean (1 : Int32)))) (fun h => by rw [Bd.returns] at h; cases h)
    refine ⟨_, _, ?_, hrun, hended, _, _, rfl, ?_, ⟨_, rfl⟩, hW, hsame.mono (by decide) (by decide)⟩
    · exact retN X3 hx (t := .boolean) Bd.returns (by simp) (hb hby d14_19) hr
    · show Q_hasn Z so lo cu la ed sz mc h0 n0 _ T3.heap _
      rw [e3]
      exact ⟨(by simp only [hnF, if_neg hc11]; rfl), N0, rfl⟩
theorem d15_0 : decode jdk_49_method_6_code 0 = .ok (.aload_n 0, 1) := by decide +kernel
theorem d15_1 : decode jdk_49_method_6_code 1 = .ok (.getfield 1, 3) := by decide +kernel
theorem d15_4 : decode jdk_49_method_6_code 4 = .ok (.getfield 17, 3) := by decide +kernel
theorem d15_7 : decode jdk_49_method_6_code 7 = .ok (.aload_n 0, 1) := by decide +kernel
theorem d15_8 : decode jdk_49_method_6_code 8 = .ok (.getfield 22, 3) := by decide +kernel
theorem d15_11 : decode jdk_49_method_6_code 11 = .ok (.if_icmp .eq 11, 3) := by decide +kernel
theorem d15_22 : decode jdk_49_method_6_code 22 = .ok (.return_, 1) := by decide +kernel
theorem ef_ckm (m : MethodId) (so : Addr) : entryFrame m #[(.ref so)] 1 = mkF m 0 #[.val (.ref so)] [] := by first | (simp [entryFrame, mkF, argsToLocals, Value.category]; done) | rfl
def Q_ckm (Z : State) (so : Addr) (lo : Addr) (cu : Int32) (la : Int32) (ed : Addr) (sz : Int32) (mc : Int32) (h0 : Heap) (n0 : Nat) (v : Option Value) (h : Heap) (L : List Loc) : Prop := v = none ∧ Fr n0 L ∧ h = h0
set_option maxRecDepth 65536 in
set_option maxHeartbeats 40000000 in
theorem rm_ckm (l : Launch) (Z : State) (a0 : Array Value) (hw : ∀ d ∈ tables_1, d.before a0 Z = true) (ws : List Jvm.Cond) (so : Addr) (lo : Addr) (cu : Int32) (la : Int32) (ed : Addr) (sz : Int32) (mc : Int32) (h0 : Heap) (n0 : Nat) (Z0 : n0 ≤ h0.size) (Pf0 : Exa Z h0 so "java/util/ArrayList$Itr") (Pf1 : Fld Z h0 so "java/util/ArrayList$Itr" "this$0" "Ljava/util/ArrayList;" (.ref lo)) (Pf2 : Fld Z h0 so "java/util/ArrayList$Itr" "cursor" "I" (.int cu)) (Pf3 : Fld Z h0 so "java/util/ArrayList$Itr" "lastRet" "I" (.int la)) (Pf4 : Fld Z h0 so "java/util/ArrayList$Itr" "expectedModCount" "I" (.int mc)) (Pf5 : Exa Z h0 lo "java/util/ArrayList") (Pf6 : Fld Z h0 lo "java/util/AbstractList" "modCount" "I" (.int mc)) (Pf7 : Fld Z h0 lo "java/util/ArrayList" "elementData" "[Ljava/lang/Object;" (.ref ed)) (Pf8 : Fld Z h0 lo "java/util/ArrayList" "size" "I" (.int sz)) :
    MetFree l (⟨"java/util/ArrayList$Itr", "checkForComodification", "()V"⟩ : MethodName) (head1 (Jvm.Cond.code (⟨"java/util/ArrayList$Itr", "checkForComodification", "()V"⟩ : MethodName) jdk_49_method_6_code 1 none :: ws) ({ frames := 0, cells := 0, slots := 0, locals := 0 } : Room)) (fun a U => a = #[(.ref so)] ∧ Z.Warmed39 U.vm ∧ U.heap = h0) (fun _ _ _ _ _ => True) (fun _ U o U' => ∃ v L, o = .returned v ∧ Q_ckm Z so lo cu la ed sz mc h0 n0 v U'.heap L ∧ FrameEnd U o U' L ({ frames := 0, cells := 0, slots := 0, locals := 0 } : Room).cells ({ frames := 0, cells := 0, slots := 0, locals := 0 } : Room).slots) := by
  refine MetFree.of_bodySF (plainFor_of_name pn_5) hisR ?_
  intro p e s m args below meth c s₁ Bd hml0 hP hK
  obtain ⟨rfl, hZ, hh⟩ := hP
  have hx := Bd.exec
  have hby := Bd.bytes
  have hml : c.maxLocals = 1 := hml0
  have hown : s.vm.findClass "java/util/ArrayList$Itr" = some m.cls := findClass_of_methodNamed Bd.named
  have hnm := (name_of_methodNamed Bd.named Bd.method).1
  have X0 : Stand p l e ({ frames := 0, cells := 0, slots := 0, locals := 0 } : Room) s m #[(.ref so)] below meth c s₁ [] 0 0 := Stand.of_body Bd
  have e0 : s₁.heap = h0 := by rw [← hh, Bd.state]; rfl
  have N0 := Fr.nil n0
  have K0 : Keep h0 h0 [] := Keep.refl h0 []
  show Go p.tables e below _ (s₁.setTop (entryFrame m #[(.ref so)] 1))
  refine Go.start ?_
  intro G hG
  refine Go.st (fun t k => castTop (ef_ckm m so) k) ?_
  show Go _ _ _ _ (s₁.setTop (mkF m 0 #[.val (.ref so)] []))
  refine Go.st (fun _ k => XS.aloadN X0.here hx rfl (hb hby d15_0) rfl rfl k) ?_
  show Go _ _ _ _ (s₁.setTop (mkF m 1 #[.val (.ref so)] [(.ref so)]))
  obtain ⟨T1, X1, e1, st1⟩ := getF X0 hx hZ hown (host := "") (Or.inl (ow hw 91 rfl)) Via.refl e0 Pf1 (g := (mkF m 1 #[.val (.ref so)] [(.ref so)])) rfl rfl (hb hby d15_1)
  refine Go.st st1 ?_
  show Go _ _ _ _ (T1.setTop (mkF m 4 #[.val (.ref so)] [(.ref lo)]))
  obtain ⟨T2, X2, e2, st2⟩ := getF X1 hx hZ hown (host := "") (Or.inl (ow hw 96 rfl)) (Via.of (ow hw 43 rfl)) e1 Pf6 (g := (mkF m 4 #[.val (.ref so)] [(.ref lo)])) rfl rfl (hb hby d15_4)
  refine Go.st st2 ?_
  show Go _ _ _ _ (T2.setTop (mkF m 7 #[.val (.ref so)] [(.int mc)]))
  refine Go.st (fun _ k => XS.aloadN X2.here hx rfl (hb hby d15_7) rfl rfl k) ?_
  show Go _ _ _ _ (T2.setTop (mkF m 8 #[.val (.ref so)] [(.ref so), (.int mc)]))
  obtain ⟨T3, X3, e3, st3⟩ := getF X2 hx hZ hown (host := "") (Or.inl (ow hw 97 rfl)) Via.refl e2 Pf4 (g := (mkF m 8 #[.val (.ref so)] [(.ref so), (.int mc)])) rfl rfl (hb hby d15_8)
  refine Go.st st3 ?_
  show Go _ _ _ _ (T3.setTop (mkF m 11 #[.val (.ref so)] [(.int mc), (.int mc)]))
  have hc11 : mc = mc := rfl
  refine Go.st (fun _ k => XS.icmpYes X3.here hx rfl (pc0 := 11) (pc' := 22) rfl (hb hby d15_11) rfl (Jvm.Free.XT.ii_eq_t hc11) (by decide) (by decide) k) ?_
  show Go _ _ _ _ (T3.setTop (mkF m 22 #[.val (.ref so)] []))
  subst hG
  obtain ⟨fs, hr, hrun, hended, hW, hsame⟩ := X3.leave (v := none) (fun _ => rfl)
  refine ⟨_, _, ?_, hrun, hended, _, _, rfl, ?_, ⟨_, rfl⟩, hW, hsame.mono (by decide) (by decide)⟩
  · exact X3.returnOut hx Bd.returns (hb hby d15_22) hr
  · show Q_ckm Z so lo cu la ed sz mc h0 n0 _ T3.heap _
    rw [e3]
    exact ⟨rfl, N0, rfl⟩
theorem d16_0 : decode jdk_49_method_3_code 0 = .ok (.aload_n 0, 1) := by decide +kernel
theorem d16_1 : decode jdk_49_method_3_code 1 = .ok (.invokevirtual 31, 3) := by decide +kernel
theorem d16_4 : decode jdk_49_method_3_code 4 = .ok (.aload_n 0, 1) := by decide +kernel
theorem d16_5 : decode jdk_49_method_3_code 5 = .ok (.getfield 25, 3) := by decide +kernel
theorem d16_8 : decode jdk_49_method_3_code 8 = .ok (.istore_n 1, 1) := by decide +kernel
theorem d16_9 : decode jdk_49_method_3_code 9 = .ok (.iload_n 1, 1) := by decide +kernel
theorem d16_10 : decode jdk_49_method_3_code 10 = .ok (.aload_n 0, 1) := by decide +kernel
theorem d16_11 : decode jdk_49_method_3_code 11 = .ok (.getfield 1, 3) := by decide +kernel
theorem d16_14 : decode jdk_49_method_3_code 14 = .ok (.getfield 28, 3) := by decide +kernel
theorem d16_17 : decode jdk_49_method_3_code 17 = .ok (.if_icmp .lt 11, 3) := by decide +kernel
theorem d16_28 : decode jdk_49_method_3_code 28 = .ok (.aload_n 0, 1) := by decide +kernel
theorem d16_29 : decode jdk_49_method_3_code 29 = .ok (.getfield 1, 3) := by decide +kernel
theorem d16_32 : decode jdk_49_method_3_code 32 = .ok (.getfield 37, 3) := by decide +kernel
theorem d16_35 : decode jdk_49_method_3_code 35 = .ok (.astore_n 2, 1) := by decide +kernel
theorem d16_36 : decode jdk_49_method_3_code 36 = .ok (.iload_n 1, 1) := by decide +kernel
theorem d16_37 : decode jdk_49_method_3_code 37 = .ok (.aload_n 2, 1) := by decide +kernel
theorem d16_38 : decode jdk_49_method_3_code 38 = .ok (.arraylength, 1) := by decide +kernel
theorem d16_39 : decode jdk_49_method_3_code 39 = .ok (.if_icmp .lt 11, 3) := by decide +kernel
theorem d16_50 : decode jdk_49_method_3_code 50 = .ok (.aload_n 0, 1) := by decide +kernel
theorem d16_51 : decode jdk_49_method_3_code 51 = .ok (.iload_n 1, 1) := by decide +kernel
theorem d16_52 : decode jdk_49_method_3_code 52 = .ok (.iconst 1, 1) := by decide +kernel
theorem d16_53 : decode jdk_49_method_3_code 53 = .ok (.iadd, 1) := by decide +kernel
theorem d16_54 : decode jdk_49_method_3_code 54 = .ok (.putfield 25, 3) := by decide +kernel
theorem d16_57 : decode jdk_49_method_3_code 57 = .ok (.aload_n 2, 1) := by decide +kernel
theorem d16_58 : decode jdk_49_method_3_code 58 = .ok (.aload_n 0, 1) := by decide +kernel
theorem d16_59 : decode jdk_49_method_3_code 59 = .ok (.iload_n 1, 1) := by decide +kernel
theorem d16_60 : decode jdk_49_method_3_code 60 = .ok (.dup_x1, 1) := by decide +kernel
theorem d16_61 : decode jdk_49_method_3_code 61 = .ok (.putfield 13, 3) := by decide +kernel
theorem d16_64 : decode jdk_49_method_3_code 64 = .ok (.aaload, 1) := by decide +kernel
theorem d16_65 : decode jdk_49_method_3_code 65 = .ok (.areturn, 1) := by decide +kernel
theorem ef_next (m : MethodId) (so : Addr) : entryFrame m #[(.ref so)] 3 = mkF m 0 #[.val (.ref so), .unset, .unset] [] := by first | (simp [entryFrame, mkF, argsToLocals, Value.category]; done) | rfl
def Q_next (Z : State) (so : Addr) (lo : Addr) (mc : Int32) (ea : Addr) (eo : Addr) (kk : ClassId) (h0 : Heap) (n0 : Nat) (v : Option Value) (h : Heap) (L : List Loc) : Prop := v = some (.ref eo) ∧ Fr n0 L ∧ Keep h0 h [so] ∧ Exa Z h so "java/util/ArrayList$Itr" ∧ Fld Z h so "java/util/ArrayList$Itr" "this$0" "Ljava/util/ArrayList;" (.ref lo) ∧ Fld Z h so "java/util/ArrayList$Itr" "cursor" "I" (.int (1 : Int32)) ∧ Fld Z h so "java/util/ArrayList$Itr" "lastRet" "I" (.int (0 : Int32)) ∧ Fld Z h so "java/util/ArrayList$Itr" "expectedModCount" "I" (.int mc)
set_option maxRecDepth 65536 in
set_option maxHeartbeats 40000000 in
theorem rm_next (l : Launch) (Z : State) (a0 : Array Value) (hw : ∀ d ∈ tables_1, d.before a0 Z = true) (ws : List Jvm.Cond) (so : Addr) (lo : Addr) (mc : Int32) (ea : Addr) (eo : Addr) (kk : ClassId) (h0 : Heap) (n0 : Nat) (Z0 : n0 ≤ h0.size) (Pf0 : Exa Z h0 so "java/util/ArrayList$Itr") (Pf1 : Fld Z h0 so "java/util/ArrayList$Itr" "this$0" "Ljava/util/ArrayList;" (.ref lo)) (Pf2 : Fld Z h0 so "java/util/ArrayList$Itr" "cursor" "I" (.int (0 : Int32))) (Pf3 : Fld Z h0 so "java/util/ArrayList$Itr" "lastRet" "I" (.int (-1 : Int32))) (Pf4 : Fld Z h0 so "java/util/ArrayList$Itr" "expectedModCount" "I" (.int mc)) (Pf5 : Exa Z h0 lo "java/util/ArrayList") (Pf6 : Fld Z h0 lo "java/util/AbstractList" "modCount" "I" (.int mc)) (Pf7 : Fld Z h0 lo "java/util/ArrayList" "elementData" "[Ljava/lang/Object;" (.ref ea)) (Pf8 : Fld Z h0 lo "java/util/ArrayList" "size" "I" (.int (1 : Int32))) (Pf9 : Arv Z h0 ea kk (.object "java/lang/Object") (10 : Int32) [(.ref eo), .null, .null, .null, .null, .null, .null, .null, .null, .null] .null) (Pf10 : Exa Z h0 ea "[Ljava/lang/Object;") (Pf11 : n0 ≤ so) :
    MetFree l (⟨"java/util/ArrayList$Itr", "next", "()Ljava/lang/Object;"⟩ : MethodName) (head1 (Jvm.Cond.code (⟨"java/util/ArrayList$Itr", "next", "()Ljava/lang/Object;"⟩ : MethodName) jdk_49_method_3_code 3 (some (.object "java/lang/Object")) :: ws) ({ frames := 1, cells := 0, slots := 0, locals := 12 } : Room)) (fun a U => a = #[(.ref so)] ∧ Z.Warmed39 U.vm ∧ U.heap = h0) (fun _ _ _ _ _ => True) (fun _ U o U' => ∃ v L, o = .returned v ∧ Q_next Z so lo mc ea eo kk h0 n0 v U'.heap L ∧ FrameEnd U o U' L ({ frames := 1, cells := 0, slots := 0, locals := 12 } : Room).cells ({ frames := 1, cells := 0, slots := 0, locals := 12 } : Room).slots) := by
  refine MetFree.of_bodySF (plainFor_of_name pn_5) hisR ?_
  intro p e s m args below meth c s₁ Bd hml0 hP hK
  obtain ⟨rfl, hZ, hh⟩ := hP
  have hx := Bd.exec
  have hby := Bd.bytes
  have hml : c.maxLocals = 3 := hml0
  have hown : s.vm.findClass "java/util/ArrayList$Itr" = some m.cls := findClass_of_methodNamed Bd.named
  have hnm := (name_of_methodNamed Bd.named Bd.method).1
  have X0 : Stand p l e ({ frames := 1, cells := 0, slots := 0, locals := 12 } : Room) s m #[(.ref so)] below meth c s₁ [] 0 0 := Stand.of_body Bd
  have e0 : s₁.heap = h0 := by rw [← hh, Bd.state]; rfl
  have N0 := Fr.nil n0
  have K0 : Keep h0 h0 [so] := Keep.refl h0 [so]
  show Go p.tables e below _ (s₁.setTop (entryFrame m #[(.ref so)] 3))
  refine Go.start ?_
  intro G hG
  refine Go.st (fun t k => castTop (ef_next m so) k) ?_
  show Go _ _ _ _ (s₁.setTop (mkF m 0 #[.val (.ref so), .unset, .unset] []))
  refine Go.st (fun _ k => XS.aloadN X0.here hx rfl (hb hby d16_0) rfl rfl k) ?_
  show Go _ _ _ _ (s₁.setTop (mkF m 1 #[.val (.ref so), .unset, .unset] [(.ref so)]))
  obtain ⟨cq1, kq1, q1a, q1b, q1c⟩ := isOf hZ e0 Pf0
  obtain ⟨_, _, ⟨T1, L1, k1, n1⟩, -, X1, ⟨Lc1, hQ1, l1, y1, z1⟩, st1⟩ := X0.virtualBack hx (y := (⟨"java/util/ArrayList$Itr", "checkForComodification", "()V"⟩ : MethodName)) (z := (⟨"java/util/ArrayList$Itr", "checkForComodification", "()V"⟩ : MethodName)) hown (mvT hZ (ow hw 119 rfl)) (mvT hZ (ow hw 120 rfl)) (notFace_of_selects (args := #[]) (mvT hZ (ow hw 122 rfl))) (mvT hZ (ow hw 122 rfl)) (mvT hZ (ow hw 121 rfl)) (by decide) (backOf (W := 0) (rm_ckm l Z a0 hw [] so lo (0 : Int32) (-1 : Int32) ea (1 : Int32) mc h0 n0 Z0 Pf0 Pf1 Pf2 Pf3 Pf4 Pf5 Pf6 Pf7 Pf8) hZ (ow hw 123 rfl) (ow hw 86 rfl) (by decide) (by decide)) q1a q1c (g := (mkF m 1 #[.val (.ref so), .unset, .unset] [(.ref so)])) rfl (by rw [hml]; rfl) (Steps.refl _) (argsL := []) (rest := []) (lenOf pd_0 rfl) rfl (by show 2 * 0 + _ ≤ _; exact Nat.le_of_eq rfl) (hb hby d16_1) (fun _ _ => ⟨rfl, e0, (by decide : 0 + 0 ≤ _), (by decide : 0 + 0 ≤ _)⟩)
  dsimp only [Pt.U, Pt.locs, Pt.cells, Pt.slots] at X1 l1 y1 z1 st1 hQ1
  rw [l1, y1, z1] at X1
  obtain ⟨rfl, N1q, e1⟩ := hQ1
  have N1 := Fr.app N0 N1q
  refine Go.st (fun _ k => st1.trans k) ?_
  show Go _ _ _ _ (T1.setTop (mkF m 4 #[.val (.ref so), .unset, .unset] []))
  refine Go.st (fun _ k => XS.aloadN X1.here hx rfl (hb hby d16_4) rfl rfl k) ?_
  show Go _ _ _ _ (T1.setTop (mkF m 5 #[.val (.ref so), .unset, .unset] [(.ref so)]))
  obtain ⟨T2, X2, e2, st2⟩ := getF X1 hx hZ hown (host := "") (Or.inl (ow hw 108 rfl)) Via.refl e1 Pf2 (g := (mkF m 5 #[.val (.ref so), .unset, .unset] [(.ref so)])) rfl rfl (hb hby d16_5)
  refine Go.st st2 ?_
  show Go _ _ _ _ (T2.setTop (mkF m 8 #[.val (.ref so), .unset, .unset] [(.int (0 : Int32))]))
  refine Go.st (fun _ k => XS.istoreN X2.here hx rfl (hb hby d16_8) rfl (l' := #[.val (.ref so), .val (.int (0 : Int32)), .unset]) rfl k) ?_
  show Go _ _ _ _ (T2.setTop (mkF m 9 #[.val (.ref so), .val (.int (0 : Int32)), .unset] []))
  refine Go.st (fun _ k => XS.iloadN X2.here hx rfl (hb hby d16_9) rfl k) ?_
  show Go _ _ _ _ (T2.setTop (mkF m 10 #[.val (.ref so), .val (.int (0 : Int32)), .unset] [(.int (0 : Int32))]))
  refine Go.st (fun _ k => XS.aloadN X2.here hx rfl (hb hby d16_10) rfl rfl k) ?_
  show Go _ _ _ _ (T2.setTop (mkF m 11 #[.val (.ref so), .val (.int (0 : Int32)), .unset] [(.ref so), (.int (0 : Int32))]))
  obtain ⟨T3, X3, e3, st3⟩ := getF X2 hx hZ hown (host := "") (Or.inl (ow hw 91 rfl)) Via.refl e2 Pf1 (g := (mkF m 11 #[.val (.ref so), .val (.int (0 : Int32)), .unset] [(.ref so), (.int (0 : Int32))])) rfl rfl (hb hby d16_11)
  refine Go.st st3 ?_
  show Go _ _ _ _ (T3.setTop (mkF m 14 #[.val (.ref so), .val (.int (0 : Int32)), .unset] [(.ref lo), (.int (0 : Int32))]))
  obtain ⟨T4, X4, e4, st4⟩ := getF X3 hx hZ hown (Or.inr (ow hw 110 rfl)) Via.refl e3 Pf8 (g := (mkF m 14 #[.val (.ref so), .val (.int (0 : Int32)), .unset] [(.ref lo), (.int (0 : Int32))])) rfl rfl (hb hby d16_14)
  refine Go.st st4 ?_
  show Go _ _ _ _ (T4.setTop (mkF m 17 #[.val (.ref so), .val (.int (0 : Int32)), .unset] [(.int (1 : Int32)), (.int (0 : Int32))]))
  have hl5 : (0 : Int32) < (1 : Int32) := by decide
  refine Go.st (fun _ k => XS.icmpYes X4.here hx rfl (pc0 := 17) (pc' := 28) rfl (hb hby d16_17) rfl (Jvm.Free.XT.ii_lt_t hl5) (by decide) (by decide) k) ?_
  show Go _ _ _ _ (T4.setTop (mkF m 28 #[.val (.ref so), .val (.int (0 : Int32)), .unset] []))
  refine Go.st (fun _ k => XS.aloadN X4.here hx rfl (hb hby d16_28) rfl rfl k) ?_
  show Go _ _ _ _ (T4.setTop (mkF m 29 #[.val (.ref so), .val (.int (0 : Int32)), .unset] [(.ref so)]))
  obtain ⟨T6, X6, e6, st6⟩ := getF X4 hx hZ hown (host := "") (Or.inl (ow hw 91 rfl)) Via.refl e4 Pf1 (g := (mkF m 29 #[.val (.ref so), .val (.int (0 : Int32)), .unset] [(.ref so)])) rfl rfl (hb hby d16_29)
  refine Go.st st6 ?_
  show Go _ _ _ _ (T6.setTop (mkF m 32 #[.val (.ref so), .val (.int (0 : Int32)), .unset] [(.ref lo)]))
  obtain ⟨T7, X7, e7, st7⟩ := getF X6 hx hZ hown (host := "") (Or.inl (ow hw 124 rfl)) Via.refl e6 Pf7 (g := (mkF m 32 #[.val (.ref so), .val (.int (0 : Int32)), .unset] [(.ref lo)])) rfl rfl (hb hby d16_32)
  refine Go.st st7 ?_
  show Go _ _ _ _ (T7.setTop (mkF m 35 #[.val (.ref so), .val (.int (0 : Int32)), .unset] [(.ref ea)]))
  refine Go.st (fun _ k => XS.astoreN X7.here hx rfl (hb hby d16_35) rfl rfl (l' := #[.val (.ref so), .val (.int (0 : Int32)), .val (.ref ea)]) rfl k) ?_
  show Go _ _ _ _ (T7.setTop (mkF m 36 #[.val (.ref so), .val (.int (0 : Int32)), .val (.ref ea)] []))
  refine Go.st (fun _ k => XS.iloadN X7.here hx rfl (hb hby d16_36) rfl k) ?_
  show Go _ _ _ _ (T7.setTop (mkF m 37 #[.val (.ref so), .val (.int (0 : Int32)), .val (.ref ea)] [(.int (0 : Int32))]))
  refine Go.st (fun _ k => XS.aloadN X7.here hx rfl (hb hby d16_37) rfl rfl k) ?_
  show Go _ _ _ _ (T7.setTop (mkF m 38 #[.val (.ref so), .val (.int (0 : Int32)), .val (.ref ea)] [(.ref ea), (.int (0 : Int32))]))
  obtain ⟨cl8, Ar8, -, S8, M8, -, -⟩ := id Pf9
  refine Go.st (fun _ k => X7.arraylength hx (by rw [e7]; exact Ar8.1) (State.isArrayOf_alike hZ.alike Ar8.2.1) (g := (mkF m 38 #[.val (.ref so), .val (.int (0 : Int32)), .val (.ref ea)] [(.ref ea), (.int (0 : Int32))])) rfl rfl (hb hby d16_38) _ k) ?_
  rw [len_of S8 M8]
  show Go _ _ _ _ (T7.setTop (mkF m 39 #[.val (.ref so), .val (.int (0 : Int32)), .val (.ref ea)] [(.int (10 : Int32)), (.int (0 : Int32))]))
  have hl9 : (0 : Int32) < (10 : Int32) := by decide
  refine Go.st (fun _ k => XS.icmpYes X7.here hx rfl (pc0 := 39) (pc' := 50) rfl (hb hby d16_39) rfl (Jvm.Free.XT.ii_lt_t hl9) (by decide) (by decide) k) ?_
  show Go _ _ _ _ (T7.setTop (mkF m 50 #[.val (.ref so), .val (.int (0 : Int32)), .val (.ref ea)] []))
  refine Go.st (fun _ k => XS.aloadN X7.here hx rfl (hb hby d16_50) rfl rfl k) ?_
  show Go _ _ _ _ (T7.setTop (mkF m 51 #[.val (.ref so), .val (.int (0 : Int32)), .val (.ref ea)] [(.ref so)]))
  refine Go.st (fun _ k => XS.iloadN X7.here hx rfl (hb hby d16_51) rfl k) ?_
  show Go _ _ _ _ (T7.setTop (mkF m 52 #[.val (.ref so), .val (.int (0 : Int32)), .val (.ref ea)] [(.int (0 : Int32)), (.ref so)]))
  refine Go.st (fun _ k => XS.iconst X7.here hx rfl (hb hby d16_52) k) ?_
  show Go _ _ _ _ (T7.setTop (mkF m 53 #[.val (.ref so), .val (.int (0 : Int32)), .val (.ref ea)] [(.int (1 : Int32)), (.int (0 : Int32)), (.ref so)]))
  refine Go.st (fun _ k => XS.iadd X7.here hx rfl (hb hby d16_53) rfl k) ?_
  show Go _ _ _ _ (T7.setTop (mkF m 54 #[.val (.ref so), .val (.int (0 : Int32)), .val (.ref ea)] [(.int ((0 : Int32) + (1 : Int32))), (.ref so)]))
  rw [show ((0 : Int32) + (1 : Int32)) = (1 : Int32) from by decide]
  show Go _ _ _ _ (T7.setTop (mkF m 54 #[.val (.ref so), .val (.int (0 : Int32)), .val (.ref ea)] [(.int (1 : Int32)), (.ref so)]))
  obtain ⟨T10, h10, X10, e10, W10, st10⟩ := putF X7 hx hZ hown (host := "") (Or.inl (ow hw 108 rfl)) Via.refl e7 Pf2 Pf0 (Or.inl (ow hw 109 rfl)) (ow hw 85 rfl) (ty := .int) (by decide) rfl rfl (g := (mkF m 54 #[.val (.ref so), .val (.int (0 : Int32)), .val (.ref ea)] [(.int (1 : Int32)), (.ref so)])) rfl rfl (hb hby d16_54)
  refine Go.st st10 ?_
  have F11 := Pf0.wr W10
  have F12 := Pf1.other W10 (Or.inr (slot_ne (Or.inr (ow hw 92 rfl)) (Or.inl (ow hw 109 rfl)) (by decide) (t := (.object "java/util/ArrayList")) (t' := .int) (by decide) (by decide)))
  have F13 := Pf2.same W10
  have F14 := Pf3.other W10 (Or.inr (slot_ne (Or.inl (ow hw 95 rfl)) (Or.inl (ow hw 109 rfl)) (by decide) (t := .int) (t' := .int) (by decide) (by decide)))
  have F15 := Pf4.other W10 (Or.inr (slot_ne (Or.inl (ow hw 98 rfl)) (Or.inl (ow hw 109 rfl)) (by decide) (t := .int) (t' := .int) (by decide) (by decide)))
  have F16 := Pf5.wr W10
  have F17 := Pf6.other W10 (Or.inl (Exa.ne Pf5 Pf0 (by decide)))
  have F18 := Pf7.other W10 (Or.inl (Exa.ne Pf5 Pf0 (by decide)))
  have F19 := Pf8.other W10 (Or.inl (Exa.ne Pf5 Pf0 (by decide)))
  have F20 := Pf9.other W10 (Exa.ne Pf10 Pf0 (by decide))
  have F21 := Pf10.wr W10
  have K22 := K0.wr W10 (Or.inl (List.mem_of_getElem? (i := 0) rfl))
  have Z23 := oz_ Z0 W10
  have N24 := Fr.snoc X10 N1 Pf11
  show Go _ _ _ _ (T10.setTop (mkF m 57 #[.val (.ref so), .val (.int (0 : Int32)), .val (.ref ea)] []))
  refine Go.st (fun _ k => XS.aloadN X10.here hx rfl (hb hby d16_57) rfl rfl k) ?_
  show Go _ _ _ _ (T10.setTop (mkF m 58 #[.val (.ref so), .val (.int (0 : Int32)), .val (.ref ea)] [(.ref ea)]))
  refine Go.st (fun _ k => XS.aloadN X10.here hx rfl (hb hby d16_58) rfl rfl k) ?_
  show Go _ _ _ _ (T10.setTop (mkF m 59 #[.val (.ref so), .val (.int (0 : Int32)), .val (.ref ea)] [(.ref so), (.ref ea)]))
  refine Go.st (fun _ k => XS.iloadN X10.here hx rfl (hb hby d16_59) rfl k) ?_
  show Go _ _ _ _ (T10.setTop (mkF m 60 #[.val (.ref so), .val (.int (0 : Int32)), .val (.ref ea)] [(.int (0 : Int32)), (.ref so), (.ref ea)]))
  refine Go.st (fun _ k => XS.dupX1 X10.here hx rfl (hb hby d16_60) rfl rfl rfl k) ?_
  show Go _ _ _ _ (T10.setTop (mkF m 61 #[.val (.ref so), .val (.int (0 : Int32)), .val (.ref ea)] [(.int (0 : Int32)), (.ref so), (.int (0 : Int32)), (.ref ea)]))
  obtain ⟨T25, h25, X25, e25, W25, st25⟩ := putF X10 hx hZ hown (host := "") (Or.inl (ow hw 94 rfl)) Via.refl e10 F14 F11 (Or.inl (ow hw 95 rfl)) (ow hw 85 rfl) (ty := .int) (by decide) rfl rfl (g := (mkF m 61 #[.val (.ref so), .val (.int (0 : Int32)), .val (.ref ea)] [(.int (0 : Int32)), (.ref so), (.int (0 : Int32)), (.ref ea)])) rfl rfl (hb hby d16_61)
  refine Go.st st25 ?_
  have F26 := F11.wr W25
  have F27 := F12.other W25 (Or.inr (slot_ne (Or.inr (ow hw 92 rfl)) (Or.inl (ow hw 95 rfl)) (by decide) (t := (.object "java/util/ArrayList")) (t' := .int) (by decide) (by decide)))
  have F28 := F13.other W25 (Or.inr (slot_ne (Or.inl (ow hw 109 rfl)) (Or.inl (ow hw 95 rfl)) (by decide) (t := .int) (t' := .int) (by decide) (by decide)))
  have F29 := F14.same W25
  have F30 := F15.other W25 (Or.inr (slot_ne (Or.inl (ow hw 98 rfl)) (Or.inl (ow hw 95 rfl)) (by decide) (t := .int) (t' := .int) (by decide) (by decide)))
  have F31 := F16.wr W25
  have F32 := F17.other W25 (Or.inl (Exa.ne F16 F11 (by decide)))
  have F33 := F18.other W25 (Or.inl (Exa.ne F16 F11 (by decide)))
  have F34 := F19.other W25 (Or.inl (Exa.ne F16 F11 (by decide)))
  have F35 := F20.other W25 (Exa.ne F21 F11 (by decide))
  have F36 := F21.wr W25
  have K37 := K22.wr W25 (Or.inl (List.mem_of_getElem? (i := 0) rfl))
  have Z38 := oz_ Z23 W25
  have N39 := Fr.snoc X25 N24 Pf11
  show Go _ _ _ _ (T25.setTop (mkF m 64 #[.val (.ref so), .val (.int (0 : Int32)), .val (.ref ea)] [(.int (0 : Int32)), (.ref ea)]))
  obtain ⟨cl40, Ar40, q40, S40, M40, H40, G40⟩ := id F35
  have hin40 : ¬ ((0 : Int32) < 0 ∨ cl40.slots.size ≤ ((0 : Int32)).toNatClampNeg) := inb_of S40 ⟨by decide, by decide⟩
  have hat40 : cl40.slots[((0 : Int32)).toNatClampNeg]? = some (.ref eo) := Has.at H40 hin40 (rfl)
  refine Go.st (fun _ k => X25.aaload hx (j := (0 : Int32)) (v := (.ref eo)) (by rw [e25]; exact Ar40.1) (State.isArrayOf_alike hZ.alike Ar40.2.1) rfl Ar40.2.2 hin40 hat40 (g := (mkF m 64 #[.val (.ref so), .val (.int (0 : Int32)), .val (.ref ea)] [(.int (0 : Int32)), (.ref ea)])) rfl rfl (hb hby d16_64) _ k) ?_
  show Go _ _ _ _ (T25.setTop (mkF m 65 #[.val (.ref so), .val (.int (0 : Int32)), .val (.ref ea)] [(.ref eo)]))
  subst hG
  obtain ⟨fs, hr, hrun, hended, hW, hsame⟩ := X25.leave (v := some (.ref eo)) (fun h => by rw [Bd.returns] at h; cases h)
  refine ⟨_, _, ?_, hrun, hended, _, _, rfl, ?_, ⟨_, rfl⟩, hW, hsame.mono (by decide) (by decide)⟩
  · exact retOut X25 hx Bd.returns rfl (Or.inr (Or.inr (Or.inr (Or.inr ⟨rfl, rfl, rfl⟩)))) (hb hby d16_65) hr
  · show Q_next Z so lo mc ea eo kk h0 n0 _ T25.heap _
    rw [e25]
    exact ⟨rfl, N39, K37, F26, F27, F28, F29, F30⟩
theorem d17_0 : decode jdk_35_method_31_code 0 = .ok (.aload_n 0, 1) := by decide +kernel
theorem d17_1 : decode jdk_35_method_31_code 1 = .ok (.getfield 273, 3) := by decide +kernel
theorem d17_4 : decode jdk_35_method_31_code 4 = .ok (.lreturn, 1) := by decide +kernel
theorem ef_lgv (m : MethodId) (so : Addr) : entryFrame m #[(.ref so)] 1 = mkF m 0 #[.val (.ref so)] [] := by first | (simp [entryFrame, mkF, argsToLocals, Value.category]; done) | rfl
def Q_lgv (Z : State) (so : Addr) (pv : Int64) (h0 : Heap) (n0 : Nat) (v : Option Value) (h : Heap) (L : List Loc) : Prop := v = some (.long pv) ∧ Fr n0 L ∧ h = h0
set_option maxRecDepth 65536 in
set_option maxHeartbeats 40000000 in
theorem rm_lgv (l : Launch) (Z : State) (a0 : Array Value) (hw : ∀ d ∈ tables_1, d.before a0 Z = true) (ws : List Jvm.Cond) (so : Addr) (pv : Int64) (h0 : Heap) (n0 : Nat) (Z0 : n0 ≤ h0.size) (Pf0 : Exa Z h0 so "java/lang/Long") (Pf1 : Fld Z h0 so "java/lang/Long" "value" "J" (.long pv)) :
    MetFree l (⟨"java/lang/Long", "longValue", "()J"⟩ : MethodName) (head1 (Jvm.Cond.code (⟨"java/lang/Long", "longValue", "()J"⟩ : MethodName) jdk_35_method_31_code 1 (some .long) :: ws) ({ frames := 0, cells := 0, slots := 0, locals := 0 } : Room)) (fun a U => a = #[(.ref so)] ∧ Z.Warmed39 U.vm ∧ U.heap = h0) (fun _ _ _ _ _ => True) (fun _ U o U' => ∃ v L, o = .returned v ∧ Q_lgv Z so pv h0 n0 v U'.heap L ∧ FrameEnd U o U' L ({ frames := 0, cells := 0, slots := 0, locals := 0 } : Room).cells ({ frames := 0, cells := 0, slots := 0, locals := 0 } : Room).slots) := by
  refine MetFree.of_bodySF (plainFor_of_name pn_4) hisR ?_
  intro p e s m args below meth c s₁ Bd hml0 hP hK
  obtain ⟨rfl, hZ, hh⟩ := hP
  have hx := Bd.exec
  have hby := Bd.bytes
  have hml : c.maxLocals = 1 := hml0
  have hown : s.vm.findClass "java/lang/Long" = some m.cls := findClass_of_methodNamed Bd.named
  have hnm := (name_of_methodNamed Bd.named Bd.method).1
  have X0 : Stand p l e ({ frames := 0, cells := 0, slots := 0, locals := 0 } : Room) s m #[(.ref so)] below meth c s₁ [] 0 0 := Stand.of_body Bd
  have e0 : s₁.heap = h0 := by rw [← hh, Bd.state]; rfl
  have N0 := Fr.nil n0
  have K0 : Keep h0 h0 [] := Keep.refl h0 []
  show Go p.tables e below _ (s₁.setTop (entryFrame m #[(.ref so)] 1))
  refine Go.start ?_
  intro G hG
  refine Go.st (fun t k => castTop (ef_lgv m so) k) ?_
  show Go _ _ _ _ (s₁.setTop (mkF m 0 #[.val (.ref so)] []))
  refine Go.st (fun _ k => XS.aloadN X0.here hx rfl (hb hby d17_0) rfl rfl k) ?_
  show Go _ _ _ _ (s₁.setTop (mkF m 1 #[.val (.ref so)] [(.ref so)]))
  obtain ⟨T1, X1, e1, st1⟩ := getF X0 hx hZ hown (host := "") (Or.inl (ow hw 132 rfl)) Via.refl e0 Pf1 (g := (mkF m 1 #[.val (.ref so)] [(.ref so)])) rfl rfl (hb hby d17_1)
  refine Go.st st1 ?_
  show Go _ _ _ _ (T1.setTop (mkF m 4 #[.val (.ref so)] [(.long pv)]))
  subst hG
  obtain ⟨fs, hr, hrun, hended, hW, hsame⟩ := X1.leave (v := some (.long pv)) (fun h => by rw [Bd.returns] at h; cases h)
  refine ⟨_, _, ?_, hrun, hended, _, _, rfl, ?_, ⟨_, rfl⟩, hW, hsame.mono (by decide) (by decide)⟩
  · exact retOut X1 hx Bd.returns rfl (Or.inr (Or.inl ⟨rfl, rfl, _, rfl⟩)) (hb hby d17_4) hr
  · show Q_lgv Z so pv h0 n0 _ T1.heap _
    rw [e1]
    exact ⟨rfl, N0, rfl⟩
theorem pn_6 : plainName "java/util/Arrays" = true := by first | (simp [plainName, overriddenIn]; done) | decide +kernel
theorem d18_0 : decode jdk_65_method_120_code 0 = .ok (.aload_n 2, 1) := by decide +kernel
theorem d18_1 : decode jdk_65_method_120_code 1 = .ok (.ldc 110, 2) := by decide +kernel
theorem d18_3 : decode jdk_65_method_120_code 3 = .ok (.if_acmp .ne 10, 3) := by decide +kernel
theorem d18_6 : decode jdk_65_method_120_code 6 = .ok (.iload_n 1, 1) := by decide +kernel
theorem d18_7 : decode jdk_65_method_120_code 7 = .ok (.anewarray 2, 3) := by decide +kernel
theorem d18_10 : decode jdk_65_method_120_code 10 = .ok (.goto 14, 3) := by decide +kernel
theorem d18_24 : decode jdk_65_method_120_code 24 = .ok (.astore_n 3, 1) := by decide +kernel
theorem d18_25 : decode jdk_65_method_120_code 25 = .ok (.aload_n 0, 1) := by decide +kernel
theorem d18_26 : decode jdk_65_method_120_code 26 = .ok (.iconst 0, 1) := by decide +kernel
theorem d18_27 : decode jdk_65_method_120_code 27 = .ok (.aload_n 3, 1) := by decide +kernel
theorem d18_28 : decode jdk_65_method_120_code 28 = .ok (.iconst 0, 1) := by decide +kernel
theorem d18_29 : decode jdk_65_method_120_code 29 = .ok (.aload_n 0, 1) := by decide +kernel
theorem d18_30 : decode jdk_65_method_120_code 30 = .ok (.arraylength, 1) := by decide +kernel
theorem d18_31 : decode jdk_65_method_120_code 31 = .ok (.iload_n 1, 1) := by decide +kernel
theorem d18_32 : decode jdk_65_method_120_code 32 = .ok (.invokestatic 304, 3) := by decide +kernel
theorem d18_35 : decode jdk_65_method_120_code 35 = .ok (.invokestatic 150, 3) := by decide +kernel
theorem d18_38 : decode jdk_65_method_120_code 38 = .ok (.aload_n 3, 1) := by decide +kernel
theorem d18_39 : decode jdk_65_method_120_code 39 = .ok (.areturn, 1) := by decide +kernel
theorem ef_cpof3 (m : MethodId) (ao : Addr) (pn : Int32) (mr : Addr) : entryFrame m #[(.ref ao), (.int pn), (.ref mr)] 4 = mkF m 0 #[.val (.ref ao), .val (.int pn), .val (.ref mr), .unset] [] := by first | (simp [entryFrame, mkF, argsToLocals, Value.category]; done) | rfl
def Q_cpof3 (Z : State) (ao : Addr) (pn : Int32) (mr : Addr) (eo : Addr) (kk : ClassId) (h0 : Heap) (n0 : Nat) (v : Option Value) (h : Heap) (L : List Loc) : Prop := ∃ fr : Addr, ∃ kj : ClassId, v = some (.ref fr) ∧ Fr n0 L ∧ Keep h0 h [] ∧ n0 ≤ fr ∧ h0.size ≤ fr ∧ Arv Z h fr kj (.object "java/lang/Object") (1 : Int32) [(.ref eo)] .null ∧ Exa Z h fr "[Ljava/lang/Object;"
set_option maxRecDepth 65536 in
set_option maxHeartbeats 40000000 in
theorem rm_cpof3 (l : Launch) (Z : State) (a0 : Array Value) (hw : ∀ d ∈ tables_1, d.before a0 Z = true) (ws : List Jvm.Cond) (ao : Addr) (pn : Int32) (mr : Addr) (eo : Addr) (kk : ClassId) (h0 : Heap) (n0 : Nat) (Z0 : n0 ≤ h0.size) (Pf0 : Arv Z h0 ao kk (.object "java/lang/Object") (10 : Int32) [(.ref eo), .null, .null, .null, .null, .null, .null, .null, .null, .null] .null) (Pf1 : Exa Z h0 ao "[Ljava/lang/Object;") (Pf2 : Exa Z h0 eo "java/lang/Long") (hpn : pn = (1 : Int32)) (hmir : Mir Z "[Ljava/lang/Object;" mr) :
    MetFree l (⟨"java/util/Arrays", "copyOf", "([Ljava/lang/Object;ILjava/lang/Class;)[Ljava/lang/Object;"⟩ : MethodName) (head1 (Jvm.Cond.code (⟨"java/util/Arrays", "copyOf", "([Ljava/lang/Object;ILjava/lang/Class;)[Ljava/lang/Object;"⟩ : MethodName) jdk_65_method_120_code 4 (some (.array (.object "java/lang/Object"))) :: ws) ({ frames := 1, cells := 1, slots := 1, locals := 18 } : Room)) (fun a U => a = #[(.ref ao), (.int pn), (.ref mr)] ∧ Z.Warmed39 U.vm ∧ U.heap = h0) (fun _ _ _ _ _ => True) (fun _ U o U' => ∃ v L, o = .returned v ∧ Q_cpof3 Z ao pn mr eo kk h0 n0 v U'.heap L ∧ FrameEnd U o U' L ({ frames := 1, cells := 1, slots := 1, locals := 18 } : Room).cells ({ frames := 1, cells := 1, slots := 1, locals := 18 } : Room).slots) := by
  refine MetFree.of_bodySF (plainFor_of_name pn_6) hisR ?_
  intro p e s m args below meth c s₁ Bd hml0 hP hK
  obtain ⟨rfl, hZ, hh⟩ := hP
  have hx := Bd.exec
  have hby := Bd.bytes
  have hml : c.maxLocals = 4 := hml0
  have hown : s.vm.findClass "java/util/Arrays" = some m.cls := findClass_of_methodNamed Bd.named
  have hnm := (name_of_methodNamed Bd.named Bd.method).1
  have X0 : Stand p l e ({ frames := 1, cells := 1, slots := 1, locals := 18 } : Room) s m #[(.ref ao), (.int pn), (.ref mr)] below meth c s₁ [] 0 0 := Stand.of_body Bd
  have e0 : s₁.heap = h0 := by rw [← hh, Bd.state]; rfl
  have N0 := Fr.nil n0
  have K0 : Keep h0 h0 [] := Keep.refl h0 []
  show Go p.tables e below _ (s₁.setTop (entryFrame m #[(.ref ao), (.int pn), (.ref mr)] 4))
  refine Go.start ?_
  intro G hG
  refine Go.st (fun t k => castTop (ef_cpof3 m ao pn mr) k) ?_
  subst hpn
  show Go _ _ _ _ (s₁.setTop (mkF m 0 #[.val (.ref ao), .val (.int (1 : Int32)), .val (.ref mr), .unset] []))
  refine Go.st (fun _ k => XS.aloadN X0.here hx rfl (hb hby d18_0) rfl rfl k) ?_
  show Go _ _ _ _ (s₁.setTop (mkF m 1 #[.val (.ref ao), .val (.int (1 : Int32)), .val (.ref mr), .unset] [(.ref mr)]))
  obtain ⟨T1, X1, e1, st1⟩ := own_ldcM X0 hx hZ hown (ow hw 179 rfl) e0 hmir (g := (mkF m 1 #[.val (.ref ao), .val (.int (1 : Int32)), .val (.ref mr), .unset] [(.ref mr)])) rfl (hb hby d18_1)
  refine Go.st st1 ?_
  show Go _ _ _ _ (T1.setTop (mkF m 3 #[.val (.ref ao), .val (.int (1 : Int32)), .val (.ref mr), .unset] [(.ref mr), (.ref mr)]))
  refine Go.st (fun _ k => Jvm.RoadKit.acmp (g := (mkF m 3 #[.val (.ref ao), .val (.int (1 : Int32)), .val (.ref mr), .unset] [(.ref mr), (.ref mr)])) X1 hx rfl rfl rfl (pc0 := 3) (pc' := 6) (same := true) rfl (hb hby d18_3) rfl (decide_eq_true rfl) (by decide) (by decide) k) ?_
  show Go _ _ _ _ (T1.setTop (mkF m 6 #[.val (.ref ao), .val (.int (1 : Int32)), .val (.ref mr), .unset] []))
  refine Go.st (fun _ k => XS.iloadN X1.here hx rfl (hb hby d18_6) rfl k) ?_
  show Go _ _ _ _ (T1.setTop (mkF m 7 #[.val (.ref ao), .val (.int (1 : Int32)), .val (.ref mr), .unset] [(.int (1 : Int32))]))
  obtain ⟨T2, h2, k2, X2, e2, E2, A2, C2, O2, st2⟩ := newRE X1 hx hZ hown (ow hw 180 rfl) (ow hw 66 rfl) e1 (g := (mkF m 7 #[.val (.ref ao), .val (.int (1 : Int32)), .val (.ref mr), .unset] [(.int (1 : Int32))])) rfl (hb hby d18_7) rfl (by decide) (cap := 1) (by decide) (by decide) (by decide) (by decide) (ad := "[Ljava/lang/Object;") (by decide)
  obtain ⟨b2, g2⟩ : ∃ z, z = h0.size := ⟨_, rfl⟩
  rw [← g2] at A2 C2 st2
  refine Go.st st2 ?_
  have ne3 := on_ Pf0.lt g2
  have ne4 := on_ Pf2.lt g2
  have ge5 : n0 ≤ b2 := Nat.le_trans Z0 (Nat.le_of_eq g2.symm)
  have sz6 : h0.size ≤ b2 := Nat.le_trans K0.1 (Nat.le_of_eq g2.symm)
  have Z7 : n0 ≤ h2.size := Nat.le_trans Z0 E2.1
  have K8 := K0.ext E2
  have F9 := Pf0.ext E2
  have F10 := Pf1.ext E2
  have F11 := Pf2.ext E2
  have F12 : Arv Z h2 b2 k2 (.object "java/lang/Object") (1 : Int32) [.null] .null := (Arv.new A2 (by decide)).pad (pad_rep [] .null 1)
  show Go _ _ _ _ (T2.setTop (mkF m 10 #[.val (.ref ao), .val (.int (1 : Int32)), .val (.ref mr), .unset] [(.ref b2)]))
  refine Go.st (fun _ k => XS.goto X2.here hx rfl (pc0 := 10) (pc' := 24) rfl (hb hby d18_10) (by decide) (by decide) k) ?_
  show Go _ _ _ _ (T2.setTop (mkF m 24 #[.val (.ref ao), .val (.int (1 : Int32)), .val (.ref mr), .unset] [(.ref b2)]))
  refine Go.st (fun _ k => XS.astoreN X2.here hx rfl (hb hby d18_24) rfl rfl (l' := #[.val (.ref ao), .val (.int (1 : Int32)), .val (.ref mr), .val (.ref b2)]) rfl k) ?_
  show Go _ _ _ _ (T2.setTop (mkF m 25 #[.val (.ref ao), .val (.int (1 : Int32)), .val (.ref mr), .val (.ref b2)] []))
  refine Go.st (fun _ k => XS.aloadN X2.here hx rfl (hb hby d18_25) rfl rfl k) ?_
  show Go _ _ _ _ (T2.setTop (mkF m 26 #[.val (.ref ao), .val (.int (1 : Int32)), .val (.ref mr), .val (.ref b2)] [(.ref ao)]))
  refine Go.st (fun _ k => XS.iconst X2.here hx rfl (hb hby d18_26) k) ?_
  show Go _ _ _ _ (T2.setTop (mkF m 27 #[.val (.ref ao), .val (.int (1 : Int32)), .val (.ref mr), .val (.ref b2)] [(.int (0 : Int32)), (.ref ao)]))
  refine Go.st (fun _ k => XS.aloadN X2.here hx rfl (hb hby d18_27) rfl rfl k) ?_
  show Go _ _ _ _ (T2.setTop (mkF m 28 #[.val (.ref ao), .val (.int (1 : Int32)), .val (.ref mr), .val (.ref b2)] [(.ref b2), (.int (0 : Int32)), (.ref ao)]))
  refine Go.st (fun _ k => XS.iconst X2.here hx rfl (hb hby d18_28) k) ?_
  show Go _ _ _ _ (T2.setTop (mkF m 29 #[.val (.ref ao), .val (.int (1 : Int32)), .val (.ref mr), .val (.ref b2)] [(.int (0 : Int32)), (.ref b2), (.int (0 : Int32)), (.ref ao)]))
  refine Go.st (fun _ k => XS.aloadN X2.here hx rfl (hb hby d18_29) rfl rfl k) ?_
  show Go _ _ _ _ (T2.setTop (mkF m 30 #[.val (.ref ao), .val (.int (1 : Int32)), .val (.ref mr), .val (.ref b2)] [(.ref ao), (.int (0 : Int32)), (.ref b2), (.int (0 : Int32)), (.ref ao)]))
  obtain ⟨cl13, Ar13, -, S13, M13, -, -⟩ := id F9
  refine Go.st (fun _ k => X2.arraylength hx (by rw [e2]; exact Ar13.1) (State.isArrayOf_alike hZ.alike Ar13.2.1) (g := (mkF m 30 #[.val (.ref ao), .val (.int (1 : Int32)), .val (.ref mr), .val (.ref b2)] [(.ref ao), (.int (0 : Int32)), (.ref b2), (.int (0 : Int32)), (.ref ao)])) rfl rfl (hb hby d18_30) _ k) ?_
  rw [len_of S13 M13]
  show Go _ _ _ _ (T2.setTop (mkF m 31 #[.val (.ref ao), .val (.int (1 : Int32)), .val (.ref mr), .val (.ref b2)] [(.int (10 : Int32)), (.int (0 : Int32)), (.ref b2), (.int (0 : Int32)), (.ref ao)]))
  refine Go.st (fun _ k => XS.iloadN X2.here hx rfl (hb hby d18_31) rfl k) ?_
  show Go _ _ _ _ (T2.setTop (mkF m 32 #[.val (.ref ao), .val (.int (1 : Int32)), .val (.ref mr), .val (.ref b2)] [(.int (1 : Int32)), (.int (10 : Int32)), (.int (0 : Int32)), (.ref b2), (.int (0 : Int32)), (.ref ao)]))
  obtain ⟨_, _, ⟨T14, L14, k14, n14⟩, -, X14, ⟨Lc14, hQ14, l14, y14, z14⟩, st14⟩ := Jvm.LawKit.callS X2 hx (y := (⟨"java/lang/Math", "min", "(II)I"⟩ : MethodName)) hown (mvT hZ (ow hw 181 rfl)) (mvT hZ (ow hw 182 rfl)) (mvT hZ (ow hw 63 rfl)) (mvT hZ (ow hw 183 rfl)) (by decide) (backOf (W := 4) (rm_mmin l Z a0 hw [] (10 : Int32) (1 : Int32) h2 n0 Z7 (by show (1 : Int32) < (10 : Int32); exact by decide)) hZ (ow hw 183 rfl) (ow hw 63 rfl) (by decide) (by decide)) (g := (mkF m 32 #[.val (.ref ao), .val (.int (1 : Int32)), .val (.ref mr), .val (.ref b2)] [(.int (1 : Int32)), (.int (10 : Int32)), (.int (0 : Int32)), (.ref b2), (.int (0 : Int32)), (.ref ao)])) rfl (by rw [hml]; rfl) (argsL := [(.int (10 : Int32)), (.int (1 : Int32))]) (rest := [(.int (0 : Int32)), (.ref b2), (.int (0 : Int32)), (.ref ao)]) (lenOf pd_2 rfl) rfl (by show 2 * 0 + _ ≤ _; exact Nat.le_of_eq rfl) (hb hby d18_32) (fun _ _ => ⟨rfl, e2, (by decide : 1 + 0 ≤ _), (by decide : 1 + 0 ≤ _)⟩)
  dsimp only [Pt.U, Pt.locs, Pt.cells, Pt.slots] at X14 l14 y14 z14 st14 hQ14
  rw [l14, y14, z14] at X14
  obtain ⟨rfl, N14q, e14⟩ := hQ14
  have N14 := Fr.app N0 N14q
  refine Go.st st14 ?_
  show Go _ _ _ _ (T14.setTop (mkF m 35 #[.val (.ref ao), .val (.int (1 : Int32)), .val (.ref mr), .val (.ref b2)] [(.int (1 : Int32)), (.int (0 : Int32)), (.ref b2), (.int (0 : Int32)), (.ref ao)]))
  obtain ⟨cl15, Ar15, q15, -⟩ := id F12
  obtain ⟨T15, h15, L15, X15, e15, N15, K15q, A15, st15⟩ := cpA X14 hx hZ hown (ow hw 184 rfl) (ow hw 187 rfl) (ow hw 185 rfl) (ow hw 186 rfl) e14 (us := [(.ref eo)]) F9 F12 (Or.inr ⟨rfl, rfl, ⟨(Sto.of Ar15 (by rw [q15]; exact O2) (Ins.of_exa F11 (ow hw 67 rfl))), trivial⟩⟩) (by decide) (by decide) (by decide) (by decide) (by decide) rfl (by decide) N14 ge5 (g := (mkF m 35 #[.val (.ref ao), .val (.int (1 : Int32)), .val (.ref mr), .val (.ref b2)] [(.int (1 : Int32)), (.int (0 : Int32)), (.ref b2), (.int (0 : Int32)), (.ref ao)])) rfl (by rw [hml]; rfl) rfl (hb hby d18_35) (by decide) (W := 0) (by show 2 * 0 + _ ≤ _; exact Nat.le_of_eq rfl) (by decide)
  refine Go.st st15 ?_
  have Z16 : n0 ≤ h15.size := Nat.le_trans Z7 K15q.1
  have K17 := K8.trans K15q (fun z hz => (List.mem_cons.mp hz).elim (fun q => by rw [q]; exact Or.inr sz6) nn_)
  have F18 := F9.keep K15q (fun z => (List.mem_cons.mp z).elim ne3 nn_)
  have F19 := F10.keep K15q
  have F20 := F11.keep K15q
  have F21 := C2.keep K15q
  have F22 : Arv Z h15 b2 k2 (.object "java/lang/Object") (1 : Int32) [(.ref eo)] .null := A15
  show Go _ _ _ _ (T15.setTop (mkF m 38 #[.val (.ref ao), .val (.int (1 : Int32)), .val (.ref mr), .val (.ref b2)] []))
  refine Go.st (fun _ k => XS.aloadN X15.here hx rfl (hb hby d18_38) rfl rfl k) ?_
  show Go _ _ _ _ (T15.setTop (mkF m 39 #[.val (.ref ao), .val (.int (1 : Int32)), .val (.ref mr), .val (.ref b2)] [(.ref b2)]))
  subst hG
  obtain ⟨fs, hr, hrun, hended, hW, hsame⟩ := X15.leave (v := some (.ref b2)) (fun h => by rw [Bd.returns] at h; cases h)
  refine ⟨_, _, ?_, hrun, hended, _, _, rfl, ?_, ⟨_, rfl⟩, hW, hsame.mono (by decide) (by decide)⟩
  · exact retOut X15 hx Bd.returns rfl (Or.inr (Or.inr (Or.inr (Or.inr ⟨rfl, rfl, rfl⟩)))) (hb hby d18_39) hr
  · show Q_cpof3 Z ao (1 : Int32) mr eo kk h0 n0 _ T15.heap _
    rw [e15]
    exact ⟨b2, k2, rfl, N15, K17, ge5, sz6, F22, F21⟩
theorem pd_7 : parseMethodDescriptor "([Ljava/lang/Object;ILjava/lang/Class;)[Ljava/lang/Object;" = some ⟨[(.array (.object "java/lang/Object")), .int, (.object "java/lang/Class")], some (.array (.object "java/lang/Object"))⟩ := by decide +kernel
theorem d19_0 : decode jdk_65_method_119_code 0 = .ok (.aload_n 0, 1) := by decide +kernel
theorem d19_1 : decode jdk_65_method_119_code 1 = .ok (.iload_n 1, 1) := by decide +kernel
theorem d19_2 : decode jdk_65_method_119_code 2 = .ok (.aload_n 0, 1) := by decide +kernel
theorem d19_3 : decode jdk_65_method_119_code 3 = .ok (.invokevirtual 86, 3) := by decide +kernel
theorem d19_6 : decode jdk_65_method_119_code 6 = .ok (.invokestatic 300, 3) := by decide +kernel
theorem d19_9 : decode jdk_65_method_119_code 9 = .ok (.areturn, 1) := by decide +kernel
theorem ef_cpof2 (m : MethodId) (ao : Addr) (pn : Int32) : entryFrame m #[(.ref ao), (.int pn)] 2 = mkF m 0 #[.val (.ref ao), .val (.int pn)] [] := by first | (simp [entryFrame, mkF, argsToLocals, Value.category]; done) | rfl
def Q_cpof2 (Z : State) (ao : Addr) (pn : Int32) (eo : Addr) (kk : ClassId) (mr : Addr) (h0 : Heap) (n0 : Nat) (v : Option Value) (h : Heap) (L : List Loc) : Prop := ∃ fr : Addr, ∃ kj : ClassId, v = some (.ref fr) ∧ Fr n0 L ∧ Keep h0 h [] ∧ n0 ≤ fr ∧ h0.size ≤ fr ∧ Arv Z h fr kj (.object "java/lang/Object") (1 : Int32) [(.ref eo)] .null ∧ Exa Z h fr "[Ljava/lang/Object;"
set_option maxRecDepth 65536 in
set_option maxHeartbeats 40000000 in
theorem rm_cpof2 (l : Launch) (Z : State) (a0 : Array Value) (hw : ∀ d ∈ tables_1, d.before a0 Z = true) (ws : List Jvm.Cond) (ao : Addr) (pn : Int32) (eo : Addr) (kk : ClassId) (mr : Addr) (h0 : Heap) (n0 : Nat) (Z0 : n0 ≤ h0.size) (Pf0 : Arv Z h0 ao kk (.object "java/lang/Object") (10 : Int32) [(.ref eo), .null, .null, .null, .null, .null, .null, .null, .null, .null] .null) (Pf1 : Exa Z h0 ao "[Ljava/lang/Object;") (Pf2 : Exa Z h0 eo "java/lang/Long") (hpn : pn = (1 : Int32)) (hmir : Mir Z "[Ljava/lang/Object;" mr) :
    MetFree l (⟨"java/util/Arrays", "copyOf", "([Ljava/lang/Object;I)[Ljava/lang/Object;"⟩ : MethodName) (head1 (Jvm.Cond.code (⟨"java/util/Arrays", "copyOf", "([Ljava/lang/Object;I)[Ljava/lang/Object;"⟩ : MethodName) jdk_65_method_119_code 2 (some (.array (.object "java/lang/Object"))) :: ws) ({ frames := 2, cells := 1, slots := 1, locals := 33 } : Room)) (fun a U => a = #[(.ref ao), (.int pn)] ∧ Z.Warmed39 U.vm ∧ U.heap = h0) (fun _ _ _ _ _ => True) (fun _ U o U' => ∃ v L, o = .returned v ∧ Q_cpof2 Z ao pn eo kk mr h0 n0 v U'.heap L ∧ FrameEnd U o U' L ({ frames := 2, cells := 1, slots := 1, locals := 33 } : Room).cells ({ frames := 2, cells := 1, slots := 1, locals := 33 } : Room).slots) := by
  refine MetFree.of_bodySF (plainFor_of_name pn_6) hisR ?_
  intro p e s m args below meth c s₁ Bd hml0 hP hK
  obtain ⟨rfl, hZ, hh⟩ := hP
  have hx := Bd.exec
  have hby := Bd.bytes
  have hml : c.maxLocals = 2 := hml0
  have hown : s.vm.findClass "java/util/Arrays" = some m.cls := findClass_of_methodNamed Bd.named
  have hnm := (name_of_methodNamed Bd.named Bd.method).1
  have X0 : Stand p l e ({ frames := 2, cells := 1, slots := 1, locals := 33 } : Room) s m #[(.ref ao), (.int pn)] below meth c s₁ [] 0 0 := Stand.of_body Bd
  have e0 : s₁.heap = h0 := by rw [← hh, Bd.state]; rfl
  have N0 := Fr.nil n0
  have K0 : Keep h0 h0 [] := Keep.refl h0 []
  show Go p.tables e below _ (s₁.setTop (entryFrame m #[(.ref ao), (.int pn)] 2))
  refine Go.start ?_
  intro G hG
  refine Go.st (fun t k => castTop (ef_cpof2 m ao pn) k) ?_
  show Go _ _ _ _ (s₁.setTop (mkF m 0 #[.val (.ref ao), .val (.int pn)] []))
  refine Go.st (fun _ k => XS.aloadN X0.here hx rfl (hb hby d19_0) rfl rfl k) ?_
  show Go _ _ _ _ (s₁.setTop (mkF m 1 #[.val (.ref ao), .val (.int pn)] [(.ref ao)]))
  refine Go.st (fun _ k => XS.iloadN X0.here hx rfl (hb hby d19_1) rfl k) ?_
  show Go _ _ _ _ (s₁.setTop (mkF m 2 #[.val (.ref ao), .val (.int pn)] [(.int pn), (.ref ao)]))
  refine Go.st (fun _ k => XS.aloadN X0.here hx rfl (hb hby d19_2) rfl rfl k) ?_
  show Go _ _ _ _ (s₁.setTop (mkF m 3 #[.val (.ref ao), .val (.int pn)] [(.ref ao), (.int pn), (.ref ao)]))
  obtain ⟨T1, X1, e1, st1⟩ := gcls X0 hx hZ hown (ow hw 170 rfl) (ow hw 171 rfl) (ow hw 147 rfl) (ow hw 173 rfl) (ow hw 172 rfl) (ow hw 174 rfl) e0 Pf1 hmir (g := (mkF m 3 #[.val (.ref ao), .val (.int pn)] [(.ref ao), (.int pn), (.ref ao)])) rfl (by rw [hml]; rfl) rfl (hb hby d19_3) (by decide) (W := 2) (by show 2 * 0 + _ ≤ _; exact Nat.le_of_eq rfl) (by decide)
  refine Go.st st1 ?_
  show Go _ _ _ _ (T1.setTop (mkF m 6 #[.val (.ref ao), .val (.int pn)] [(.ref mr), (.int pn), (.ref ao)]))
  obtain ⟨_, _, ⟨T2, L2, k2, n2⟩, -, X2, ⟨Lc2, hQ2, l2, y2, z2⟩, st2⟩ := Jvm.LawKit.callS X1 hx (y := (⟨"java/util/Arrays", "copyOf", "([Ljava/lang/Object;ILjava/lang/Class;)[Ljava/lang/Object;"⟩ : MethodName)) hown (mvT hZ (ow hw 176 rfl)) (mvT hZ (ow hw 177 rfl)) (mvT hZ (ow hw 168 rfl)) (mvT hZ (ow hw 178 rfl)) (by decide) (backOf (W := 0) (rm_cpof3 l Z a0 hw [] ao pn mr eo kk h0 n0 Z0 Pf0 Pf1 Pf2 (by show pn = (1 : Int32); exact hpn) (by show Mir Z "[Ljava/lang/Object;" mr; exact hmir)) hZ (ow hw 178 rfl) (ow hw 168 rfl) (by decide) (by decide)) (g := (mkF m 6 #[.val (.ref ao), .val (.int pn)] [(.ref mr), (.int pn), (.ref ao)])) rfl (by rw [hml]; rfl) (argsL := [(.ref ao), (.int pn), (.ref mr)]) (rest := []) (lenOf pd_7 rfl) rfl (by show 2 * 0 + _ ≤ _; exact Nat.le_of_eq rfl) (hb hby d19_6) (fun _ _ => ⟨rfl, e1, (by decide : 0 + 1 ≤ _), (by decide : 0 + 1 ≤ _)⟩)
  dsimp only [Pt.U, Pt.locs, Pt.cells, Pt.slots] at X2 l2 y2 z2 st2 hQ2
  rw [l2, y2, z2] at X2
  obtain ⟨b2_fr, x2_kj, rfl, N2q, K2q, g2_fr, s2_fr, Fq2_0, Fq2_1⟩ := hQ2
  have N2 := Fr.app N0 N2q
  refine Go.st st2 ?_
  have ne3 := om_ Pf0.lt s2_fr
  have ne4 := om_ Pf2.lt s2_fr
  have sz5 : h0.size ≤ b2_fr := Nat.le_trans K0.1 s2_fr
  have Z6 : n0 ≤ T2.heap.size := Nat.le_trans Z0 K2q.1
  have K7 := K0.trans K2q (fun z hz => absurd hz nm_)
  have F8 := Pf0.keep K2q nm_
  have F9 := Pf1.keep K2q
  have F10 := Pf2.keep K2q
  show Go _ _ _ _ (T2.setTop (mkF m 9 #[.val (.ref ao), .val (.int pn)] [(.ref b2_fr)]))
  subst hG
  obtain ⟨fs, hr, hrun, hended, hW, hsame⟩ := X2.leave (v := some (.ref b2_fr)) (fun h => by rw [Bd.returns] at h; cases h)
  refine ⟨_, _, ?_, hrun, hended, _, _, rfl, ?_, ⟨_, rfl⟩, hW, hsame.mono (by decide) (by decide)⟩
  · exact retOut X2 hx Bd.returns rfl (Or.inr (Or.inr (Or.inr (Or.inr ⟨rfl, rfl, rfl⟩)))) (hb hby d19_9) hr
  · show Q_cpof2 Z ao pn eo kk mr h0 n0 _ T2.heap _
    exact ⟨b2_fr, x2_kj, rfl, N2, K7, g2_fr, sz5, Fq2_0, Fq2_1⟩
theorem pd_8 : parseMethodDescriptor "([Ljava/lang/Object;I)[Ljava/lang/Object;" = some ⟨[(.array (.object "java/lang/Object")), .int], some (.array (.object "java/lang/Object"))⟩ := by decide +kernel
theorem d20_0 : decode jdk_38_method_16_code 0 = .ok (.aload_n 0, 1) := by decide +kernel
theorem d20_1 : decode jdk_38_method_16_code 1 = .ok (.getfield 9, 3) := by decide +kernel
theorem d20_4 : decode jdk_38_method_16_code 4 = .ok (.aload_n 0, 1) := by decide +kernel
theorem d20_5 : decode jdk_38_method_16_code 5 = .ok (.getfield 48, 3) := by decide +kernel
theorem d20_8 : decode jdk_38_method_16_code 8 = .ok (.invokestatic 66, 3) := by decide +kernel
theorem d20_11 : decode jdk_38_method_16_code 11 = .ok (.areturn, 1) := by decide +kernel
theorem ef_toarr (m : MethodId) (so : Addr) : entryFrame m #[(.ref so)] 1 = mkF m 0 #[.val (.ref so)] [] := by first | (simp [entryFrame, mkF, argsToLocals, Value.category]; done) | rfl
def Q_toarr (Z : State) (so : Addr) (ea : Addr) (eo : Addr) (kk : ClassId) (mc : Int32) (mr : Addr) (h0 : Heap) (n0 : Nat) (v : Option Value) (h : Heap) (L : List Loc) : Prop := ∃ fr : Addr, ∃ kj : ClassId, v = some (.ref fr) ∧ Fr n0 L ∧ Keep h0 h [] ∧ n0 ≤ fr ∧ h0.size ≤ fr ∧ Arv Z h fr kj (.object "java/lang/Object") (1 : Int32) [(.ref eo)] .null ∧ Exa Z h fr "[Ljava/lang/Object;"
set_option maxRecDepth 65536 in
set_option maxHeartbeats 40000000 in
theorem rm_toarr (l : Launch) (Z : State) (a0 : Array Value) (hw : ∀ d ∈ tables_1, d.before a0 Z = true) (ws : List Jvm.Cond) (so : Addr) (ea : Addr) (eo : Addr) (kk : ClassId) (mc : Int32) (mr : Addr) (h0 : Heap) (n0 : Nat) (Z0 : n0 ≤ h0.size) (Pf0 : Exa Z h0 so "java/util/ArrayList") (Pf1 : Fld Z h0 so "java/util/AbstractList" "modCount" "I" (.int mc)) (Pf2 : Fld Z h0 so "java/util/ArrayList" "elementData" "[Ljava/lang/Object;" (.ref ea)) (Pf3 : Fld Z h0 so "java/util/ArrayList" "size" "I" (.int (1 : Int32))) (Pf4 : Arv Z h0 ea kk (.object "java/lang/Object") (10 : Int32) [(.ref eo), .null, .null, .null, .null, .null, .null, .null, .null, .null] .null) (Pf5 : Exa Z h0 ea "[Ljava/lang/Object;") (Pf6 : Exa Z h0 eo "java/lang/Long") (hmir : Mir Z "[Ljava/lang/Object;" mr) :
    MetFree l (⟨"java/util/ArrayList", "toArray", "()[Ljava/lang/Object;"⟩ : MethodName) (head1 (Jvm.Cond.code (⟨"java/util/ArrayList", "toArray", "()[Ljava/lang/Object;"⟩ : MethodName) jdk_38_method_16_code 1 (some (.array (.object "java/lang/Object"))) :: ws) ({ frames := 3, cells := 1, slots := 1, locals := 46 } : Room)) (fun a U => a = #[(.ref so)] ∧ Z.Warmed39 U.vm ∧ U.heap = h0) (fun _ _ _ _ _ => True) (fun _ U o U' => ∃ v L, o = .returned v ∧ Q_toarr Z so ea eo kk mc mr h0 n0 v U'.heap L ∧ FrameEnd U o U' L ({ frames := 3, cells := 1, slots := 1, locals := 46 } : Room).cells ({ frames := 3, cells := 1, slots := 1, locals := 46 } : Room).slots) := by
  refine MetFree.of_bodySF (plainFor_of_name pn_2) hisR ?_
  intro p e s m args below meth c s₁ Bd hml0 hP hK
  obtain ⟨rfl, hZ, hh⟩ := hP
  have hx := Bd.exec
  have hby := Bd.bytes
  have hml : c.maxLocals = 1 := hml0
  have hown : s.vm.findClass "java/util/ArrayList" = some m.cls := findClass_of_methodNamed Bd.named
  have hnm := (name_of_methodNamed Bd.named Bd.method).1
  have X0 : Stand p l e ({ frames := 3, cells := 1, slots := 1, locals := 46 } : Room) s m #[(.ref so)] below meth c s₁ [] 0 0 := Stand.of_body Bd
  have e0 : s₁.heap = h0 := by rw [← hh, Bd.state]; rfl
  have N0 := Fr.nil n0
  have K0 : Keep h0 h0 [] := Keep.refl h0 []
  show Go p.tables e below _ (s₁.setTop (entryFrame m #[(.ref so)] 1))
  refine Go.start ?_
  intro G hG
  refine Go.st (fun t k => castTop (ef_toarr m so) k) ?_
  show Go _ _ _ _ (s₁.setTop (mkF m 0 #[.val (.ref so)] []))
  refine Go.st (fun _ k => XS.aloadN X0.here hx rfl (hb hby d20_0) rfl rfl k) ?_
  show Go _ _ _ _ (s₁.setTop (mkF m 1 #[.val (.ref so)] [(.ref so)]))
  obtain ⟨T1, X1, e1, st1⟩ := getF X0 hx hZ hown (host := "") (Or.inl (ow hw 27 rfl)) Via.refl e0 Pf2 (g := (mkF m 1 #[.val (.ref so)] [(.ref so)])) rfl rfl (hb hby d20_1)
  refine Go.st st1 ?_
  show Go _ _ _ _ (T1.setTop (mkF m 4 #[.val (.ref so)] [(.ref ea)]))
  refine Go.st (fun _ k => XS.aloadN X1.here hx rfl (hb hby d20_4) rfl rfl k) ?_
  show Go _ _ _ _ (T1.setTop (mkF m 5 #[.val (.ref so)] [(.ref so), (.ref ea)]))
  obtain ⟨T2, X2, e2, st2⟩ := getF X1 hx hZ hown (host := "") (Or.inl (ow hw 44 rfl)) Via.refl e1 Pf3 (g := (mkF m 5 #[.val (.ref so)] [(.ref so), (.ref ea)])) rfl rfl (hb hby d20_5)
  refine Go.st st2 ?_
  show Go _ _ _ _ (T2.setTop (mkF m 8 #[.val (.ref so)] [(.int (1 : Int32)), (.ref ea)]))
  obtain ⟨_, _, ⟨T3, L3, k3, n3⟩, -, X3, ⟨Lc3, hQ3, l3, y3, z3⟩, st3⟩ := Jvm.LawKit.callS X2 hx (y := (⟨"java/util/Arrays", "copyOf", "([Ljava/lang/Object;I)[Ljava/lang/Object;"⟩ : MethodName)) hown (mvT hZ (ow hw 166 rfl)) (mvT hZ (ow hw 167 rfl)) (mvT hZ (ow hw 168 rfl)) (mvT hZ (ow hw 169 rfl)) (by decide) (backOf (W := 0) (rm_cpof2 l Z a0 hw [] ea (1 : Int32) eo kk mr h0 n0 Z0 Pf4 Pf5 Pf6 (by show (1 : Int32) = (1 : Int32); exact rfl) (by show Mir Z "[Ljava/lang/Object;" mr; exact hmir)) hZ (ow hw 169 rfl) (ow hw 168 rfl) (by decide) (by decide)) (g := (mkF m 8 #[.val (.ref so)] [(.int (1 : Int32)), (.ref ea)])) rfl (by rw [hml]; rfl) (argsL := [(.ref ea), (.int (1 : Int32))]) (rest := []) (lenOf pd_8 rfl) rfl (by show 2 * 0 + _ ≤ _; exact Nat.le_of_eq rfl) (hb hby d20_8) (fun _ _ => ⟨rfl, e2, (by decide : 0 + 1 ≤ _), (by decide : 0 + 1 ≤ _)⟩)
  dsimp only [Pt.U, Pt.locs, Pt.cells, Pt.slots] at X3 l3 y3 z3 st3 hQ3
  rw [l3, y3, z3] at X3
  obtain ⟨b3_fr, x3_kj, rfl, N3q, K3q, g3_fr, s3_fr, Fq3_0, Fq3_1⟩ := hQ3
  have N3 := Fr.app N0 N3q
  refine Go.st st3 ?_
  have ne4 := om_ Pf0.lt s3_fr
  have ne5 := om_ Pf4.lt s3_fr
  have ne6 := om_ Pf6.lt s3_fr
  have sz7 : h0.size ≤ b3_fr := Nat.le_trans K0.1 s3_fr
  have Z8 : n0 ≤ T3.heap.size := Nat.le_trans Z0 K3q.1
  have K9 := K0.trans K3q (fun z hz => absurd hz nm_)
  have F10 := Pf0.keep K3q
  have F11 := Pf1.keep K3q nm_
  have F12 := Pf2.keep K3q nm_
  have F13 := Pf3.keep K3q nm_
  have F14 := Pf4.keep K3q nm_
  have F15 := Pf5.keep K3q
  have F16 := Pf6.keep K3q
  show Go _ _ _ _ (T3.setTop (mkF m 11 #[.val (.ref so)] [(.ref b3_fr)]))
  subst hG
  obtain ⟨fs, hr, hrun, hended, hW, hsame⟩ := X3.leave (v := some (.ref b3_fr)) (fun h => by rw [Bd.returns] at h; cases h)
  refine ⟨_, _, ?_, hrun, hended, _, _, rfl, ?_, ⟨_, rfl⟩, hW, hsame.mono (by decide) (by decide)⟩
  · exact retOut X3 hx Bd.returns rfl (Or.inr (Or.inr (Or.inr (Or.inr ⟨rfl, rfl, rfl⟩)))) (hb hby d20_11) hr
  · show Q_toarr Z so ea eo kk mc mr h0 n0 _ T3.heap _
    exact ⟨b3_fr, x3_kj, rfl, N3, K9, g3_fr, sz7, Fq3_0, Fq3_1⟩
theorem d21_0 : decode jdk_38_method_9_code 0 = .ok (.aload_n 0, 1) := by decide +kernel
theorem d21_1 : decode jdk_38_method_9_code 1 = .ok (.getfield 48, 3) := by decide +kernel
theorem d21_4 : decode jdk_38_method_9_code 4 = .ok (.ifCond .ne 7, 3) := by decide +kernel
theorem d21_7 : decode jdk_38_method_9_code 7 = .ok (.iconst 1, 1) := by decide +kernel
theorem d21_8 : decode jdk_38_method_9_code 8 = .ok (.goto 4, 3) := by decide +kernel
theorem d21_11 : decode jdk_38_method_9_code 11 = .ok (.iconst 0, 1) := by decide +kernel
theorem d21_12 : decode jdk_38_method_9_code 12 = .ok (.ireturn, 1) := by decide +kernel
theorem ef_isemp (m : MethodId) (so : Addr) : entryFrame m #[(.ref so)] 1 = mkF m 0 #[.val (.ref so)] [] := by first | (simp [entryFrame, mkF, argsToLocals, Value.category]; done) | rfl
def Q_isemp (Z : State) (so : Addr) (ed : Addr) (sz : Int32) (mc : Int32) (h0 : Heap) (n0 : Nat) (v : Option Value) (h : Heap) (L : List Loc) : Prop := v = some (.int (emF sz)) ∧ Fr n0 L ∧ h = h0
set_option maxRecDepth 65536 in
set_option maxHeartbeats 40000000 in
theorem rm_isemp (l : Launch) (Z : State) (a0 : Array Value) (hw : ∀ d ∈ tables_1, d.before a0 Z = true) (ws : List Jvm.Cond) (so : Addr) (ed : Addr) (sz : Int32) (mc : Int32) (h0 : Heap) (n0 : Nat) (Z0 : n0 ≤ h0.size) (Pf0 : Exa Z h0 so "java/util/ArrayList") (Pf1 : Fld Z h0 so "java/util/AbstractList" "modCount" "I" (.int mc)) (Pf2 : Fld Z h0 so "java/util/ArrayList" "elementData" "[Ljava/lang/Object;" (.ref ed)) (Pf3 : Fld Z h0 so "java/util/ArrayList" "size" "I" (.int sz)) :
    MetFree l (⟨"java/util/ArrayList", "isEmpty", "()Z"⟩ : MethodName) (head1 (Jvm.Cond.code (⟨"java/util/ArrayList", "isEmpty", "()Z"⟩ : MethodName) jdk_38_method_9_code 1 (some .boolean) :: ws) ({ frames := 0, cells := 0, slots := 0, locals := 0 } : Room)) (fun a U => a = #[(.ref so)] ∧ Z.Warmed39 U.vm ∧ U.heap = h0) (fun _ _ _ _ _ => True) (fun _ U o U' => ∃ v L, o = .returned v ∧ Q_isemp Z so ed sz mc h0 n0 v U'.heap L ∧ FrameEnd U o U' L ({ frames := 0, cells := 0, slots := 0, locals := 0 } : Room).cells ({ frames := 0, cells := 0, slots := 0, locals := 0 } : Room).slots) := by
  refine MetFree.of_bodySF (plainFor_of_name pn_2) hisR ?_
  intro p e s m args below meth c s₁ Bd hml0 hP hK
  obtain ⟨rfl, hZ, hh⟩ := hP
  have hx := Bd.exec
  have hby := Bd.bytes
  have hml : c.maxLocals = 1 := hml0
  have hown : s.vm.findClass "java/util/ArrayList" = some m.cls := findClass_of_methodNamed Bd.named
  have hnm := (name_of_methodNamed Bd.named Bd.method).1
  have X0 : Stand p l e ({ frames := 0, cells := 0, slots := 0, locals := 0 } : Room) s m #[(.ref so)] below meth c s₁ [] 0 0 := Stand.of_body Bd
  have e0 : s₁.heap = h0 := by rw [← hh, Bd.state]; rfl
  have N0 := Fr.nil n0
  have K0 : Keep h0 h0 [] := Keep.refl h0 []
  show Go p.tables e below _ (s₁.setTop (entryFrame m #[(.ref so)] 1))
  refine Go.start ?_
  intro G hG
  refine Go.st (fun t k => castTop (ef_isemp m so) k) ?_
  show Go _ _ _ _ (s₁.setTop (mkF m 0 #[.val (.ref so)] []))
  refine Go.st (fun _ k => XS.aloadN X0.here hx rfl (hb hby d21_0) rfl rfl k) ?_
  show Go _ _ _ _ (s₁.setTop (mkF m 1 #[.val (.ref so)] [(.ref so)]))
  obtain ⟨T1, X1, e1, st1⟩ := getF X0 hx hZ hown (host := "") (Or.inl (ow hw 44 rfl)) Via.refl e0 Pf3 (g := (mkF m 1 #[.val (.ref so)] [(.ref so)])) rfl rfl (hb hby d21_1)
  refine Go.st st1 ?_
  show Go _ _ _ _ (T1.setTop (mkF m 4 #[.val (.ref so)] [(.int sz)]))
  by_cases hc4 : sz = (0 : Int32)
  · skip
    refine Go.st (fun _ k => XS.ifNo X1.here hx rfl (hb hby d21_4) rfl (Jvm.Free.XT.i0_ne_f hc4) k) ?_
    show Go _ _ _ _ (T1.setTop (mkF m 7 #[.val (.ref so)] []))
    refine Go.st (fun _ k => XS.iconst X1.here hx rfl (hb hby d21_7) k) ?_
    show Go _ _ _ _ (T1.setTop (mkF m 8 #[.val (.ref so)] [(.int (1 : Int32))]))
    refine Go.st (fun _ k => XS.goto X1.here hx rfl (pc0 := 8) (pc' := 12) rfl (hb hby d21_8) (by decide) (by decide) k) ?_
    show Go _ _ _ _ (T1.setTop (mkF m 12 #[.val (.ref so)] [(.int (1 : Int32))]))
    subst hG
    obtain ⟨fs, hr, hrun, hended, hW, hsame⟩ := X1.leave (v := some (.int (nar .boolean (1 : Int32)))) (fun h => by rw [Bd.returns] at h; cases h)
    refine ⟨_, _, ?_, hrun, hended, _, _, rfl, ?_, ⟨_, rfl⟩, hW, hsame.mono (by decide) (by decide)⟩
    · exact retN X1 hx (t := .boolean) Bd.returns (by simp) (hb hby d21_12) hr
    · show Q_isemp Z so ed sz mc h0 n0 _ T1.heap _
      rw [e1]
      exact ⟨(by simp only [emF, if_pos hc4]; rfl), N0, rfl⟩
  · skip
    refine Go.st (fun _ k => XS.ifYes X1.here hx rfl (pc0 := 4) (pc' := 11) rfl (hb hby d21_4) rfl (Jvm.Free.XT.i0_ne_t hc4) (by decide) (by decide) k) ?_
    show Go _ _ _ _ (T1.setTop (mkF m 11 #[.val (.ref so)] []))
    refine Go.st (fun _ k => XS.iconst X1.here hx rfl (hb hby d21_11) k) ?_
    show Go _ _ _ _ (T1.setTop (mkF m 12 #[.val (.ref so)] [(.int (0 : Int32))]))
    subst hG
    obtain ⟨fs, hr, hrun, hended, hW, hsame⟩ := X1.leave (v := some (.int (nar .boolean (0 : Int32)))) (fun h => by rw [Bd.returns] at h; cases h)
    refine ⟨_, _, ?_, hrun, hended, _, _, rfl, ?_, ⟨_, rfl⟩, hW, hsame.mono (by decide) (by decide)⟩
    · exact retN X1 hx (t := .boolean) Bd.returns (by simp) (hb hby d21_12) hr
    · show Q_isemp Z so ed sz mc h0 n0 _ T1.heap _
      rw [e1]
      exact ⟨(by simp only [emF, if_neg hc4]; rfl), N0, rfl⟩
theorem pn_7 : plainName "java/util/ImmutableCollections$AbstractImmutableCollection" = true := by first | (simp [plainName, overriddenIn]; done) | decide +kernel
theorem d22_0 : decode jdk_47_method_1_code 0 = .ok (.aload_n 0, 1) := by decide +kernel
theorem d22_1 : decode jdk_47_method_1_code 1 = .ok (.invokespecial 1, 3) := by decide +kernel
theorem d22_4 : decode jdk_47_method_1_code 4 = .ok (.return_, 1) := by decide +kernel
theorem ef_aicin (m : MethodId) (so : Addr) : entryFrame m #[(.ref so)] 1 = mkF m 0 #[.val (.ref so)] [] := by first | (simp [entryFrame, mkF, argsToLocals, Value.category]; done) | rfl
def Q_aicin (Z : State) (so : Addr) (h0 : Heap) (n0 : Nat) (v : Option Value) (h : Heap) (L : List Loc) : Prop := v = none ∧ Fr n0 L ∧ h = h0
set_option maxRecDepth 65536 in
set_option maxHeartbeats 40000000 in
theorem rm_aicin (l : Launch) (Z : State) (a0 : Array Value) (hw : ∀ d ∈ tables_1, d.before a0 Z = true) (ws : List Jvm.Cond) (so : Addr) (h0 : Heap) (n0 : Nat) (Z0 : n0 ≤ h0.size)  :
    MetFree l (⟨"java/util/ImmutableCollections$AbstractImmutableCollection", "<init>", "()V"⟩ : MethodName) (head1 (Jvm.Cond.code (⟨"java/util/ImmutableCollections$AbstractImmutableCollection", "<init>", "()V"⟩ : MethodName) jdk_47_method_1_code 1 none :: ws) ({ frames := 2, cells := 0, slots := 0, locals := 24 } : Room)) (fun a U => a = #[(.ref so)] ∧ Z.Warmed39 U.vm ∧ U.heap = h0) (fun _ _ _ _ _ => True) (fun _ U o U' => ∃ v L, o = .returned v ∧ Q_aicin Z so h0 n0 v U'.heap L ∧ FrameEnd U o U' L ({ frames := 2, cells := 0, slots := 0, locals := 24 } : Room).cells ({ frames := 2, cells := 0, slots := 0, locals := 24 } : Room).slots) := by
  refine MetFree.of_bodySF (plainFor_of_name pn_7) hisR ?_
  intro p e s m args below meth c s₁ Bd hml0 hP hK
  obtain ⟨rfl, hZ, hh⟩ := hP
  have hx := Bd.exec
  have hby := Bd.bytes
  have hml : c.maxLocals = 1 := hml0
  have hown : s.vm.findClass "java/util/ImmutableCollections$AbstractImmutableCollection" = some m.cls := findClass_of_methodNamed Bd.named
  have hnm := (name_of_methodNamed Bd.named Bd.method).1
  have X0 : Stand p l e ({ frames := 2, cells := 0, slots := 0, locals := 24 } : Room) s m #[(.ref so)] below meth c s₁ [] 0 0 := Stand.of_body Bd
  have e0 : s₁.heap = h0 := by rw [← hh, Bd.state]; rfl
  have N0 := Fr.nil n0
  have K0 : Keep h0 h0 [] := Keep.refl h0 []
  show Go p.tables e below _ (s₁.setTop (entryFrame m #[(.ref so)] 1))
  refine Go.start ?_
  intro G hG
  refine Go.st (fun t k => castTop (ef_aicin m so) k) ?_
  show Go _ _ _ _ (s₁.setTop (mkF m 0 #[.val (.ref so)] []))
  refine Go.st (fun _ k => XS.aloadN X0.here hx rfl (hb hby d22_0) rfl rfl k) ?_
  show Go _ _ _ _ (s₁.setTop (mkF m 1 #[.val (.ref so)] [(.ref so)]))
  obtain ⟨_, _, ⟨T1, L1, k1, n1⟩, -, X1, ⟨Lc1, hQ1, l1, y1, z1⟩, st1⟩ := X0.specialBack hx (y := (⟨"java/util/AbstractCollection", "<init>", "()V"⟩ : MethodName)) rfl hown (mvT hZ (ow hw 210 rfl)) (mvT hZ (ow hw 16 rfl)) (mvT hZ (ow hw 20 rfl)) (by decide) (backOf (W := 0) (rm_acin l Z a0 hw [] so h0 n0 Z0 ) hZ (ow hw 20 rfl) (ow hw 19 rfl) (by decide) (by decide)) (g := (mkF m 1 #[.val (.ref so)] [(.ref so)])) rfl (by rw [hml]; rfl) (Steps.refl _) (a := so) (argsL := []) (rest := []) (lenOf pd_0 rfl) rfl (by show 2 * 0 + _ ≤ _; exact Nat.le_of_eq rfl) (hb hby d22_1) (fun _ _ => ⟨rfl, e0, (by decide : 0 + 0 ≤ _), (by decide : 0 + 0 ≤ _)⟩)
  dsimp only [Pt.U, Pt.locs, Pt.cells, Pt.slots] at X1 l1 y1 z1 st1 hQ1
  rw [l1, y1, z1] at X1
  obtain ⟨rfl, N1q, e1⟩ := hQ1
  have N1 := Fr.app N0 N1q
  refine Go.st (fun _ k => st1.trans k) ?_
  show Go _ _ _ _ (T1.setTop (mkF m 4 #[.val (.ref so)] []))
  subst hG
  obtain ⟨fs, hr, hrun, hended, hW, hsame⟩ := X1.leave (v := none) (fun _ => rfl)
  refine ⟨_, _, ?_, hrun, hended, _, _, rfl, ?_, ⟨_, rfl⟩, hW, hsame.mono (by decide) (by decide)⟩
  · exact X1.returnOut hx Bd.returns (hb hby d22_4) hr
  · show Q_aicin Z so h0 n0 _ T1.heap _
    rw [e1]
    exact ⟨rfl, N1, rfl⟩
theorem pn_8 : plainName "java/util/ImmutableCollections$AbstractImmutableList" = true := by first | (simp [plainName, overriddenIn]; done) | decide +kernel
theorem d23_0 : decode jdk_46_method_1_code 0 = .ok (.aload_n 0, 1) := by decide +kernel
theorem d23_1 : decode jdk_46_method_1_code 1 = .ok (.invokespecial 1, 3) := by decide +kernel
theorem d23_4 : decode jdk_46_method_1_code 4 = .ok (.return_, 1) := by decide +kernel
theorem ef_ailin (m : MethodId) (so : Addr) : entryFrame m #[(.ref so)] 1 = mkF m 0 #[.val (.ref so)] [] := by first | (simp [entryFrame, mkF, argsToLocals, Value.category]; done) | rfl
def Q_ailin (Z : State) (so : Addr) (h0 : Heap) (n0 : Nat) (v : Option Value) (h : Heap) (L : List Loc) : Prop := v = none ∧ Fr n0 L ∧ h = h0
set_option maxRecDepth 65536 in
set_option maxHeartbeats 40000000 in
theorem rm_ailin (l : Launch) (Z : State) (a0 : Array Value) (hw : ∀ d ∈ tables_1, d.before a0 Z = true) (ws : List Jvm.Cond) (so : Addr) (h0 : Heap) (n0 : Nat) (Z0 : n0 ≤ h0.size)  :
    MetFree l (⟨"java/util/ImmutableCollections$AbstractImmutableList", "<init>", "()V"⟩ : MethodName) (head1 (Jvm.Cond.code (⟨"java/util/ImmutableCollections$AbstractImmutableList", "<init>", "()V"⟩ : MethodName) jdk_46_method_1_code 1 none :: ws) ({ frames := 3, cells := 0, slots := 0, locals := 36 } : Room)) (fun a U => a = #[(.ref so)] ∧ Z.Warmed39 U.vm ∧ U.heap = h0) (fun _ _ _ _ _ => True) (fun _ U o U' => ∃ v L, o = .returned v ∧ Q_ailin Z so h0 n0 v U'.heap L ∧ FrameEnd U o U' L ({ frames := 3, cells := 0, slots := 0, locals := 36 } : Room).cells ({ frames := 3, cells := 0, slots := 0, locals := 36 } : Room).slots) := by
  refine MetFree.of_bodySF (plainFor_of_name pn_8) hisR ?_
  intro p e s m args below meth c s₁ Bd hml0 hP hK
  obtain ⟨rfl, hZ, hh⟩ := hP
  have hx := Bd.exec
  have hby := Bd.bytes
  have hml : c.maxLocals = 1 := hml0
  have hown : s.vm.findClass "java/util/ImmutableCollections$AbstractImmutableList" = some m.cls := findClass_of_methodNamed Bd.named
  have hnm := (name_of_methodNamed Bd.named Bd.method).1
  have X0 : Stand p l e ({ frames := 3, cells := 0, slots := 0, locals := 36 } : Room) s m #[(.ref so)] below meth c s₁ [] 0 0 := Stand.of_body Bd
  have e0 : s₁.heap = h0 := by rw [← hh, Bd.state]; rfl
  have N0 := Fr.nil n0
  have K0 : Keep h0 h0 [] := Keep.refl h0 []
  show Go p.tables e below _ (s₁.setTop (entryFrame m #[(.ref so)] 1))
  refine Go.start ?_
  intro G hG
  refine Go.st (fun t k => castTop (ef_ailin m so) k) ?_
  show Go _ _ _ _ (s₁.setTop (mkF m 0 #[.val (.ref so)] []))
  refine Go.st (fun _ k => XS.aloadN X0.here hx rfl (hb hby d23_0) rfl rfl k) ?_
  show Go _ _ _ _ (s₁.setTop (mkF m 1 #[.val (.ref so)] [(.ref so)]))
  obtain ⟨_, _, ⟨T1, L1, k1, n1⟩, -, X1, ⟨Lc1, hQ1, l1, y1, z1⟩, st1⟩ := X0.specialBack hx (y := (⟨"java/util/ImmutableCollections$AbstractImmutableCollection", "<init>", "()V"⟩ : MethodName)) rfl hown (mvT hZ (ow hw 204 rfl)) (mvT hZ (ow hw 205 rfl)) (mvT hZ (ow hw 209 rfl)) (by decide) (backOf (W := 0) (rm_aicin l Z a0 hw [] so h0 n0 Z0 ) hZ (ow hw 209 rfl) (ow hw 208 rfl) (by decide) (by decide)) (g := (mkF m 1 #[.val (.ref so)] [(.ref so)])) rfl (by rw [hml]; rfl) (Steps.refl _) (a := so) (argsL := []) (rest := []) (lenOf pd_0 rfl) rfl (by show 2 * 0 + _ ≤ _; exact Nat.le_of_eq rfl) (hb hby d23_1) (fun _ _ => ⟨rfl, e0, (by decide : 0 + 0 ≤ _), (by decide : 0 + 0 ≤ _)⟩)
  dsimp only [Pt.U, Pt.locs, Pt.cells, Pt.slots] at X1 l1 y1 z1 st1 hQ1
  rw [l1, y1, z1] at X1
  obtain ⟨rfl, N1q, e1⟩ := hQ1
  have N1 := Fr.app N0 N1q
  refine Go.st (fun _ k => st1.trans k) ?_
  show Go _ _ _ _ (T1.setTop (mkF m 4 #[.val (.ref so)] []))
  subst hG
  obtain ⟨fs, hr, hrun, hended, hW, hsame⟩ := X1.leave (v := none) (fun _ => rfl)
  refine ⟨_, _, ?_, hrun, hended, _, _, rfl, ?_, ⟨_, rfl⟩, hW, hsame.mono (by decide) (by decide)⟩
  · exact X1.returnOut hx Bd.returns (hb hby d23_4) hr
  · show Q_ailin Z so h0 n0 _ T1.heap _
    rw [e1]
    exact ⟨rfl, N1, rfl⟩
theorem pn_9 : plainName "java/util/Objects" = true := by first | (simp [plainName, overriddenIn]; done) | decide +kernel
theorem d24_0 : decode jdk_31_method_10_code 0 = .ok (.aload_n 0, 1) := by decide +kernel
theorem d24_1 : decode jdk_31_method_10_code 1 = .ok (.ifnonnull 11, 3) := by decide +kernel
theorem d24_12 : decode jdk_31_method_10_code 12 = .ok (.aload_n 0, 1) := by decide +kernel
theorem d24_13 : decode jdk_31_method_10_code 13 = .ok (.areturn, 1) := by decide +kernel
theorem ef_rnn (m : MethodId) (ao : Addr) : entryFrame m #[(.ref ao)] 1 = mkF m 0 #[.val (.ref ao)] [] := by first | (simp [entryFrame, mkF, argsToLocals, Value.category]; done) | rfl
def Q_rnn (Z : State) (ao : Addr) (h0 : Heap) (n0 : Nat) (v : Option Value) (h : Heap) (L : List Loc) : Prop := v = some (.ref ao) ∧ Fr n0 L ∧ h = h0
set_option maxRecDepth 65536 in
set_option maxHeartbeats 40000000 in
theorem rm_rnn (l : Launch) (Z : State) (a0 : Array Value) (hw : ∀ d ∈ tables_1, d.before a0 Z = true) (ws : List Jvm.Cond) (ao : Addr) (h0 : Heap) (n0 : Nat) (Z0 : n0 ≤ h0.size)  :
    MetFree l (⟨"java/util/Objects", "requireNonNull", "(Ljava/lang/Object;)Ljava/lang/Object;"⟩ : MethodName) (head1 (Jvm.Cond.code (⟨"java/util/Objects", "requireNonNull", "(Ljava/lang/Object;)Ljava/lang/Object;"⟩ : MethodName) jdk_31_method_10_code 1 (some (.object "java/lang/Object")) :: ws) ({ frames := 0, cells := 0, slots := 0, locals := 0 } : Room)) (fun a U => a = #[(.ref ao)] ∧ Z.Warmed39 U.vm ∧ U.heap = h0) (fun _ _ _ _ _ => True) (fun _ U o U' => ∃ v L, o = .returned v ∧ Q_rnn Z ao h0 n0 v U'.heap L ∧ FrameEnd U o U' L ({ frames := 0, cells := 0, slots := 0, locals := 0 } : Room).cells ({ frames := 0, cells := 0, slots := 0, locals := 0 } : Room).slots) := by
  refine MetFree.of_bodySF (plainFor_of_name pn_9) hisR ?_
  intro p e s m args below meth c s₁ Bd hml0 hP hK
  obtain ⟨rfl, hZ, hh⟩ := hP
  have hx := Bd.exec
  have hby := Bd.bytes
  have hml : c.maxLocals = 1 := hml0
  have hown : s.vm.findClass "java/util/Objects" = some m.cls := findClass_of_methodNamed Bd.named
  have hnm := (name_of_methodNamed Bd.named Bd.method).1
  have X0 : Stand p l e ({ frames := 0, cells := 0, slots := 0, locals := 0 } : Room) s m #[(.ref ao)] below meth c s₁ [] 0 0 := Stand.of_body Bd
  have e0 : s₁.heap = h0 := by rw [← hh, Bd.state]; rfl
  have N0 := Fr.nil n0
  have K0 : Keep h0 h0 [] := Keep.refl h0 []
  show Go p.tables e below _ (s₁.setTop (entryFrame m #[(.ref ao)] 1))
  refine Go.start ?_
  intro G hG
  refine Go.st (fun t k => castTop (ef_rnn m ao) k) ?_
  show Go _ _ _ _ (s₁.setTop (mkF m 0 #[.val (.ref ao)] []))
  refine Go.st (fun _ k => XS.aloadN X0.here hx rfl (hb hby d24_0) rfl rfl k) ?_
  show Go _ _ _ _ (s₁.setTop (mkF m 1 #[.val (.ref ao)] [(.ref ao)]))
  refine Go.st (fun _ k => XS.ifnonnullYes X0.here hx rfl (pc0 := 1) (pc' := 12) rfl (hb hby d24_1) rfl (by decide) (by decide) k) ?_
  show Go _ _ _ _ (s₁.setTop (mkF m 12 #[.val (.ref ao)] []))
  refine Go.st (fun _ k => XS.aloadN X0.here hx rfl (hb hby d24_12) rfl rfl k) ?_
  show Go _ _ _ _ (s₁.setTop (mkF m 13 #[.val (.ref ao)] [(.ref ao)]))
  subst hG
  obtain ⟨fs, hr, hrun, hended, hW, hsame⟩ := X0.leave (v := some (.ref ao)) (fun h => by rw [Bd.returns] at h; cases h)
  refine ⟨_, _, ?_, hrun, hended, _, _, rfl, ?_, ⟨_, rfl⟩, hW, hsame.mono (by decide) (by decide)⟩
  · exact retOut X0 hx Bd.returns rfl (Or.inr (Or.inr (Or.inr (Or.inr ⟨rfl, rfl, rfl⟩)))) (hb hby d24_13) hr
  · show Q_rnn Z ao h0 n0 _ s₁.heap _
    rw [e0]
    exact ⟨rfl, N0, rfl⟩
theorem pd_9 : parseMethodDescriptor "(Ljava/lang/Object;)Ljava/lang/Object;" = some ⟨[(.object "java/lang/Object")], some (.object "java/lang/Object")⟩ := by decide +kernel
theorem pn_10 : plainName "java/util/ImmutableCollections$List12" = true := by first | (simp [plainName, overriddenIn]; done) | decide +kernel
theorem d25_0 : decode jdk_44_method_1_code 0 = .ok (.aload_n 0, 1) := by decide +kernel
theorem d25_1 : decode jdk_44_method_1_code 1 = .ok (.invokespecial 1, 3) := by decide +kernel
theorem d25_4 : decode jdk_44_method_1_code 4 = .ok (.aload_n 0, 1) := by decide +kernel
theorem d25_5 : decode jdk_44_method_1_code 5 = .ok (.aload_n 1, 1) := by decide +kernel
theorem d25_6 : decode jdk_44_method_1_code 6 = .ok (.invokestatic 7, 3) := by decide +kernel
theorem d25_9 : decode jdk_44_method_1_code 9 = .ok (.putfield 13, 3) := by decide +kernel
theorem d25_12 : decode jdk_44_method_1_code 12 = .ok (.aload_n 0, 1) := by decide +kernel
theorem d25_13 : decode jdk_44_method_1_code 13 = .ok (.getstatic 19, 3) := by decide +kernel
theorem d25_16 : decode jdk_44_method_1_code 16 = .ok (.putfield 24, 3) := by decide +kernel
theorem d25_19 : decode jdk_44_method_1_code 19 = .ok (.return_, 1) := by decide +kernel
theorem ef_l12in (m : MethodId) (so : Addr) (eo : Addr) : entryFrame m #[(.ref so), (.ref eo)] 2 = mkF m 0 #[.val (.ref so), .val (.ref eo)] [] := by first | (simp [entryFrame, mkF, argsToLocals, Value.category]; done) | rfl
def Q_l12in (Z : State) (so : Addr) (eo : Addr) (em : Addr) (h0 : Heap) (n0 : Nat) (v : Option Value) (h : Heap) (L : List Loc) : Prop := v = none ∧ Fr n0 L ∧ Keep h0 h [so] ∧ Exa Z h so "java/util/ImmutableCollections$List12" ∧ Fld Z h so "java/util/ImmutableCollections$List12" "e0" "Ljava/lang/Object;" (.ref eo) ∧ Fld Z h so "java/util/ImmutableCollections$List12" "e1" "Ljava/lang/Object;" (.ref em)
set_option maxRecDepth 65536 in
set_option maxHeartbeats 40000000 in
theorem rm_l12in (l : Launch) (Z : State) (a0 : Array Value) (hw : ∀ d ∈ tables_1, d.before a0 Z = true) (ws : List Jvm.Cond) (so : Addr) (eo : Addr) (em : Addr) (h0 : Heap) (n0 : Nat) (Z0 : n0 ≤ h0.size) (Pf0 : Exa Z h0 so "java/util/ImmutableCollections$List12") (Pf1 : Fld Z h0 so "java/util/ImmutableCollections$List12" "e0" "Ljava/lang/Object;" .null) (Pf2 : Fld Z h0 so "java/util/ImmutableCollections$List12" "e1" "Ljava/lang/Object;" .null) (Pf3 : Sta Z h0 "java/util/ImmutableCollections" "EMPTY" "Ljava/lang/Object;" (.ref em)) (Pf4 : n0 ≤ so) :
    MetFree l (⟨"java/util/ImmutableCollections$List12", "<init>", "(Ljava/lang/Object;)V"⟩ : MethodName) (head1 (Jvm.Cond.code (⟨"java/util/ImmutableCollections$List12", "<init>", "(Ljava/lang/Object;)V"⟩ : MethodName) jdk_44_method_1_code 2 none :: ws) ({ frames := 4, cells := 0, slots := 0, locals := 48 } : Room)) (fun a U => a = #[(.ref so), (.ref eo)] ∧ Z.Warmed39 U.vm ∧ U.heap = h0) (fun _ _ _ _ _ => True) (fun _ U o U' => ∃ v L, o = .returned v ∧ Q_l12in Z so eo em h0 n0 v U'.heap L ∧ FrameEnd U o U' L ({ frames := 4, cells := 0, slots := 0, locals := 48 } : Room).cells ({ frames := 4, cells := 0, slots := 0, locals := 48 } : Room).slots) := by
  refine MetFree.of_bodySF (plainFor_of_name pn_10) hisR ?_
  intro p e s m args below meth c s₁ Bd hml0 hP hK
  obtain ⟨rfl, hZ, hh⟩ := hP
  have hx := Bd.exec
  have hby := Bd.bytes
  have hml : c.maxLocals = 2 := hml0
  have hown : s.vm.findClass "java/util/ImmutableCollections$List12" = some m.cls := findClass_of_methodNamed Bd.named
  have hnm := (name_of_methodNamed Bd.named Bd.method).1
  have X0 : Stand p l e ({ frames := 4, cells := 0, slots := 0, locals := 48 } : Room) s m #[(.ref so), (.ref eo)] below meth c s₁ [] 0 0 := Stand.of_body Bd
  have e0 : s₁.heap = h0 := by rw [← hh, Bd.state]; rfl
  have N0 := Fr.nil n0
  have K0 : Keep h0 h0 [so] := Keep.refl h0 [so]
  show Go p.tables e below _ (s₁.setTop (entryFrame m #[(.ref so), (.ref eo)] 2))
  refine Go.start ?_
  intro G hG
  refine Go.st (fun t k => castTop (ef_l12in m so eo) k) ?_
  show Go _ _ _ _ (s₁.setTop (mkF m 0 #[.val (.ref so), .val (.ref eo)] []))
  refine Go.st (fun _ k => XS.aloadN X0.here hx rfl (hb hby d25_0) rfl rfl k) ?_
  show Go _ _ _ _ (s₁.setTop (mkF m 1 #[.val (.ref so), .val (.ref eo)] [(.ref so)]))
  obtain ⟨_, _, ⟨T1, L1, k1, n1⟩, -, X1, ⟨Lc1, hQ1, l1, y1, z1⟩, st1⟩ := X0.specialBack hx (y := (⟨"java/util/ImmutableCollections$AbstractImmutableList", "<init>", "()V"⟩ : MethodName)) rfl hown (mvT hZ (ow hw 198 rfl)) (mvT hZ (ow hw 199 rfl)) (mvT hZ (ow hw 203 rfl)) (by decide) (backOf (W := 0) (rm_ailin l Z a0 hw [] so h0 n0 Z0 ) hZ (ow hw 203 rfl) (ow hw 202 rfl) (by decide) (by decide)) (g := (mkF m 1 #[.val (.ref so), .val (.ref eo)] [(.ref so)])) rfl (by rw [hml]; rfl) (Steps.refl _) (a := so) (argsL := []) (rest := []) (lenOf pd_0 rfl) rfl (by show 2 * 0 + _ ≤ _; exact Nat.le_of_eq rfl) (hb hby d25_1) (fun _ _ => ⟨rfl, e0, (by decide : 0 + 0 ≤ _), (by decide : 0 + 0 ≤ _)⟩)
  dsimp only [Pt.U, Pt.locs, Pt.cells, Pt.slots] at X1 l1 y1 z1 st1 hQ1
  rw [l1, y1, z1] at X1
  obtain ⟨rfl, N1q, e1⟩ := hQ1
  have N1 := Fr.app N0 N1q
  refine Go.st (fun _ k => st1.trans k) ?_
  show Go _ _ _ _ (T1.setTop (mkF m 4 #[.val (.ref so), .val (.ref eo)] []))
  refine Go.st (fun _ k => XS.aloadN X1.here hx rfl (hb hby d25_4) rfl rfl k) ?_
  show Go _ _ _ _ (T1.setTop (mkF m 5 #[.val (.ref so), .val (.ref eo)] [(.ref so)]))
  refine Go.st (fun _ k => XS.aloadN X1.here hx rfl (hb hby d25_5) rfl rfl k) ?_
  show Go _ _ _ _ (T1.setTop (mkF m 6 #[.val (.ref so), .val (.ref eo)] [(.ref eo), (.ref so)]))
  obtain ⟨_, _, ⟨T2, L2, k2, n2⟩, -, X2, ⟨Lc2, hQ2, l2, y2, z2⟩, st2⟩ := Jvm.LawKit.callS X1 hx (y := (⟨"java/util/Objects", "requireNonNull", "(Ljava/lang/Object;)Ljava/lang/Object;"⟩ : MethodName)) hown (mvT hZ (ow hw 212 rfl)) (mvT hZ (ow hw 213 rfl)) (mvT hZ (ow hw 214 rfl)) (mvT hZ (ow hw 215 rfl)) (by decide) (backOf (W := 1) (rm_rnn l Z a0 hw [] eo h0 n0 Z0 ) hZ (ow hw 215 rfl) (ow hw 214 rfl) (by decide) (by decide)) (g := (mkF m 6 #[.val (.ref so), .val (.ref eo)] [(.ref eo), (.ref so)])) rfl (by rw [hml]; rfl) (argsL := [(.ref eo)]) (rest := [(.ref so)]) (lenOf pd_9 rfl) rfl (by show 2 * 0 + _ ≤ _; exact Nat.le_of_eq rfl) (hb hby d25_6) (fun _ _ => ⟨rfl, e1, (by decide : 0 + 0 ≤ _), (by decide : 0 + 0 ≤ _)⟩)
  dsimp only [Pt.U, Pt.locs, Pt.cells, Pt.slots] at X2 l2 y2 z2 st2 hQ2
  rw [l2, y2, z2] at X2
  obtain ⟨rfl, N2q, e2⟩ := hQ2
  have N2 := Fr.app N1 N2q
  refine Go.st st2 ?_
  show Go _ _ _ _ (T2.setTop (mkF m 9 #[.val (.ref so), .val (.ref eo)] [(.ref eo), (.ref so)]))
  obtain ⟨T3, h3, X3, e3, W3, st3⟩ := putF X2 hx hZ hown (host := "") (Or.inl (ow hw 216 rfl)) Via.refl e2 Pf1 Pf0 (Or.inr ⟨(ow hw 217 rfl), rfl, hnm⟩) (ow hw 192 rfl) (ty := (.object "java/lang/Object")) (by decide) rfl rfl (g := (mkF m 9 #[.val (.ref so), .val (.ref eo)] [(.ref eo), (.ref so)])) rfl rfl (hb hby d25_9)
  refine Go.st st3 ?_
  have F4 := Pf0.wr W3
  have F5 := Pf1.same W3
  have F6 := Pf2.other W3 (Or.inr (slot_ne (Or.inr (ow hw 220 rfl)) (Or.inr (ow hw 217 rfl)) (by decide) (t := (.object "java/lang/Object")) (t' := (.object "java/lang/Object")) (by decide) (by decide)))
  have F7 := Pf3.wr W3
  have K8 := K0.wr W3 (Or.inl (List.mem_of_getElem? (i := 0) rfl))
  have Z9 := oz_ Z0 W3
  have N10 := Fr.snoc X3 N2 Pf4
  show Go _ _ _ _ (T3.setTop (mkF m 12 #[.val (.ref so), .val (.ref eo)] []))
  refine Go.st (fun _ k => XS.aloadN X3.here hx rfl (hb hby d25_12) rfl rfl k) ?_
  show Go _ _ _ _ (T3.setTop (mkF m 13 #[.val (.ref so), .val (.ref eo)] [(.ref so)]))
  obtain ⟨T11, X11, e11, st11⟩ := getS2 X3 hx hZ hown (Or.inr (ow hw 218 rfl)) Via.refl e3 F7 (g := (mkF m 13 #[.val (.ref so), .val (.ref eo)] [(.ref so)])) rfl (hb hby d25_13)
  refine Go.st st11 ?_
  show Go _ _ _ _ (T11.setTop (mkF m 16 #[.val (.ref so), .val (.ref eo)] [(.ref em), (.ref so)]))
  obtain ⟨T12, h12, X12, e12, W12, st12⟩ := putF X11 hx hZ hown (host := "") (Or.inl (ow hw 219 rfl)) Via.refl e11 F6 F4 (Or.inr ⟨(ow hw 220 rfl), rfl, hnm⟩) (ow hw 192 rfl) (ty := (.object "java/lang/Object")) (by decide) rfl rfl (g := (mkF m 16 #[.val (.ref so), .val (.ref eo)] [(.ref em), (.ref so)])) rfl rfl (hb hby d25_16)
  refine Go.st st12 ?_
  have F13 := F4.wr W12
  have F14 := F5.other W12 (Or.inr (slot_ne (Or.inr (ow hw 217 rfl)) (Or.inr (ow hw 220 rfl)) (by decide) (t := (.object "java/lang/Object")) (t' := (.object "java/lang/Object")) (by decide) (by decide)))
  have F15 := F6.same W12
  have F16 := F7.wr W12
  have K17 := K8.wr W12 (Or.inl (List.mem_of_getElem? (i := 0) rfl))
  have Z18 := oz_ Z9 W12
  have N19 := Fr.snoc X12 N10 Pf4
  show Go _ _ _ _ (T12.setTop (mkF m 19 #[.val (.ref so), .val (.ref eo)] []))
  subst hG
  obtain ⟨fs, hr, hrun, hended, hW, hsame⟩ := X12.leave (v := none) (fun _ => rfl)
  refine ⟨_, _, ?_, hrun, hended, _, _, rfl, ?_, ⟨_, rfl⟩, hW, hsame.mono (by decide) (by decide)⟩
  · exact X12.returnOut hx Bd.returns (hb hby d25_19) hr
  · show Q_l12in Z so eo em h0 n0 _ T12.heap _
    rw [e12]
    exact ⟨rfl, N19, K17, F13, F14, F15⟩
theorem pd_10 : parseMethodDescriptor "(Ljava/lang/Object;)V" = some ⟨[(.object "java/lang/Object")], none⟩ := by decide +kernel
theorem pn_11 : plainName "java/util/List" = true := by first | (simp [plainName, overriddenIn]; done) | decide +kernel
theorem d26_0 : decode jdk_40_method_47_code 0 = .ok (.aload_n 0, 1) := by decide +kernel
theorem d26_1 : decode jdk_40_method_47_code 1 = .ok (.arraylength, 1) := by decide +kernel
theorem d26_2 : decode jdk_40_method_47_code 2 = .ok (.tableswitch 57 0 2 #[26, 32, 43], 26) := by decide +kernel
theorem d26_34 : decode jdk_40_method_47_code 34 = .ok (.new 96, 3) := by decide +kernel
theorem d26_37 : decode jdk_40_method_47_code 37 = .ok (.dup, 1) := by decide +kernel
theorem d26_38 : decode jdk_40_method_47_code 38 = .ok (.aload_n 0, 1) := by decide +kernel
theorem d26_39 : decode jdk_40_method_47_code 39 = .ok (.iconst 0, 1) := by decide +kernel
theorem d26_40 : decode jdk_40_method_47_code 40 = .ok (.aaload, 1) := by decide +kernel
theorem d26_41 : decode jdk_40_method_47_code 41 = .ok (.invokespecial 98, 3) := by decide +kernel
theorem d26_44 : decode jdk_40_method_47_code 44 = .ok (.areturn, 1) := by decide +kernel
theorem ef_lofa (m : MethodId) (ao : Addr) : entryFrame m #[(.ref ao)] 2 = mkF m 0 #[.val (.ref ao), .unset] [] := by first | (simp [entryFrame, mkF, argsToLocals, Value.category]; done) | rfl
def Q_lofa (Z : State) (ao : Addr) (kj : ClassId) (eo : Addr) (em : Addr) (h0 : Heap) (n0 : Nat) (v : Option Value) (h : Heap) (L : List Loc) : Prop := ∃ fr : Addr, v = some (.ref fr) ∧ Fr n0 L ∧ Keep h0 h [] ∧ n0 ≤ fr ∧ h0.size ≤ fr ∧ Exa Z h fr "java/util/ImmutableCollections$List12" ∧ Fld Z h fr "java/util/ImmutableCollections$List12" "e0" "Ljava/lang/Object;" (.ref eo) ∧ Fld Z h fr "java/util/ImmutableCollections$List12" "e1" "Ljava/lang/Object;" (.ref em)
set_option maxRecDepth 65536 in
set_option maxHeartbeats 40000000 in
theorem rm_lofa (l : Launch) (Z : State) (a0 : Array Value) (hw : ∀ d ∈ tables_1, d.before a0 Z = true) (ws : List Jvm.Cond) (ao : Addr) (kj : ClassId) (eo : Addr) (em : Addr) (h0 : Heap) (n0 : Nat) (Z0 : n0 ≤ h0.size) (Pf0 : Arv Z h0 ao kj (.object "java/lang/Object") (1 : Int32) [(.ref eo)] .null) (Pf1 : Exa Z h0 ao "[Ljava/lang/Object;") (Pf2 : Sta Z h0 "java/util/ImmutableCollections" "EMPTY" "Ljava/lang/Object;" (.ref em)) :
    MetFree l (⟨"java/util/List", "of", "([Ljava/lang/Object;)Ljava/util/List;"⟩ : MethodName) (head1 (Jvm.Cond.code (⟨"java/util/List", "of", "([Ljava/lang/Object;)Ljava/util/List;"⟩ : MethodName) jdk_40_method_47_code 2 (some (.object "java/util/List")) :: ws) ({ frames := 5, cells := 1, slots := 2, locals := 62 } : Room)) (fun a U => a = #[(.ref ao)] ∧ Z.Warmed39 U.vm ∧ U.heap = h0) (fun _ _ _ _ _ => True) (fun _ U o U' => ∃ v L, o = .returned v ∧ Q_lofa Z ao kj eo em h0 n0 v U'.heap L ∧ FrameEnd U o U' L ({ frames := 5, cells := 1, slots := 2, locals := 62 } : Room).cells ({ frames := 5, cells := 1, slots := 2, locals := 62 } : Room).slots) := by
  refine MetFree.of_bodySF (plainFor_of_name pn_11) hisR ?_
  intro p e s m args below meth c s₁ Bd hml0 hP hK
  obtain ⟨rfl, hZ, hh⟩ := hP
  have hx := Bd.exec
  have hby := Bd.bytes
  have hml : c.maxLocals = 2 := hml0
  have hown : s.vm.findClass "java/util/List" = some m.cls := findClass_of_methodNamed Bd.named
  have hnm := (name_of_methodNamed Bd.named Bd.method).1
  have X0 : Stand p l e ({ frames := 5, cells := 1, slots := 2, locals := 62 } : Room) s m #[(.ref ao)] below meth c s₁ [] 0 0 := Stand.of_body Bd
  have e0 : s₁.heap = h0 := by rw [← hh, Bd.state]; rfl
  have N0 := Fr.nil n0
  have K0 : Keep h0 h0 [] := Keep.refl h0 []
  show Go p.tables e below _ (s₁.setTop (entryFrame m #[(.ref ao)] 2))
  refine Go.start ?_
  intro G hG
  refine Go.st (fun t k => castTop (ef_lofa m ao) k) ?_
  show Go _ _ _ _ (s₁.setTop (mkF m 0 #[.val (.ref ao), .unset] []))
  refine Go.st (fun _ k => XS.aloadN X0.here hx rfl (hb hby d26_0) rfl rfl k) ?_
  show Go _ _ _ _ (s₁.setTop (mkF m 1 #[.val (.ref ao), .unset] [(.ref ao)]))
  obtain ⟨cl1, Ar1, -, S1, M1, -, -⟩ := id Pf0
  refine Go.st (fun _ k => X0.arraylength hx (by rw [e0]; exact Ar1.1) (State.isArrayOf_alike hZ.alike Ar1.2.1) (g := (mkF m 1 #[.val (.ref ao), .unset] [(.ref ao)])) rfl rfl (hb hby d26_1) _ k) ?_
  rw [len_of S1 M1]
  show Go _ _ _ _ (s₁.setTop (mkF m 2 #[.val (.ref ao), .unset] [(.int (1 : Int32))]))
  refine Go.st (fun _ k => Jvm.Free.XS.tswIn X0.here hx rfl (pc0 := 2) (pc' := 34) (o := 32) rfl (hb hby d26_2) rfl (by decide) (by decide) (by decide) (by decide) k) ?_
  show Go _ _ _ _ (s₁.setTop (mkF m 34 #[.val (.ref ao), .unset] []))
  obtain ⟨T2, h2, X2, e2, E2, A2, D2, -, st2⟩ := newO X0 hx hZ hown (ow hw 191 rfl) (ow hw 192 rfl) (ow hw 193 rfl) e0 (g := (mkF m 34 #[.val (.ref ao), .unset] [])) rfl (hb hby d26_34) (by decide) (by decide)
  obtain ⟨b2, g2⟩ : ∃ z, z = h0.size := ⟨_, rfl⟩
  rw [← g2] at A2 D2 st2
  refine Go.st st2 ?_
  have ne3 := on_ Pf0.lt g2
  have ge4 : n0 ≤ b2 := Nat.le_trans Z0 (Nat.le_of_eq g2.symm)
  have sz5 : h0.size ≤ b2 := Nat.le_trans K0.1 (Nat.le_of_eq g2.symm)
  have Z6 : n0 ≤ h2.size := Nat.le_trans Z0 E2.1
  have K7 := K0.ext E2
  have F8 := Pf0.ext E2
  have F9 := Pf1.ext E2
  have F10 := Pf2.ext E2
  have F11 : Fld Z h2 b2 "java/util/ImmutableCollections$List12" "e0" "Ljava/lang/Object;" .null := D2 (Or.inr (ow hw 217 rfl)) (ty := (.object "java/lang/Object")) (by decide)
  have F12 : Fld Z h2 b2 "java/util/ImmutableCollections$List12" "e1" "Ljava/lang/Object;" .null := D2 (Or.inr (ow hw 220 rfl)) (ty := (.object "java/lang/Object")) (by decide)
  show Go _ _ _ _ (T2.setTop (mkF m 37 #[.val (.ref ao), .unset] [(.ref b2)]))
  refine Go.st (fun _ k => XS.dup X2.here hx rfl (hb hby d26_37) rfl rfl k) ?_
  show Go _ _ _ _ (T2.setTop (mkF m 38 #[.val (.ref ao), .unset] [(.ref b2), (.ref b2)]))
  refine Go.st (fun _ k => XS.aloadN X2.here hx rfl (hb hby d26_38) rfl rfl k) ?_
  show Go _ _ _ _ (T2.setTop (mkF m 39 #[.val (.ref ao), .unset] [(.ref ao), (.ref b2), (.ref b2)]))
  refine Go.st (fun _ k => XS.iconst X2.here hx rfl (hb hby d26_39) k) ?_
  show Go _ _ _ _ (T2.setTop (mkF m 40 #[.val (.ref ao), .unset] [(.int (0 : Int32)), (.ref ao), (.ref b2), (.ref b2)]))
  obtain ⟨cl13, Ar13, q13, S13, M13, H13, G13⟩ := id F8
  have hin13 : ¬ ((0 : Int32) < 0 ∨ cl13.slots.size ≤ ((0 : Int32)).toNatClampNeg) := inb_of S13 ⟨by decide, by decide⟩
  have hat13 : cl13.slots[((0 : Int32)).toNatClampNeg]? = some (.ref eo) := Has.at H13 hin13 (rfl)
  refine Go.st (fun _ k => X2.aaload hx (j := (0 : Int32)) (v := (.ref eo)) (by rw [e2]; exact Ar13.1) (State.isArrayOf_alike hZ.alike Ar13.2.1) rfl Ar13.2.2 hin13 hat13 (g := (mkF m 40 #[.val (.ref ao), .unset] [(.int (0 : Int32)), (.ref ao), (.ref b2), (.ref b2)])) rfl rfl (hb hby d26_40) _ k) ?_
  show Go _ _ _ _ (T2.setTop (mkF m 41 #[.val (.ref ao), .unset] [(.ref eo), (.ref b2), (.ref b2)]))
  obtain ⟨_, _, ⟨T14, L14, k14, n14⟩, -, X14, ⟨Lc14, hQ14, l14, y14, z14⟩, st14⟩ := X2.specialBack hx (y := (⟨"java/util/ImmutableCollections$List12", "<init>", "(Ljava/lang/Object;)V"⟩ : MethodName)) rfl hown (mvT hZ (ow hw 194 rfl)) (mvT hZ (ow hw 195 rfl)) (mvT hZ (ow hw 197 rfl)) (by decide) (backOf (W := 1) (rm_l12in l Z a0 hw [] b2 eo em h2 n0 Z6 A2 F11 F12 F10 ge4) hZ (ow hw 197 rfl) (ow hw 193 rfl) (by decide) (by decide)) (g := (mkF m 41 #[.val (.ref ao), .unset] [(.ref eo), (.ref b2), (.ref b2)])) rfl (by rw [hml]; rfl) (Steps.refl _) (a := b2) (argsL := [(.ref eo)]) (rest := [(.ref b2)]) (lenOf pd_10 rfl) rfl (by show 2 * 0 + _ ≤ _; exact Nat.le_of_eq rfl) (hb hby d26_41) (fun _ _ => ⟨rfl, e2, (by decide : 1 + 0 ≤ _), (by decide : 2 + 0 ≤ _)⟩)
  dsimp only [Pt.U, Pt.locs, Pt.cells, Pt.slots] at X14 l14 y14 z14 st14 hQ14
  rw [l14, y14, z14] at X14
  obtain ⟨rfl, N14q, K14q, Fq14_0, Fq14_1, Fq14_2⟩ := hQ14
  have N14 := Fr.app N0 N14q
  refine Go.st (fun _ k => st14.trans k) ?_
  have Z15 : n0 ≤ T14.heap.size := Nat.le_trans Z6 K14q.1
  have K16 := K7.trans K14q (fun z hz => (List.mem_cons.mp hz).elim (fun q => by rw [q]; exact Or.inr sz5) nn_)
  have F17 := F8.keep K14q (fun z => (List.mem_cons.mp z).elim ne3 nn_)
  have F18 := F9.keep K14q
  have F19 := own_stakeepW F10 K14q (allS (P := fun x => ∀ c : Cell, h2[x]? = some c → c.vm.isStatics = false) (old_plain F12) all0)
  have F20 := A2.keep K14q
  show Go _ _ _ _ (T14.setTop (mkF m 44 #[.val (.ref ao), .unset] [(.ref b2)]))
  subst hG
  obtain ⟨fs, hr, hrun, hended, hW, hsame⟩ := X14.leave (v := some (.ref b2)) (fun h => by rw [Bd.returns] at h; cases h)
  refine ⟨_, _, ?_, hrun, hended, _, _, rfl, ?_, ⟨_, rfl⟩, hW, hsame.mono (by decide) (by decide)⟩
  · exact retOut X14 hx Bd.returns rfl (Or.inr (Or.inr (Or.inr (Or.inr ⟨rfl, rfl, rfl⟩)))) (hb hby d26_44) hr
  · show Q_lofa Z ao kj eo em h0 n0 _ T14.heap _
    exact ⟨b2, rfl, N14, K16, ge4, sz5, Fq14_0, Fq14_1, Fq14_2⟩
theorem d27_0 : decode jdk_40_method_36_code 0 = .ok (.getstatic 90, 3) := by decide +kernel
theorem d27_3 : decode jdk_40_method_36_code 3 = .ok (.areturn, 1) := by decide +kernel
theorem ef_lof0 (m : MethodId)  : entryFrame m #[] 0 = mkF m 0 #[] [] := by first | (simp [entryFrame, mkF, argsToLocals, Value.category]; done) | rfl
def Q_lof0 (Z : State) (el : Addr) (h0 : Heap) (n0 : Nat) (v : Option Value) (h : Heap) (L : List Loc) : Prop := v = some (.ref el) ∧ Fr n0 L ∧ h = h0
set_option maxRecDepth 65536 in
set_option maxHeartbeats 40000000 in
theorem rm_lof0 (l : Launch) (Z : State) (a0 : Array Value) (hw : ∀ d ∈ tables_1, d.before a0 Z = true) (ws : List Jvm.Cond) (el : Addr) (h0 : Heap) (n0 : Nat) (Z0 : n0 ≤ h0.size) (Pf0 : Sta Z h0 "java/util/ImmutableCollections" "EMPTY_LIST" "Ljava/util/ImmutableCollections$ListN;" (.ref el)) :
    MetFree l (⟨"java/util/List", "of", "()Ljava/util/List;"⟩ : MethodName) (head1 (Jvm.Cond.code (⟨"java/util/List", "of", "()Ljava/util/List;"⟩ : MethodName) jdk_40_method_36_code 0 (some (.object "java/util/List")) :: ws) ({ frames := 0, cells := 0, slots := 0, locals := 0 } : Room)) (fun a U => a = #[] ∧ Z.Warmed39 U.vm ∧ U.heap = h0) (fun _ _ _ _ _ => True) (fun _ U o U' => ∃ v L, o = .returned v ∧ Q_lof0 Z el h0 n0 v U'.heap L ∧ FrameEnd U o U' L ({ frames := 0, cells := 0, slots := 0, locals := 0 } : Room).cells ({ frames := 0, cells := 0, slots := 0, locals := 0 } : Room).slots) := by
  refine MetFree.of_bodySF (plainFor_of_name pn_11) hisR ?_
  intro p e s m args below meth c s₁ Bd hml0 hP hK
  obtain ⟨rfl, hZ, hh⟩ := hP
  have hx := Bd.exec
  have hby := Bd.bytes
  have hml : c.maxLocals = 0 := hml0
  have hown : s.vm.findClass "java/util/List" = some m.cls := findClass_of_methodNamed Bd.named
  have hnm := (name_of_methodNamed Bd.named Bd.method).1
  have X0 : Stand p l e ({ frames := 0, cells := 0, slots := 0, locals := 0 } : Room) s m #[] below meth c s₁ [] 0 0 := Stand.of_body Bd
  have e0 : s₁.heap = h0 := by rw [← hh, Bd.state]; rfl
  have N0 := Fr.nil n0
  have K0 : Keep h0 h0 [] := Keep.refl h0 []
  show Go p.tables e below _ (s₁.setTop (entryFrame m #[] 0))
  refine Go.start ?_
  intro G hG
  refine Go.st (fun t k => castTop (ef_lof0 m ) k) ?_
  show Go _ _ _ _ (s₁.setTop (mkF m 0 #[] []))
  obtain ⟨T1, X1, e1, st1⟩ := getS2 X0 hx hZ hown (host := "") (Or.inl (ow hw 366 rfl)) Via.refl e0 Pf0 (g := (mkF m 0 #[] [])) rfl (hb hby d27_0)
  refine Go.st st1 ?_
  show Go _ _ _ _ (T1.setTop (mkF m 3 #[] [(.ref el)]))
  subst hG
  obtain ⟨fs, hr, hrun, hended, hW, hsame⟩ := X1.leave (v := some (.ref el)) (fun h => by rw [Bd.returns] at h; cases h)
  refine ⟨_, _, ?_, hrun, hended, _, _, rfl, ?_, ⟨_, rfl⟩, hW, hsame.mono (by decide) (by decide)⟩
  · exact retOut X1 hx Bd.returns rfl (Or.inr (Or.inr (Or.inr (Or.inr ⟨rfl, rfl, rfl⟩)))) (hb hby d27_3) hr
  · show Q_lof0 Z el h0 n0 _ T1.heap _
    rw [e1]
    exact ⟨rfl, N0, rfl⟩
theorem pd_11 : parseMethodDescriptor "()Z" = some ⟨[], some .boolean⟩ := by decide +kernel
theorem pd_12 : parseMethodDescriptor "([Ljava/lang/Object;)Ljava/util/List;" = some ⟨[(.array (.object "java/lang/Object"))], some (.object "java/util/List")⟩ := by decide +kernel
theorem pn_12 : plainName "java/util/ImmutableCollections" = true := by first | (simp [plainName, overriddenIn]; done) | decide +kernel
theorem d28_0 : decode jdk_56_method_3_code 0 = .ok (.aload_n 0, 1) := by decide +kernel
theorem d28_1 : decode jdk_56_method_3_code 1 = .ok (.instanceof 10, 3) := by decide +kernel
theorem d28_4 : decode jdk_56_method_3_code 4 = .ok (.ifCond .ne 22, 3) := by decide +kernel
theorem d28_7 : decode jdk_56_method_3_code 7 = .ok (.aload_n 0, 1) := by decide +kernel
theorem d28_8 : decode jdk_56_method_3_code 8 = .ok (.instanceof 12, 3) := by decide +kernel
theorem d28_11 : decode jdk_56_method_3_code 11 = .ok (.ifCond .eq 20, 3) := by decide +kernel
theorem d28_31 : decode jdk_56_method_3_code 31 = .ok (.aload_n 0, 1) := by decide +kernel
theorem d28_32 : decode jdk_56_method_3_code 32 = .ok (.invokeinterface 20 1, 5) := by decide +kernel
theorem d28_37 : decode jdk_56_method_3_code 37 = .ok (.ifCond .eq 7, 3) := by decide +kernel
theorem d28_44 : decode jdk_56_method_3_code 44 = .ok (.aload_n 0, 1) := by decide +kernel
theorem d28_45 : decode jdk_56_method_3_code 45 = .ok (.invokeinterface 30 1, 5) := by decide +kernel
theorem d28_50 : decode jdk_56_method_3_code 50 = .ok (.invokestatic 34, 3) := by decide +kernel
theorem d28_53 : decode jdk_56_method_3_code 53 = .ok (.areturn, 1) := by decide +kernel
theorem ef_lcp1 (m : MethodId) (so : Addr) : entryFrame m #[(.ref so)] 2 = mkF m 0 #[.val (.ref so), .unset] [] := by first | (simp [entryFrame, mkF, argsToLocals, Value.category]; done) | rfl
def Q_lcp1 (Z : State) (so : Addr) (ea : Addr) (eo : Addr) (kk : ClassId) (mc : Int32) (mr : Addr) (em : Addr) (h0 : Heap) (n0 : Nat) (v : Option Value) (h : Heap) (L : List Loc) : Prop := ∃ fr : Addr, v = some (.ref fr) ∧ Fr n0 L ∧ Keep h0 h [] ∧ n0 ≤ fr ∧ h0.size ≤ fr ∧ Exa Z h fr "java/util/ImmutableCollections$List12" ∧ Fld Z h fr "java/util/ImmutableCollections$List12" "e0" "Ljava/lang/Object;" (.ref eo) ∧ Fld Z h fr "java/util/ImmutableCollections$List12" "e1" "Ljava/lang/Object;" (.ref em)
set_option maxRecDepth 65536 in
set_option maxHeartbeats 40000000 in
theorem rm_lcp1 (l : Launch) (Z : State) (a0 : Array Value) (hw : ∀ d ∈ tables_1, d.before a0 Z = true) (ws : List Jvm.Cond) (so : Addr) (ea : Addr) (eo : Addr) (kk : ClassId) (mc : Int32) (mr : Addr) (em : Addr) (h0 : Heap) (n0 : Nat) (Z0 : n0 ≤ h0.size) (Pf0 : Exa Z h0 so "java/util/ArrayList") (Pf1 : Fld Z h0 so "java/util/AbstractList" "modCount" "I" (.int mc)) (Pf2 : Fld Z h0 so "java/util/ArrayList" "elementData" "[Ljava/lang/Object;" (.ref ea)) (Pf3 : Fld Z h0 so "java/util/ArrayList" "size" "I" (.int (1 : Int32))) (Pf4 : Arv Z h0 ea kk (.object "java/lang/Object") (10 : Int32) [(.ref eo), .null, .null, .null, .null, .null, .null, .null, .null, .null] .null) (Pf5 : Exa Z h0 ea "[Ljava/lang/Object;") (Pf6 : Exa Z h0 eo "java/lang/Long") (hmir : Mir Z "[Ljava/lang/Object;" mr) (Pf8 : Sta Z h0 "java/util/ImmutableCollections" "EMPTY" "Ljava/lang/Object;" (.ref em)) :
    MetFree l (⟨"java/util/ImmutableCollections", "listCopy", "(Ljava/util/Collection;)Ljava/util/List;"⟩ : MethodName) (head1 (Jvm.Cond.code (⟨"java/util/ImmutableCollections", "listCopy", "(Ljava/util/Collection;)Ljava/util/List;"⟩ : MethodName) jdk_56_method_3_code 2 (some (.object "java/util/List")) :: ws) ({ frames := 6, cells := 2, slots := 3, locals := 75 } : Room)) (fun a U => a = #[(.ref so)] ∧ Z.Warmed39 U.vm ∧ U.heap = h0) (fun _ _ _ _ _ => True) (fun _ U o U' => ∃ v L, o = .returned v ∧ Q_lcp1 Z so ea eo kk mc mr em h0 n0 v U'.heap L ∧ FrameEnd U o U' L ({ frames := 6, cells := 2, slots := 3, locals := 75 } : Room).cells ({ frames := 6, cells := 2, slots := 3, locals := 75 } : Room).slots) := by
  refine MetFree.of_bodySF (plainFor_of_name pn_12) hisR ?_
  intro p e s m args below meth c s₁ Bd hml0 hP hK
  obtain ⟨rfl, hZ, hh⟩ := hP
  have hx := Bd.exec
  have hby := Bd.bytes
  have hml : c.maxLocals = 2 := hml0
  have hown : s.vm.findClass "java/util/ImmutableCollections" = some m.cls := findClass_of_methodNamed Bd.named
  have hnm := (name_of_methodNamed Bd.named Bd.method).1
  have X0 : Stand p l e ({ frames := 6, cells := 2, slots := 3, locals := 75 } : Room) s m #[(.ref so)] below meth c s₁ [] 0 0 := Stand.of_body Bd
  have e0 : s₁.heap = h0 := by rw [← hh, Bd.state]; rfl
  have N0 := Fr.nil n0
  have K0 : Keep h0 h0 [] := Keep.refl h0 []
  show Go p.tables e below _ (s₁.setTop (entryFrame m #[(.ref so)] 2))
  refine Go.start ?_
  intro G hG
  refine Go.st (fun t k => castTop (ef_lcp1 m so) k) ?_
  show Go _ _ _ _ (s₁.setTop (mkF m 0 #[.val (.ref so), .unset] []))
  refine Go.st (fun _ k => XS.aloadN X0.here hx rfl (hb hby d28_0) rfl rfl k) ?_
  show Go _ _ _ _ (s₁.setTop (mkF m 1 #[.val (.ref so), .unset] [(.ref so)]))
  obtain ⟨T1, X1, e1, st1⟩ := instNo X0 hx hZ hown (ow hw 143 rfl) e0 Pf0 (by obtain ⟨t_, kt_, t1, t2, t3⟩ := own_kinst (ow hw 192 rfl); exact own_nsno (ow hw 144 rfl) t1 t2 t3 (NS.step (ow hw 144 rfl) (NS.step (ow hw 145 rfl) (NS.step (ow hw 146 rfl) (own_nsroot (ow hw 147 rfl) t1 (by decide)) (by decide)) (by decide)) (by decide)) (by decide)) (g := (mkF m 1 #[.val (.ref so), .unset] [(.ref so)])) rfl rfl (hb hby d28_1)
  refine Go.st st1 ?_
  show Go _ _ _ _ (T1.setTop (mkF m 4 #[.val (.ref so), .unset] [(.int (0 : Int32))]))
  have hl2 : (0 : Int32) = (0 : Int32) := by decide
  refine Go.st (fun _ k => XS.ifNo X1.here hx rfl (hb hby d28_4) rfl (Jvm.Free.XT.i0_ne_f hl2) k) ?_
  show Go _ _ _ _ (T1.setTop (mkF m 7 #[.val (.ref so), .unset] []))
  refine Go.st (fun _ k => XS.aloadN X1.here hx rfl (hb hby d28_7) rfl rfl k) ?_
  show Go _ _ _ _ (T1.setTop (mkF m 8 #[.val (.ref so), .unset] [(.ref so)]))
  obtain ⟨T3, X3, e3, st3⟩ := instNo X1 hx hZ hown (ow hw 148 rfl) e1 Pf0 (by obtain ⟨t_, kt_, t1, t2, t3⟩ := own_ksel (K := "java/util/ImmutableCollections$ListN") rfl (ow hw 367 rfl); exact own_nsno (ow hw 144 rfl) t1 t2 t3 (NS.step (ow hw 144 rfl) (NS.step (ow hw 145 rfl) (NS.step (ow hw 146 rfl) (own_nsroot (ow hw 147 rfl) t1 (by decide)) (by decide)) (by decide)) (by decide)) (by decide)) (g := (mkF m 8 #[.val (.ref so), .unset] [(.ref so)])) rfl rfl (hb hby d28_8)
  refine Go.st st3 ?_
  show Go _ _ _ _ (T3.setTop (mkF m 11 #[.val (.ref so), .unset] [(.int (0 : Int32))]))
  have hl4 : (0 : Int32) = (0 : Int32) := by decide
  refine Go.st (fun _ k => XS.ifYes X3.here hx rfl (pc0 := 11) (pc' := 31) rfl (hb hby d28_11) rfl (Jvm.Free.XT.i0_eq_t hl4) (by decide) (by decide) k) ?_
  show Go _ _ _ _ (T3.setTop (mkF m 31 #[.val (.ref so), .unset] []))
  refine Go.st (fun _ k => XS.aloadN X3.here hx rfl (hb hby d28_31) rfl rfl k) ?_
  show Go _ _ _ _ (T3.setTop (mkF m 32 #[.val (.ref so), .unset] [(.ref so)]))
  obtain ⟨cq5, kq5, q5a, q5b, q5c⟩ := isOf hZ e3 Pf0
  obtain ⟨_, _, ⟨T5, L5, k5, n5⟩, -, X5, ⟨Lc5, hQ5, l5, y5, z5⟩, st5⟩ := X3.interfaceBack hx (xi := (⟨"java/util/Collection", "isEmpty", "()Z"⟩ : MethodName)) (y := (⟨"java/util/ArrayList", "isEmpty", "()Z"⟩ : MethodName)) hown (mvT hZ (ow hw 149 rfl)) (mvT hZ (ow hw 150 rfl)) (mvT hZ (ow hw 151 rfl)) (mvT hZ (ow hw 152 rfl)) (mvT hZ (ow hw 153 rfl)) (mvT hZ (ow hw 154 rfl)) (mvT hZ (ow hw 155 rfl)) (mvT hZ (ow hw 156 rfl)) (by decide) (backOf (W := 0) (rm_isemp l Z a0 hw [] so ea (1 : Int32) mc h0 n0 Z0 Pf0 Pf1 Pf2 Pf3) hZ (ow hw 157 rfl) (ow hw 5 rfl) (by decide) (by decide)) q5a q5b q5c (g := (mkF m 32 #[.val (.ref so), .unset] [(.ref so)])) rfl (by rw [hml]; rfl) (Steps.refl _) (argsL := []) (rest := []) (lenOf pd_11 rfl) rfl (by show 2 * 0 + _ ≤ _; exact Nat.le_of_eq rfl) (hb hby d28_32) (fun _ _ => ⟨rfl, e3, (by decide : 0 + 0 ≤ _), (by decide : 0 + 0 ≤ _)⟩)
  dsimp only [Pt.U, Pt.locs, Pt.cells, Pt.slots] at X5 l5 y5 z5 st5 hQ5
  rw [l5, y5, z5] at X5
  obtain ⟨rfl, N5q, e5⟩ := hQ5
  have N5 := Fr.app N0 N5q
  refine Go.st (fun _ k => st5.trans k) ?_
  show Go _ _ _ _ (T5.setTop (mkF m 37 #[.val (.ref so), .unset] [(.int (emF (1 : Int32)))]))
  have hc37 : (emF (1 : Int32)) = (0 : Int32) := by decide
  refine Go.st (fun _ k => XS.ifYes X5.here hx rfl (pc0 := 37) (pc' := 44) rfl (hb hby d28_37) rfl (Jvm.Free.XT.i0_eq_t hc37) (by decide) (by decide) k) ?_
  show Go _ _ _ _ (T5.setTop (mkF m 44 #[.val (.ref so), .unset] []))
  refine Go.st (fun _ k => XS.aloadN X5.here hx rfl (hb hby d28_44) rfl rfl k) ?_
  show Go _ _ _ _ (T5.setTop (mkF m 45 #[.val (.ref so), .unset] [(.ref so)]))
  obtain ⟨cq6, kq6, q6a, q6b, q6c⟩ := isOf hZ e5 Pf0
  obtain ⟨_, _, ⟨T6, L6, k6, n6⟩, -, X6, ⟨Lc6, hQ6, l6, y6, z6⟩, st6⟩ := X5.interfaceBack hx (xi := (⟨"java/util/Collection", "toArray", "()[Ljava/lang/Object;"⟩ : MethodName)) (y := (⟨"java/util/ArrayList", "toArray", "()[Ljava/lang/Object;"⟩ : MethodName)) hown (mvT hZ (ow hw 158 rfl)) (mvT hZ (ow hw 159 rfl)) (mvT hZ (ow hw 160 rfl)) (mvT hZ (ow hw 161 rfl)) (mvT hZ (ow hw 162 rfl)) (mvT hZ (ow hw 163 rfl)) (mvT hZ (ow hw 164 rfl)) (mvT hZ (ow hw 156 rfl)) (by decide) (backOf (W := 0) (rm_toarr l Z a0 hw [] so ea eo kk mc mr h0 n0 Z0 Pf0 Pf1 Pf2 Pf3 Pf4 Pf5 Pf6 (by show Mir Z "[Ljava/lang/Object;" mr; exact hmir)) hZ (ow hw 165 rfl) (ow hw 5 rfl) (by decide) (by decide)) q6a q6b q6c (g := (mkF m 45 #[.val (.ref so), .unset] [(.ref so)])) rfl (by rw [hml]; rfl) (Steps.refl _) (argsL := []) (rest := []) (lenOf pd_4 rfl) rfl (by show 2 * 0 + _ ≤ _; exact Nat.le_of_eq rfl) (hb hby d28_45) (fun _ _ => ⟨rfl, e5, (by decide : 0 + 1 ≤ _), (by decide : 0 + 1 ≤ _)⟩)
  dsimp only [Pt.U, Pt.locs, Pt.cells, Pt.slots] at X6 l6 y6 z6 st6 hQ6
  rw [l6, y6, z6] at X6
  obtain ⟨b6_fr, x6_kj, rfl, N6q, K6q, g6_fr, s6_fr, Fq6_0, Fq6_1⟩ := hQ6
  have N6 := Fr.app N5 N6q
  refine Go.st (fun _ k => st6.trans k) ?_
  have ne7 := om_ Pf0.lt s6_fr
  have ne8 := om_ Pf4.lt s6_fr
  have ne9 := om_ Pf6.lt s6_fr
  have sz10 : h0.size ≤ b6_fr := Nat.le_trans K0.1 s6_fr
  have Z11 : n0 ≤ T6.heap.size := Nat.le_trans Z0 K6q.1
  have K12 := K0.trans K6q (fun z hz => absurd hz nm_)
  have F13 := Pf0.keep K6q
  have F14 := Pf1.keep K6q nm_
  have F15 := Pf2.keep K6q nm_
  have F16 := Pf3.keep K6q nm_
  have F17 := Pf4.keep K6q nm_
  have F18 := Pf5.keep K6q
  have F19 := Pf6.keep K6q
  have F20 := own_stakeep Pf8 K6q
  show Go _ _ _ _ (T6.setTop (mkF m 50 #[.val (.ref so), .unset] [(.ref b6_fr)]))
  obtain ⟨_, _, ⟨T21, L21, k21, n21⟩, -, X21, ⟨Lc21, hQ21, l21, y21, z21⟩, st21⟩ := Jvm.LawKit.callS X6 hx (y := (⟨"java/util/List", "of", "([Ljava/lang/Object;)Ljava/util/List;"⟩ : MethodName)) hown (mvT hZ (ow hw 188 rfl)) (mvT hZ (ow hw 189 rfl)) (mvT hZ (ow hw 137 rfl)) (mvT hZ (ow hw 190 rfl)) (by decide) (backOf (W := 0) (rm_lofa l Z a0 hw [] b6_fr x6_kj eo em T6.heap n0 Z11 Fq6_0 Fq6_1 F20) hZ (ow hw 190 rfl) (ow hw 137 rfl) (by decide) (by decide)) (g := (mkF m 50 #[.val (.ref so), .unset] [(.ref b6_fr)])) rfl (by rw [hml]; rfl) (argsL := [(.ref b6_fr)]) (rest := []) (lenOf pd_12 rfl) rfl (by show 2 * 0 + _ ≤ _; exact Nat.le_of_eq rfl) (hb hby d28_50) (fun _ _ => ⟨rfl, (rfl : T6.heap = T6.heap), (by decide : 1 + 1 ≤ _), (by decide : 1 + 2 ≤ _)⟩)
  dsimp only [Pt.U, Pt.locs, Pt.cells, Pt.slots] at X21 l21 y21 z21 st21 hQ21
  rw [l21, y21, z21] at X21
  obtain ⟨b21_fr, rfl, N21q, K21q, g21_fr, s21_fr, Fq21_0, Fq21_1, Fq21_2⟩ := hQ21
  have N21 := Fr.app N6 N21q
  refine Go.st st21 ?_
  have ne22 := om_ F13.lt s21_fr
  have ne23 := om_ F17.lt s21_fr
  have ne24 := om_ F19.lt s21_fr
  have ne25 := om_ Fq6_0.lt s21_fr
  have sz26 : h0.size ≤ b21_fr := Nat.le_trans K12.1 s21_fr
  have Z27 : n0 ≤ T21.heap.size := Nat.le_trans Z11 K21q.1
  have K28 := K12.trans K21q (fun z hz => absurd hz nm_)
  have F29 := F13.keep K21q
  have F30 := F14.keep K21q nm_
  have F31 := F15.keep K21q nm_
  have F32 := F16.keep K21q nm_
  have F33 := F17.keep K21q nm_
  have F34 := F18.keep K21q
  have F35 := F19.keep K21q
  have F36 := own_stakeep F20 K21q
  have F37 := Fq6_0.keep K21q nm_
  have F38 := Fq6_1.keep K21q
  show Go _ _ _ _ (T21.setTop (mkF m 53 #[.val (.ref so), .unset] [(.ref b21_fr)]))
  subst hG
  obtain ⟨fs, hr, hrun, hended, hW, hsame⟩ := X21.leave (v := some (.ref b21_fr)) (fun h => by rw [Bd.returns] at h; cases h)
  refine ⟨_, _, ?_, hrun, hended, _, _, rfl, ?_, ⟨_, rfl⟩, hW, hsame.mono (by decide) (by decide)⟩
  · exact retOut X21 hx Bd.returns rfl (Or.inr (Or.inr (Or.inr (Or.inr ⟨rfl, rfl, rfl⟩)))) (hb hby d28_53) hr
  · show Q_lcp1 Z so ea eo kk mc mr em h0 n0 _ T21.heap _
    exact ⟨b21_fr, rfl, N21, K28, g21_fr, sz26, Fq21_0, Fq21_1, Fq21_2⟩
theorem pd_13 : parseMethodDescriptor "(Ljava/util/Collection;)Ljava/util/List;" = some ⟨[(.object "java/util/Collection")], some (.object "java/util/List")⟩ := by decide +kernel
theorem d29_0 : decode jdk_40_method_48_code 0 = .ok (.aload_n 0, 1) := by decide +kernel
theorem d29_1 : decode jdk_40_method_48_code 1 = .ok (.invokestatic 112, 3) := by decide +kernel
theorem d29_4 : decode jdk_40_method_48_code 4 = .ok (.areturn, 1) := by decide +kernel
theorem ef_lco1 (m : MethodId) (so : Addr) : entryFrame m #[(.ref so)] 1 = mkF m 0 #[.val (.ref so)] [] := by first | (simp [entryFrame, mkF, argsToLocals, Value.category]; done) | rfl
def Q_lco1 (Z : State) (so : Addr) (ea : Addr) (eo : Addr) (kk : ClassId) (mc : Int32) (mr : Addr) (em : Addr) (h0 : Heap) (n0 : Nat) (v : Option Value) (h : Heap) (L : List Loc) : Prop := ∃ fr : Addr, v = some (.ref fr) ∧ Fr n0 L ∧ Keep h0 h [] ∧ n0 ≤ fr ∧ h0.size ≤ fr ∧ Exa Z h fr "java/util/ImmutableCollections$List12" ∧ Fld Z h fr "java/util/ImmutableCollections$List12" "e0" "Ljava/lang/Object;" (.ref eo) ∧ Fld Z h fr "java/util/ImmutableCollections$List12" "e1" "Ljava/lang/Object;" (.ref em)
set_option maxRecDepth 65536 in
set_option maxHeartbeats 40000000 in
theorem rm_lco1 (l : Launch) (Z : State) (a0 : Array Value) (hw : ∀ d ∈ tables_1, d.before a0 Z = true) (ws : List Jvm.Cond) (so : Addr) (ea : Addr) (eo : Addr) (kk : ClassId) (mc : Int32) (mr : Addr) (em : Addr) (h0 : Heap) (n0 : Nat) (Z0 : n0 ≤ h0.size) (Pf0 : Exa Z h0 so "java/util/ArrayList") (Pf1 : Fld Z h0 so "java/util/AbstractList" "modCount" "I" (.int mc)) (Pf2 : Fld Z h0 so "java/util/ArrayList" "elementData" "[Ljava/lang/Object;" (.ref ea)) (Pf3 : Fld Z h0 so "java/util/ArrayList" "size" "I" (.int (1 : Int32))) (Pf4 : Arv Z h0 ea kk (.object "java/lang/Object") (10 : Int32) [(.ref eo), .null, .null, .null, .null, .null, .null, .null, .null, .null] .null) (Pf5 : Exa Z h0 ea "[Ljava/lang/Object;") (Pf6 : Exa Z h0 eo "java/lang/Long") (hmir : Mir Z "[Ljava/lang/Object;" mr) (Pf8 : Sta Z h0 "java/util/ImmutableCollections" "EMPTY" "Ljava/lang/Object;" (.ref em)) :
    MetFree l (⟨"java/util/List", "copyOf", "(Ljava/util/Collection;)Ljava/util/List;"⟩ : MethodName) (head1 (Jvm.Cond.code (⟨"java/util/List", "copyOf", "(Ljava/util/Collection;)Ljava/util/List;"⟩ : MethodName) jdk_40_method_48_code 1 (some (.object "java/util/List")) :: ws) ({ frames := 7, cells := 2, slots := 3, locals := 88 } : Room)) (fun a U => a = #[(.ref so)] ∧ Z.Warmed39 U.vm ∧ U.heap = h0) (fun _ _ _ _ _ => True) (fun _ U o U' => ∃ v L, o = .returned v ∧ Q_lco1 Z so ea eo kk mc mr em h0 n0 v U'.heap L ∧ FrameEnd U o U' L ({ frames := 7, cells := 2, slots := 3, locals := 88 } : Room).cells ({ frames := 7, cells := 2, slots := 3, locals := 88 } : Room).slots) := by
  refine MetFree.of_bodySF (plainFor_of_name pn_11) hisR ?_
  intro p e s m args below meth c s₁ Bd hml0 hP hK
  obtain ⟨rfl, hZ, hh⟩ := hP
  have hx := Bd.exec
  have hby := Bd.bytes
  have hml : c.maxLocals = 1 := hml0
  have hown : s.vm.findClass "java/util/List" = some m.cls := findClass_of_methodNamed Bd.named
  have hnm := (name_of_methodNamed Bd.named Bd.method).1
  have X0 : Stand p l e ({ frames := 7, cells := 2, slots := 3, locals := 88 } : Room) s m #[(.ref so)] below meth c s₁ [] 0 0 := Stand.of_body Bd
  have e0 : s₁.heap = h0 := by rw [← hh, Bd.state]; rfl
  have N0 := Fr.nil n0
  have K0 : Keep h0 h0 [] := Keep.refl h0 []
  show Go p.tables e below _ (s₁.setTop (entryFrame m #[(.ref so)] 1))
  refine Go.start ?_
  intro G hG
  refine Go.st (fun t k => castTop (ef_lco1 m so) k) ?_
  show Go _ _ _ _ (s₁.setTop (mkF m 0 #[.val (.ref so)] []))
  refine Go.st (fun _ k => XS.aloadN X0.here hx rfl (hb hby d29_0) rfl rfl k) ?_
  show Go _ _ _ _ (s₁.setTop (mkF m 1 #[.val (.ref so)] [(.ref so)]))
  obtain ⟨_, _, ⟨T1, L1, k1, n1⟩, -, X1, ⟨Lc1, hQ1, l1, y1, z1⟩, st1⟩ := Jvm.LawKit.callS X0 hx (y := (⟨"java/util/ImmutableCollections", "listCopy", "(Ljava/util/Collection;)Ljava/util/List;"⟩ : MethodName)) hown (mvT hZ (ow hw 139 rfl)) (mvT hZ (ow hw 140 rfl)) (mvT hZ (ow hw 141 rfl)) (mvT hZ (ow hw 142 rfl)) (by decide) (backOf (W := 0) (rm_lcp1 l Z a0 hw [] so ea eo kk mc mr em h0 n0 Z0 Pf0 Pf1 Pf2 Pf3 Pf4 Pf5 Pf6 (by show Mir Z "[Ljava/lang/Object;" mr; exact hmir) Pf8) hZ (ow hw 142 rfl) (ow hw 141 rfl) (by decide) (by decide)) (g := (mkF m 1 #[.val (.ref so)] [(.ref so)])) rfl (by rw [hml]; rfl) (argsL := [(.ref so)]) (rest := []) (lenOf pd_13 rfl) rfl (by show 2 * 0 + _ ≤ _; exact Nat.le_of_eq rfl) (hb hby d29_1) (fun _ _ => ⟨rfl, e0, (by decide : 0 + 2 ≤ _), (by decide : 0 + 3 ≤ _)⟩)
  dsimp only [Pt.U, Pt.locs, Pt.cells, Pt.slots] at X1 l1 y1 z1 st1 hQ1
  rw [l1, y1, z1] at X1
  obtain ⟨b1_fr, rfl, N1q, K1q, g1_fr, s1_fr, Fq1_0, Fq1_1, Fq1_2⟩ := hQ1
  have N1 := Fr.app N0 N1q
  refine Go.st st1 ?_
  have ne2 := om_ Pf0.lt s1_fr
  have ne3 := om_ Pf4.lt s1_fr
  have ne4 := om_ Pf6.lt s1_fr
  have sz5 : h0.size ≤ b1_fr := Nat.le_trans K0.1 s1_fr
  have Z6 : n0 ≤ T1.heap.size := Nat.le_trans Z0 K1q.1
  have K7 := K0.trans K1q (fun z hz => absurd hz nm_)
  have F8 := Pf0.keep K1q
  have F9 := Pf1.keep K1q nm_
  have F10 := Pf2.keep K1q nm_
  have F11 := Pf3.keep K1q nm_
  have F12 := Pf4.keep K1q nm_
  have F13 := Pf5.keep K1q
  have F14 := Pf6.keep K1q
  have F15 := own_stakeep Pf8 K1q
  show Go _ _ _ _ (T1.setTop (mkF m 4 #[.val (.ref so)] [(.ref b1_fr)]))
  subst hG
  obtain ⟨fs, hr, hrun, hended, hW, hsame⟩ := X1.leave (v := some (.ref b1_fr)) (fun h => by rw [Bd.returns] at h; cases h)
  refine ⟨_, _, ?_, hrun, hended, _, _, rfl, ?_, ⟨_, rfl⟩, hW, hsame.mono (by decide) (by decide)⟩
  · exact retOut X1 hx Bd.returns rfl (Or.inr (Or.inr (Or.inr (Or.inr ⟨rfl, rfl, rfl⟩)))) (hb hby d29_4) hr
  · show Q_lco1 Z so ea eo kk mc mr em h0 n0 _ T1.heap _
    exact ⟨b1_fr, rfl, N1, K7, g1_fr, sz5, Fq1_0, Fq1_1, Fq1_2⟩
theorem pd_14 : parseMethodDescriptor "()Ljava/util/List;" = some ⟨[], some (.object "java/util/List")⟩ := by decide +kernel
theorem d28_40 : decode jdk_56_method_3_code 40 = .ok (.invokestatic 26, 3) := by decide +kernel
theorem d28_43 : decode jdk_56_method_3_code 43 = .ok (.areturn, 1) := by decide +kernel
theorem ef_lcp0 (m : MethodId) (so : Addr) : entryFrame m #[(.ref so)] 2 = mkF m 0 #[.val (.ref so), .unset] [] := by first | (simp [entryFrame, mkF, argsToLocals, Value.category]; done) | rfl
def Q_lcp0 (Z : State) (so : Addr) (ed : Addr) (mc : Int32) (el : Addr) (h0 : Heap) (n0 : Nat) (v : Option Value) (h : Heap) (L : List Loc) : Prop := v = some (.ref el) ∧ Fr n0 L ∧ h = h0
set_option maxRecDepth 65536 in
set_option maxHeartbeats 40000000 in
theorem rm_lcp0 (l : Launch) (Z : State) (a0 : Array Value) (hw : ∀ d ∈ tables_1, d.before a0 Z = true) (ws : List Jvm.Cond) (so : Addr) (ed : Addr) (mc : Int32) (el : Addr) (h0 : Heap) (n0 : Nat) (Z0 : n0 ≤ h0.size) (Pf0 : Exa Z h0 so "java/util/ArrayList") (Pf1 : Fld Z h0 so "java/util/AbstractList" "modCount" "I" (.int mc)) (Pf2 : Fld Z h0 so "java/util/ArrayList" "elementData" "[Ljava/lang/Object;" (.ref ed)) (Pf3 : Fld Z h0 so "java/util/ArrayList" "size" "I" (.int (0 : Int32))) (Pf4 : Sta Z h0 "java/util/ImmutableCollections" "EMPTY_LIST" "Ljava/util/ImmutableCollections$ListN;" (.ref el)) :
    MetFree l (⟨"java/util/ImmutableCollections", "listCopy", "(Ljava/util/Collection;)Ljava/util/List;"⟩ : MethodName) (head1 (Jvm.Cond.code (⟨"java/util/ImmutableCollections", "listCopy", "(Ljava/util/Collection;)Ljava/util/List;"⟩ : MethodName) jdk_56_method_3_code 2 (some (.object "java/util/List")) :: ws) ({ frames := 1, cells := 0, slots := 0, locals := 12 } : Room)) (fun a U => a = #[(.ref so)] ∧ Z.Warmed39 U.vm ∧ U.heap = h0) (fun _ _ _ _ _ => True) (fun _ U o U' => ∃ v L, o = .returned v ∧ Q_lcp0 Z so ed mc el h0 n0 v U'.heap L ∧ FrameEnd U o U' L ({ frames := 1, cells := 0, slots := 0, locals := 12 } : Room).cells ({ frames := 1, cells := 0, slots := 0, locals := 12 } : Room).slots) := by
  refine MetFree.of_bodySF (plainFor_of_name pn_12) hisR ?_
  intro p e s m args below meth c s₁ Bd hml0 hP hK
  obtain ⟨rfl, hZ, hh⟩ := hP
  have hx := Bd.exec
  have hby := Bd.bytes
  have hml : c.maxLocals = 2 := hml0
  have hown : s.vm.findClass "java/util/ImmutableCollections" = some m.cls := findClass_of_methodNamed Bd.named
  have hnm := (name_of_methodNamed Bd.named Bd.method).1
  have X0 : Stand p l e ({ frames := 1, cells := 0, slots := 0, locals := 12 } : Room) s m #[(.ref so)] below meth c s₁ [] 0 0 := Stand.of_body Bd
  have e0 : s₁.heap = h0 := by rw [← hh, Bd.state]; rfl
  have N0 := Fr.nil n0
  have K0 : Keep h0 h0 [] := Keep.refl h0 []
  show Go p.tables e below _ (s₁.setTop (entryFrame m #[(.ref so)] 2))
  refine Go.start ?_
  intro G hG
  refine Go.st (fun t k => castTop (ef_lcp0 m so) k) ?_
  show Go _ _ _ _ (s₁.setTop (mkF m 0 #[.val (.ref so), .unset] []))
  refine Go.st (fun _ k => XS.aloadN X0.here hx rfl (hb hby d28_0) rfl rfl k) ?_
  show Go _ _ _ _ (s₁.setTop (mkF m 1 #[.val (.ref so), .unset] [(.ref so)]))
  obtain ⟨T1, X1, e1, st1⟩ := instNo X0 hx hZ hown (ow hw 143 rfl) e0 Pf0 (by obtain ⟨t_, kt_, t1, t2, t3⟩ := own_kinst (ow hw 192 rfl); exact own_nsno (ow hw 144 rfl) t1 t2 t3 (NS.step (ow hw 144 rfl) (NS.step (ow hw 145 rfl) (NS.step (ow hw 146 rfl) (own_nsroot (ow hw 147 rfl) t1 (by decide)) (by decide)) (by decide)) (by decide)) (by decide)) (g := (mkF m 1 #[.val (.ref so), .unset] [(.ref so)])) rfl rfl (hb hby d28_1)
  refine Go.st st1 ?_
  show Go _ _ _ _ (T1.setTop (mkF m 4 #[.val (.ref so), .unset] [(.int (0 : Int32))]))
  have hl2 : (0 : Int32) = (0 : Int32) := by decide
  refine Go.st (fun _ k => XS.ifNo X1.here hx rfl (hb hby d28_4) rfl (Jvm.Free.XT.i0_ne_f hl2) k) ?_
  show Go _ _ _ _ (T1.setTop (mkF m 7 #[.val (.ref so), .unset] []))
  refine Go.st (fun _ k => XS.aloadN X1.here hx rfl (hb hby d28_7) rfl rfl k) ?_
  show Go _ _ _ _ (T1.setTop (mkF m 8 #[.val (.ref so), .unset] [(.ref so)]))
  obtain ⟨T3, X3, e3, st3⟩ := instNo X1 hx hZ hown (ow hw 148 rfl) e1 Pf0 (by obtain ⟨t_, kt_, t1, t2, t3⟩ := own_ksel (K := "java/util/ImmutableCollections$ListN") rfl (ow hw 367 rfl); exact own_nsno (ow hw 144 rfl) t1 t2 t3 (NS.step (ow hw 144 rfl) (NS.step (ow hw 145 rfl) (NS.step (ow hw 146 rfl) (own_nsroot (ow hw 147 rfl) t1 (by decide)) (by decide)) (by decide)) (by decide)) (by decide)) (g := (mkF m 8 #[.val (.ref so), .unset] [(.ref so)])) rfl rfl (hb hby d28_8)
  refine Go.st st3 ?_
  show Go _ _ _ _ (T3.setTop (mkF m 11 #[.val (.ref so), .unset] [(.int (0 : Int32))]))
  have hl4 : (0 : Int32) = (0 : Int32) := by decide
  refine Go.st (fun _ k => XS.ifYes X3.here hx rfl (pc0 := 11) (pc' := 31) rfl (hb hby d28_11) rfl (Jvm.Free.XT.i0_eq_t hl4) (by decide) (by decide) k) ?_
  show Go _ _ _ _ (T3.setTop (mkF m 31 #[.val (.ref so), .unset] []))
  refine Go.st (fun _ k => XS.aloadN X3.here hx rfl (hb hby d28_31) rfl rfl k) ?_
  show Go _ _ _ _ (T3.setTop (mkF m 32 #[.val (.ref so), .unset] [(.ref so)]))
  obtain ⟨cq5, kq5, q5a, q5b, q5c⟩ := isOf hZ e3 Pf0
  obtain ⟨_, _, ⟨T5, L5, k5, n5⟩, -, X5, ⟨Lc5, hQ5, l5, y5, z5⟩, st5⟩ := X3.interfaceBack hx (xi := (⟨"java/util/Collection", "isEmpty", "()Z"⟩ : MethodName)) (y := (⟨"java/util/ArrayList", "isEmpty", "()Z"⟩ : MethodName)) hown (mvT hZ (ow hw 149 rfl)) (mvT hZ (ow hw 150 rfl)) (mvT hZ (ow hw 151 rfl)) (mvT hZ (ow hw 152 rfl)) (mvT hZ (ow hw 153 rfl)) (mvT hZ (ow hw 154 rfl)) (mvT hZ (ow hw 155 rfl)) (mvT hZ (ow hw 156 rfl)) (by decide) (backOf (W := 0) (rm_isemp l Z a0 hw [] so ed (0 : Int32) mc h0 n0 Z0 Pf0 Pf1 Pf2 Pf3) hZ (ow hw 157 rfl) (ow hw 5 rfl) (by decide) (by decide)) q5a q5b q5c (g := (mkF m 32 #[.val (.ref so), .unset] [(.ref so)])) rfl (by rw [hml]; rfl) (Steps.refl _) (argsL := []) (rest := []) (lenOf pd_11 rfl) rfl (by show 2 * 0 + _ ≤ _; exact Nat.le_of_eq rfl) (hb hby d28_32) (fun _ _ => ⟨rfl, e3, (by decide : 0 + 0 ≤ _), (by decide : 0 + 0 ≤ _)⟩)
  dsimp only [Pt.U, Pt.locs, Pt.cells, Pt.slots] at X5 l5 y5 z5 st5 hQ5
  rw [l5, y5, z5] at X5
  obtain ⟨rfl, N5q, e5⟩ := hQ5
  have N5 := Fr.app N0 N5q
  refine Go.st (fun _ k => st5.trans k) ?_
  show Go _ _ _ _ (T5.setTop (mkF m 37 #[.val (.ref so), .unset] [(.int (emF (0 : Int32)))]))
  have hc37 : ¬ ((emF (0 : Int32)) = (0 : Int32)) := by decide
  refine Go.st (fun _ k => XS.ifNo X5.here hx rfl (hb hby d28_37) rfl (Jvm.Free.XT.i0_eq_f hc37) k) ?_
  show Go _ _ _ _ (T5.setTop (mkF m 40 #[.val (.ref so), .unset] []))
  obtain ⟨_, _, ⟨T6, L6, k6, n6⟩, -, X6, ⟨Lc6, hQ6, l6, y6, z6⟩, st6⟩ := Jvm.LawKit.callS X5 hx (y := (⟨"java/util/List", "of", "()Ljava/util/List;"⟩ : MethodName)) hown (mvT hZ (ow hw 363 rfl)) (mvT hZ (ow hw 364 rfl)) (mvT hZ (ow hw 137 rfl)) (mvT hZ (ow hw 365 rfl)) (by decide) (backOf (W := 0) (rm_lof0 l Z a0 hw [] el h0 n0 Z0 Pf4) hZ (ow hw 365 rfl) (ow hw 137 rfl) (by decide) (by decide)) (g := (mkF m 40 #[.val (.ref so), .unset] [])) rfl (by rw [hml]; rfl) (argsL := []) (rest := []) (lenOf pd_14 rfl) rfl (by show 2 * 0 + _ ≤ _; exact Nat.le_of_eq rfl) (hb hby d28_40) (fun _ _ => ⟨rfl, e5, (by decide : 0 + 0 ≤ _), (by decide : 0 + 0 ≤ _)⟩)
  dsimp only [Pt.U, Pt.locs, Pt.cells, Pt.slots] at X6 l6 y6 z6 st6 hQ6
  rw [l6, y6, z6] at X6
  obtain ⟨rfl, N6q, e6⟩ := hQ6
  have N6 := Fr.app N5 N6q
  refine Go.st st6 ?_
  show Go _ _ _ _ (T6.setTop (mkF m 43 #[.val (.ref so), .unset] [(.ref el)]))
  subst hG
  obtain ⟨fs, hr, hrun, hended, hW, hsame⟩ := X6.leave (v := some (.ref el)) (fun h => by rw [Bd.returns] at h; cases h)
  refine ⟨_, _, ?_, hrun, hended, _, _, rfl, ?_, ⟨_, rfl⟩, hW, hsame.mono (by decide) (by decide)⟩
  · exact retOut X6 hx Bd.returns rfl (Or.inr (Or.inr (Or.inr (Or.inr ⟨rfl, rfl, rfl⟩)))) (hb hby d28_43) hr
  · show Q_lcp0 Z so ed mc el h0 n0 _ T6.heap _
    rw [e6]
    exact ⟨rfl, N6, rfl⟩
theorem ef_lco0 (m : MethodId) (so : Addr) : entryFrame m #[(.ref so)] 1 = mkF m 0 #[.val (.ref so)] [] := by first | (simp [entryFrame, mkF, argsToLocals, Value.category]; done) | rfl
def Q_lco0 (Z : State) (so : Addr) (ed : Addr) (mc : Int32) (el : Addr) (h0 : Heap) (n0 : Nat) (v : Option Value) (h : Heap) (L : List Loc) : Prop := v = some (.ref el) ∧ Fr n0 L ∧ h = h0
set_option maxRecDepth 65536 in
set_option maxHeartbeats 40000000 in
theorem rm_lco0 (l : Launch) (Z : State) (a0 : Array Value) (hw : ∀ d ∈ tables_1, d.before a0 Z = true) (ws : List Jvm.Cond) (so : Addr) (ed : Addr) (mc : Int32) (el : Addr) (h0 : Heap) (n0 : Nat) (Z0 : n0 ≤ h0.size) (Pf0 : Exa Z h0 so "java/util/ArrayList") (Pf1 : Fld Z h0 so "java/util/AbstractList" "modCount" "I" (.int mc)) (Pf2 : Fld Z h0 so "java/util/ArrayList" "elementData" "[Ljava/lang/Object;" (.ref ed)) (Pf3 : Fld Z h0 so "java/util/ArrayList" "size" "I" (.int (0 : Int32))) (Pf4 : Sta Z h0 "java/util/ImmutableCollections" "EMPTY_LIST" "Ljava/util/ImmutableCollections$ListN;" (.ref el)) :
    MetFree l (⟨"java/util/List", "copyOf", "(Ljava/util/Collection;)Ljava/util/List;"⟩ : MethodName) (head1 (Jvm.Cond.code (⟨"java/util/List", "copyOf", "(Ljava/util/Collection;)Ljava/util/List;"⟩ : MethodName) jdk_40_method_48_code 1 (some (.object "java/util/List")) :: ws) ({ frames := 2, cells := 0, slots := 0, locals := 25 } : Room)) (fun a U => a = #[(.ref so)] ∧ Z.Warmed39 U.vm ∧ U.heap = h0) (fun _ _ _ _ _ => True) (fun _ U o U' => ∃ v L, o = .returned v ∧ Q_lco0 Z so ed mc el h0 n0 v U'.heap L ∧ FrameEnd U o U' L ({ frames := 2, cells := 0, slots := 0, locals := 25 } : Room).cells ({ frames := 2, cells := 0, slots := 0, locals := 25 } : Room).slots) := by
  refine MetFree.of_bodySF (plainFor_of_name pn_11) hisR ?_
  intro p e s m args below meth c s₁ Bd hml0 hP hK
  obtain ⟨rfl, hZ, hh⟩ := hP
  have hx := Bd.exec
  have hby := Bd.bytes
  have hml : c.maxLocals = 1 := hml0
  have hown : s.vm.findClass "java/util/List" = some m.cls := findClass_of_methodNamed Bd.named
  have hnm := (name_of_methodNamed Bd.named Bd.method).1
  have X0 : Stand p l e ({ frames := 2, cells := 0, slots := 0, locals := 25 } : Room) s m #[(.ref so)] below meth c s₁ [] 0 0 := Stand.of_body Bd
  have e0 : s₁.heap = h0 := by rw [← hh, Bd.state]; rfl
  have N0 := Fr.nil n0
  have K0 : Keep h0 h0 [] := Keep.refl h0 []
  show Go p.tables e below _ (s₁.setTop (entryFrame m #[(.ref so)] 1))
  refine Go.start ?_
  intro G hG
  refine Go.st (fun t k => castTop (ef_lco0 m so) k) ?_
  show Go _ _ _ _ (s₁.setTop (mkF m 0 #[.val (.ref so)] []))
  refine Go.st (fun _ k => XS.aloadN X0.here hx rfl (hb hby d29_0) rfl rfl k) ?_
  show Go _ _ _ _ (s₁.setTop (mkF m 1 #[.val (.ref so)] [(.ref so)]))
  obtain ⟨_, _, ⟨T1, L1, k1, n1⟩, -, X1, ⟨Lc1, hQ1, l1, y1, z1⟩, st1⟩ := Jvm.LawKit.callS X0 hx (y := (⟨"java/util/ImmutableCollections", "listCopy", "(Ljava/util/Collection;)Ljava/util/List;"⟩ : MethodName)) hown (mvT hZ (ow hw 139 rfl)) (mvT hZ (ow hw 140 rfl)) (mvT hZ (ow hw 141 rfl)) (mvT hZ (ow hw 142 rfl)) (by decide) (backOf (W := 0) (rm_lcp0 l Z a0 hw [] so ed mc el h0 n0 Z0 Pf0 Pf1 Pf2 Pf3 Pf4) hZ (ow hw 142 rfl) (ow hw 141 rfl) (by decide) (by decide)) (g := (mkF m 1 #[.val (.ref so)] [(.ref so)])) rfl (by rw [hml]; rfl) (argsL := [(.ref so)]) (rest := []) (lenOf pd_13 rfl) rfl (by show 2 * 0 + _ ≤ _; exact Nat.le_of_eq rfl) (hb hby d29_1) (fun _ _ => ⟨rfl, e0, (by decide : 0 + 0 ≤ _), (by decide : 0 + 0 ≤ _)⟩)
  dsimp only [Pt.U, Pt.locs, Pt.cells, Pt.slots] at X1 l1 y1 z1 st1 hQ1
  rw [l1, y1, z1] at X1
  obtain ⟨rfl, N1q, e1⟩ := hQ1
  have N1 := Fr.app N0 N1q
  refine Go.st st1 ?_
  show Go _ _ _ _ (T1.setTop (mkF m 4 #[.val (.ref so)] [(.ref el)]))
  subst hG
  obtain ⟨fs, hr, hrun, hended, hW, hsame⟩ := X1.leave (v := some (.ref el)) (fun h => by rw [Bd.returns] at h; cases h)
  refine ⟨_, _, ?_, hrun, hended, _, _, rfl, ?_, ⟨_, rfl⟩, hW, hsame.mono (by decide) (by decide)⟩
  · exact retOut X1 hx Bd.returns rfl (Or.inr (Or.inr (Or.inr (Or.inr ⟨rfl, rfl, rfl⟩)))) (hb hby d29_4) hr
  · show Q_lco0 Z so ed mc el h0 n0 _ T1.heap _
    rw [e1]
    exact ⟨rfl, N1, rfl⟩
theorem pd_15 : parseMethodDescriptor "()Ljava/util/Iterator;" = some ⟨[], some (.object "java/util/Iterator")⟩ := by decide +kernel
theorem pd_16 : parseMethodDescriptor "()Ljava/lang/Object;" = some ⟨[], some (.object "java/lang/Object")⟩ := by decide +kernel
theorem pd_17 : parseMethodDescriptor "()J" = some ⟨[], some .long⟩ := by decide +kernel
theorem pn_13 : plainName "com/example/lapsed/lapsed/RetryPolicy" = true := by first | (simp [plainName, overriddenIn]; done) | decide +kernel
theorem d30_0 : decode prog_8_method_1_code 0 = .ok (.aload_n 0, 1) := by decide +kernel
theorem d30_1 : decode prog_8_method_1_code 1 = .ok (.invokespecial 1, 3) := by decide +kernel
theorem d30_4 : decode prog_8_method_1_code 4 = .ok (.aload_n 1, 1) := by decide +kernel
theorem d30_5 : decode prog_8_method_1_code 5 = .ok (.invokeinterface 7 1, 5) := by decide +kernel
theorem d30_10 : decode prog_8_method_1_code 10 = .ok (.astore_n 2, 1) := by decide +kernel
theorem d30_11 : decode prog_8_method_1_code 11 = .ok (.aload_n 2, 1) := by decide +kernel
theorem d30_12 : decode prog_8_method_1_code 12 = .ok (.invokeinterface 13 1, 5) := by decide +kernel
theorem d30_17 : decode prog_8_method_1_code 17 = .ok (.ifCond .eq 47, 3) := by decide +kernel
theorem d30_20 : decode prog_8_method_1_code 20 = .ok (.aload_n 2, 1) := by decide +kernel
theorem d30_21 : decode prog_8_method_1_code 21 = .ok (.invokeinterface 19 1, 5) := by decide +kernel
theorem d30_26 : decode prog_8_method_1_code 26 = .ok (.checkcast 23, 3) := by decide +kernel
theorem d30_29 : decode prog_8_method_1_code 29 = .ok (.invokevirtual 25, 3) := by decide +kernel
theorem d30_32 : decode prog_8_method_1_code 32 = .ok (.lstore_n 3, 1) := by decide +kernel
theorem d30_33 : decode prog_8_method_1_code 33 = .ok (.lload_n 3, 1) := by decide +kernel
theorem d30_34 : decode prog_8_method_1_code 34 = .ok (.lconst 0, 1) := by decide +kernel
theorem d30_35 : decode prog_8_method_1_code 35 = .ok (.lcmp, 1) := by decide +kernel
theorem d30_36 : decode prog_8_method_1_code 36 = .ok (.ifCond .lt 11, 3) := by decide +kernel
theorem d30_39 : decode prog_8_method_1_code 39 = .ok (.lload_n 3, 1) := by decide +kernel
theorem d30_40 : decode prog_8_method_1_code 40 = .ok (.ldc2_w 31, 3) := by decide +kernel
theorem d30_43 : decode prog_8_method_1_code 43 = .ok (.lcmp, 1) := by decide +kernel
theorem d30_44 : decode prog_8_method_1_code 44 = .ok (.ifCond .le 17, 3) := by decide +kernel
theorem d30_61 : decode prog_8_method_1_code 61 = .ok (.goto (-50), 3) := by decide +kernel
theorem d30_64 : decode prog_8_method_1_code 64 = .ok (.aload_n 0, 1) := by decide +kernel
theorem d30_65 : decode prog_8_method_1_code 65 = .ok (.aload_n 1, 1) := by decide +kernel
theorem d30_66 : decode prog_8_method_1_code 66 = .ok (.invokestatic 42, 3) := by decide +kernel
theorem d30_69 : decode prog_8_method_1_code 69 = .ok (.putfield 46, 3) := by decide +kernel
theorem d30_72 : decode prog_8_method_1_code 72 = .ok (.return_, 1) := by decide +kernel
theorem ef_rpi1 (m : MethodId) (so : Addr) (lo : Addr) : entryFrame m #[(.ref so), (.ref lo)] 5 = mkF m 0 #[.val (.ref so), .val (.ref lo), .unset, .unset, .unset] [] := by first | (simp [entryFrame, mkF, argsToLocals, Value.category]; done) | rfl
def Q_rpi1 (Z : State) (so : Addr) (lo : Addr) (ea : Addr) (eo : Addr) (kk : ClassId) (mc : Int32) (mr : Addr) (em : Addr) (pv : Int64) (h0 : Heap) (n0 : Nat) (v : Option Value) (h : Heap) (L : List Loc) : Prop := ∃ fl : Addr, v = none ∧ Fr n0 L ∧ Keep h0 h [so] ∧ n0 ≤ fl ∧ h0.size ≤ fl ∧ Exa Z h so "com/example/lapsed/lapsed/RetryPolicy" ∧ Fld Z h so "com/example/lapsed/lapsed/RetryPolicy" "delaysMs" "Ljava/util/List;" (.ref fl) ∧ Exa Z h fl "java/util/ImmutableCollections$List12" ∧ Fld Z h fl "java/util/ImmutableCollections$List12" "e0" "Ljava/lang/Object;" (.ref eo) ∧ Fld Z h fl "java/util/ImmutableCollections$List12" "e1" "Ljava/lang/Object;" (.ref em)
set_option maxRecDepth 65536 in
set_option maxHeartbeats 40000000 in
theorem rm_rpi1 (l : Launch) (Z : State) (a0 : Array Value) (hw : ∀ d ∈ tables_1, d.before a0 Z = true) (ws : List Jvm.Cond) (so : Addr) (lo : Addr) (ea : Addr) (eo : Addr) (kk : ClassId) (mc : Int32) (mr : Addr) (em : Addr) (pv : Int64) (h0 : Heap) (n0 : Nat) (Z0 : n0 ≤ h0.size) (Pf0 : Exa Z h0 so "com/example/lapsed/lapsed/RetryPolicy") (Pf1 : Fld Z h0 so "com/example/lapsed/lapsed/RetryPolicy" "delaysMs" "Ljava/util/List;" .null) (Pf2 : Exa Z h0 lo "java/util/ArrayList") (Pf3 : Fld Z h0 lo "java/util/AbstractList" "modCount" "I" (.int mc)) (Pf4 : Fld Z h0 lo "java/util/ArrayList" "elementData" "[Ljava/lang/Object;" (.ref ea)) (Pf5 : Fld Z h0 lo "java/util/ArrayList" "size" "I" (.int (1 : Int32))) (Pf6 : Arv Z h0 ea kk (.object "java/lang/Object") (10 : Int32) [(.ref eo), .null, .null, .null, .null, .null, .null, .null, .null, .null] .null) (Pf7 : Exa Z h0 ea "[Ljava/lang/Object;") (Pf8 : Exa Z h0 eo "java/lang/Long") (Pf9 : Fld Z h0 eo "java/lang/Long" "value" "J" (.long pv)) (hmir : Mir Z "[Ljava/lang/Object;" mr) (Pf11 : Sta Z h0 "java/util/ImmutableCollections" "EMPTY" "Ljava/lang/Object;" (.ref em)) (Pf12 : n0 ≤ so) (hpv : 0 ≤ pv.toInt ∧ pv.toInt < 86400001) :
    MetFree l (⟨"com/example/lapsed/lapsed/RetryPolicy", "<init>", "(Ljava/util/List;)V"⟩ : MethodName) (head1 (Jvm.Cond.code (⟨"com/example/lapsed/lapsed/RetryPolicy", "<init>", "(Ljava/util/List;)V"⟩ : MethodName) prog_8_method_1_code 5 none :: ws) ({ frames := 8, cells := 3, slots := 7, locals := 101 } : Room)) (fun a U => a = #[(.ref so), (.ref lo)] ∧ Z.Warmed39 U.vm ∧ U.heap = h0) (fun _ _ _ _ _ => True) (fun _ U o U' => ∃ v L, o = .returned v ∧ Q_rpi1 Z so lo ea eo kk mc mr em pv h0 n0 v U'.heap L ∧ FrameEnd U o U' L ({ frames := 8, cells := 3, slots := 7, locals := 101 } : Room).cells ({ frames := 8, cells := 3, slots := 7, locals := 101 } : Room).slots) := by
  refine MetFree.of_bodySF (plainFor_of_name pn_13) hisR ?_
  intro p e s m args below meth c s₁ Bd hml0 hP hK
  obtain ⟨rfl, hZ, hh⟩ := hP
  have hx := Bd.exec
  have hby := Bd.bytes
  have hml : c.maxLocals = 5 := hml0
  have hown : s.vm.findClass "com/example/lapsed/lapsed/RetryPolicy" = some m.cls := findClass_of_methodNamed Bd.named
  have hnm := (name_of_methodNamed Bd.named Bd.method).1
  have X0 : Stand p l e ({ frames := 8, cells := 3, slots := 7, locals := 101 } : Room) s m #[(.ref so), (.ref lo)] below meth c s₁ [] 0 0 := Stand.of_body Bd
  have e0 : s₁.heap = h0 := by rw [← hh, Bd.state]; rfl
  have N0 := Fr.nil n0
  have K0 : Keep h0 h0 [so] := Keep.refl h0 [so]
  show Go p.tables e below _ (s₁.setTop (entryFrame m #[(.ref so), (.ref lo)] 5))
  refine Go.start ?_
  intro G hG
  refine Go.st (fun t k => castTop (ef_rpi1 m so lo) k) ?_
  have l_0 : (0 : Int64).toInt = 0 := by decide
  have l_b : (86400000 : Int64).toInt = 86400000 := by decide
  show Go _ _ _ _ (s₁.setTop (mkF m 0 #[.val (.ref so), .val (.ref lo), .unset, .unset, .unset] []))
  refine Go.st (fun _ k => XS.aloadN X0.here hx rfl (hb hby d30_0) rfl rfl k) ?_
  show Go _ _ _ _ (s₁.setTop (mkF m 1 #[.val (.ref so), .val (.ref lo), .unset, .unset, .unset] [(.ref so)]))
  obtain ⟨T1, X1, e1, st1⟩ := initO X0 hx hZ hown (ow hw 74 rfl) (ow hw 22 rfl) (ow hw 23 rfl) e0 (g := (mkF m 1 #[.val (.ref so), .val (.ref lo), .unset, .unset, .unset] [(.ref so)])) rfl (by rw [hml]; rfl) rfl (hb hby d30_1) (by decide) (W := 0) (by show 2 * 0 + _ ≤ _; exact Nat.le_of_eq rfl) (by decide)
  refine Go.st st1 ?_
  show Go _ _ _ _ (T1.setTop (mkF m 4 #[.val (.ref so), .val (.ref lo), .unset, .unset, .unset] []))
  refine Go.st (fun _ k => XS.aloadN X1.here hx rfl (hb hby d30_4) rfl rfl k) ?_
  show Go _ _ _ _ (T1.setTop (mkF m 5 #[.val (.ref so), .val (.ref lo), .unset, .unset, .unset] [(.ref lo)]))
  obtain ⟨cq2, kq2, q2a, q2b, q2c⟩ := isOf hZ e1 Pf2
  obtain ⟨_, _, ⟨T2, L2, k2, n2⟩, -, X2, ⟨Lc2, hQ2, l2, y2, z2⟩, st2⟩ := X1.interfaceBack hx (xi := (⟨"java/util/List", "iterator", "()Ljava/util/Iterator;"⟩ : MethodName)) (y := (⟨"java/util/ArrayList", "iterator", "()Ljava/util/Iterator;"⟩ : MethodName)) hown (mvT hZ (ow hw 75 rfl)) (mvT hZ (ow hw 76 rfl)) (mvT hZ (ow hw 77 rfl)) (mvT hZ (ow hw 78 rfl)) (mvT hZ (ow hw 79 rfl)) (mvT hZ (ow hw 80 rfl)) (mvT hZ (ow hw 81 rfl)) (mvT hZ (ow hw 82 rfl)) (by decide) (backOf (W := 0) (rm_iter l Z a0 hw [] lo ea (1 : Int32) mc h0 n0 Z0 Pf2 Pf3 Pf4 Pf5) hZ (ow hw 83 rfl) (ow hw 5 rfl) (by decide) (by decide)) q2a q2b q2c (g := (mkF m 5 #[.val (.ref so), .val (.ref lo), .unset, .unset, .unset] [(.ref lo)])) rfl (by rw [hml]; rfl) (Steps.refl _) (argsL := []) (rest := []) (lenOf pd_15 rfl) rfl (by show 2 * 0 + _ ≤ _; exact Nat.le_of_eq rfl) (hb hby d30_5) (fun _ _ => ⟨rfl, e1, (by decide : 0 + 1 ≤ _), (by decide : 0 + 4 ≤ _)⟩)
  dsimp only [Pt.U, Pt.locs, Pt.cells, Pt.slots] at X2 l2 y2 z2 st2 hQ2
  rw [l2, y2, z2] at X2
  obtain ⟨b2_fr, rfl, N2q, K2q, g2_fr, s2_fr, Fq2_0, Fq2_1, Fq2_2, Fq2_3, Fq2_4⟩ := hQ2
  have N2 := Fr.app N0 N2q
  refine Go.st (fun _ k => st2.trans k) ?_
  have ne3 := om_ Pf0.lt s2_fr
  have ne4 := om_ Pf2.lt s2_fr
  have ne5 := om_ Pf6.lt s2_fr
  have ne6 := om_ Pf8.lt s2_fr
  have sz7 : h0.size ≤ b2_fr := Nat.le_trans K0.1 s2_fr
  have Z8 : n0 ≤ T2.heap.size := Nat.le_trans Z0 K2q.1
  have K9 := K0.trans K2q (fun z hz => absurd hz nm_)
  have F10 := Pf0.keep K2q
  have F11 := Pf1.keep K2q nm_
  have F12 := Pf2.keep K2q
  have F13 := Pf3.keep K2q nm_
  have F14 := Pf4.keep K2q nm_
  have F15 := Pf5.keep K2q nm_
  have F16 := Pf6.keep K2q nm_
  have F17 := Pf7.keep K2q
  have F18 := Pf8.keep K2q
  have F19 := Pf9.keep K2q nm_
  have F20 := own_stakeep Pf11 K2q
  show Go _ _ _ _ (T2.setTop (mkF m 10 #[.val (.ref so), .val (.ref lo), .unset, .unset, .unset] [(.ref b2_fr)]))
  refine Go.st (fun _ k => XS.astoreN X2.here hx rfl (hb hby d30_10) rfl rfl (l' := #[.val (.ref so), .val (.ref lo), .val (.ref b2_fr), .unset, .unset]) rfl k) ?_
  show Go _ _ _ _ (T2.setTop (mkF m 11 #[.val (.ref so), .val (.ref lo), .val (.ref b2_fr), .unset, .unset] []))
  refine Go.st (fun _ k => XS.aloadN X2.here hx rfl (hb hby d30_11) rfl rfl k) ?_
  show Go _ _ _ _ (T2.setTop (mkF m 12 #[.val (.ref so), .val (.ref lo), .val (.ref b2_fr), .unset, .unset] [(.ref b2_fr)]))
  obtain ⟨cq21, kq21, q21a, q21b, q21c⟩ := isOf hZ (rfl : T2.heap = T2.heap) Fq2_0
  obtain ⟨_, _, ⟨T21, L21, k21, n21⟩, -, X21, ⟨Lc21, hQ21, l21, y21, z21⟩, st21⟩ := X2.interfaceBack hx (xi := (⟨"java/util/Iterator", "hasNext", "()Z"⟩ : MethodName)) (y := (⟨"java/util/ArrayList$Itr", "hasNext", "()Z"⟩ : MethodName)) hown (mvT hZ (ow hw 99 rfl)) (mvT hZ (ow hw 100 rfl)) (mvT hZ (ow hw 101 rfl)) (mvT hZ (ow hw 102 rfl)) (mvT hZ (ow hw 103 rfl)) (mvT hZ (ow hw 104 rfl)) (mvT hZ (ow hw 105 rfl)) (mvT hZ (ow hw 106 rfl)) (by decide) (backOf (W := 0) (rm_hasn l Z a0 hw [] b2_fr lo (0 : Int32) (-1 : Int32) ea (1 : Int32) mc T2.heap n0 Z8 Fq2_0 Fq2_1 Fq2_2 Fq2_3 Fq2_4 F12 F13 F14 F15) hZ (ow hw 107 rfl) (ow hw 86 rfl) (by decide) (by decide)) q21a q21b q21c (g := (mkF m 12 #[.val (.ref so), .val (.ref lo), .val (.ref b2_fr), .unset, .unset] [(.ref b2_fr)])) rfl (by rw [hml]; rfl) (Steps.refl _) (argsL := []) (rest := []) (lenOf pd_11 rfl) rfl (by show 2 * 0 + _ ≤ _; exact Nat.le_of_eq rfl) (hb hby d30_12) (fun _ _ => ⟨rfl, (rfl : T2.heap = T2.heap), (by decide : 1 + 0 ≤ _), (by decide : 4 + 0 ≤ _)⟩)
  dsimp only [Pt.U, Pt.locs, Pt.cells, Pt.slots] at X21 l21 y21 z21 st21 hQ21
  rw [l21, y21, z21] at X21
  obtain ⟨rfl, N21q, e21⟩ := hQ21
  have N21 := Fr.app N2 N21q
  refine Go.st (fun _ k => st21.trans k) ?_
  show Go _ _ _ _ (T21.setTop (mkF m 17 #[.val (.ref so), .val (.ref lo), .val (.ref b2_fr), .unset, .unset] [(.int (hnF (0 : Int32) (1 : Int32)))]))
  have hc17 : ¬ ((hnF (0 : Int32) (1 : Int32)) = (0 : Int32)) := by decide
  refine Go.st (fun _ k => XS.ifNo X21.here hx rfl (hb hby d30_17) rfl (Jvm.Free.XT.i0_eq_f hc17) k) ?_
  show Go _ _ _ _ (T21.setTop (mkF m 20 #[.val (.ref so), .val (.ref lo), .val (.ref b2_fr), .unset, .unset] []))
  refine Go.st (fun _ k => XS.aloadN X21.here hx rfl (hb hby d30_20) rfl rfl k) ?_
  show Go _ _ _ _ (T21.setTop (mkF m 21 #[.val (.ref so), .val (.ref lo), .val (.ref b2_fr), .unset, .unset] [(.ref b2_fr)]))
  obtain ⟨cq22, kq22, q22a, q22b, q22c⟩ := isOf hZ e21 Fq2_0
  obtain ⟨_, _, ⟨T22, L22, k22, n22⟩, -, X22, ⟨Lc22, hQ22, l22, y22, z22⟩, st22⟩ := X21.interfaceBack hx (xi := (⟨"java/util/Iterator", "next", "()Ljava/lang/Object;"⟩ : MethodName)) (y := (⟨"java/util/ArrayList$Itr", "next", "()Ljava/lang/Object;"⟩ : MethodName)) hown (mvT hZ (ow hw 111 rfl)) (mvT hZ (ow hw 112 rfl)) (mvT hZ (ow hw 113 rfl)) (mvT hZ (ow hw 114 rfl)) (mvT hZ (ow hw 115 rfl)) (mvT hZ (ow hw 116 rfl)) (mvT hZ (ow hw 117 rfl)) (mvT hZ (ow hw 106 rfl)) (by decide) (backOf (W := 0) (rm_next l Z a0 hw [] b2_fr lo mc ea eo kk T2.heap n0 Z8 Fq2_0 Fq2_1 Fq2_2 Fq2_3 Fq2_4 F12 F13 F14 F15 F16 F17 g2_fr) hZ (ow hw 118 rfl) (ow hw 86 rfl) (by decide) (by decide)) q22a q22b q22c (g := (mkF m 21 #[.val (.ref so), .val (.ref lo), .val (.ref b2_fr), .unset, .unset] [(.ref b2_fr)])) rfl (by rw [hml]; rfl) (Steps.refl _) (argsL := []) (rest := []) (lenOf pd_16 rfl) rfl (by show 2 * 0 + _ ≤ _; exact Nat.le_of_eq rfl) (hb hby d30_21) (fun _ _ => ⟨rfl, e21, (by decide : 1 + 0 ≤ _), (by decide : 4 + 0 ≤ _)⟩)
  dsimp only [Pt.U, Pt.locs, Pt.cells, Pt.slots] at X22 l22 y22 z22 st22 hQ22
  rw [l22, y22, z22] at X22
  obtain ⟨rfl, N22q, K22q, Fq22_0, Fq22_1, Fq22_2, Fq22_3, Fq22_4⟩ := hQ22
  have N22 := Fr.app N21 N22q
  refine Go.st (fun _ k => st22.trans k) ?_
  have Z23 : n0 ≤ T22.heap.size := Nat.le_trans Z8 K22q.1
  have K24 := K9.trans K22q (fun z hz => (List.mem_cons.mp hz).elim (fun q => by rw [q]; exact Or.inr sz7) nn_)
  have F25 := F10.keep K22q
  have F26 := F11.keep K22q (fun z => (List.mem_cons.mp z).elim ne3 nn_)
  have F27 := F12.keep K22q
  have F28 := F13.keep K22q (fun z => (List.mem_cons.mp z).elim ne4 nn_)
  have F29 := F14.keep K22q (fun z => (List.mem_cons.mp z).elim ne4 nn_)
  have F30 := F15.keep K22q (fun z => (List.mem_cons.mp z).elim ne4 nn_)
  have F31 := F16.keep K22q (fun z => (List.mem_cons.mp z).elim ne5 nn_)
  have F32 := F17.keep K22q
  have F33 := F18.keep K22q
  have F34 := F19.keep K22q (fun z => (List.mem_cons.mp z).elim ne6 nn_)
  have F35 := own_stakeepW F20 K22q (allS (P := fun x => ∀ c : Cell, T2.heap[x]? = some c → c.vm.isStatics = false) (old_plain Fq2_4) all0)
  have F36 := Fq2_0.keep K22q
  show Go _ _ _ _ (T22.setTop (mkF m 26 #[.val (.ref so), .val (.ref lo), .val (.ref b2_fr), .unset, .unset] [(.ref eo)]))
  obtain ⟨T37, X37, e37, st37⟩ := castY X22 hx hZ hown (ow hw 125 rfl) (rfl : T22.heap = T22.heap) (Ins.self F33) (g := (mkF m 26 #[.val (.ref so), .val (.ref lo), .val (.ref b2_fr), .unset, .unset] [(.ref eo)])) rfl rfl (hb hby d30_26)
  refine Go.st st37 ?_
  show Go _ _ _ _ (T37.setTop (mkF m 29 #[.val (.ref so), .val (.ref lo), .val (.ref b2_fr), .unset, .unset] [(.ref eo)]))
  obtain ⟨cq38, kq38, q38a, q38b, q38c⟩ := isOf hZ e37 F33
  obtain ⟨_, _, ⟨T38, L38, k38, n38⟩, -, X38, ⟨Lc38, hQ38, l38, y38, z38⟩, st38⟩ := X37.virtualBack hx (y := (⟨"java/lang/Long", "longValue", "()J"⟩ : MethodName)) (z := (⟨"java/lang/Long", "longValue", "()J"⟩ : MethodName)) hown (mvT hZ (ow hw 127 rfl)) (mvT hZ (ow hw 128 rfl)) (notFace_of_selects (args := #[]) (mvT hZ (ow hw 130 rfl))) (mvT hZ (ow hw 130 rfl)) (mvT hZ (ow hw 129 rfl)) (by decide) (backOf (W := 0) (rm_lgv l Z a0 hw [] eo pv T22.heap n0 Z23 F33 F34) hZ (ow hw 131 rfl) (ow hw 31 rfl) (by decide) (by decide)) q38a q38c (g := (mkF m 29 #[.val (.ref so), .val (.ref lo), .val (.ref b2_fr), .unset, .unset] [(.ref eo)])) rfl (by rw [hml]; rfl) (Steps.refl _) (argsL := []) (rest := []) (lenOf pd_17 rfl) rfl (by show 2 * 0 + _ ≤ _; exact Nat.le_of_eq rfl) (hb hby d30_29) (fun _ _ => ⟨rfl, e37, (by decide : 1 + 0 ≤ _), (by decide : 4 + 0 ≤ _)⟩)
  dsimp only [Pt.U, Pt.locs, Pt.cells, Pt.slots] at X38 l38 y38 z38 st38 hQ38
  rw [l38, y38, z38] at X38
  obtain ⟨rfl, N38q, e38⟩ := hQ38
  have N38 := Fr.app N22 N38q
  refine Go.st (fun _ k => st38.trans k) ?_
  show Go _ _ _ _ (T38.setTop (mkF m 32 #[.val (.ref so), .val (.ref lo), .val (.ref b2_fr), .unset, .unset] [(.long pv)]))
  refine Go.st (fun _ k => XS.lstoreN X38.here hx rfl (hb hby d30_32) rfl (l' := #[.val (.ref so), .val (.ref lo), .val (.ref b2_fr), .val (.long pv), .second]) rfl k) ?_
  show Go _ _ _ _ (T38.setTop (mkF m 33 #[.val (.ref so), .val (.ref lo), .val (.ref b2_fr), .val (.long pv), .second] []))
  refine Go.st (fun _ k => XS.lloadN X38.here hx rfl (hb hby d30_33) rfl k) ?_
  show Go _ _ _ _ (T38.setTop (mkF m 34 #[.val (.ref so), .val (.ref lo), .val (.ref b2_fr), .val (.long pv), .second] [(.long pv)]))
  refine Go.st (fun _ k => XS.lconst X38.here hx rfl (hb hby d30_34) k) ?_
  show Go _ _ _ _ (T38.setTop (mkF m 35 #[.val (.ref so), .val (.ref lo), .val (.ref b2_fr), .val (.long pv), .second] [(.long (0 : Int64)), (.long pv)]))
  refine Go.st (fun _ k => Jvm.Free.XT.lcmp X38.here hx rfl (hb hby d30_35) rfl k) ?_
  show Go _ _ _ _ (T38.setTop (mkF m 36 #[.val (.ref so), .val (.ref lo), .val (.ref b2_fr), .val (.long pv), .second] [(.int (Jvm.Free.XT.cmpL pv (0 : Int64)))]))
  have hc36 : ¬ (pv < (0 : Int64)) := own_nlt64 (by omega)
  refine Go.st (fun _ k => XS.ifNo X38.here hx rfl (hb hby d30_36) rfl (Jvm.Free.XT.ll_lt_f hc36) k) ?_
  show Go _ _ _ _ (T38.setTop (mkF m 39 #[.val (.ref so), .val (.ref lo), .val (.ref b2_fr), .val (.long pv), .second] []))
  refine Go.st (fun _ k => XS.lloadN X38.here hx rfl (hb hby d30_39) rfl k) ?_
  show Go _ _ _ _ (T38.setTop (mkF m 40 #[.val (.ref so), .val (.ref lo), .val (.ref b2_fr), .val (.long pv), .second] [(.long pv)]))
  refine Go.st (fun _ k => X38.ldc2Long hx hown (mvT hZ (ow hw 134 rfl)) (g := (mkF m 40 #[.val (.ref so), .val (.ref lo), .val (.ref b2_fr), .val (.long pv), .second] [(.long pv)])) rfl (hb hby d30_40) _ k) ?_
  show Go _ _ _ _ (T38.setTop (mkF m 43 #[.val (.ref so), .val (.ref lo), .val (.ref b2_fr), .val (.long pv), .second] [(.long (86400000 : Int64)), (.long pv)]))
  refine Go.st (fun _ k => Jvm.Free.XT.lcmp X38.here hx rfl (hb hby d30_43) rfl k) ?_
  show Go _ _ _ _ (T38.setTop (mkF m 44 #[.val (.ref so), .val (.ref lo), .val (.ref b2_fr), .val (.long pv), .second] [(.int (Jvm.Free.XT.cmpL pv (86400000 : Int64)))]))
  have hc44 : ¬ ((86400000 : Int64) < pv) := own_nlt64 (by omega)
  refine Go.st (fun _ k => XS.ifYes X38.here hx rfl (pc0 := 44) (pc' := 61) rfl (hb hby d30_44) rfl (Jvm.Free.XT.ll_le_t hc44) (by decide) (by decide) k) ?_
  show Go _ _ _ _ (T38.setTop (mkF m 61 #[.val (.ref so), .val (.ref lo), .val (.ref b2_fr), .val (.long pv), .second] []))
  refine Go.st (fun _ k => XS.goto X38.here hx rfl (pc0 := 61) (pc' := 11) rfl (hb hby d30_61) (by decide) (by decide) k) ?_
  show Go _ _ _ _ (T38.setTop (mkF m 11 #[.val (.ref so), .val (.ref lo), .val (.ref b2_fr), .val (.long pv), .second] []))
  refine Go.st (fun _ k => XS.aloadN X38.here hx rfl (hb hby d30_11) rfl rfl k) ?_
  show Go _ _ _ _ (T38.setTop (mkF m 12 #[.val (.ref so), .val (.ref lo), .val (.ref b2_fr), .val (.long pv), .second] [(.ref b2_fr)]))
  obtain ⟨cq39, kq39, q39a, q39b, q39c⟩ := isOf hZ e38 Fq22_0
  obtain ⟨_, _, ⟨T39, L39, k39, n39⟩, -, X39, ⟨Lc39, hQ39, l39, y39, z39⟩, st39⟩ := X38.interfaceBack hx (xi := (⟨"java/util/Iterator", "hasNext", "()Z"⟩ : MethodName)) (y := (⟨"java/util/ArrayList$Itr", "hasNext", "()Z"⟩ : MethodName)) hown (mvT hZ (ow hw 99 rfl)) (mvT hZ (ow hw 100 rfl)) (mvT hZ (ow hw 101 rfl)) (mvT hZ (ow hw 102 rfl)) (mvT hZ (ow hw 103 rfl)) (mvT hZ (ow hw 104 rfl)) (mvT hZ (ow hw 105 rfl)) (mvT hZ (ow hw 106 rfl)) (by decide) (backOf (W := 0) (rm_hasn l Z a0 hw [] b2_fr lo (1 : Int32) (0 : Int32) ea (1 : Int32) mc T22.heap n0 Z23 Fq22_0 Fq22_1 Fq22_2 Fq22_3 Fq22_4 F27 F28 F29 F30) hZ (ow hw 107 rfl) (ow hw 86 rfl) (by decide) (by decide)) q39a q39b q39c (g := (mkF m 12 #[.val (.ref so), .val (.ref lo), .val (.ref b2_fr), .val (.long pv), .second] [(.ref b2_fr)])) rfl (by rw [hml]; rfl) (Steps.refl _) (argsL := []) (rest := []) (lenOf pd_11 rfl) rfl (by show 2 * 0 + _ ≤ _; exact Nat.le_of_eq rfl) (hb hby d30_12) (fun _ _ => ⟨rfl, e38, (by decide : 1 + 0 ≤ _), (by decide : 4 + 0 ≤ _)⟩)
  dsimp only [Pt.U, Pt.locs, Pt.cells, Pt.slots] at X39 l39 y39 z39 st39 hQ39
  rw [l39, y39, z39] at X39
  obtain ⟨rfl, N39q, e39⟩ := hQ39
  have N39 := Fr.app N38 N39q
  refine Go.st (fun _ k => st39.trans k) ?_
  show Go _ _ _ _ (T39.setTop (mkF m 17 #[.val (.ref so), .val (.ref lo), .val (.ref b2_fr), .val (.long pv), .second] [(.int (hnF (1 : Int32) (1 : Int32)))]))
  have hc17_40 : (hnF (1 : Int32) (1 : Int32)) = (0 : Int32) := by decide
  refine Go.st (fun _ k => XS.ifYes X39.here hx rfl (pc0 := 17) (pc' := 64) rfl (hb hby d30_17) rfl (Jvm.Free.XT.i0_eq_t hc17_40) (by decide) (by decide) k) ?_
  show Go _ _ _ _ (T39.setTop (mkF m 64 #[.val (.ref so), .val (.ref lo), .val (.ref b2_fr), .val (.long pv), .second] []))
  refine Go.st (fun _ k => XS.aloadN X39.here hx rfl (hb hby d30_64) rfl rfl k) ?_
  show Go _ _ _ _ (T39.setTop (mkF m 65 #[.val (.ref so), .val (.ref lo), .val (.ref b2_fr), .val (.long pv), .second] [(.ref so)]))
  refine Go.st (fun _ k => XS.aloadN X39.here hx rfl (hb hby d30_65) rfl rfl k) ?_
  show Go _ _ _ _ (T39.setTop (mkF m 66 #[.val (.ref so), .val (.ref lo), .val (.ref b2_fr), .val (.long pv), .second] [(.ref lo), (.ref so)]))
  obtain ⟨_, _, ⟨T41, L41, k41, n41⟩, -, X41, ⟨Lc41, hQ41, l41, y41, z41⟩, st41⟩ := Jvm.LawKit.callS X39 hx (y := (⟨"java/util/List", "copyOf", "(Ljava/util/Collection;)Ljava/util/List;"⟩ : MethodName)) hown (mvT hZ (ow hw 135 rfl)) (mvT hZ (ow hw 136 rfl)) (mvT hZ (ow hw 137 rfl)) (mvT hZ (ow hw 138 rfl)) (by decide) (backOf (W := 1) (rm_lco1 l Z a0 hw [] lo ea eo kk mc mr em T22.heap n0 Z23 F27 F28 F29 F30 F31 F32 F33 (by show Mir Z "[Ljava/lang/Object;" mr; exact hmir) F35) hZ (ow hw 138 rfl) (ow hw 137 rfl) (by decide) (by decide)) (g := (mkF m 66 #[.val (.ref so), .val (.ref lo), .val (.ref b2_fr), .val (.long pv), .second] [(.ref lo), (.ref so)])) rfl (by rw [hml]; rfl) (argsL := [(.ref lo)]) (rest := [(.ref so)]) (lenOf pd_13 rfl) rfl (by show 2 * 0 + _ ≤ _; exact Nat.le_of_eq rfl) (hb hby d30_66) (fun _ _ => ⟨rfl, e39, (by decide : 1 + 2 ≤ _), (by decide : 4 + 3 ≤ _)⟩)
  dsimp only [Pt.U, Pt.locs, Pt.cells, Pt.slots] at X41 l41 y41 z41 st41 hQ41
  rw [l41, y41, z41] at X41
  obtain ⟨b41_fr, rfl, N41q, K41q, g41_fr, s41_fr, Fq41_0, Fq41_1, Fq41_2⟩ := hQ41
  have N41 := Fr.app N39 N41q
  refine Go.st st41 ?_
  have ne42 := om_ F25.lt s41_fr
  have ne43 := om_ F27.lt s41_fr
  have ne44 := om_ F31.lt s41_fr
  have ne45 := om_ F33.lt s41_fr
  have ne46 := om_ Fq22_0.lt s41_fr
  have sz47 : h0.size ≤ b41_fr := Nat.le_trans K24.1 s41_fr
  have Z48 : n0 ≤ T41.heap.size := Nat.le_trans Z23 K41q.1
  have K49 := K24.trans K41q (fun z hz => absurd hz nm_)
  have F50 := F25.keep K41q
  have F51 := F26.keep K41q nm_
  have F52 := F27.keep K41q
  have F53 := F28.keep K41q nm_
  have F54 := F29.keep K41q nm_
  have F55 := F30.keep K41q nm_
  have F56 := F31.keep K41q nm_
  have F57 := F32.keep K41q
  have F58 := F33.keep K41q
  have F59 := F34.keep K41q nm_
  have F60 := own_stakeep F35 K41q
  have F61 := Fq22_0.keep K41q
  have F62 := Fq22_1.keep K41q nm_
  have F63 := Fq22_2.keep K41q nm_
  have F64 := Fq22_3.keep K41q nm_
  have F65 := Fq22_4.keep K41q nm_
  show Go _ _ _ _ (T41.setTop (mkF m 69 #[.val (.ref so), .val (.ref lo), .val (.ref b2_fr), .val (.long pv), .second] [(.ref b41_fr), (.ref so)]))
  obtain ⟨T66, h66, X66, e66, W66, st66⟩ := putF X41 hx hZ hown (host := "") (Or.inl (ow hw 221 rfl)) Via.refl (rfl : T41.heap = T41.heap) F51 F50 (Or.inr ⟨(ow hw 222 rfl), rfl, hnm⟩) (ow hw 69 rfl) (ty := (.object "java/util/List")) (by decide) rfl rfl (g := (mkF m 69 #[.val (.ref so), .val (.ref lo), .val (.ref b2_fr), .val (.long pv), .second] [(.ref b41_fr), (.ref so)])) rfl rfl (hb hby d30_69)
  refine Go.st st66 ?_
  have F67 := F50.wr W66
  have F68 := F51.same W66
  have F69 := F52.wr W66
  have F70 := F53.other W66 (Or.inl (Exa.ne F52 F50 (by decide)))
  have F71 := F54.other W66 (Or.inl (Exa.ne F52 F50 (by decide)))
  have F72 := F55.other W66 (Or.inl (Exa.ne F52 F50 (by decide)))
  have F73 := F56.other W66 (Exa.ne F57 F50 (by decide))
  have F74 := F57.wr W66
  have F75 := F58.wr W66
  have F76 := F59.other W66 (Or.inl (Exa.ne F58 F50 (by decide)))
  have F77 := F60.wr W66
  have F78 := F61.wr W66
  have F79 := F62.other W66 (Or.inl (Ne.symm ne3))
  have F80 := F63.other W66 (Or.inl (Ne.symm ne3))
  have F81 := F64.other W66 (Or.inl (Ne.symm ne3))
  have F82 := F65.other W66 (Or.inl (Ne.symm ne3))
  have F83 := Fq41_0.wr W66
  have F84 := Fq41_1.other W66 (Or.inl (Ne.symm ne42))
  have F85 := Fq41_2.other W66 (Or.inl (Ne.symm ne42))
  have K86 := K49.wr W66 (Or.inl (List.mem_of_getElem? (i := 0) rfl))
  have Z87 := oz_ Z48 W66
  have N88 := Fr.snoc X66 N41 Pf12
  show Go _ _ _ _ (T66.setTop (mkF m 72 #[.val (.ref so), .val (.ref lo), .val (.ref b2_fr), .val (.long pv), .second] []))
  subst hG
  obtain ⟨fs, hr, hrun, hended, hW, hsame⟩ := X66.leave (v := none) (fun _ => rfl)
  refine ⟨_, _, ?_, hrun, hended, _, _, rfl, ?_, ⟨_, rfl⟩, hW, hsame.mono (by decide) (by decide)⟩
  · exact X66.returnOut hx Bd.returns (hb hby d30_72) hr
  · show Q_rpi1 Z so lo ea eo kk mc mr em pv h0 n0 _ T66.heap _
    rw [e66]
    exact ⟨b41_fr, rfl, N88, K86, g41_fr, sz47, F67, F68, F83, F84, F85⟩
theorem ef_rpi0 (m : MethodId) (so : Addr) (lo : Addr) : entryFrame m #[(.ref so), (.ref lo)] 5 = mkF m 0 #[.val (.ref so), .val (.ref lo), .unset, .unset, .unset] [] := by first | (simp [entryFrame, mkF, argsToLocals, Value.category]; done) | rfl
def Q_rpi0 (Z : State) (so : Addr) (lo : Addr) (ed : Addr) (mc : Int32) (el : Addr) (h0 : Heap) (n0 : Nat) (v : Option Value) (h : Heap) (L : List Loc) : Prop := v = none ∧ Fr n0 L ∧ Keep h0 h [so] ∧ Exa Z h so "com/example/lapsed/lapsed/RetryPolicy" ∧ Fld Z h so "com/example/lapsed/lapsed/RetryPolicy" "delaysMs" "Ljava/util/List;" (.ref el)
set_option maxRecDepth 65536 in
set_option maxHeartbeats 40000000 in
theorem rm_rpi0 (l : Launch) (Z : State) (a0 : Array Value) (hw : ∀ d ∈ tables_1, d.before a0 Z = true) (ws : List Jvm.Cond) (so : Addr) (lo : Addr) (ed : Addr) (mc : Int32) (el : Addr) (h0 : Heap) (n0 : Nat) (Z0 : n0 ≤ h0.size) (Pf0 : Exa Z h0 so "com/example/lapsed/lapsed/RetryPolicy") (Pf1 : Fld Z h0 so "com/example/lapsed/lapsed/RetryPolicy" "delaysMs" "Ljava/util/List;" .null) (Pf2 : Exa Z h0 lo "java/util/ArrayList") (Pf3 : Fld Z h0 lo "java/util/AbstractList" "modCount" "I" (.int mc)) (Pf4 : Fld Z h0 lo "java/util/ArrayList" "elementData" "[Ljava/lang/Object;" (.ref ed)) (Pf5 : Fld Z h0 lo "java/util/ArrayList" "size" "I" (.int (0 : Int32))) (Pf6 : Sta Z h0 "java/util/ImmutableCollections" "EMPTY_LIST" "Ljava/util/ImmutableCollections$ListN;" (.ref el)) (Pf7 : n0 ≤ so) :
    MetFree l (⟨"com/example/lapsed/lapsed/RetryPolicy", "<init>", "(Ljava/util/List;)V"⟩ : MethodName) (head1 (Jvm.Cond.code (⟨"com/example/lapsed/lapsed/RetryPolicy", "<init>", "(Ljava/util/List;)V"⟩ : MethodName) prog_8_method_1_code 5 none :: ws) ({ frames := 3, cells := 1, slots := 4, locals := 38 } : Room)) (fun a U => a = #[(.ref so), (.ref lo)] ∧ Z.Warmed39 U.vm ∧ U.heap = h0) (fun _ _ _ _ _ => True) (fun _ U o U' => ∃ v L, o = .returned v ∧ Q_rpi0 Z so lo ed mc el h0 n0 v U'.heap L ∧ FrameEnd U o U' L ({ frames := 3, cells := 1, slots := 4, locals := 38 } : Room).cells ({ frames := 3, cells := 1, slots := 4, locals := 38 } : Room).slots) := by
  refine MetFree.of_bodySF (plainFor_of_name pn_13) hisR ?_
  intro p e s m args below meth c s₁ Bd hml0 hP hK
  obtain ⟨rfl, hZ, hh⟩ := hP
  have hx := Bd.exec
  have hby := Bd.bytes
  have hml : c.maxLocals = 5 := hml0
  have hown : s.vm.findClass "com/example/lapsed/lapsed/RetryPolicy" = some m.cls := findClass_of_methodNamed Bd.named
  have hnm := (name_of_methodNamed Bd.named Bd.method).1
  have X0 : Stand p l e ({ frames := 3, cells := 1, slots := 4, locals := 38 } : Room) s m #[(.ref so), (.ref lo)] below meth c s₁ [] 0 0 := Stand.of_body Bd
  have e0 : s₁.heap = h0 := by rw [← hh, Bd.state]; rfl
  have N0 := Fr.nil n0
  have K0 : Keep h0 h0 [so] := Keep.refl h0 [so]
  show Go p.tables e below _ (s₁.setTop (entryFrame m #[(.ref so), (.ref lo)] 5))
  refine Go.start ?_
  intro G hG
  refine Go.st (fun t k => castTop (ef_rpi0 m so lo) k) ?_
  show Go _ _ _ _ (s₁.setTop (mkF m 0 #[.val (.ref so), .val (.ref lo), .unset, .unset, .unset] []))
  refine Go.st (fun _ k => XS.aloadN X0.here hx rfl (hb hby d30_0) rfl rfl k) ?_
  show Go _ _ _ _ (s₁.setTop (mkF m 1 #[.val (.ref so), .val (.ref lo), .unset, .unset, .unset] [(.ref so)]))
  obtain ⟨T1, X1, e1, st1⟩ := initO X0 hx hZ hown (ow hw 74 rfl) (ow hw 22 rfl) (ow hw 23 rfl) e0 (g := (mkF m 1 #[.val (.ref so), .val (.ref lo), .unset, .unset, .unset] [(.ref so)])) rfl (by rw [hml]; rfl) rfl (hb hby d30_1) (by decide) (W := 0) (by show 2 * 0 + _ ≤ _; exact Nat.le_of_eq rfl) (by decide)
  refine Go.st st1 ?_
  show Go _ _ _ _ (T1.setTop (mkF m 4 #[.val (.ref so), .val (.ref lo), .unset, .unset, .unset] []))
  refine Go.st (fun _ k => XS.aloadN X1.here hx rfl (hb hby d30_4) rfl rfl k) ?_
  show Go _ _ _ _ (T1.setTop (mkF m 5 #[.val (.ref so), .val (.ref lo), .unset, .unset, .unset] [(.ref lo)]))
  obtain ⟨cq2, kq2, q2a, q2b, q2c⟩ := isOf hZ e1 Pf2
  obtain ⟨_, _, ⟨T2, L2, k2, n2⟩, -, X2, ⟨Lc2, hQ2, l2, y2, z2⟩, st2⟩ := X1.interfaceBack hx (xi := (⟨"java/util/List", "iterator", "()Ljava/util/Iterator;"⟩ : MethodName)) (y := (⟨"java/util/ArrayList", "iterator", "()Ljava/util/Iterator;"⟩ : MethodName)) hown (mvT hZ (ow hw 75 rfl)) (mvT hZ (ow hw 76 rfl)) (mvT hZ (ow hw 77 rfl)) (mvT hZ (ow hw 78 rfl)) (mvT hZ (ow hw 79 rfl)) (mvT hZ (ow hw 80 rfl)) (mvT hZ (ow hw 81 rfl)) (mvT hZ (ow hw 82 rfl)) (by decide) (backOf (W := 0) (rm_iter l Z a0 hw [] lo ed (0 : Int32) mc h0 n0 Z0 Pf2 Pf3 Pf4 Pf5) hZ (ow hw 83 rfl) (ow hw 5 rfl) (by decide) (by decide)) q2a q2b q2c (g := (mkF m 5 #[.val (.ref so), .val (.ref lo), .unset, .unset, .unset] [(.ref lo)])) rfl (by rw [hml]; rfl) (Steps.refl _) (argsL := []) (rest := []) (lenOf pd_15 rfl) rfl (by show 2 * 0 + _ ≤ _; exact Nat.le_of_eq rfl) (hb hby d30_5) (fun _ _ => ⟨rfl, e1, (by decide : 0 + 1 ≤ _), (by decide : 0 + 4 ≤ _)⟩)
  dsimp only [Pt.U, Pt.locs, Pt.cells, Pt.slots] at X2 l2 y2 z2 st2 hQ2
  rw [l2, y2, z2] at X2
  obtain ⟨b2_fr, rfl, N2q, K2q, g2_fr, s2_fr, Fq2_0, Fq2_1, Fq2_2, Fq2_3, Fq2_4⟩ := hQ2
  have N2 := Fr.app N0 N2q
  refine Go.st (fun _ k => st2.trans k) ?_
  have ne3 := om_ Pf0.lt s2_fr
  have ne4 := om_ Pf2.lt s2_fr
  have sz5 : h0.size ≤ b2_fr := Nat.le_trans K0.1 s2_fr
  have Z6 : n0 ≤ T2.heap.size := Nat.le_trans Z0 K2q.1
  have K7 := K0.trans K2q (fun z hz => absurd hz nm_)
  have F8 := Pf0.keep K2q
  have F9 := Pf1.keep K2q nm_
  have F10 := Pf2.keep K2q
  have F11 := Pf3.keep K2q nm_
  have F12 := Pf4.keep K2q nm_
  have F13 := Pf5.keep K2q nm_
  have F14 := own_stakeep Pf6 K2q
  show Go _ _ _ _ (T2.setTop (mkF m 10 #[.val (.ref so), .val (.ref lo), .unset, .unset, .unset] [(.ref b2_fr)]))
  refine Go.st (fun _ k => XS.astoreN X2.here hx rfl (hb hby d30_10) rfl rfl (l' := #[.val (.ref so), .val (.ref lo), .val (.ref b2_fr), .unset, .unset]) rfl k) ?_
  show Go _ _ _ _ (T2.setTop (mkF m 11 #[.val (.ref so), .val (.ref lo), .val (.ref b2_fr), .unset, .unset] []))
  refine Go.st (fun _ k => XS.aloadN X2.here hx rfl (hb hby d30_11) rfl rfl k) ?_
  show Go _ _ _ _ (T2.setTop (mkF m 12 #[.val (.ref so), .val (.ref lo), .val (.ref b2_fr), .unset, .unset] [(.ref b2_fr)]))
  obtain ⟨cq15, kq15, q15a, q15b, q15c⟩ := isOf hZ (rfl : T2.heap = T2.heap) Fq2_0
  obtain ⟨_, _, ⟨T15, L15, k15, n15⟩, -, X15, ⟨Lc15, hQ15, l15, y15, z15⟩, st15⟩ := X2.interfaceBack hx (xi := (⟨"java/util/Iterator", "hasNext", "()Z"⟩ : MethodName)) (y := (⟨"java/util/ArrayList$Itr", "hasNext", "()Z"⟩ : MethodName)) hown (mvT hZ (ow hw 99 rfl)) (mvT hZ (ow hw 100 rfl)) (mvT hZ (ow hw 101 rfl)) (mvT hZ (ow hw 102 rfl)) (mvT hZ (ow hw 103 rfl)) (mvT hZ (ow hw 104 rfl)) (mvT hZ (ow hw 105 rfl)) (mvT hZ (ow hw 106 rfl)) (by decide) (backOf (W := 0) (rm_hasn l Z a0 hw [] b2_fr lo (0 : Int32) (-1 : Int32) ed (0 : Int32) mc T2.heap n0 Z6 Fq2_0 Fq2_1 Fq2_2 Fq2_3 Fq2_4 F10 F11 F12 F13) hZ (ow hw 107 rfl) (ow hw 86 rfl) (by decide) (by decide)) q15a q15b q15c (g := (mkF m 12 #[.val (.ref so), .val (.ref lo), .val (.ref b2_fr), .unset, .unset] [(.ref b2_fr)])) rfl (by rw [hml]; rfl) (Steps.refl _) (argsL := []) (rest := []) (lenOf pd_11 rfl) rfl (by show 2 * 0 + _ ≤ _; exact Nat.le_of_eq rfl) (hb hby d30_12) (fun _ _ => ⟨rfl, (rfl : T2.heap = T2.heap), (by decide : 1 + 0 ≤ _), (by decide : 4 + 0 ≤ _)⟩)
  dsimp only [Pt.U, Pt.locs, Pt.cells, Pt.slots] at X15 l15 y15 z15 st15 hQ15
  rw [l15, y15, z15] at X15
  obtain ⟨rfl, N15q, e15⟩ := hQ15
  have N15 := Fr.app N2 N15q
  refine Go.st (fun _ k => st15.trans k) ?_
  show Go _ _ _ _ (T15.setTop (mkF m 17 #[.val (.ref so), .val (.ref lo), .val (.ref b2_fr), .unset, .unset] [(.int (hnF (0 : Int32) (0 : Int32)))]))
  have hc17 : (hnF (0 : Int32) (0 : Int32)) = (0 : Int32) := by decide
  refine Go.st (fun _ k => XS.ifYes X15.here hx rfl (pc0 := 17) (pc' := 64) rfl (hb hby d30_17) rfl (Jvm.Free.XT.i0_eq_t hc17) (by decide) (by decide) k) ?_
  show Go _ _ _ _ (T15.setTop (mkF m 64 #[.val (.ref so), .val (.ref lo), .val (.ref b2_fr), .unset, .unset] []))
  refine Go.st (fun _ k => XS.aloadN X15.here hx rfl (hb hby d30_64) rfl rfl k) ?_
  show Go _ _ _ _ (T15.setTop (mkF m 65 #[.val (.ref so), .val (.ref lo), .val (.ref b2_fr), .unset, .unset] [(.ref so)]))
  refine Go.st (fun _ k => XS.aloadN X15.here hx rfl (hb hby d30_65) rfl rfl k) ?_
  show Go _ _ _ _ (T15.setTop (mkF m 66 #[.val (.ref so), .val (.ref lo), .val (.ref b2_fr), .unset, .unset] [(.ref lo), (.ref so)]))
  obtain ⟨_, _, ⟨T16, L16, k16, n16⟩, -, X16, ⟨Lc16, hQ16, l16, y16, z16⟩, st16⟩ := Jvm.LawKit.callS X15 hx (y := (⟨"java/util/List", "copyOf", "(Ljava/util/Collection;)Ljava/util/List;"⟩ : MethodName)) hown (mvT hZ (ow hw 135 rfl)) (mvT hZ (ow hw 136 rfl)) (mvT hZ (ow hw 137 rfl)) (mvT hZ (ow hw 138 rfl)) (by decide) (backOf (W := 1) (rm_lco0 l Z a0 hw [] lo ed mc el T2.heap n0 Z6 F10 F11 F12 F13 F14) hZ (ow hw 138 rfl) (ow hw 137 rfl) (by decide) (by decide)) (g := (mkF m 66 #[.val (.ref so), .val (.ref lo), .val (.ref b2_fr), .unset, .unset] [(.ref lo), (.ref so)])) rfl (by rw [hml]; rfl) (argsL := [(.ref lo)]) (rest := [(.ref so)]) (lenOf pd_13 rfl) rfl (by show 2 * 0 + _ ≤ _; exact Nat.le_of_eq rfl) (hb hby d30_66) (fun _ _ => ⟨rfl, e15, (by decide : 1 + 0 ≤ _), (by decide : 4 + 0 ≤ _)⟩)
  dsimp only [Pt.U, Pt.locs, Pt.cells, Pt.slots] at X16 l16 y16 z16 st16 hQ16
  rw [l16, y16, z16] at X16
  obtain ⟨rfl, N16q, e16⟩ := hQ16
  have N16 := Fr.app N15 N16q
  refine Go.st st16 ?_
  show Go _ _ _ _ (T16.setTop (mkF m 69 #[.val (.ref so), .val (.ref lo), .val (.ref b2_fr), .unset, .unset] [(.ref el), (.ref so)]))
  obtain ⟨T17, h17, X17, e17, W17, st17⟩ := putF X16 hx hZ hown (host := "") (Or.inl (ow hw 221 rfl)) Via.refl e16 F9 F8 (Or.inr ⟨(ow hw 222 rfl), rfl, hnm⟩) (ow hw 69 rfl) (ty := (.object "java/util/List")) (by decide) rfl rfl (g := (mkF m 69 #[.val (.ref so), .val (.ref lo), .val (.ref b2_fr), .unset, .unset] [(.ref el), (.ref so)])) rfl rfl (hb hby d30_69)
  refine Go.st st17 ?_
  have F18 := F8.wr W17
  have F19 := F9.same W17
  have F20 := F10.wr W17
  have F21 := F11.other W17 (Or.inl (Exa.ne F10 F8 (by decide)))
  have F22 := F12.other W17 (Or.inl (Exa.ne F10 F8 (by decide)))
  have F23 := F13.other W17 (Or.inl (Exa.ne F10 F8 (by decide)))
  have F24 := F14.wr W17
  have F25 := Fq2_0.wr W17
  have F26 := Fq2_1.other W17 (Or.inl (Ne.symm ne3))
  have F27 := Fq2_2.other W17 (Or.inl (Ne.symm ne3))
  have F28 := Fq2_3.other W17 (Or.inl (Ne.symm ne3))
  have F29 := Fq2_4.other W17 (Or.inl (Ne.symm ne3))
  have K30 := K7.wr W17 (Or.inl (List.mem_of_getElem? (i := 0) rfl))
  have Z31 := oz_ Z6 W17
  have N32 := Fr.snoc X17 N16 Pf7
  show Go _ _ _ _ (T17.setTop (mkF m 72 #[.val (.ref so), .val (.ref lo), .val (.ref b2_fr), .unset, .unset] []))
  subst hG
  obtain ⟨fs, hr, hrun, hended, hW, hsame⟩ := X17.leave (v := none) (fun _ => rfl)
  refine ⟨_, _, ?_, hrun, hended, _, _, rfl, ?_, ⟨_, rfl⟩, hW, hsame.mono (by decide) (by decide)⟩
  · exact X17.returnOut hx Bd.returns (hb hby d30_72) hr
  · show Q_rpi0 Z so lo ed mc el h0 n0 _ T17.heap _
    rw [e17]
    exact ⟨rfl, N32, K30, F18, F19⟩
theorem pn_14 : plainName "java/util/OptionalLong" = true := by first | (simp [plainName, overriddenIn]; done) | decide +kernel
theorem d31_0 : decode jdk_2650_method_3_code 0 = .ok (.aload_n 0, 1) := by decide +kernel
theorem d31_1 : decode jdk_2650_method_3_code 1 = .ok (.invokespecial 1, 3) := by decide +kernel
theorem d31_4 : decode jdk_2650_method_3_code 4 = .ok (.aload_n 0, 1) := by decide +kernel
theorem d31_5 : decode jdk_2650_method_3_code 5 = .ok (.iconst 1, 1) := by decide +kernel
theorem d31_6 : decode jdk_2650_method_3_code 6 = .ok (.putfield 7, 3) := by decide +kernel
theorem d31_9 : decode jdk_2650_method_3_code 9 = .ok (.aload_n 0, 1) := by decide +kernel
theorem d31_10 : decode jdk_2650_method_3_code 10 = .ok (.lload_n 1, 1) := by decide +kernel
theorem d31_11 : decode jdk_2650_method_3_code 11 = .ok (.putfield 13, 3) := by decide +kernel
theorem d31_14 : decode jdk_2650_method_3_code 14 = .ok (.return_, 1) := by decide +kernel
theorem ef_olin (m : MethodId) (so : Addr) (pv : Int64) : entryFrame m #[(.ref so), (.long pv)] 3 = mkF m 0 #[.val (.ref so), .val (.long pv), .second] [] := by first | (simp [entryFrame, mkF, argsToLocals, Value.category]; done) | rfl
def Q_olin (Z : State) (so : Addr) (pv : Int64) (h0 : Heap) (n0 : Nat) (v : Option Value) (h : Heap) (L : List Loc) : Prop := v = none ∧ Fr n0 L ∧ Keep h0 h [so] ∧ Exa Z h so "java/util/OptionalLong" ∧ Fld Z h so "java/util/OptionalLong" "isPresent" "Z" (.int (1 : Int32)) ∧ Fld Z h so "java/util/OptionalLong" "value" "J" (.long pv)
set_option maxRecDepth 65536 in
set_option maxHeartbeats 40000000 in
theorem rm_olin (l : Launch) (Z : State) (a0 : Array Value) (hw : ∀ d ∈ tables_1, d.before a0 Z = true) (ws : List Jvm.Cond) (so : Addr) (pv : Int64) (h0 : Heap) (n0 : Nat) (Z0 : n0 ≤ h0.size) (Pf0 : Exa Z h0 so "java/util/OptionalLong") (Pf1 : Fld Z h0 so "java/util/OptionalLong" "isPresent" "Z" (.int (0 : Int32))) (Pf2 : Fld Z h0 so "java/util/OptionalLong" "value" "J" (.long (0 : Int64))) (Pf3 : n0 ≤ so) :
    MetFree l (⟨"java/util/OptionalLong", "<init>", "(J)V"⟩ : MethodName) (head1 (Jvm.Cond.code (⟨"java/util/OptionalLong", "<init>", "(J)V"⟩ : MethodName) jdk_2650_method_3_code 3 none :: ws) ({ frames := 1, cells := 0, slots := 0, locals := 12 } : Room)) (fun a U => a = #[(.ref so), (.long pv)] ∧ Z.Warmed39 U.vm ∧ U.heap = h0) (fun _ _ _ _ _ => True) (fun _ U o U' => ∃ v L, o = .returned v ∧ Q_olin Z so pv h0 n0 v U'.heap L ∧ FrameEnd U o U' L ({ frames := 1, cells := 0, slots := 0, locals := 12 } : Room).cells ({ frames := 1, cells := 0, slots := 0, locals := 12 } : Room).slots) := by
  refine MetFree.of_bodySF (plainFor_of_name pn_14) hisR ?_
  intro p e s m args below meth c s₁ Bd hml0 hP hK
  obtain ⟨rfl, hZ, hh⟩ := hP
  have hx := Bd.exec
  have hby := Bd.bytes
  have hml : c.maxLocals = 3 := hml0
  have hown : s.vm.findClass "java/util/OptionalLong" = some m.cls := findClass_of_methodNamed Bd.named
  have hnm := (name_of_methodNamed Bd.named Bd.method).1
  have X0 : Stand p l e ({ frames := 1, cells := 0, slots := 0, locals := 12 } : Room) s m #[(.ref so), (.long pv)] below meth c s₁ [] 0 0 := Stand.of_body Bd
  have e0 : s₁.heap = h0 := by rw [← hh, Bd.state]; rfl
  have N0 := Fr.nil n0
  have K0 : Keep h0 h0 [so] := Keep.refl h0 [so]
  show Go p.tables e below _ (s₁.setTop (entryFrame m #[(.ref so), (.long pv)] 3))
  refine Go.start ?_
  intro G hG
  refine Go.st (fun t k => castTop (ef_olin m so pv) k) ?_
  show Go _ _ _ _ (s₁.setTop (mkF m 0 #[.val (.ref so), .val (.long pv), .second] []))
  refine Go.st (fun _ k => XS.aloadN X0.here hx rfl (hb hby d31_0) rfl rfl k) ?_
  show Go _ _ _ _ (s₁.setTop (mkF m 1 #[.val (.ref so), .val (.long pv), .second] [(.ref so)]))
  obtain ⟨T1, X1, e1, st1⟩ := initO X0 hx hZ hown (ow hw 321 rfl) (ow hw 22 rfl) (ow hw 23 rfl) e0 (g := (mkF m 1 #[.val (.ref so), .val (.long pv), .second] [(.ref so)])) rfl (by rw [hml]; rfl) rfl (hb hby d31_1) (by decide) (W := 0) (by show 2 * 0 + _ ≤ _; exact Nat.le_of_eq rfl) (by decide)
  refine Go.st st1 ?_
  show Go _ _ _ _ (T1.setTop (mkF m 4 #[.val (.ref so), .val (.long pv), .second] []))
  refine Go.st (fun _ k => XS.aloadN X1.here hx rfl (hb hby d31_4) rfl rfl k) ?_
  show Go _ _ _ _ (T1.setTop (mkF m 5 #[.val (.ref so), .val (.long pv), .second] [(.ref so)]))
  refine Go.st (fun _ k => XS.iconst X1.here hx rfl (hb hby d31_5) k) ?_
  show Go _ _ _ _ (T1.setTop (mkF m 6 #[.val (.ref so), .val (.long pv), .second] [(.int (1 : Int32)), (.ref so)]))
  obtain ⟨T2, h2, X2, e2, W2, st2⟩ := putFN X1 hx hZ hown (ow hw 322 rfl) Via.refl e1 Pf1 Pf0 (Or.inr ⟨(ow hw 323 rfl), rfl, hnm⟩) (ow hw 316 rfl) (ty := .boolean) (v' := .int (1 : Int32)) (by decide) rfl (by decide) (g := (mkF m 6 #[.val (.ref so), .val (.long pv), .second] [(.int (1 : Int32)), (.ref so)])) rfl rfl (hb hby d31_6)
  refine Go.st st2 ?_
  have F3 := Pf0.wr W2
  have F4 := Pf1.same W2
  have F5 := Pf2.other W2 (Or.inr (slot_ne (Or.inr (ow hw 325 rfl)) (Or.inr (ow hw 323 rfl)) (by decide) (t := .long) (t' := .boolean) (by decide) (by decide)))
  have K6 := K0.wr W2 (Or.inl (List.mem_of_getElem? (i := 0) rfl))
  have Z7 := oz_ Z0 W2
  have N8 := Fr.snoc X2 N0 Pf3
  show Go _ _ _ _ (T2.setTop (mkF m 9 #[.val (.ref so), .val (.long pv), .second] []))
  refine Go.st (fun _ k => XS.aloadN X2.here hx rfl (hb hby d31_9) rfl rfl k) ?_
  show Go _ _ _ _ (T2.setTop (mkF m 10 #[.val (.ref so), .val (.long pv), .second] [(.ref so)]))
  refine Go.st (fun _ k => XS.lloadN X2.here hx rfl (hb hby d31_10) rfl k) ?_
  show Go _ _ _ _ (T2.setTop (mkF m 11 #[.val (.ref so), .val (.long pv), .second] [(.long pv), (.ref so)]))
  obtain ⟨T9, h9, X9, e9, W9, st9⟩ := putF X2 hx hZ hown (host := "") (Or.inl (ow hw 324 rfl)) Via.refl e2 F5 F3 (Or.inr ⟨(ow hw 325 rfl), rfl, hnm⟩) (ow hw 316 rfl) (ty := .long) (by decide) rfl rfl (g := (mkF m 11 #[.val (.ref so), .val (.long pv), .second] [(.long pv), (.ref so)])) rfl rfl (hb hby d31_11)
  refine Go.st st9 ?_
  have F10 := F3.wr W9
  have F11 := F4.other W9 (Or.inr (slot_ne (Or.inr (ow hw 323 rfl)) (Or.inr (ow hw 325 rfl)) (by decide) (t := .boolean) (t' := .long) (by decide) (by decide)))
  have F12 := F5.same W9
  have K13 := K6.wr W9 (Or.inl (List.mem_of_getElem? (i := 0) rfl))
  have Z14 := oz_ Z7 W9
  have N15 := Fr.snoc X9 N8 Pf3
  show Go _ _ _ _ (T9.setTop (mkF m 14 #[.val (.ref so), .val (.long pv), .second] []))
  subst hG
  obtain ⟨fs, hr, hrun, hended, hW, hsame⟩ := X9.leave (v := none) (fun _ => rfl)
  refine ⟨_, _, ?_, hrun, hended, _, _, rfl, ?_, ⟨_, rfl⟩, hW, hsame.mono (by decide) (by decide)⟩
  · exact X9.returnOut hx Bd.returns (hb hby d31_14) hr
  · show Q_olin Z so pv h0 n0 _ T9.heap _
    rw [e9]
    exact ⟨rfl, N15, K13, F10, F11, F12⟩
theorem d32_0 : decode jdk_2650_method_4_code 0 = .ok (.new 8, 3) := by decide +kernel
theorem d32_3 : decode jdk_2650_method_4_code 3 = .ok (.dup, 1) := by decide +kernel
theorem d32_4 : decode jdk_2650_method_4_code 4 = .ok (.lload_n 0, 1) := by decide +kernel
theorem d32_5 : decode jdk_2650_method_4_code 5 = .ok (.invokespecial 21, 3) := by decide +kernel
theorem d32_8 : decode jdk_2650_method_4_code 8 = .ok (.areturn, 1) := by decide +kernel
theorem ef_olof (m : MethodId) (pv : Int64) : entryFrame m #[(.long pv)] 2 = mkF m 0 #[.val (.long pv), .second] [] := by first | (simp [entryFrame, mkF, argsToLocals, Value.category]; done) | rfl
def Q_olof (Z : State) (pv : Int64) (h0 : Heap) (n0 : Nat) (v : Option Value) (h : Heap) (L : List Loc) : Prop := ∃ fr : Addr, v = some (.ref fr) ∧ Fr n0 L ∧ Keep h0 h [] ∧ n0 ≤ fr ∧ h0.size ≤ fr ∧ Exa Z h fr "java/util/OptionalLong" ∧ Fld Z h fr "java/util/OptionalLong" "isPresent" "Z" (.int (1 : Int32)) ∧ Fld Z h fr "java/util/OptionalLong" "value" "J" (.long pv)
set_option maxRecDepth 65536 in
set_option maxHeartbeats 40000000 in
theorem rm_olof (l : Launch) (Z : State) (a0 : Array Value) (hw : ∀ d ∈ tables_1, d.before a0 Z = true) (ws : List Jvm.Cond) (pv : Int64) (h0 : Heap) (n0 : Nat) (Z0 : n0 ≤ h0.size)  :
    MetFree l (⟨"java/util/OptionalLong", "of", "(J)Ljava/util/OptionalLong;"⟩ : MethodName) (head1 (Jvm.Cond.code (⟨"java/util/OptionalLong", "of", "(J)Ljava/util/OptionalLong;"⟩ : MethodName) jdk_2650_method_4_code 2 (some (.object "java/util/OptionalLong")) :: ws) ({ frames := 2, cells := 1, slots := 2, locals := 27 } : Room)) (fun a U => a = #[(.long pv)] ∧ Z.Warmed39 U.vm ∧ U.heap = h0) (fun _ _ _ _ _ => True) (fun _ U o U' => ∃ v L, o = .returned v ∧ Q_olof Z pv h0 n0 v U'.heap L ∧ FrameEnd U o U' L ({ frames := 2, cells := 1, slots := 2, locals := 27 } : Room).cells ({ frames := 2, cells := 1, slots := 2, locals := 27 } : Room).slots) := by
  refine MetFree.of_bodySF (plainFor_of_name pn_14) hisR ?_
  intro p e s m args below meth c s₁ Bd hml0 hP hK
  obtain ⟨rfl, hZ, hh⟩ := hP
  have hx := Bd.exec
  have hby := Bd.bytes
  have hml : c.maxLocals = 2 := hml0
  have hown : s.vm.findClass "java/util/OptionalLong" = some m.cls := findClass_of_methodNamed Bd.named
  have hnm := (name_of_methodNamed Bd.named Bd.method).1
  have X0 : Stand p l e ({ frames := 2, cells := 1, slots := 2, locals := 27 } : Room) s m #[(.long pv)] below meth c s₁ [] 0 0 := Stand.of_body Bd
  have e0 : s₁.heap = h0 := by rw [← hh, Bd.state]; rfl
  have N0 := Fr.nil n0
  have K0 : Keep h0 h0 [] := Keep.refl h0 []
  show Go p.tables e below _ (s₁.setTop (entryFrame m #[(.long pv)] 2))
  refine Go.start ?_
  intro G hG
  refine Go.st (fun t k => castTop (ef_olof m pv) k) ?_
  show Go _ _ _ _ (s₁.setTop (mkF m 0 #[.val (.long pv), .second] []))
  obtain ⟨T1, h1, X1, e1, E1, A1, D1, -, st1⟩ := newO X0 hx hZ hown (ow hw 315 rfl) (ow hw 316 rfl) (ow hw 313 rfl) e0 (g := (mkF m 0 #[.val (.long pv), .second] [])) rfl (hb hby d32_0) (by decide) (by decide)
  obtain ⟨b1, g1⟩ : ∃ z, z = h0.size := ⟨_, rfl⟩
  rw [← g1] at A1 D1 st1
  refine Go.st st1 ?_
  have ge2 : n0 ≤ b1 := Nat.le_trans Z0 (Nat.le_of_eq g1.symm)
  have sz3 : h0.size ≤ b1 := Nat.le_trans K0.1 (Nat.le_of_eq g1.symm)
  have Z4 : n0 ≤ h1.size := Nat.le_trans Z0 E1.1
  have K5 := K0.ext E1
  have F6 : Fld Z h1 b1 "java/util/OptionalLong" "isPresent" "Z" (.int (0 : Int32)) := D1 (Or.inr (ow hw 323 rfl)) (ty := .boolean) (by decide)
  have F7 : Fld Z h1 b1 "java/util/OptionalLong" "value" "J" (.long (0 : Int64)) := D1 (Or.inr (ow hw 325 rfl)) (ty := .long) (by decide)
  show Go _ _ _ _ (T1.setTop (mkF m 3 #[.val (.long pv), .second] [(.ref b1)]))
  refine Go.st (fun _ k => XS.dup X1.here hx rfl (hb hby d32_3) rfl rfl k) ?_
  show Go _ _ _ _ (T1.setTop (mkF m 4 #[.val (.long pv), .second] [(.ref b1), (.ref b1)]))
  refine Go.st (fun _ k => XS.lloadN X1.here hx rfl (hb hby d32_4) rfl k) ?_
  show Go _ _ _ _ (T1.setTop (mkF m 5 #[.val (.long pv), .second] [(.long pv), (.ref b1), (.ref b1)]))
  obtain ⟨_, _, ⟨T8, L8, k8, n8⟩, -, X8, ⟨Lc8, hQ8, l8, y8, z8⟩, st8⟩ := X1.specialBack hx (y := (⟨"java/util/OptionalLong", "<init>", "(J)V"⟩ : MethodName)) rfl hown (mvT hZ (ow hw 317 rfl)) (mvT hZ (ow hw 318 rfl)) (mvT hZ (ow hw 320 rfl)) (by decide) (backOf (W := 1) (rm_olin l Z a0 hw [] b1 pv h1 n0 Z4 A1 F6 F7 ge2) hZ (ow hw 320 rfl) (ow hw 313 rfl) (by decide) (by decide)) (g := (mkF m 5 #[.val (.long pv), .second] [(.long pv), (.ref b1), (.ref b1)])) rfl (by rw [hml]; rfl) (Steps.refl _) (a := b1) (argsL := [(.long pv)]) (rest := [(.ref b1)]) (lenOf pd_1 rfl) rfl (by show 2 * 0 + _ ≤ _; exact Nat.le_of_eq rfl) (hb hby d32_5) (fun _ _ => ⟨rfl, e1, (by decide : 1 + 0 ≤ _), (by decide : 2 + 0 ≤ _)⟩)
  dsimp only [Pt.U, Pt.locs, Pt.cells, Pt.slots] at X8 l8 y8 z8 st8 hQ8
  rw [l8, y8, z8] at X8
  obtain ⟨rfl, N8q, K8q, Fq8_0, Fq8_1, Fq8_2⟩ := hQ8
  have N8 := Fr.app N0 N8q
  refine Go.st (fun _ k => st8.trans k) ?_
  have Z9 : n0 ≤ T8.heap.size := Nat.le_trans Z4 K8q.1
  have K10 := K5.trans K8q (fun z hz => (List.mem_cons.mp hz).elim (fun q => by rw [q]; exact Or.inr sz3) nn_)
  have F11 := A1.keep K8q
  show Go _ _ _ _ (T8.setTop (mkF m 8 #[.val (.long pv), .second] [(.ref b1)]))
  subst hG
  obtain ⟨fs, hr, hrun, hended, hW, hsame⟩ := X8.leave (v := some (.ref b1)) (fun h => by rw [Bd.returns] at h; cases h)
  refine ⟨_, _, ?_, hrun, hended, _, _, rfl, ?_, ⟨_, rfl⟩, hW, hsame.mono (by decide) (by decide)⟩
  · exact retOut X8 hx Bd.returns rfl (Or.inr (Or.inr (Or.inr (Or.inr ⟨rfl, rfl, rfl⟩)))) (hb hby d32_8) hr
  · show Q_olof Z pv h0 n0 _ T8.heap _
    exact ⟨b1, rfl, N8, K10, ge2, sz3, Fq8_0, Fq8_1, Fq8_2⟩
theorem d33_0 : decode jdk_2650_method_2_code 0 = .ok (.getstatic 17, 3) := by decide +kernel
theorem d33_3 : decode jdk_2650_method_2_code 3 = .ok (.areturn, 1) := by decide +kernel
theorem ef_olem (m : MethodId)  : entryFrame m #[] 0 = mkF m 0 #[] [] := by first | (simp [entryFrame, mkF, argsToLocals, Value.category]; done) | rfl
def Q_olem (Z : State) (oe : Addr) (h0 : Heap) (n0 : Nat) (v : Option Value) (h : Heap) (L : List Loc) : Prop := v = some (.ref oe) ∧ Fr n0 L ∧ h = h0
set_option maxRecDepth 65536 in
set_option maxHeartbeats 40000000 in
theorem rm_olem (l : Launch) (Z : State) (a0 : Array Value) (hw : ∀ d ∈ tables_1, d.before a0 Z = true) (ws : List Jvm.Cond) (oe : Addr) (h0 : Heap) (n0 : Nat) (Z0 : n0 ≤ h0.size) (Pf0 : Sta Z h0 "java/util/OptionalLong" "EMPTY" "Ljava/util/OptionalLong;" (.ref oe)) :
    MetFree l (⟨"java/util/OptionalLong", "empty", "()Ljava/util/OptionalLong;"⟩ : MethodName) (head1 (Jvm.Cond.code (⟨"java/util/OptionalLong", "empty", "()Ljava/util/OptionalLong;"⟩ : MethodName) jdk_2650_method_2_code 0 (some (.object "java/util/OptionalLong")) :: ws) ({ frames := 0, cells := 0, slots := 0, locals := 0 } : Room)) (fun a U => a = #[] ∧ Z.Warmed39 U.vm ∧ U.heap = h0) (fun _ _ _ _ _ => True) (fun _ U o U' => ∃ v L, o = .returned v ∧ Q_olem Z oe h0 n0 v U'.heap L ∧ FrameEnd U o U' L ({ frames := 0, cells := 0, slots := 0, locals := 0 } : Room).cells ({ frames := 0, cells := 0, slots := 0, locals := 0 } : Room).slots) := by
  refine MetFree.of_bodySF (plainFor_of_name pn_14) hisR ?_
  intro p e s m args below meth c s₁ Bd hml0 hP hK
  obtain ⟨rfl, hZ, hh⟩ := hP
  have hx := Bd.exec
  have hby := Bd.bytes
  have hml : c.maxLocals = 0 := hml0
  have hown : s.vm.findClass "java/util/OptionalLong" = some m.cls := findClass_of_methodNamed Bd.named
  have hnm := (name_of_methodNamed Bd.named Bd.method).1
  have X0 : Stand p l e ({ frames := 0, cells := 0, slots := 0, locals := 0 } : Room) s m #[] below meth c s₁ [] 0 0 := Stand.of_body Bd
  have e0 : s₁.heap = h0 := by rw [← hh, Bd.state]; rfl
  have N0 := Fr.nil n0
  have K0 : Keep h0 h0 [] := Keep.refl h0 []
  show Go p.tables e below _ (s₁.setTop (entryFrame m #[] 0))
  refine Go.start ?_
  intro G hG
  refine Go.st (fun t k => castTop (ef_olem m ) k) ?_
  show Go _ _ _ _ (s₁.setTop (mkF m 0 #[] []))
  obtain ⟨T1, X1, e1, st1⟩ := getS2 X0 hx hZ hown (host := "") (Or.inl (ow hw 379 rfl)) Via.refl e0 Pf0 (g := (mkF m 0 #[] [])) rfl (hb hby d33_0)
  refine Go.st st1 ?_
  show Go _ _ _ _ (T1.setTop (mkF m 3 #[] [(.ref oe)]))
  subst hG
  obtain ⟨fs, hr, hrun, hended, hW, hsame⟩ := X1.leave (v := some (.ref oe)) (fun h => by rw [Bd.returns] at h; cases h)
  refine ⟨_, _, ?_, hrun, hended, _, _, rfl, ?_, ⟨_, rfl⟩, hW, hsame.mono (by decide) (by decide)⟩
  · exact retOut X1 hx Bd.returns rfl (Or.inr (Or.inr (Or.inr (Or.inr ⟨rfl, rfl, rfl⟩)))) (hb hby d33_3) hr
  · show Q_olem Z oe h0 n0 _ T1.heap _
    rw [e1]
    exact ⟨rfl, N0, rfl⟩
theorem d34_0 : decode jdk_2650_method_6_code 0 = .ok (.aload_n 0, 1) := by decide +kernel
theorem d34_1 : decode jdk_2650_method_6_code 1 = .ok (.getfield 7, 3) := by decide +kernel
theorem d34_4 : decode jdk_2650_method_6_code 4 = .ok (.ireturn, 1) := by decide +kernel
theorem ef_olip1 (m : MethodId) (so : Addr) : entryFrame m #[(.ref so)] 1 = mkF m 0 #[.val (.ref so)] [] := by first | (simp [entryFrame, mkF, argsToLocals, Value.category]; done) | rfl
def Q_olip1 (Z : State) (so : Addr) (h0 : Heap) (n0 : Nat) (v : Option Value) (h : Heap) (L : List Loc) : Prop := v = some (.int (1 : Int32)) ∧ Fr n0 L ∧ h = h0
set_option maxRecDepth 65536 in
set_option maxHeartbeats 40000000 in
theorem rm_olip1 (l : Launch) (Z : State) (a0 : Array Value) (hw : ∀ d ∈ tables_1, d.before a0 Z = true) (ws : List Jvm.Cond) (so : Addr) (h0 : Heap) (n0 : Nat) (Z0 : n0 ≤ h0.size) (Pf0 : Exa Z h0 so "java/util/OptionalLong") (Pf1 : Fld Z h0 so "java/util/OptionalLong" "isPresent" "Z" (.int (1 : Int32))) :
    MetFree l (⟨"java/util/OptionalLong", "isPresent", "()Z"⟩ : MethodName) (head1 (Jvm.Cond.code (⟨"java/util/OptionalLong", "isPresent", "()Z"⟩ : MethodName) jdk_2650_method_6_code 1 (some .boolean) :: ws) ({ frames := 0, cells := 0, slots := 0, locals := 0 } : Room)) (fun a U => a = #[(.ref so)] ∧ Z.Warmed39 U.vm ∧ U.heap = h0) (fun _ _ _ _ _ => True) (fun _ U o U' => ∃ v L, o = .returned v ∧ Q_olip1 Z so h0 n0 v U'.heap L ∧ FrameEnd U o U' L ({ frames := 0, cells := 0, slots := 0, locals := 0 } : Room).cells ({ frames := 0, cells := 0, slots := 0, locals := 0 } : Room).slots) := by
  refine MetFree.of_bodySF (plainFor_of_name pn_14) hisR ?_
  intro p e s m args below meth c s₁ Bd hml0 hP hK
  obtain ⟨rfl, hZ, hh⟩ := hP
  have hx := Bd.exec
  have hby := Bd.bytes
  have hml : c.maxLocals = 1 := hml0
  have hown : s.vm.findClass "java/util/OptionalLong" = some m.cls := findClass_of_methodNamed Bd.named
  have hnm := (name_of_methodNamed Bd.named Bd.method).1
  have X0 : Stand p l e ({ frames := 0, cells := 0, slots := 0, locals := 0 } : Room) s m #[(.ref so)] below meth c s₁ [] 0 0 := Stand.of_body Bd
  have e0 : s₁.heap = h0 := by rw [← hh, Bd.state]; rfl
  have N0 := Fr.nil n0
  have K0 : Keep h0 h0 [] := Keep.refl h0 []
  show Go p.tables e below _ (s₁.setTop (entryFrame m #[(.ref so)] 1))
  refine Go.start ?_
  intro G hG
  refine Go.st (fun t k => castTop (ef_olip1 m so) k) ?_
  show Go _ _ _ _ (s₁.setTop (mkF m 0 #[.val (.ref so)] []))
  refine Go.st (fun _ k => XS.aloadN X0.here hx rfl (hb hby d34_0) rfl rfl k) ?_
  show Go _ _ _ _ (s₁.setTop (mkF m 1 #[.val (.ref so)] [(.ref so)]))
  obtain ⟨T1, X1, e1, st1⟩ := getF X0 hx hZ hown (host := "") (Or.inl (ow hw 322 rfl)) Via.refl e0 Pf1 (g := (mkF m 1 #[.val (.ref so)] [(.ref so)])) rfl rfl (hb hby d34_1)
  refine Go.st st1 ?_
  show Go _ _ _ _ (T1.setTop (mkF m 4 #[.val (.ref so)] [(.int (1 : Int32))]))
  subst hG
  obtain ⟨fs, hr, hrun, hended, hW, hsame⟩ := X1.leave (v := some (.int (nar .boolean (1 : Int32)))) (fun h => by rw [Bd.returns] at h; cases h)
  refine ⟨_, _, ?_, hrun, hended, _, _, rfl, ?_, ⟨_, rfl⟩, hW, hsame.mono (by decide) (by decide)⟩
  · exact retN X1 hx (t := .boolean) Bd.returns (by simp) (hb hby d34_4) hr
  · show Q_olip1 Z so h0 n0 _ T1.heap _
    rw [e1]
    exact ⟨rfl, N0, rfl⟩
theorem ef_olip0 (m : MethodId) (so : Addr) : entryFrame m #[(.ref so)] 1 = mkF m 0 #[.val (.ref so)] [] := by first | (simp [entryFrame, mkF, argsToLocals, Value.category]; done) | rfl
def Q_olip0 (Z : State) (so : Addr) (h0 : Heap) (n0 : Nat) (v : Option Value) (h : Heap) (L : List Loc) : Prop := v = some (.int (0 : Int32)) ∧ Fr n0 L ∧ h = h0
set_option maxRecDepth 65536 in
set_option maxHeartbeats 40000000 in
theorem rm_olip0 (l : Launch) (Z : State) (a0 : Array Value) (hw : ∀ d ∈ tables_1, d.before a0 Z = true) (ws : List Jvm.Cond) (so : Addr) (h0 : Heap) (n0 : Nat) (Z0 : n0 ≤ h0.size) (Pf0 : Exa Z h0 so "java/util/OptionalLong") (Pf1 : Fld Z h0 so "java/util/OptionalLong" "isPresent" "Z" (.int (0 : Int32))) :
    MetFree l (⟨"java/util/OptionalLong", "isPresent", "()Z"⟩ : MethodName) (head1 (Jvm.Cond.code (⟨"java/util/OptionalLong", "isPresent", "()Z"⟩ : MethodName) jdk_2650_method_6_code 1 (some .boolean) :: ws) ({ frames := 0, cells := 0, slots := 0, locals := 0 } : Room)) (fun a U => a = #[(.ref so)] ∧ Z.Warmed39 U.vm ∧ U.heap = h0) (fun _ _ _ _ _ => True) (fun _ U o U' => ∃ v L, o = .returned v ∧ Q_olip0 Z so h0 n0 v U'.heap L ∧ FrameEnd U o U' L ({ frames := 0, cells := 0, slots := 0, locals := 0 } : Room).cells ({ frames := 0, cells := 0, slots := 0, locals := 0 } : Room).slots) := by
  refine MetFree.of_bodySF (plainFor_of_name pn_14) hisR ?_
  intro p e s m args below meth c s₁ Bd hml0 hP hK
  obtain ⟨rfl, hZ, hh⟩ := hP
  have hx := Bd.exec
  have hby := Bd.bytes
  have hml : c.maxLocals = 1 := hml0
  have hown : s.vm.findClass "java/util/OptionalLong" = some m.cls := findClass_of_methodNamed Bd.named
  have hnm := (name_of_methodNamed Bd.named Bd.method).1
  have X0 : Stand p l e ({ frames := 0, cells := 0, slots := 0, locals := 0 } : Room) s m #[(.ref so)] below meth c s₁ [] 0 0 := Stand.of_body Bd
  have e0 : s₁.heap = h0 := by rw [← hh, Bd.state]; rfl
  have N0 := Fr.nil n0
  have K0 : Keep h0 h0 [] := Keep.refl h0 []
  show Go p.tables e below _ (s₁.setTop (entryFrame m #[(.ref so)] 1))
  refine Go.start ?_
  intro G hG
  refine Go.st (fun t k => castTop (ef_olip0 m so) k) ?_
  show Go _ _ _ _ (s₁.setTop (mkF m 0 #[.val (.ref so)] []))
  refine Go.st (fun _ k => XS.aloadN X0.here hx rfl (hb hby d34_0) rfl rfl k) ?_
  show Go _ _ _ _ (s₁.setTop (mkF m 1 #[.val (.ref so)] [(.ref so)]))
  obtain ⟨T1, X1, e1, st1⟩ := getF X0 hx hZ hown (host := "") (Or.inl (ow hw 322 rfl)) Via.refl e0 Pf1 (g := (mkF m 1 #[.val (.ref so)] [(.ref so)])) rfl rfl (hb hby d34_1)
  refine Go.st st1 ?_
  show Go _ _ _ _ (T1.setTop (mkF m 4 #[.val (.ref so)] [(.int (0 : Int32))]))
  subst hG
  obtain ⟨fs, hr, hrun, hended, hW, hsame⟩ := X1.leave (v := some (.int (nar .boolean (0 : Int32)))) (fun h => by rw [Bd.returns] at h; cases h)
  refine ⟨_, _, ?_, hrun, hended, _, _, rfl, ?_, ⟨_, rfl⟩, hW, hsame.mono (by decide) (by decide)⟩
  · exact retN X1 hx (t := .boolean) Bd.returns (by simp) (hb hby d34_4) hr
  · show Q_olip0 Z so h0 n0 _ T1.heap _
    rw [e1]
    exact ⟨rfl, N0, rfl⟩
theorem d35_0 : decode jdk_2650_method_5_code 0 = .ok (.aload_n 0, 1) := by decide +kernel
theorem d35_1 : decode jdk_2650_method_5_code 1 = .ok (.getfield 7, 3) := by decide +kernel
theorem d35_4 : decode jdk_2650_method_5_code 4 = .ok (.ifCond .ne 13, 3) := by decide +kernel
theorem d35_17 : decode jdk_2650_method_5_code 17 = .ok (.aload_n 0, 1) := by decide +kernel
theorem d35_18 : decode jdk_2650_method_5_code 18 = .ok (.getfield 13, 3) := by decide +kernel
theorem d35_21 : decode jdk_2650_method_5_code 21 = .ok (.lreturn, 1) := by decide +kernel
theorem ef_olget (m : MethodId) (so : Addr) : entryFrame m #[(.ref so)] 1 = mkF m 0 #[.val (.ref so)] [] := by first | (simp [entryFrame, mkF, argsToLocals, Value.category]; done) | rfl
def Q_olget (Z : State) (so : Addr) (pv : Int64) (h0 : Heap) (n0 : Nat) (v : Option Value) (h : Heap) (L : List Loc) : Prop := v = some (.long pv) ∧ Fr n0 L ∧ h = h0
set_option maxRecDepth 65536 in
set_option maxHeartbeats 40000000 in
theorem rm_olget (l : Launch) (Z : State) (a0 : Array Value) (hw : ∀ d ∈ tables_1, d.before a0 Z = true) (ws : List Jvm.Cond) (so : Addr) (pv : Int64) (h0 : Heap) (n0 : Nat) (Z0 : n0 ≤ h0.size) (Pf0 : Exa Z h0 so "java/util/OptionalLong") (Pf1 : Fld Z h0 so "java/util/OptionalLong" "isPresent" "Z" (.int (1 : Int32))) (Pf2 : Fld Z h0 so "java/util/OptionalLong" "value" "J" (.long pv)) :
    MetFree l (⟨"java/util/OptionalLong", "getAsLong", "()J"⟩ : MethodName) (head1 (Jvm.Cond.code (⟨"java/util/OptionalLong", "getAsLong", "()J"⟩ : MethodName) jdk_2650_method_5_code 1 (some .long) :: ws) ({ frames := 0, cells := 0, slots := 0, locals := 0 } : Room)) (fun a U => a = #[(.ref so)] ∧ Z.Warmed39 U.vm ∧ U.heap = h0) (fun _ _ _ _ _ => True) (fun _ U o U' => ∃ v L, o = .returned v ∧ Q_olget Z so pv h0 n0 v U'.heap L ∧ FrameEnd U o U' L ({ frames := 0, cells := 0, slots := 0, locals := 0 } : Room).cells ({ frames := 0, cells := 0, slots := 0, locals := 0 } : Room).slots) := by
  refine MetFree.of_bodySF (plainFor_of_name pn_14) hisR ?_
  intro p e s m args below meth c s₁ Bd hml0 hP hK
  obtain ⟨rfl, hZ, hh⟩ := hP
  have hx := Bd.exec
  have hby := Bd.bytes
  have hml : c.maxLocals = 1 := hml0
  have hown : s.vm.findClass "java/util/OptionalLong" = some m.cls := findClass_of_methodNamed Bd.named
  have hnm := (name_of_methodNamed Bd.named Bd.method).1
  have X0 : Stand p l e ({ frames := 0, cells := 0, slots := 0, locals := 0 } : Room) s m #[(.ref so)] below meth c s₁ [] 0 0 := Stand.of_body Bd
  have e0 : s₁.heap = h0 := by rw [← hh, Bd.state]; rfl
  have N0 := Fr.nil n0
  have K0 : Keep h0 h0 [] := Keep.refl h0 []
  show Go p.tables e below _ (s₁.setTop (entryFrame m #[(.ref so)] 1))
  refine Go.start ?_
  intro G hG
  refine Go.st (fun t k => castTop (ef_olget m so) k) ?_
  show Go _ _ _ _ (s₁.setTop (mkF m 0 #[.val (.ref so)] []))
  refine Go.st (fun _ k => XS.aloadN X0.here hx rfl (hb hby d35_0) rfl rfl k) ?_
  show Go _ _ _ _ (s₁.setTop (mkF m 1 #[.val (.ref so)] [(.ref so)]))
  obtain ⟨T1, X1, e1, st1⟩ := getF X0 hx hZ hown (host := "") (Or.inl (ow hw 322 rfl)) Via.refl e0 Pf1 (g := (mkF m 1 #[.val (.ref so)] [(.ref so)])) rfl rfl (hb hby d35_1)
  refine Go.st st1 ?_
  show Go _ _ _ _ (T1.setTop (mkF m 4 #[.val (.ref so)] [(.int (1 : Int32))]))
  have hl2 : ¬ ((1 : Int32) = (0 : Int32)) := by decide
  refine Go.st (fun _ k => XS.ifYes X1.here hx rfl (pc0 := 4) (pc' := 17) rfl (hb hby d35_4) rfl (Jvm.Free.XT.i0_ne_t hl2) (by decide) (by decide) k) ?_
  show Go _ _ _ _ (T1.setTop (mkF m 17 #[.val (.ref so)] []))
  refine Go.st (fun _ k => XS.aloadN X1.here hx rfl (hb hby d35_17) rfl rfl k) ?_
  show Go _ _ _ _ (T1.setTop (mkF m 18 #[.val (.ref so)] [(.ref so)]))
  obtain ⟨T3, X3, e3, st3⟩ := getF X1 hx hZ hown (host := "") (Or.inl (ow hw 324 rfl)) Via.refl e1 Pf2 (g := (mkF m 18 #[.val (.ref so)] [(.ref so)])) rfl rfl (hb hby d35_18)
  refine Go.st st3 ?_
  show Go _ _ _ _ (T3.setTop (mkF m 21 #[.val (.ref so)] [(.long pv)]))
  subst hG
  obtain ⟨fs, hr, hrun, hended, hW, hsame⟩ := X3.leave (v := some (.long pv)) (fun h => by rw [Bd.returns] at h; cases h)
  refine ⟨_, _, ?_, hrun, hended, _, _, rfl, ?_, ⟨_, rfl⟩, hW, hsame.mono (by decide) (by decide)⟩
  · exact retOut X3 hx Bd.returns rfl (Or.inr (Or.inl ⟨rfl, rfl, _, rfl⟩)) (hb hby d35_21) hr
  · show Q_olget Z so pv h0 n0 _ T3.heap _
    rw [e3]
    exact ⟨rfl, N0, rfl⟩
theorem d36_0 : decode jdk_44_method_3_code 0 = .ok (.aload_n 0, 1) := by decide +kernel
theorem d36_1 : decode jdk_44_method_3_code 1 = .ok (.getfield 24, 3) := by decide +kernel
theorem d36_4 : decode jdk_44_method_3_code 4 = .ok (.getstatic 19, 3) := by decide +kernel
theorem d36_7 : decode jdk_44_method_3_code 7 = .ok (.if_acmp .eq 7, 3) := by decide +kernel
theorem d36_14 : decode jdk_44_method_3_code 14 = .ok (.iconst 1, 1) := by decide +kernel
theorem d36_15 : decode jdk_44_method_3_code 15 = .ok (.ireturn, 1) := by decide +kernel
theorem ef_l12s (m : MethodId) (so : Addr) : entryFrame m #[(.ref so)] 1 = mkF m 0 #[.val (.ref so)] [] := by first | (simp [entryFrame, mkF, argsToLocals, Value.category]; done) | rfl
def Q_l12s (Z : State) (so : Addr) (eo : Addr) (em : Addr) (h0 : Heap) (n0 : Nat) (v : Option Value) (h : Heap) (L : List Loc) : Prop := v = some (.int (1 : Int32)) ∧ Fr n0 L ∧ h = h0
set_option maxRecDepth 65536 in
set_option maxHeartbeats 40000000 in
theorem rm_l12s (l : Launch) (Z : State) (a0 : Array Value) (hw : ∀ d ∈ tables_1, d.before a0 Z = true) (ws : List Jvm.Cond) (so : Addr) (eo : Addr) (em : Addr) (h0 : Heap) (n0 : Nat) (Z0 : n0 ≤ h0.size) (Pf0 : Exa Z h0 so "java/util/ImmutableCollections$List12") (Pf1 : Fld Z h0 so "java/util/ImmutableCollections$List12" "e0" "Ljava/lang/Object;" (.ref eo)) (Pf2 : Fld Z h0 so "java/util/ImmutableCollections$List12" "e1" "Ljava/lang/Object;" (.ref em)) (Pf3 : Sta Z h0 "java/util/ImmutableCollections" "EMPTY" "Ljava/lang/Object;" (.ref em)) :
    MetFree l (⟨"java/util/ImmutableCollections$List12", "size", "()I"⟩ : MethodName) (head1 (Jvm.Cond.code (⟨"java/util/ImmutableCollections$List12", "size", "()I"⟩ : MethodName) jdk_44_method_3_code 1 (some .int) :: ws) ({ frames := 0, cells := 0, slots := 0, locals := 0 } : Room)) (fun a U => a = #[(.ref so)] ∧ Z.Warmed39 U.vm ∧ U.heap = h0) (fun _ _ _ _ _ => True) (fun _ U o U' => ∃ v L, o = .returned v ∧ Q_l12s Z so eo em h0 n0 v U'.heap L ∧ FrameEnd U o U' L ({ frames := 0, cells := 0, slots := 0, locals := 0 } : Room).cells ({ frames := 0, cells := 0, slots := 0, locals := 0 } : Room).slots) := by
  refine MetFree.of_bodySF (plainFor_of_name pn_10) hisR ?_
  intro p e s m args below meth c s₁ Bd hml0 hP hK
  obtain ⟨rfl, hZ, hh⟩ := hP
  have hx := Bd.exec
  have hby := Bd.bytes
  have hml : c.maxLocals = 1 := hml0
  have hown : s.vm.findClass "java/util/ImmutableCollections$List12" = some m.cls := findClass_of_methodNamed Bd.named
  have hnm := (name_of_methodNamed Bd.named Bd.method).1
  have X0 : Stand p l e ({ frames := 0, cells := 0, slots := 0, locals := 0 } : Room) s m #[(.ref so)] below meth c s₁ [] 0 0 := Stand.of_body Bd
  have e0 : s₁.heap = h0 := by rw [← hh, Bd.state]; rfl
  have N0 := Fr.nil n0
  have K0 : Keep h0 h0 [] := Keep.refl h0 []
  show Go p.tables e below _ (s₁.setTop (entryFrame m #[(.ref so)] 1))
  refine Go.start ?_
  intro G hG
  refine Go.st (fun t k => castTop (ef_l12s m so) k) ?_
  show Go _ _ _ _ (s₁.setTop (mkF m 0 #[.val (.ref so)] []))
  refine Go.st (fun _ k => XS.aloadN X0.here hx rfl (hb hby d36_0) rfl rfl k) ?_
  show Go _ _ _ _ (s₁.setTop (mkF m 1 #[.val (.ref so)] [(.ref so)]))
  obtain ⟨T1, X1, e1, st1⟩ := getF X0 hx hZ hown (host := "") (Or.inl (ow hw 219 rfl)) Via.refl e0 Pf2 (g := (mkF m 1 #[.val (.ref so)] [(.ref so)])) rfl rfl (hb hby d36_1)
  refine Go.st st1 ?_
  show Go _ _ _ _ (T1.setTop (mkF m 4 #[.val (.ref so)] [(.ref em)]))
  obtain ⟨T2, X2, e2, st2⟩ := getS2 X1 hx hZ hown (Or.inr (ow hw 218 rfl)) Via.refl e1 Pf3 (g := (mkF m 4 #[.val (.ref so)] [(.ref em)])) rfl (hb hby d36_4)
  refine Go.st st2 ?_
  show Go _ _ _ _ (T2.setTop (mkF m 7 #[.val (.ref so)] [(.ref em), (.ref em)]))
  refine Go.st (fun _ k => Jvm.RoadKit.acmp (g := (mkF m 7 #[.val (.ref so)] [(.ref em), (.ref em)])) X2 hx rfl rfl rfl (pc0 := 7) (pc' := 14) (same := true) rfl (hb hby d36_7) rfl (decide_eq_true rfl) (by decide) (by decide) k) ?_
  show Go _ _ _ _ (T2.setTop (mkF m 14 #[.val (.ref so)] []))
  refine Go.st (fun _ k => XS.iconst X2.here hx rfl (hb hby d36_14) k) ?_
  show Go _ _ _ _ (T2.setTop (mkF m 15 #[.val (.ref so)] [(.int (1 : Int32))]))
  subst hG
  obtain ⟨fs, hr, hrun, hended, hW, hsame⟩ := X2.leave (v := some (.int (1 : Int32))) (fun h => by rw [Bd.returns] at h; cases h)
  refine ⟨_, _, ?_, hrun, hended, _, _, rfl, ?_, ⟨_, rfl⟩, hW, hsame.mono (by decide) (by decide)⟩
  · exact retI X2 hx Bd.returns (hb hby d36_15) hr
  · show Q_l12s Z so eo em h0 n0 _ T2.heap _
    rw [e2]
    exact ⟨rfl, N0, rfl⟩
theorem d37_0 : decode jdk_44_method_5_code 0 = .ok (.iload_n 1, 1) := by decide +kernel
theorem d37_1 : decode jdk_44_method_5_code 1 = .ok (.ifCond .ne 8, 3) := by decide +kernel
theorem d37_4 : decode jdk_44_method_5_code 4 = .ok (.aload_n 0, 1) := by decide +kernel
theorem d37_5 : decode jdk_44_method_5_code 5 = .ok (.getfield 13, 3) := by decide +kernel
theorem d37_8 : decode jdk_44_method_5_code 8 = .ok (.areturn, 1) := by decide +kernel
theorem ef_l12g (m : MethodId) (so : Addr) (pi : Int32) : entryFrame m #[(.ref so), (.int pi)] 2 = mkF m 0 #[.val (.ref so), .val (.int pi)] [] := by first | (simp [entryFrame, mkF, argsToLocals, Value.category]; done) | rfl
def Q_l12g (Z : State) (so : Addr) (pi : Int32) (eo : Addr) (em : Addr) (h0 : Heap) (n0 : Nat) (v : Option Value) (h : Heap) (L : List Loc) : Prop := v = some (.ref eo) ∧ Fr n0 L ∧ h = h0
set_option maxRecDepth 65536 in
set_option maxHeartbeats 40000000 in
theorem rm_l12g (l : Launch) (Z : State) (a0 : Array Value) (hw : ∀ d ∈ tables_1, d.before a0 Z = true) (ws : List Jvm.Cond) (so : Addr) (pi : Int32) (eo : Addr) (em : Addr) (h0 : Heap) (n0 : Nat) (Z0 : n0 ≤ h0.size) (Pf0 : Exa Z h0 so "java/util/ImmutableCollections$List12") (Pf1 : Fld Z h0 so "java/util/ImmutableCollections$List12" "e0" "Ljava/lang/Object;" (.ref eo)) (Pf2 : Fld Z h0 so "java/util/ImmutableCollections$List12" "e1" "Ljava/lang/Object;" (.ref em)) (hpi : pi = (0 : Int32)) :
    MetFree l (⟨"java/util/ImmutableCollections$List12", "get", "(I)Ljava/lang/Object;"⟩ : MethodName) (head1 (Jvm.Cond.code (⟨"java/util/ImmutableCollections$List12", "get", "(I)Ljava/lang/Object;"⟩ : MethodName) jdk_44_method_5_code 2 (some (.object "java/lang/Object")) :: ws) ({ frames := 0, cells := 0, slots := 0, locals := 0 } : Room)) (fun a U => a = #[(.ref so), (.int pi)] ∧ Z.Warmed39 U.vm ∧ U.heap = h0) (fun _ _ _ _ _ => True) (fun _ U o U' => ∃ v L, o = .returned v ∧ Q_l12g Z so pi eo em h0 n0 v U'.heap L ∧ FrameEnd U o U' L ({ frames := 0, cells := 0, slots := 0, locals := 0 } : Room).cells ({ frames := 0, cells := 0, slots := 0, locals := 0 } : Room).slots) := by
  refine MetFree.of_bodySF (plainFor_of_name pn_10) hisR ?_
  intro p e s m args below meth c s₁ Bd hml0 hP hK
  obtain ⟨rfl, hZ, hh⟩ := hP
  have hx := Bd.exec
  have hby := Bd.bytes
  have hml : c.maxLocals = 2 := hml0
  have hown : s.vm.findClass "java/util/ImmutableCollections$List12" = some m.cls := findClass_of_methodNamed Bd.named
  have hnm := (name_of_methodNamed Bd.named Bd.method).1
  have X0 : Stand p l e ({ frames := 0, cells := 0, slots := 0, locals := 0 } : Room) s m #[(.ref so), (.int pi)] below meth c s₁ [] 0 0 := Stand.of_body Bd
  have e0 : s₁.heap = h0 := by rw [← hh, Bd.state]; rfl
  have N0 := Fr.nil n0
  have K0 : Keep h0 h0 [] := Keep.refl h0 []
  show Go p.tables e below _ (s₁.setTop (entryFrame m #[(.ref so), (.int pi)] 2))
  refine Go.start ?_
  intro G hG
  refine Go.st (fun t k => castTop (ef_l12g m so pi) k) ?_
  subst hpi
  show Go _ _ _ _ (s₁.setTop (mkF m 0 #[.val (.ref so), .val (.int (0 : Int32))] []))
  refine Go.st (fun _ k => XS.iloadN X0.here hx rfl (hb hby d37_0) rfl k) ?_
  show Go _ _ _ _ (s₁.setTop (mkF m 1 #[.val (.ref so), .val (.int (0 : Int32))] [(.int (0 : Int32))]))
  have hl1 : (0 : Int32) = (0 : Int32) := by decide
  refine Go.st (fun _ k => XS.ifNo X0.here hx rfl (hb hby d37_1) rfl (Jvm.Free.XT.i0_ne_f hl1) k) ?_
  show Go _ _ _ _ (s₁.setTop (mkF m 4 #[.val (.ref so), .val (.int (0 : Int32))] []))
  refine Go.st (fun _ k => XS.aloadN X0.here hx rfl (hb hby d37_4) rfl rfl k) ?_
  show Go _ _ _ _ (s₁.setTop (mkF m 5 #[.val (.ref so), .val (.int (0 : Int32))] [(.ref so)]))
  obtain ⟨T2, X2, e2, st2⟩ := getF X0 hx hZ hown (host := "") (Or.inl (ow hw 216 rfl)) Via.refl e0 Pf1 (g := (mkF m 5 #[.val (.ref so), .val (.int (0 : Int32))] [(.ref so)])) rfl rfl (hb hby d37_5)
  refine Go.st st2 ?_
  show Go _ _ _ _ (T2.setTop (mkF m 8 #[.val (.ref so), .val (.int (0 : Int32))] [(.ref eo)]))
  subst hG
  obtain ⟨fs, hr, hrun, hended, hW, hsame⟩ := X2.leave (v := some (.ref eo)) (fun h => by rw [Bd.returns] at h; cases h)
  refine ⟨_, _, ?_, hrun, hended, _, _, rfl, ?_, ⟨_, rfl⟩, hW, hsame.mono (by decide) (by decide)⟩
  · exact retOut X2 hx Bd.returns rfl (Or.inr (Or.inr (Or.inr (Or.inr ⟨rfl, rfl, rfl⟩)))) (hb hby d37_8) hr
  · show Q_l12g Z so (0 : Int32) eo em h0 n0 _ T2.heap _
    rw [e2]
    exact ⟨rfl, N0, rfl⟩
theorem pn_15 : plainName "java/util/ImmutableCollections$ListN" = true := by first | (simp [plainName, overriddenIn]; done) | decide +kernel
theorem d38_0 : decode jdk_45_method_3_code 0 = .ok (.aload_n 0, 1) := by decide +kernel
theorem d38_1 : decode jdk_45_method_3_code 1 = .ok (.getfield 7, 3) := by decide +kernel
theorem d38_4 : decode jdk_45_method_3_code 4 = .ok (.arraylength, 1) := by decide +kernel
theorem d38_5 : decode jdk_45_method_3_code 5 = .ok (.ireturn, 1) := by decide +kernel
theorem ef_lns (m : MethodId) (el : Addr) : entryFrame m #[(.ref el)] 1 = mkF m 0 #[.val (.ref el)] [] := by first | (simp [entryFrame, mkF, argsToLocals, Value.category]; done) | rfl
def Q_lns (Z : State) (el : Addr) (le : Addr) (kl : ClassId) (h0 : Heap) (n0 : Nat) (v : Option Value) (h : Heap) (L : List Loc) : Prop := v = some (.int (0 : Int32)) ∧ Fr n0 L ∧ h = h0
set_option maxRecDepth 65536 in
set_option maxHeartbeats 40000000 in
theorem rm_lns (l : Launch) (Z : State) (a0 : Array Value) (hw : ∀ d ∈ tables_1, d.before a0 Z = true) (ws : List Jvm.Cond) (el : Addr) (le : Addr) (kl : ClassId) (h0 : Heap) (n0 : Nat) (Z0 : n0 ≤ h0.size) (Pf0 : Exa Z h0 el "java/util/ImmutableCollections$ListN") (Pf1 : Fld Z h0 el "java/util/ImmutableCollections$ListN" "elements" "[Ljava/lang/Object;" (.ref le)) (Pf2 : Arv Z h0 le kl (.object "java/lang/Object") (0 : Int32) [] .null) (Pf3 : Exa Z h0 le "[Ljava/lang/Object;") :
    MetFree l (⟨"java/util/ImmutableCollections$ListN", "size", "()I"⟩ : MethodName) (head1 (Jvm.Cond.code (⟨"java/util/ImmutableCollections$ListN", "size", "()I"⟩ : MethodName) jdk_45_method_3_code 1 (some .int) :: ws) ({ frames := 0, cells := 0, slots := 0, locals := 0 } : Room)) (fun a U => a = #[(.ref el)] ∧ Z.Warmed39 U.vm ∧ U.heap = h0) (fun _ _ _ _ _ => True) (fun _ U o U' => ∃ v L, o = .returned v ∧ Q_lns Z el le kl h0 n0 v U'.heap L ∧ FrameEnd U o U' L ({ frames := 0, cells := 0, slots := 0, locals := 0 } : Room).cells ({ frames := 0, cells := 0, slots := 0, locals := 0 } : Room).slots) := by
  refine MetFree.of_bodySF (plainFor_of_name pn_15) hisR ?_
  intro p e s m args below meth c s₁ Bd hml0 hP hK
  obtain ⟨rfl, hZ, hh⟩ := hP
  have hx := Bd.exec
  have hby := Bd.bytes
  have hml : c.maxLocals = 1 := hml0
  have hown : s.vm.findClass "java/util/ImmutableCollections$ListN" = some m.cls := findClass_of_methodNamed Bd.named
  have hnm := (name_of_methodNamed Bd.named Bd.method).1
  have X0 : Stand p l e ({ frames := 0, cells := 0, slots := 0, locals := 0 } : Room) s m #[(.ref el)] below meth c s₁ [] 0 0 := Stand.of_body Bd
  have e0 : s₁.heap = h0 := by rw [← hh, Bd.state]; rfl
  have N0 := Fr.nil n0
  have K0 : Keep h0 h0 [] := Keep.refl h0 []
  show Go p.tables e below _ (s₁.setTop (entryFrame m #[(.ref el)] 1))
  refine Go.start ?_
  intro G hG
  refine Go.st (fun t k => castTop (ef_lns m el) k) ?_
  show Go _ _ _ _ (s₁.setTop (mkF m 0 #[.val (.ref el)] []))
  refine Go.st (fun _ k => XS.aloadN X0.here hx rfl (hb hby d38_0) rfl rfl k) ?_
  show Go _ _ _ _ (s₁.setTop (mkF m 1 #[.val (.ref el)] [(.ref el)]))
  obtain ⟨T1, X1, e1, st1⟩ := getF X0 hx hZ hown (host := "") (Or.inl (ow hw 374 rfl)) Via.refl e0 Pf1 (g := (mkF m 1 #[.val (.ref el)] [(.ref el)])) rfl rfl (hb hby d38_1)
  refine Go.st st1 ?_
  show Go _ _ _ _ (T1.setTop (mkF m 4 #[.val (.ref el)] [(.ref le)]))
  obtain ⟨cl2, Ar2, -, S2, M2, -, -⟩ := id Pf2
  refine Go.st (fun _ k => X1.arraylength hx (by rw [e1]; exact Ar2.1) (State.isArrayOf_alike hZ.alike Ar2.2.1) (g := (mkF m 4 #[.val (.ref el)] [(.ref le)])) rfl rfl (hb hby d38_4) _ k) ?_
  rw [len_of S2 M2]
  show Go _ _ _ _ (T1.setTop (mkF m 5 #[.val (.ref el)] [(.int (0 : Int32))]))
  subst hG
  obtain ⟨fs, hr, hrun, hended, hW, hsame⟩ := X1.leave (v := some (.int (0 : Int32))) (fun h => by rw [Bd.returns] at h; cases h)
  refine ⟨_, _, ?_, hrun, hended, _, _, rfl, ?_, ⟨_, rfl⟩, hW, hsame.mono (by decide) (by decide)⟩
  · exact retI X1 hx Bd.returns (hb hby d38_5) hr
  · show Q_lns Z el le kl h0 n0 _ T1.heap _
    rw [e1]
    exact ⟨rfl, N0, rfl⟩
theorem pd_18 : parseMethodDescriptor "()I" = some ⟨[], some .int⟩ := by decide +kernel
theorem pd_19 : parseMethodDescriptor "(I)Ljava/lang/Object;" = some ⟨[.int], some (.object "java/lang/Object")⟩ := by decide +kernel
theorem pd_20 : parseMethodDescriptor "(J)Ljava/util/OptionalLong;" = some ⟨[.long], some (.object "java/util/OptionalLong")⟩ := by decide +kernel
theorem d39_0 : decode prog_8_method_2_code 0 = .ok (.iload_n 1, 1) := by decide +kernel
theorem d39_1 : decode prog_8_method_2_code 1 = .ok (.aload_n 0, 1) := by decide +kernel
theorem d39_2 : decode prog_8_method_2_code 2 = .ok (.getfield 46, 3) := by decide +kernel
theorem d39_5 : decode prog_8_method_2_code 5 = .ok (.invokeinterface 50 1, 5) := by decide +kernel
theorem d39_10 : decode prog_8_method_2_code 10 = .ok (.if_icmp .gt 27, 3) := by decide +kernel
theorem d39_13 : decode prog_8_method_2_code 13 = .ok (.aload_n 0, 1) := by decide +kernel
theorem d39_14 : decode prog_8_method_2_code 14 = .ok (.getfield 46, 3) := by decide +kernel
theorem d39_17 : decode prog_8_method_2_code 17 = .ok (.iload_n 1, 1) := by decide +kernel
theorem d39_18 : decode prog_8_method_2_code 18 = .ok (.iconst 1, 1) := by decide +kernel
theorem d39_19 : decode prog_8_method_2_code 19 = .ok (.isub, 1) := by decide +kernel
theorem d39_20 : decode prog_8_method_2_code 20 = .ok (.invokeinterface 54 2, 5) := by decide +kernel
theorem d39_25 : decode prog_8_method_2_code 25 = .ok (.checkcast 23, 3) := by decide +kernel
theorem d39_28 : decode prog_8_method_2_code 28 = .ok (.invokevirtual 25, 3) := by decide +kernel
theorem d39_31 : decode prog_8_method_2_code 31 = .ok (.invokestatic 58, 3) := by decide +kernel
theorem d39_34 : decode prog_8_method_2_code 34 = .ok (.goto 6, 3) := by decide +kernel
theorem d39_40 : decode prog_8_method_2_code 40 = .ok (.areturn, 1) := by decide +kernel
theorem ef_dela1 (m : MethodId) (so : Addr) (pf : Int32) : entryFrame m #[(.ref so), (.int pf)] 2 = mkF m 0 #[.val (.ref so), .val (.int pf)] [] := by first | (simp [entryFrame, mkF, argsToLocals, Value.category]; done) | rfl
def Q_dela1 (Z : State) (so : Addr) (pf : Int32) (fl : Addr) (eo : Addr) (em : Addr) (pv : Int64) (h0 : Heap) (n0 : Nat) (v : Option Value) (h : Heap) (L : List Loc) : Prop := ∃ fr : Addr, v = some (.ref fr) ∧ Fr n0 L ∧ Keep h0 h [] ∧ n0 ≤ fr ∧ h0.size ≤ fr ∧ Exa Z h fr "java/util/OptionalLong" ∧ Fld Z h fr "java/util/OptionalLong" "isPresent" "Z" (.int (1 : Int32)) ∧ Fld Z h fr "java/util/OptionalLong" "value" "J" (.long pv)
set_option maxRecDepth 65536 in
set_option maxHeartbeats 40000000 in
theorem rm_dela1 (l : Launch) (Z : State) (a0 : Array Value) (hw : ∀ d ∈ tables_1, d.before a0 Z = true) (ws : List Jvm.Cond) (so : Addr) (pf : Int32) (fl : Addr) (eo : Addr) (em : Addr) (pv : Int64) (h0 : Heap) (n0 : Nat) (Z0 : n0 ≤ h0.size) (Pf0 : Exa Z h0 so "com/example/lapsed/lapsed/RetryPolicy") (Pf1 : Fld Z h0 so "com/example/lapsed/lapsed/RetryPolicy" "delaysMs" "Ljava/util/List;" (.ref fl)) (Pf2 : Exa Z h0 fl "java/util/ImmutableCollections$List12") (Pf3 : Fld Z h0 fl "java/util/ImmutableCollections$List12" "e0" "Ljava/lang/Object;" (.ref eo)) (Pf4 : Fld Z h0 fl "java/util/ImmutableCollections$List12" "e1" "Ljava/lang/Object;" (.ref em)) (Pf5 : Exa Z h0 eo "java/lang/Long") (Pf6 : Fld Z h0 eo "java/lang/Long" "value" "J" (.long pv)) (Pf7 : Sta Z h0 "java/util/ImmutableCollections" "EMPTY" "Ljava/lang/Object;" (.ref em)) (hpf : pf = (1 : Int32)) :
    MetFree l (⟨"com/example/lapsed/lapsed/RetryPolicy", "delayAfter", "(I)Ljava/util/OptionalLong;"⟩ : MethodName) (head1 (Jvm.Cond.code (⟨"com/example/lapsed/lapsed/RetryPolicy", "delayAfter", "(I)Ljava/util/OptionalLong;"⟩ : MethodName) prog_8_method_2_code 2 (some (.object "java/util/OptionalLong")) :: ws) ({ frames := 3, cells := 1, slots := 2, locals := 40 } : Room)) (fun a U => a = #[(.ref so), (.int pf)] ∧ Z.Warmed39 U.vm ∧ U.heap = h0) (fun _ _ _ _ _ => True) (fun _ U o U' => ∃ v L, o = .returned v ∧ Q_dela1 Z so pf fl eo em pv h0 n0 v U'.heap L ∧ FrameEnd U o U' L ({ frames := 3, cells := 1, slots := 2, locals := 40 } : Room).cells ({ frames := 3, cells := 1, slots := 2, locals := 40 } : Room).slots) := by
  refine MetFree.of_bodySF (plainFor_of_name pn_13) hisR ?_
  intro p e s m args below meth c s₁ Bd hml0 hP hK
  obtain ⟨rfl, hZ, hh⟩ := hP
  have hx := Bd.exec
  have hby := Bd.bytes
  have hml : c.maxLocals = 2 := hml0
  have hown : s.vm.findClass "com/example/lapsed/lapsed/RetryPolicy" = some m.cls := findClass_of_methodNamed Bd.named
  have hnm := (name_of_methodNamed Bd.named Bd.method).1
  have X0 : Stand p l e ({ frames := 3, cells := 1, slots := 2, locals := 40 } : Room) s m #[(.ref so), (.int pf)] below meth c s₁ [] 0 0 := Stand.of_body Bd
  have e0 : s₁.heap = h0 := by rw [← hh, Bd.state]; rfl
  have N0 := Fr.nil n0
  have K0 : Keep h0 h0 [] := Keep.refl h0 []
  show Go p.tables e below _ (s₁.setTop (entryFrame m #[(.ref so), (.int pf)] 2))
  refine Go.start ?_
  intro G hG
  refine Go.st (fun t k => castTop (ef_dela1 m so pf) k) ?_
  subst hpf
  show Go _ _ _ _ (s₁.setTop (mkF m 0 #[.val (.ref so), .val (.int (1 : Int32))] []))
  refine Go.st (fun _ k => XS.iloadN X0.here hx rfl (hb hby d39_0) rfl k) ?_
  show Go _ _ _ _ (s₁.setTop (mkF m 1 #[.val (.ref so), .val (.int (1 : Int32))] [(.int (1 : Int32))]))
  refine Go.st (fun _ k => XS.aloadN X0.here hx rfl (hb hby d39_1) rfl rfl k) ?_
  show Go _ _ _ _ (s₁.setTop (mkF m 2 #[.val (.ref so), .val (.int (1 : Int32))] [(.ref so), (.int (1 : Int32))]))
  obtain ⟨T1, X1, e1, st1⟩ := getF X0 hx hZ hown (host := "") (Or.inl (ow hw 221 rfl)) Via.refl e0 Pf1 (g := (mkF m 2 #[.val (.ref so), .val (.int (1 : Int32))] [(.ref so), (.int (1 : Int32))])) rfl rfl (hb hby d39_2)
  refine Go.st st1 ?_
  show Go _ _ _ _ (T1.setTop (mkF m 5 #[.val (.ref so), .val (.int (1 : Int32))] [(.ref fl), (.int (1 : Int32))]))
  obtain ⟨cq2, kq2, q2a, q2b, q2c⟩ := isOf hZ e1 Pf2
  obtain ⟨_, _, ⟨T2, L2, k2, n2⟩, -, X2, ⟨Lc2, hQ2, l2, y2, z2⟩, st2⟩ := X1.interfaceBack hx (xi := (⟨"java/util/List", "size", "()I"⟩ : MethodName)) (y := (⟨"java/util/ImmutableCollections$List12", "size", "()I"⟩ : MethodName)) hown (mvT hZ (ow hw 294 rfl)) (mvT hZ (ow hw 295 rfl)) (mvT hZ (ow hw 296 rfl)) (mvT hZ (ow hw 297 rfl)) (mvT hZ (ow hw 298 rfl)) (mvT hZ (ow hw 299 rfl)) (mvT hZ (ow hw 300 rfl)) (mvT hZ (ow hw 301 rfl)) (by decide) (backOf (W := 1) (rm_l12s l Z a0 hw [] fl eo em h0 n0 Z0 Pf2 Pf3 Pf4 Pf7) hZ (ow hw 302 rfl) (ow hw 193 rfl) (by decide) (by decide)) q2a q2b q2c (g := (mkF m 5 #[.val (.ref so), .val (.int (1 : Int32))] [(.ref fl), (.int (1 : Int32))])) rfl (by rw [hml]; rfl) (Steps.refl _) (argsL := []) (rest := [(.int (1 : Int32))]) (lenOf pd_18 rfl) rfl (by show 2 * 0 + _ ≤ _; exact Nat.le_of_eq rfl) (hb hby d39_5) (fun _ _ => ⟨rfl, e1, (by decide : 0 + 0 ≤ _), (by decide : 0 + 0 ≤ _)⟩)
  dsimp only [Pt.U, Pt.locs, Pt.cells, Pt.slots] at X2 l2 y2 z2 st2 hQ2
  rw [l2, y2, z2] at X2
  obtain ⟨rfl, N2q, e2⟩ := hQ2
  have N2 := Fr.app N0 N2q
  refine Go.st (fun _ k => st2.trans k) ?_
  show Go _ _ _ _ (T2.setTop (mkF m 10 #[.val (.ref so), .val (.int (1 : Int32))] [(.int (1 : Int32)), (.int (1 : Int32))]))
  have hl3 : ¬ ((1 : Int32) < (1 : Int32)) := by decide
  refine Go.st (fun _ k => XS.icmpNo X2.here hx rfl (hb hby d39_10) rfl (Jvm.Free.XT.ii_gt_f hl3) k) ?_
  show Go _ _ _ _ (T2.setTop (mkF m 13 #[.val (.ref so), .val (.int (1 : Int32))] []))
  refine Go.st (fun _ k => XS.aloadN X2.here hx rfl (hb hby d39_13) rfl rfl k) ?_
  show Go _ _ _ _ (T2.setTop (mkF m 14 #[.val (.ref so), .val (.int (1 : Int32))] [(.ref so)]))
  obtain ⟨T4, X4, e4, st4⟩ := getF X2 hx hZ hown (host := "") (Or.inl (ow hw 221 rfl)) Via.refl e2 Pf1 (g := (mkF m 14 #[.val (.ref so), .val (.int (1 : Int32))] [(.ref so)])) rfl rfl (hb hby d39_14)
  refine Go.st st4 ?_
  show Go _ _ _ _ (T4.setTop (mkF m 17 #[.val (.ref so), .val (.int (1 : Int32))] [(.ref fl)]))
  refine Go.st (fun _ k => XS.iloadN X4.here hx rfl (hb hby d39_17) rfl k) ?_
  show Go _ _ _ _ (T4.setTop (mkF m 18 #[.val (.ref so), .val (.int (1 : Int32))] [(.int (1 : Int32)), (.ref fl)]))
  refine Go.st (fun _ k => XS.iconst X4.here hx rfl (hb hby d39_18) k) ?_
  show Go _ _ _ _ (T4.setTop (mkF m 19 #[.val (.ref so), .val (.int (1 : Int32))] [(.int (1 : Int32)), (.int (1 : Int32)), (.ref fl)]))
  refine Go.st (fun _ k => XS.isub X4.here hx rfl (hb hby d39_19) rfl k) ?_
  show Go _ _ _ _ (T4.setTop (mkF m 20 #[.val (.ref so), .val (.int (1 : Int32))] [(.int ((1 : Int32) - (1 : Int32))), (.ref fl)]))
  rw [show ((1 : Int32) - (1 : Int32)) = (0 : Int32) from by decide]
  show Go _ _ _ _ (T4.setTop (mkF m 20 #[.val (.ref so), .val (.int (1 : Int32))] [(.int (0 : Int32)), (.ref fl)]))
  obtain ⟨cq5, kq5, q5a, q5b, q5c⟩ := isOf hZ e4 Pf2
  obtain ⟨_, _, ⟨T5, L5, k5, n5⟩, -, X5, ⟨Lc5, hQ5, l5, y5, z5⟩, st5⟩ := X4.interfaceBack hx (xi := (⟨"java/util/List", "get", "(I)Ljava/lang/Object;"⟩ : MethodName)) (y := (⟨"java/util/ImmutableCollections$List12", "get", "(I)Ljava/lang/Object;"⟩ : MethodName)) hown (mvT hZ (ow hw 303 rfl)) (mvT hZ (ow hw 304 rfl)) (mvT hZ (ow hw 305 rfl)) (mvT hZ (ow hw 306 rfl)) (mvT hZ (ow hw 307 rfl)) (mvT hZ (ow hw 308 rfl)) (mvT hZ (ow hw 309 rfl)) (mvT hZ (ow hw 301 rfl)) (by decide) (backOf (W := 0) (rm_l12g l Z a0 hw [] fl (0 : Int32) eo em h0 n0 Z0 Pf2 Pf3 Pf4 (by show (0 : Int32) = (0 : Int32); exact rfl)) hZ (ow hw 310 rfl) (ow hw 193 rfl) (by decide) (by decide)) q5a q5b q5c (g := (mkF m 20 #[.val (.ref so), .val (.int (1 : Int32))] [(.int (0 : Int32)), (.ref fl)])) rfl (by rw [hml]; rfl) (Steps.refl _) (argsL := [(.int (0 : Int32))]) (rest := []) (lenOf pd_19 rfl) rfl (by show 2 * 0 + _ ≤ _; exact Nat.le_of_eq rfl) (hb hby d39_20) (fun _ _ => ⟨rfl, e4, (by decide : 0 + 0 ≤ _), (by decide : 0 + 0 ≤ _)⟩)
  dsimp only [Pt.U, Pt.locs, Pt.cells, Pt.slots] at X5 l5 y5 z5 st5 hQ5
  rw [l5, y5, z5] at X5
  obtain ⟨rfl, N5q, e5⟩ := hQ5
  have N5 := Fr.app N2 N5q
  refine Go.st (fun _ k => st5.trans k) ?_
  show Go _ _ _ _ (T5.setTop (mkF m 25 #[.val (.ref so), .val (.int (1 : Int32))] [(.ref eo)]))
  obtain ⟨T6, X6, e6, st6⟩ := castY X5 hx hZ hown (ow hw 125 rfl) e5 (Ins.self Pf5) (g := (mkF m 25 #[.val (.ref so), .val (.int (1 : Int32))] [(.ref eo)])) rfl rfl (hb hby d39_25)
  refine Go.st st6 ?_
  show Go _ _ _ _ (T6.setTop (mkF m 28 #[.val (.ref so), .val (.int (1 : Int32))] [(.ref eo)]))
  obtain ⟨cq7, kq7, q7a, q7b, q7c⟩ := isOf hZ e6 Pf5
  obtain ⟨_, _, ⟨T7, L7, k7, n7⟩, -, X7, ⟨Lc7, hQ7, l7, y7, z7⟩, st7⟩ := X6.virtualBack hx (y := (⟨"java/lang/Long", "longValue", "()J"⟩ : MethodName)) (z := (⟨"java/lang/Long", "longValue", "()J"⟩ : MethodName)) hown (mvT hZ (ow hw 127 rfl)) (mvT hZ (ow hw 128 rfl)) (notFace_of_selects (args := #[]) (mvT hZ (ow hw 130 rfl))) (mvT hZ (ow hw 130 rfl)) (mvT hZ (ow hw 129 rfl)) (by decide) (backOf (W := 0) (rm_lgv l Z a0 hw [] eo pv h0 n0 Z0 Pf5 Pf6) hZ (ow hw 131 rfl) (ow hw 31 rfl) (by decide) (by decide)) q7a q7c (g := (mkF m 28 #[.val (.ref so), .val (.int (1 : Int32))] [(.ref eo)])) rfl (by rw [hml]; rfl) (Steps.refl _) (argsL := []) (rest := []) (lenOf pd_17 rfl) rfl (by show 2 * 0 + _ ≤ _; exact Nat.le_of_eq rfl) (hb hby d39_28) (fun _ _ => ⟨rfl, e6, (by decide : 0 + 0 ≤ _), (by decide : 0 + 0 ≤ _)⟩)
  dsimp only [Pt.U, Pt.locs, Pt.cells, Pt.slots] at X7 l7 y7 z7 st7 hQ7
  rw [l7, y7, z7] at X7
  obtain ⟨rfl, N7q, e7⟩ := hQ7
  have N7 := Fr.app N5 N7q
  refine Go.st (fun _ k => st7.trans k) ?_
  show Go _ _ _ _ (T7.setTop (mkF m 31 #[.val (.ref so), .val (.int (1 : Int32))] [(.long pv)]))
  obtain ⟨_, _, ⟨T8, L8, k8, n8⟩, -, X8, ⟨Lc8, hQ8, l8, y8, z8⟩, st8⟩ := Jvm.LawKit.callS X7 hx (y := (⟨"java/util/OptionalLong", "of", "(J)Ljava/util/OptionalLong;"⟩ : MethodName)) hown (mvT hZ (ow hw 311 rfl)) (mvT hZ (ow hw 312 rfl)) (mvT hZ (ow hw 313 rfl)) (mvT hZ (ow hw 314 rfl)) (by decide) (backOf (W := 0) (rm_olof l Z a0 hw [] pv h0 n0 Z0 ) hZ (ow hw 314 rfl) (ow hw 313 rfl) (by decide) (by decide)) (g := (mkF m 31 #[.val (.ref so), .val (.int (1 : Int32))] [(.long pv)])) rfl (by rw [hml]; rfl) (argsL := [(.long pv)]) (rest := []) (lenOf pd_20 rfl) rfl (by show 2 * 0 + _ ≤ _; exact Nat.le_of_eq rfl) (hb hby d39_31) (fun _ _ => ⟨rfl, e7, (by decide : 0 + 1 ≤ _), (by decide : 0 + 2 ≤ _)⟩)
  dsimp only [Pt.U, Pt.locs, Pt.cells, Pt.slots] at X8 l8 y8 z8 st8 hQ8
  rw [l8, y8, z8] at X8
  obtain ⟨b8_fr, rfl, N8q, K8q, g8_fr, s8_fr, Fq8_0, Fq8_1, Fq8_2⟩ := hQ8
  have N8 := Fr.app N7 N8q
  refine Go.st st8 ?_
  have ne9 := om_ Pf0.lt s8_fr
  have ne10 := om_ Pf2.lt s8_fr
  have ne11 := om_ Pf5.lt s8_fr
  have sz12 : h0.size ≤ b8_fr := Nat.le_trans K0.1 s8_fr
  have Z13 : n0 ≤ T8.heap.size := Nat.le_trans Z0 K8q.1
  have K14 := K0.trans K8q (fun z hz => absurd hz nm_)
  have F15 := Pf0.keep K8q
  have F16 := Pf1.keep K8q nm_
  have F17 := Pf2.keep K8q
  have F18 := Pf3.keep K8q nm_
  have F19 := Pf4.keep K8q nm_
  have F20 := Pf5.keep K8q
  have F21 := Pf6.keep K8q nm_
  have F22 := own_stakeep Pf7 K8q
  show Go _ _ _ _ (T8.setTop (mkF m 34 #[.val (.ref so), .val (.int (1 : Int32))] [(.ref b8_fr)]))
  refine Go.st (fun _ k => XS.goto X8.here hx rfl (pc0 := 34) (pc' := 40) rfl (hb hby d39_34) (by decide) (by decide) k) ?_
  show Go _ _ _ _ (T8.setTop (mkF m 40 #[.val (.ref so), .val (.int (1 : Int32))] [(.ref b8_fr)]))
  subst hG
  obtain ⟨fs, hr, hrun, hended, hW, hsame⟩ := X8.leave (v := some (.ref b8_fr)) (fun h => by rw [Bd.returns] at h; cases h)
  refine ⟨_, _, ?_, hrun, hended, _, _, rfl, ?_, ⟨_, rfl⟩, hW, hsame.mono (by decide) (by decide)⟩
  · exact retOut X8 hx Bd.returns rfl (Or.inr (Or.inr (Or.inr (Or.inr ⟨rfl, rfl, rfl⟩)))) (hb hby d39_40) hr
  · show Q_dela1 Z so (1 : Int32) fl eo em pv h0 n0 _ T8.heap _
    exact ⟨b8_fr, rfl, N8, K14, g8_fr, sz12, Fq8_0, Fq8_1, Fq8_2⟩
theorem pd_21 : parseMethodDescriptor "()Ljava/util/OptionalLong;" = some ⟨[], some (.object "java/util/OptionalLong")⟩ := by decide +kernel
theorem d39_37 : decode prog_8_method_2_code 37 = .ok (.invokestatic 64, 3) := by decide +kernel
theorem ef_dela0 (m : MethodId) (so : Addr) (pf : Int32) : entryFrame m #[(.ref so), (.int pf)] 2 = mkF m 0 #[.val (.ref so), .val (.int pf)] [] := by first | (simp [entryFrame, mkF, argsToLocals, Value.category]; done) | rfl
def Q_dela0 (Z : State) (so : Addr) (pf : Int32) (el : Addr) (le : Addr) (kl : ClassId) (oe : Addr) (h0 : Heap) (n0 : Nat) (v : Option Value) (h : Heap) (L : List Loc) : Prop := v = some (.ref oe) ∧ Fr n0 L ∧ h = h0
set_option maxRecDepth 65536 in
set_option maxHeartbeats 40000000 in
theorem rm_dela0 (l : Launch) (Z : State) (a0 : Array Value) (hw : ∀ d ∈ tables_1, d.before a0 Z = true) (ws : List Jvm.Cond) (so : Addr) (pf : Int32) (el : Addr) (le : Addr) (kl : ClassId) (oe : Addr) (h0 : Heap) (n0 : Nat) (Z0 : n0 ≤ h0.size) (Pf0 : Exa Z h0 so "com/example/lapsed/lapsed/RetryPolicy") (Pf1 : Fld Z h0 so "com/example/lapsed/lapsed/RetryPolicy" "delaysMs" "Ljava/util/List;" (.ref el)) (Pf2 : Exa Z h0 el "java/util/ImmutableCollections$ListN") (Pf3 : Fld Z h0 el "java/util/ImmutableCollections$ListN" "elements" "[Ljava/lang/Object;" (.ref le)) (Pf4 : Arv Z h0 le kl (.object "java/lang/Object") (0 : Int32) [] .null) (Pf5 : Exa Z h0 le "[Ljava/lang/Object;") (Pf6 : Sta Z h0 "java/util/OptionalLong" "EMPTY" "Ljava/util/OptionalLong;" (.ref oe)) (hpf : pf = (1 : Int32)) :
    MetFree l (⟨"com/example/lapsed/lapsed/RetryPolicy", "delayAfter", "(I)Ljava/util/OptionalLong;"⟩ : MethodName) (head1 (Jvm.Cond.code (⟨"com/example/lapsed/lapsed/RetryPolicy", "delayAfter", "(I)Ljava/util/OptionalLong;"⟩ : MethodName) prog_8_method_2_code 2 (some (.object "java/util/OptionalLong")) :: ws) ({ frames := 1, cells := 0, slots := 0, locals := 13 } : Room)) (fun a U => a = #[(.ref so), (.int pf)] ∧ Z.Warmed39 U.vm ∧ U.heap = h0) (fun _ _ _ _ _ => True) (fun _ U o U' => ∃ v L, o = .returned v ∧ Q_dela0 Z so pf el le kl oe h0 n0 v U'.heap L ∧ FrameEnd U o U' L ({ frames := 1, cells := 0, slots := 0, locals := 13 } : Room).cells ({ frames := 1, cells := 0, slots := 0, locals := 13 } : Room).slots) := by
  refine MetFree.of_bodySF (plainFor_of_name pn_13) hisR ?_
  intro p e s m args below meth c s₁ Bd hml0 hP hK
  obtain ⟨rfl, hZ, hh⟩ := hP
  have hx := Bd.exec
  have hby := Bd.bytes
  have hml : c.maxLocals = 2 := hml0
  have hown : s.vm.findClass "com/example/lapsed/lapsed/RetryPolicy" = some m.cls := findClass_of_methodNamed Bd.named
  have hnm := (name_of_methodNamed Bd.named Bd.method).1
  have X0 : Stand p l e ({ frames := 1, cells := 0, slots := 0, locals := 13 } : Room) s m #[(.ref so), (.int pf)] below meth c s₁ [] 0 0 := Stand.of_body Bd
  have e0 : s₁.heap = h0 := by rw [← hh, Bd.state]; rfl
  have N0 := Fr.nil n0
  have K0 : Keep h0 h0 [] := Keep.refl h0 []
  show Go p.tables e below _ (s₁.setTop (entryFrame m #[(.ref so), (.int pf)] 2))
  refine Go.start ?_
  intro G hG
  refine Go.st (fun t k => castTop (ef_dela0 m so pf) k) ?_
  subst hpf
  show Go _ _ _ _ (s₁.setTop (mkF m 0 #[.val (.ref so), .val (.int (1 : Int32))] []))
  refine Go.st (fun _ k => XS.iloadN X0.here hx rfl (hb hby d39_0) rfl k) ?_
  show Go _ _ _ _ (s₁.setTop (mkF m 1 #[.val (.ref so), .val (.int (1 : Int32))] [(.int (1 : Int32))]))
  refine Go.st (fun _ k => XS.aloadN X0.here hx rfl (hb hby d39_1) rfl rfl k) ?_
  show Go _ _ _ _ (s₁.setTop (mkF m 2 #[.val (.ref so), .val (.int (1 : Int32))] [(.ref so), (.int (1 : Int32))]))
  obtain ⟨T1, X1, e1, st1⟩ := getF X0 hx hZ hown (host := "") (Or.inl (ow hw 221 rfl)) Via.refl e0 Pf1 (g := (mkF m 2 #[.val (.ref so), .val (.int (1 : Int32))] [(.ref so), (.int (1 : Int32))])) rfl rfl (hb hby d39_2)
  refine Go.st st1 ?_
  show Go _ _ _ _ (T1.setTop (mkF m 5 #[.val (.ref so), .val (.int (1 : Int32))] [(.ref el), (.int (1 : Int32))]))
  obtain ⟨cq2, kq2, q2a, q2b, q2c⟩ := isOf hZ e1 Pf2
  obtain ⟨_, _, ⟨T2, L2, k2, n2⟩, -, X2, ⟨Lc2, hQ2, l2, y2, z2⟩, st2⟩ := X1.interfaceBack hx (xi := (⟨"java/util/List", "size", "()I"⟩ : MethodName)) (y := (⟨"java/util/ImmutableCollections$ListN", "size", "()I"⟩ : MethodName)) hown (mvT hZ (ow hw 294 rfl)) (mvT hZ (ow hw 295 rfl)) (mvT hZ (ow hw 296 rfl)) (mvT hZ (ow hw 367 rfl)) (mvT hZ (ow hw 368 rfl)) (mvT hZ (ow hw 369 rfl)) (mvT hZ (ow hw 370 rfl)) (mvT hZ (ow hw 371 rfl)) (by decide) (backOf (W := 1) (rm_lns l Z a0 hw [] el le kl h0 n0 Z0 Pf2 Pf3 Pf4 Pf5) hZ (ow hw 373 rfl) (ow hw 372 rfl) (by decide) (by decide)) q2a q2b q2c (g := (mkF m 5 #[.val (.ref so), .val (.int (1 : Int32))] [(.ref el), (.int (1 : Int32))])) rfl (by rw [hml]; rfl) (Steps.refl _) (argsL := []) (rest := [(.int (1 : Int32))]) (lenOf pd_18 rfl) rfl (by show 2 * 0 + _ ≤ _; exact Nat.le_of_eq rfl) (hb hby d39_5) (fun _ _ => ⟨rfl, e1, (by decide : 0 + 0 ≤ _), (by decide : 0 + 0 ≤ _)⟩)
  dsimp only [Pt.U, Pt.locs, Pt.cells, Pt.slots] at X2 l2 y2 z2 st2 hQ2
  rw [l2, y2, z2] at X2
  obtain ⟨rfl, N2q, e2⟩ := hQ2
  have N2 := Fr.app N0 N2q
  refine Go.st (fun _ k => st2.trans k) ?_
  show Go _ _ _ _ (T2.setTop (mkF m 10 #[.val (.ref so), .val (.int (1 : Int32))] [(.int (0 : Int32)), (.int (1 : Int32))]))
  have hl3 : (0 : Int32) < (1 : Int32) := by decide
  refine Go.st (fun _ k => XS.icmpYes X2.here hx rfl (pc0 := 10) (pc' := 37) rfl (hb hby d39_10) rfl (Jvm.Free.XT.ii_gt_t hl3) (by decide) (by decide) k) ?_
  show Go _ _ _ _ (T2.setTop (mkF m 37 #[.val (.ref so), .val (.int (1 : Int32))] []))
  obtain ⟨_, _, ⟨T4, L4, k4, n4⟩, -, X4, ⟨Lc4, hQ4, l4, y4, z4⟩, st4⟩ := Jvm.LawKit.callS X2 hx (y := (⟨"java/util/OptionalLong", "empty", "()Ljava/util/OptionalLong;"⟩ : MethodName)) hown (mvT hZ (ow hw 376 rfl)) (mvT hZ (ow hw 377 rfl)) (mvT hZ (ow hw 313 rfl)) (mvT hZ (ow hw 378 rfl)) (by decide) (backOf (W := 0) (rm_olem l Z a0 hw [] oe h0 n0 Z0 Pf6) hZ (ow hw 378 rfl) (ow hw 313 rfl) (by decide) (by decide)) (g := (mkF m 37 #[.val (.ref so), .val (.int (1 : Int32))] [])) rfl (by rw [hml]; rfl) (argsL := []) (rest := []) (lenOf pd_21 rfl) rfl (by show 2 * 0 + _ ≤ _; exact Nat.le_of_eq rfl) (hb hby d39_37) (fun _ _ => ⟨rfl, e2, (by decide : 0 + 0 ≤ _), (by decide : 0 + 0 ≤ _)⟩)
  dsimp only [Pt.U, Pt.locs, Pt.cells, Pt.slots] at X4 l4 y4 z4 st4 hQ4
  rw [l4, y4, z4] at X4
  obtain ⟨rfl, N4q, e4⟩ := hQ4
  have N4 := Fr.app N2 N4q
  refine Go.st st4 ?_
  show Go _ _ _ _ (T4.setTop (mkF m 40 #[.val (.ref so), .val (.int (1 : Int32))] [(.ref oe)]))
  subst hG
  obtain ⟨fs, hr, hrun, hended, hW, hsame⟩ := X4.leave (v := some (.ref oe)) (fun h => by rw [Bd.returns] at h; cases h)
  refine ⟨_, _, ?_, hrun, hended, _, _, rfl, ?_, ⟨_, rfl⟩, hW, hsame.mono (by decide) (by decide)⟩
  · exact retOut X4 hx Bd.returns rfl (Or.inr (Or.inr (Or.inr (Or.inr ⟨rfl, rfl, rfl⟩)))) (hb hby d39_40) hr
  · show Q_dela0 Z so (1 : Int32) el le kl oe h0 n0 _ T4.heap _
    rw [e4]
    exact ⟨rfl, N4, rfl⟩
theorem pn_16 : plainName "com/example/lapsed/lapsed/Timeout" = true := by first | (simp [plainName, overriddenIn]; done) | decide +kernel
theorem d40_0 : decode prog_14_method_1_code 0 = .ok (.aload_n 0, 1) := by decide +kernel
theorem d40_1 : decode prog_14_method_1_code 1 = .ok (.invokespecial 1, 3) := by decide +kernel
theorem d40_4 : decode prog_14_method_1_code 4 = .ok (.aload_n 0, 1) := by decide +kernel
theorem d40_5 : decode prog_14_method_1_code 5 = .ok (.aload_n 1, 1) := by decide +kernel
theorem d40_6 : decode prog_14_method_1_code 6 = .ok (.putfield 7, 3) := by decide +kernel
theorem d40_9 : decode prog_14_method_1_code 9 = .ok (.aload_n 0, 1) := by decide +kernel
theorem d40_10 : decode prog_14_method_1_code 10 = .ok (.aload_n 2, 1) := by decide +kernel
theorem d40_11 : decode prog_14_method_1_code 11 = .ok (.putfield 13, 3) := by decide +kernel
theorem d40_14 : decode prog_14_method_1_code 14 = .ok (.aload_n 0, 1) := by decide +kernel
theorem d40_15 : decode prog_14_method_1_code 15 = .ok (.lload_n 3, 1) := by decide +kernel
theorem d40_16 : decode prog_14_method_1_code 16 = .ok (.putfield 16, 3) := by decide +kernel
theorem d40_19 : decode prog_14_method_1_code 19 = .ok (.aload_n 0, 1) := by decide +kernel
theorem d40_20 : decode prog_14_method_1_code 20 = .ok (.aload 5, 2) := by decide +kernel
theorem d40_22 : decode prog_14_method_1_code 22 = .ok (.putfield 20, 3) := by decide +kernel
theorem d40_25 : decode prog_14_method_1_code 25 = .ok (.aload_n 0, 1) := by decide +kernel
theorem d40_26 : decode prog_14_method_1_code 26 = .ok (.aload 6, 2) := by decide +kernel
theorem d40_28 : decode prog_14_method_1_code 28 = .ok (.putfield 23, 3) := by decide +kernel
theorem d40_31 : decode prog_14_method_1_code 31 = .ok (.aload_n 0, 1) := by decide +kernel
theorem d40_32 : decode prog_14_method_1_code 32 = .ok (.iload 7, 2) := by decide +kernel
theorem d40_34 : decode prog_14_method_1_code 34 = .ok (.putfield 27, 3) := by decide +kernel
theorem d40_37 : decode prog_14_method_1_code 37 = .ok (.aload_n 0, 1) := by decide +kernel
theorem d40_38 : decode prog_14_method_1_code 38 = .ok (.iload 8, 2) := by decide +kernel
theorem d40_40 : decode prog_14_method_1_code 40 = .ok (.putfield 31, 3) := by decide +kernel
theorem d40_43 : decode prog_14_method_1_code 43 = .ok (.aload_n 0, 1) := by decide +kernel
theorem d40_44 : decode prog_14_method_1_code 44 = .ok (.lload 9, 2) := by decide +kernel
theorem d40_46 : decode prog_14_method_1_code 46 = .ok (.putfield 34, 3) := by decide +kernel
theorem d40_49 : decode prog_14_method_1_code 49 = .ok (.aload_n 0, 1) := by decide +kernel
theorem d40_50 : decode prog_14_method_1_code 50 = .ok (.lload 11, 2) := by decide +kernel
theorem d40_52 : decode prog_14_method_1_code 52 = .ok (.putfield 37, 3) := by decide +kernel
theorem d40_55 : decode prog_14_method_1_code 55 = .ok (.aload_n 0, 1) := by decide +kernel
theorem d40_56 : decode prog_14_method_1_code 56 = .ok (.lload 13, 2) := by decide +kernel
theorem d40_58 : decode prog_14_method_1_code 58 = .ok (.putfield 40, 3) := by decide +kernel
theorem d40_61 : decode prog_14_method_1_code 61 = .ok (.aload_n 0, 1) := by decide +kernel
theorem d40_62 : decode prog_14_method_1_code 62 = .ok (.lload 15, 2) := by decide +kernel
theorem d40_64 : decode prog_14_method_1_code 64 = .ok (.putfield 43, 3) := by decide +kernel
theorem d40_67 : decode prog_14_method_1_code 67 = .ok (.aload_n 0, 1) := by decide +kernel
theorem d40_68 : decode prog_14_method_1_code 68 = .ok (.aload 17, 2) := by decide +kernel
theorem d40_70 : decode prog_14_method_1_code 70 = .ok (.putfield 46, 3) := by decide +kernel
theorem d40_73 : decode prog_14_method_1_code 73 = .ok (.return_, 1) := by decide +kernel
theorem ef_tin0 (m : MethodId) (so : Addr) (qu : Addr) (ii : Addr) (du : Int64) (se : Addr) (atm : Int32) (fa : Int32) (ct : Int64) (lu : Int64) (ra : Int64) (da : Int64) : entryFrame m #[(.ref so), (.ref qu), (.ref ii), (.long du), .null, (.ref se), (.int atm), (.int fa), (.long ct), (.long lu), (.long ra), (.long da), .null] 18 = mkF m 0 #[.val (.ref so), .val (.ref qu), .val (.ref ii), .val (.long du), .second, .val .null, .val (.ref se), .val (.int atm), .val (.int fa), .val (.long ct), .second, .val (.long lu), .second, .val (.long ra), .second, .val (.long da), .second, .val .null] [] := by first | (simp [entryFrame, mkF, argsToLocals, Value.category]; done) | rfl
def Q_tin0 (Z : State) (so : Addr) (qu : Addr) (ii : Addr) (du : Int64) (se : Addr) (atm : Int32) (fa : Int32) (ct : Int64) (lu : Int64) (ra : Int64) (da : Int64) (h0 : Heap) (n0 : Nat) (v : Option Value) (h : Heap) (L : List Loc) : Prop := v = none ∧ Fr n0 L ∧ Keep h0 h [so] ∧ Exa Z h so "com/example/lapsed/lapsed/Timeout" ∧ Fld Z h so "com/example/lapsed/lapsed/Timeout" "queue" "Ljava/lang/String;" (.ref qu) ∧ Fld Z h so "com/example/lapsed/lapsed/Timeout" "id" "Ljava/lang/String;" (.ref ii) ∧ Fld Z h so "com/example/lapsed/lapsed/Timeout" "dueAt" "J" (.long du) ∧ Fld Z h so "com/example/lapsed/lapsed/Timeout" "payload" "Ljava/lang/String;" .null ∧ Fld Z h so "com/example/lapsed/lapsed/Timeout" "state" "Lcom/example/lapsed/lapsed/State;" (.ref se) ∧ Fld Z h so "com/example/lapsed/lapsed/Timeout" "attempt" "I" (.int atm) ∧ Fld Z h so "com/example/lapsed/lapsed/Timeout" "failures" "I" (.int fa) ∧ Fld Z h so "com/example/lapsed/lapsed/Timeout" "claimedAt" "J" (.long ct) ∧ Fld Z h so "com/example/lapsed/lapsed/Timeout" "leaseUntil" "J" (.long lu) ∧ Fld Z h so "com/example/lapsed/lapsed/Timeout" "retryAt" "J" (.long ra) ∧ Fld Z h so "com/example/lapsed/lapsed/Timeout" "deadAt" "J" (.long da) ∧ Fld Z h so "com/example/lapsed/lapsed/Timeout" "lastError" "Ljava/lang/String;" .null
set_option maxRecDepth 65536 in
set_option maxHeartbeats 40000000 in
theorem rm_tin0 (l : Launch) (Z : State) (a0 : Array Value) (hw : ∀ d ∈ tables_1, d.before a0 Z = true) (ws : List Jvm.Cond) (so : Addr) (qu : Addr) (ii : Addr) (du : Int64) (se : Addr) (atm : Int32) (fa : Int32) (ct : Int64) (lu : Int64) (ra : Int64) (da : Int64) (h0 : Heap) (n0 : Nat) (Z0 : n0 ≤ h0.size) (Pf0 : Exa Z h0 so "com/example/lapsed/lapsed/Timeout") (Pf1 : Fld Z h0 so "com/example/lapsed/lapsed/Timeout" "queue" "Ljava/lang/String;" .null) (Pf2 : Fld Z h0 so "com/example/lapsed/lapsed/Timeout" "id" "Ljava/lang/String;" .null) (Pf3 : Fld Z h0 so "com/example/lapsed/lapsed/Timeout" "dueAt" "J" (.long (0 : Int64))) (Pf4 : Fld Z h0 so "com/example/lapsed/lapsed/Timeout" "payload" "Ljava/lang/String;" .null) (Pf5 : Fld Z h0 so "com/example/lapsed/lapsed/Timeout" "state" "Lcom/example/lapsed/lapsed/State;" .null) (Pf6 : Fld Z h0 so "com/example/lapsed/lapsed/Timeout" "attempt" "I" (.int (0 : Int32))) (Pf7 : Fld Z h0 so "com/example/lapsed/lapsed/Timeout" "failures" "I" (.int (0 : Int32))) (Pf8 : Fld Z h0 so "com/example/lapsed/lapsed/Timeout" "claimedAt" "J" (.long (0 : Int64))) (Pf9 : Fld Z h0 so "com/example/lapsed/lapsed/Timeout" "leaseUntil" "J" (.long (0 : Int64))) (Pf10 : Fld Z h0 so "com/example/lapsed/lapsed/Timeout" "retryAt" "J" (.long (0 : Int64))) (Pf11 : Fld Z h0 so "com/example/lapsed/lapsed/Timeout" "deadAt" "J" (.long (0 : Int64))) (Pf12 : Fld Z h0 so "com/example/lapsed/lapsed/Timeout" "lastError" "Ljava/lang/String;" .null) (Pf13 : n0 ≤ so) :
    MetFree l (⟨"com/example/lapsed/lapsed/Timeout", "<init>", "(Ljava/lang/String;Ljava/lang/String;JLjava/lang/String;Lcom/example/lapsed/lapsed/State;IIJJJJLjava/lang/String;)V"⟩ : MethodName) (head1 (Jvm.Cond.code (⟨"com/example/lapsed/lapsed/Timeout", "<init>", "(Ljava/lang/String;Ljava/lang/String;JLjava/lang/String;Lcom/example/lapsed/lapsed/State;IIJJJJLjava/lang/String;)V"⟩ : MethodName) prog_14_method_1_code 18 none :: ws) ({ frames := 1, cells := 0, slots := 0, locals := 12 } : Room)) (fun a U => a = #[(.ref so), (.ref qu), (.ref ii), (.long du), .null, (.ref se), (.int atm), (.int fa), (.long ct), (.long lu), (.long ra), (.long da), .null] ∧ Z.Warmed39 U.vm ∧ U.heap = h0) (fun _ _ _ _ _ => True) (fun _ U o U' => ∃ v L, o = .returned v ∧ Q_tin0 Z so qu ii du se atm fa ct lu ra da h0 n0 v U'.heap L ∧ FrameEnd U o U' L ({ frames := 1, cells := 0, slots := 0, locals := 12 } : Room).cells ({ frames := 1, cells := 0, slots := 0, locals := 12 } : Room).slots) := by
  refine MetFree.of_bodySF (plainFor_of_name pn_16) hisR ?_
  intro p e s m args below meth c s₁ Bd hml0 hP hK
  obtain ⟨rfl, hZ, hh⟩ := hP
  have hx := Bd.exec
  have hby := Bd.bytes
  have hml : c.maxLocals = 18 := hml0
  have hown : s.vm.findClass "com/example/lapsed/lapsed/Timeout" = some m.cls := findClass_of_methodNamed Bd.named
  have hnm := (name_of_methodNamed Bd.named Bd.method).1
  have X0 : Stand p l e ({ frames := 1, cells := 0, slots := 0, locals := 12 } : Room) s m #[(.ref so), (.ref qu), (.ref ii), (.long du), .null, (.ref se), (.int atm), (.int fa), (.long ct), (.long lu), (.long ra), (.long da), .null] below meth c s₁ [] 0 0 := Stand.of_body Bd
  have e0 : s₁.heap = h0 := by rw [← hh, Bd.state]; rfl
  have N0 := Fr.nil n0
  have K0 : Keep h0 h0 [so] := Keep.refl h0 [so]
  show Go p.tables e below _ (s₁.setTop (entryFrame m #[(.ref so), (.ref qu), (.ref ii), (.long du), .null, (.ref se), (.int atm), (.int fa), (.long ct), (.long lu), (.long ra), (.long da), .null] 18))
  refine Go.start ?_
  intro G hG
  refine Go.st (fun t k => castTop (ef_tin0 m so qu ii du se atm fa ct lu ra da) k) ?_
  show Go _ _ _ _ (s₁.setTop (mkF m 0 #[.val (.ref so), .val (.ref qu), .val (.ref ii), .val (.long du), .second, .val .null, .val (.ref se), .val (.int atm), .val (.int fa), .val (.long ct), .second, .val (.long lu), .second, .val (.long ra), .second, .val (.long da), .second, .val .null] []))
  refine Go.st (fun _ k => XS.aloadN X0.here hx rfl (hb hby d40_0) rfl rfl k) ?_
  show Go _ _ _ _ (s₁.setTop (mkF m 1 #[.val (.ref so), .val (.ref qu), .val (.ref ii), .val (.long du), .second, .val .null, .val (.ref se), .val (.int atm), .val (.int fa), .val (.long ct), .second, .val (.long lu), .second, .val (.long ra), .second, .val (.long da), .second, .val .null] [(.ref so)]))
  obtain ⟨T1, X1, e1, st1⟩ := initO X0 hx hZ hown (ow hw 241 rfl) (ow hw 22 rfl) (ow hw 23 rfl) e0 (g := (mkF m 1 #[.val (.ref so), .val (.ref qu), .val (.ref ii), .val (.long du), .second, .val .null, .val (.ref se), .val (.int atm), .val (.int fa), .val (.long ct), .second, .val (.long lu), .second, .val (.long ra), .second, .val (.long da), .second, .val .null] [(.ref so)])) rfl (by rw [hml]; rfl) rfl (hb hby d40_1) (by decide) (W := 0) (by show 2 * 0 + _ ≤ _; exact Nat.le_of_eq rfl) (by decide)
  refine Go.st st1 ?_
  show Go _ _ _ _ (T1.setTop (mkF m 4 #[.val (.ref so), .val (.ref qu), .val (.ref ii), .val (.long du), .second, .val .null, .val (.ref se), .val (.int atm), .val (.int fa), .val (.long ct), .second, .val (.long lu), .second, .val (.long ra), .second, .val (.long da), .second, .val .null] []))
  refine Go.st (fun _ k => XS.aloadN X1.here hx rfl (hb hby d40_4) rfl rfl k) ?_
  show Go _ _ _ _ (T1.setTop (mkF m 5 #[.val (.ref so), .val (.ref qu), .val (.ref ii), .val (.long du), .second, .val .null, .val (.ref se), .val (.int atm), .val (.int fa), .val (.long ct), .second, .val (.long lu), .second, .val (.long ra), .second, .val (.long da), .second, .val .null] [(.ref so)]))
  refine Go.st (fun _ k => XS.aloadN X1.here hx rfl (hb hby d40_5) rfl rfl k) ?_
  show Go _ _ _ _ (T1.setTop (mkF m 6 #[.val (.ref so), .val (.ref qu), .val (.ref ii), .val (.long du), .second, .val .null, .val (.ref se), .val (.int atm), .val (.int fa), .val (.long ct), .second, .val (.long lu), .second, .val (.long ra), .second, .val (.long da), .second, .val .null] [(.ref qu), (.ref so)]))
  obtain ⟨T2, h2, X2, e2, W2, st2⟩ := putF X1 hx hZ hown (host := "") (Or.inl (ow hw 242 rfl)) Via.refl e1 Pf1 Pf0 (Or.inr ⟨(ow hw 243 rfl), rfl, hnm⟩) (ow hw 224 rfl) (ty := (.object "java/lang/String")) (by decide) rfl rfl (g := (mkF m 6 #[.val (.ref so), .val (.ref qu), .val (.ref ii), .val (.long du), .second, .val .null, .val (.ref se), .val (.int atm), .val (.int fa), .val (.long ct), .second, .val (.long lu), .second, .val (.long ra), .second, .val (.long da), .second, .val .null] [(.ref qu), (.ref so)])) rfl rfl (hb hby d40_6)
  refine Go.st st2 ?_
  have F3 := Pf0.wr W2
  have F4 := Pf1.same W2
  have F5 := Pf2.other W2 (Or.inr (slot_ne (Or.inr (ow hw 245 rfl)) (Or.inr (ow hw 243 rfl)) (by decide) (t := (.object "java/lang/String")) (t' := (.object "java/lang/String")) (by decide) (by decide)))
  have F6 := Pf3.other W2 (Or.inr (slot_ne (Or.inr (ow hw 247 rfl)) (Or.inr (ow hw 243 rfl)) (by decide) (t := .long) (t' := (.object "java/lang/String")) (by decide) (by decide)))
  have F7 := Pf4.other W2 (Or.inr (slot_ne (Or.inr (ow hw 249 rfl)) (Or.inr (ow hw 243 rfl)) (by decide) (t := (.object "java/lang/String")) (t' := (.object "java/lang/String")) (by decide) (by decide)))
  have F8 := Pf5.other W2 (Or.inr (slot_ne (Or.inr (ow hw 251 rfl)) (Or.inr (ow hw 243 rfl)) (by decide) (t := (.object "com/example/lapsed/lapsed/State")) (t' := (.object "java/lang/String")) (by decide) (by decide)))
  have F9 := Pf6.other W2 (Or.inr (slot_ne (Or.inr (ow hw 253 rfl)) (Or.inr (ow hw 243 rfl)) (by decide) (t := .int) (t' := (.object "java/lang/String")) (by decide) (by decide)))
  have F10 := Pf7.other W2 (Or.inr (slot_ne (Or.inr (ow hw 255 rfl)) (Or.inr (ow hw 243 rfl)) (by decide) (t := .int) (t' := (.object "java/lang/String")) (by decide) (by decide)))
  have F11 := Pf8.other W2 (Or.inr (slot_ne (Or.inr (ow hw 257 rfl)) (Or.inr (ow hw 243 rfl)) (by decide) (t := .long) (t' := (.object "java/lang/String")) (by decide) (by decide)))
  have F12 := Pf9.other W2 (Or.inr (slot_ne (Or.inr (ow hw 259 rfl)) (Or.inr (ow hw 243 rfl)) (by decide) (t := .long) (t' := (.object "java/lang/String")) (by decide) (by decide)))
  have F13 := Pf10.other W2 (Or.inr (slot_ne (Or.inr (ow hw 261 rfl)) (Or.inr (ow hw 243 rfl)) (by decide) (t := .long) (t' := (.object "java/lang/String")) (by decide) (by decide)))
  have F14 := Pf11.other W2 (Or.inr (slot_ne (Or.inr (ow hw 263 rfl)) (Or.inr (ow hw 243 rfl)) (by decide) (t := .long) (t' := (.object "java/lang/String")) (by decide) (by decide)))
  have F15 := Pf12.other W2 (Or.inr (slot_ne (Or.inr (ow hw 265 rfl)) (Or.inr (ow hw 243 rfl)) (by decide) (t := (.object "java/lang/String")) (t' := (.object "java/lang/String")) (by decide) (by decide)))
  have K16 := K0.wr W2 (Or.inl (List.mem_of_getElem? (i := 0) rfl))
  have Z17 := oz_ Z0 W2
  have N18 := Fr.snoc X2 N0 Pf13
  show Go _ _ _ _ (T2.setTop (mkF m 9 #[.val (.ref so), .val (.ref qu), .val (.ref ii), .val (.long du), .second, .val .null, .val (.ref se), .val (.int atm), .val (.int fa), .val (.long ct), .second, .val (.long lu), .second, .val (.long ra), .second, .val (.long da), .second, .val .null] []))
  refine Go.st (fun _ k => XS.aloadN X2.here hx rfl (hb hby d40_9) rfl rfl k) ?_
  show Go _ _ _ _ (T2.setTop (mkF m 10 #[.val (.ref so), .val (.ref qu), .val (.ref ii), .val (.long du), .second, .val .null, .val (.ref se), .val (.int atm), .val (.int fa), .val (.long ct), .second, .val (.long lu), .second, .val (.long ra), .second, .val (.long da), .second, .val .null] [(.ref so)]))
  refine Go.st (fun _ k => XS.aloadN X2.here hx rfl (hb hby d40_10) rfl rfl k) ?_
  show Go _ _ _ _ (T2.setTop (mkF m 11 #[.val (.ref so), .val (.ref qu), .val (.ref ii), .val (.long du), .second, .val .null, .val (.ref se), .val (.int atm), .val (.int fa), .val (.long ct), .second, .val (.long lu), .second, .val (.long ra), .second, .val (.long da), .second, .val .null] [(.ref ii), (.ref so)]))
  obtain ⟨T19, h19, X19, e19, W19, st19⟩ := putF X2 hx hZ hown (host := "") (Or.inl (ow hw 244 rfl)) Via.refl e2 F5 F3 (Or.inr ⟨(ow hw 245 rfl), rfl, hnm⟩) (ow hw 224 rfl) (ty := (.object "java/lang/String")) (by decide) rfl rfl (g := (mkF m 11 #[.val (.ref so), .val (.ref qu), .val (.ref ii), .val (.long du), .second, .val .null, .val (.ref se), .val (.int atm), .val (.int fa), .val (.long ct), .second, .val (.long lu), .second, .val (.long ra), .second, .val (.long da), .second, .val .null] [(.ref ii), (.ref so)])) rfl rfl (hb hby d40_11)
  refine Go.st st19 ?_
  have F20 := F3.wr W19
  have F21 := F4.other W19 (Or.inr (slot_ne (Or.inr (ow hw 243 rfl)) (Or.inr (ow hw 245 rfl)) (by decide) (t := (.object "java/lang/String")) (t' := (.object "java/lang/String")) (by decide) (by decide)))
  have F22 := F5.same W19
  have F23 := F6.other W19 (Or.inr (slot_ne (Or.inr (ow hw 247 rfl)) (Or.inr (ow hw 245 rfl)) (by decide) (t := .long) (t' := (.object "java/lang/String")) (by decide) (by decide)))
  have F24 := F7.other W19 (Or.inr (slot_ne (Or.inr (ow hw 249 rfl)) (Or.inr (ow hw 245 rfl)) (by decide) (t := (.object "java/lang/String")) (t' := (.object "java/lang/String")) (by decide) (by decide)))
  have F25 := F8.other W19 (Or.inr (slot_ne (Or.inr (ow hw 251 rfl)) (Or.inr (ow hw 245 rfl)) (by decide) (t := (.object "com/example/lapsed/lapsed/State")) (t' := (.object "java/lang/String")) (by decide) (by decide)))
  have F26 := F9.other W19 (Or.inr (slot_ne (Or.inr (ow hw 253 rfl)) (Or.inr (ow hw 245 rfl)) (by decide) (t := .int) (t' := (.object "java/lang/String")) (by decide) (by decide)))
  have F27 := F10.other W19 (Or.inr (slot_ne (Or.inr (ow hw 255 rfl)) (Or.inr (ow hw 245 rfl)) (by decide) (t := .int) (t' := (.object "java/lang/String")) (by decide) (by decide)))
  have F28 := F11.other W19 (Or.inr (slot_ne (Or.inr (ow hw 257 rfl)) (Or.inr (ow hw 245 rfl)) (by decide) (t := .long) (t' := (.object "java/lang/String")) (by decide) (by decide)))
  have F29 := F12.other W19 (Or.inr (slot_ne (Or.inr (ow hw 259 rfl)) (Or.inr (ow hw 245 rfl)) (by decide) (t := .long) (t' := (.object "java/lang/String")) (by decide) (by decide)))
  have F30 := F13.other W19 (Or.inr (slot_ne (Or.inr (ow hw 261 rfl)) (Or.inr (ow hw 245 rfl)) (by decide) (t := .long) (t' := (.object "java/lang/String")) (by decide) (by decide)))
  have F31 := F14.other W19 (Or.inr (slot_ne (Or.inr (ow hw 263 rfl)) (Or.inr (ow hw 245 rfl)) (by decide) (t := .long) (t' := (.object "java/lang/String")) (by decide) (by decide)))
  have F32 := F15.other W19 (Or.inr (slot_ne (Or.inr (ow hw 265 rfl)) (Or.inr (ow hw 245 rfl)) (by decide) (t := (.object "java/lang/String")) (t' := (.object "java/lang/String")) (by decide) (by decide)))
  have K33 := K16.wr W19 (Or.inl (List.mem_of_getElem? (i := 0) rfl))
  have Z34 := oz_ Z17 W19
  have N35 := Fr.snoc X19 N18 Pf13
  show Go _ _ _ _ (T19.setTop (mkF m 14 #[.val (.ref so), .val (.ref qu), .val (.ref ii), .val (.long du), .second, .val .null, .val (.ref se), .val (.int atm), .val (.int fa), .val (.long ct), .second, .val (.long lu), .second, .val (.long ra), .second, .val (.long da), .second, .val .null] []))
  refine Go.st (fun _ k => XS.aloadN X19.here hx rfl (hb hby d40_14) rfl rfl k) ?_
  show Go _ _ _ _ (T19.setTop (mkF m 15 #[.val (.ref so), .val (.ref qu), .val (.ref ii), .val (.long du), .second, .val .null, .val (.ref se), .val (.int atm), .val (.int fa), .val (.long ct), .second, .val (.long lu), .second, .val (.long ra), .second, .val (.long da), .second, .val .null] [(.ref so)]))
  refine Go.st (fun _ k => XS.lloadN X19.here hx rfl (hb hby d40_15) rfl k) ?_
  show Go _ _ _ _ (T19.setTop (mkF m 16 #[.val (.ref so), .val (.ref qu), .val (.ref ii), .val (.long du), .second, .val .null, .val (.ref se), .val (.int atm), .val (.int fa), .val (.long ct), .second, .val (.long lu), .second, .val (.long ra), .second, .val (.long da), .second, .val .null] [(.long du), (.ref so)]))
  obtain ⟨T36, h36, X36, e36, W36, st36⟩ := putF X19 hx hZ hown (host := "") (Or.inl (ow hw 246 rfl)) Via.refl e19 F23 F20 (Or.inr ⟨(ow hw 247 rfl), rfl, hnm⟩) (ow hw 224 rfl) (ty := .long) (by decide) rfl rfl (g := (mkF m 16 #[.val (.ref so), .val (.ref qu), .val (.ref ii), .val (.long du), .second, .val .null, .val (.ref se), .val (.int atm), .val (.int fa), .val (.long ct), .second, .val (.long lu), .second, .val (.long ra), .second, .val (.long da), .second, .val .null] [(.long du), (.ref so)])) rfl rfl (hb hby d40_16)
  refine Go.st st36 ?_
  have F37 := F20.wr W36
  have F38 := F21.other W36 (Or.inr (slot_ne (Or.inr (ow hw 243 rfl)) (Or.inr (ow hw 247 rfl)) (by decide) (t := (.object "java/lang/String")) (t' := .long) (by decide) (by decide)))
  have F39 := F22.other W36 (Or.inr (slot_ne (Or.inr (ow hw 245 rfl)) (Or.inr (ow hw 247 rfl)) (by decide) (t := (.object "java/lang/String")) (t' := .long) (by decide) (by decide)))
  have F40 := F23.same W36
  have F41 := F24.other W36 (Or.inr (slot_ne (Or.inr (ow hw 249 rfl)) (Or.inr (ow hw 247 rfl)) (by decide) (t := (.object "java/lang/String")) (t' := .long) (by decide) (by decide)))
  have F42 := F25.other W36 (Or.inr (slot_ne (Or.inr (ow hw 251 rfl)) (Or.inr (ow hw 247 rfl)) (by decide) (t := (.object "com/example/lapsed/lapsed/State")) (t' := .long) (by decide) (by decide)))
  have F43 := F26.other W36 (Or.inr (slot_ne (Or.inr (ow hw 253 rfl)) (Or.inr (ow hw 247 rfl)) (by decide) (t := .int) (t' := .long) (by decide) (by decide)))
  have F44 := F27.other W36 (Or.inr (slot_ne (Or.inr (ow hw 255 rfl)) (Or.inr (ow hw 247 rfl)) (by decide) (t := .int) (t' := .long) (by decide) (by decide)))
  have F45 := F28.other W36 (Or.inr (slot_ne (Or.inr (ow hw 257 rfl)) (Or.inr (ow hw 247 rfl)) (by decide) (t := .long) (t' := .long) (by decide) (by decide)))
  have F46 := F29.other W36 (Or.inr (slot_ne (Or.inr (ow hw 259 rfl)) (Or.inr (ow hw 247 rfl)) (by decide) (t := .long) (t' := .long) (by decide) (by decide)))
  have F47 := F30.other W36 (Or.inr (slot_ne (Or.inr (ow hw 261 rfl)) (Or.inr (ow hw 247 rfl)) (by decide) (t := .long) (t' := .long) (by decide) (by decide)))
  have F48 := F31.other W36 (Or.inr (slot_ne (Or.inr (ow hw 263 rfl)) (Or.inr (ow hw 247 rfl)) (by decide) (t := .long) (t' := .long) (by decide) (by decide)))
  have F49 := F32.other W36 (Or.inr (slot_ne (Or.inr (ow hw 265 rfl)) (Or.inr (ow hw 247 rfl)) (by decide) (t := (.object "java/lang/String")) (t' := .long) (by decide) (by decide)))
  have K50 := K33.wr W36 (Or.inl (List.mem_of_getElem? (i := 0) rfl))
  have Z51 := oz_ Z34 W36
  have N52 := Fr.snoc X36 N35 Pf13
  show Go _ _ _ _ (T36.setTop (mkF m 19 #[.val (.ref so), .val (.ref qu), .val (.ref ii), .val (.long du), .second, .val .null, .val (.ref se), .val (.int atm), .val (.int fa), .val (.long ct), .second, .val (.long lu), .second, .val (.long ra), .second, .val (.long da), .second, .val .null] []))
  refine Go.st (fun _ k => XS.aloadN X36.here hx rfl (hb hby d40_19) rfl rfl k) ?_
  show Go _ _ _ _ (T36.setTop (mkF m 20 #[.val (.ref so), .val (.ref qu), .val (.ref ii), .val (.long du), .second, .val .null, .val (.ref se), .val (.int atm), .val (.int fa), .val (.long ct), .second, .val (.long lu), .second, .val (.long ra), .second, .val (.long da), .second, .val .null] [(.ref so)]))
  refine Go.st (fun _ k => XS.aload X36.here hx rfl (hb hby d40_20) rfl rfl k) ?_
  show Go _ _ _ _ (T36.setTop (mkF m 22 #[.val (.ref so), .val (.ref qu), .val (.ref ii), .val (.long du), .second, .val .null, .val (.ref se), .val (.int atm), .val (.int fa), .val (.long ct), .second, .val (.long lu), .second, .val (.long ra), .second, .val (.long da), .second, .val .null] [.null, (.ref so)]))
  obtain ⟨T53, h53, X53, e53, W53, st53⟩ := putF X36 hx hZ hown (host := "") (Or.inl (ow hw 248 rfl)) Via.refl e36 F41 F37 (Or.inr ⟨(ow hw 249 rfl), rfl, hnm⟩) (ow hw 224 rfl) (ty := (.object "java/lang/String")) (by decide) rfl rfl (g := (mkF m 22 #[.val (.ref so), .val (.ref qu), .val (.ref ii), .val (.long du), .second, .val .null, .val (.ref se), .val (.int atm), .val (.int fa), .val (.long ct), .second, .val (.long lu), .second, .val (.long ra), .second, .val (.long da), .second, .val .null] [.null, (.ref so)])) rfl rfl (hb hby d40_22)
  refine Go.st st53 ?_
  have F54 := F37.wr W53
  have F55 := F38.other W53 (Or.inr (slot_ne (Or.inr (ow hw 243 rfl)) (Or.inr (ow hw 249 rfl)) (by decide) (t := (.object "java/lang/String")) (t' := (.object "java/lang/String")) (by decide) (by decide)))
  have F56 := F39.other W53 (Or.inr (slot_ne (Or.inr (ow hw 245 rfl)) (Or.inr (ow hw 249 rfl)) (by decide) (t := (.object "java/lang/String")) (t' := (.object "java/lang/String")) (by decide) (by decide)))
  have F57 := F40.other W53 (Or.inr (slot_ne (Or.inr (ow hw 247 rfl)) (Or.inr (ow hw 249 rfl)) (by decide) (t := .long) (t' := (.object "java/lang/String")) (by decide) (by decide)))
  have F58 := F41.same W53
  have F59 := F42.other W53 (Or.inr (slot_ne (Or.inr (ow hw 251 rfl)) (Or.inr (ow hw 249 rfl)) (by decide) (t := (.object "com/example/lapsed/lapsed/State")) (t' := (.object "java/lang/String")) (by decide) (by decide)))
  have F60 := F43.other W53 (Or.inr (slot_ne (Or.inr (ow hw 253 rfl)) (Or.inr (ow hw 249 rfl)) (by decide) (t := .int) (t' := (.object "java/lang/String")) (by decide) (by decide)))
  have F61 := F44.other W53 (Or.inr (slot_ne (Or.inr (ow hw 255 rfl)) (Or.inr (ow hw 249 rfl)) (by decide) (t := .int) (t' := (.object "java/lang/String")) (by decide) (by decide)))
  have F62 := F45.other W53 (Or.inr (slot_ne (Or.inr (ow hw 257 rfl)) (Or.inr (ow hw 249 rfl)) (by decide) (t := .long) (t' := (.object "java/lang/String")) (by decide) (by decide)))
  have F63 := F46.other W53 (Or.inr (slot_ne (Or.inr (ow hw 259 rfl)) (Or.inr (ow hw 249 rfl)) (by decide) (t := .long) (t' := (.object "java/lang/String")) (by decide) (by decide)))
  have F64 := F47.other W53 (Or.inr (slot_ne (Or.inr (ow hw 261 rfl)) (Or.inr (ow hw 249 rfl)) (by decide) (t := .long) (t' := (.object "java/lang/String")) (by decide) (by decide)))
  have F65 := F48.other W53 (Or.inr (slot_ne (Or.inr (ow hw 263 rfl)) (Or.inr (ow hw 249 rfl)) (by decide) (t := .long) (t' := (.object "java/lang/String")) (by decide) (by decide)))
  have F66 := F49.other W53 (Or.inr (slot_ne (Or.inr (ow hw 265 rfl)) (Or.inr (ow hw 249 rfl)) (by decide) (t := (.object "java/lang/String")) (t' := (.object "java/lang/String")) (by decide) (by decide)))
  have K67 := K50.wr W53 (Or.inl (List.mem_of_getElem? (i := 0) rfl))
  have Z68 := oz_ Z51 W53
  have N69 := Fr.snoc X53 N52 Pf13
  show Go _ _ _ _ (T53.setTop (mkF m 25 #[.val (.ref so), .val (.ref qu), .val (.ref ii), .val (.long du), .second, .val .null, .val (.ref se), .val (.int atm), .val (.int fa), .val (.long ct), .second, .val (.long lu), .second, .val (.long ra), .second, .val (.long da), .second, .val .null] []))
  refine Go.st (fun _ k => XS.aloadN X53.here hx rfl (hb hby d40_25) rfl rfl k) ?_
  show Go _ _ _ _ (T53.setTop (mkF m 26 #[.val (.ref so), .val (.ref qu), .val (.ref ii), .val (.long du), .second, .val .null, .val (.ref se), .val (.int atm), .val (.int fa), .val (.long ct), .second, .val (.long lu), .second, .val (.long ra), .second, .val (.long da), .second, .val .null] [(.ref so)]))
  refine Go.st (fun _ k => XS.aload X53.here hx rfl (hb hby d40_26) rfl rfl k) ?_
  show Go _ _ _ _ (T53.setTop (mkF m 28 #[.val (.ref so), .val (.ref qu), .val (.ref ii), .val (.long du), .second, .val .null, .val (.ref se), .val (.int atm), .val (.int fa), .val (.long ct), .second, .val (.long lu), .second, .val (.long ra), .second, .val (.long da), .second, .val .null] [(.ref se), (.ref so)]))
  obtain ⟨T70, h70, X70, e70, W70, st70⟩ := putF X53 hx hZ hown (host := "") (Or.inl (ow hw 250 rfl)) Via.refl e53 F59 F54 (Or.inr ⟨(ow hw 251 rfl), rfl, hnm⟩) (ow hw 224 rfl) (ty := (.object "com/example/lapsed/lapsed/State")) (by decide) rfl rfl (g := (mkF m 28 #[.val (.ref so), .val (.ref qu), .val (.ref ii), .val (.long du), .second, .val .null, .val (.ref se), .val (.int atm), .val (.int fa), .val (.long ct), .second, .val (.long lu), .second, .val (.long ra), .second, .val (.long da), .second, .val .null] [(.ref se), (.ref so)])) rfl rfl (hb hby d40_28)
  refine Go.st st70 ?_
  have F71 := F54.wr W70
  have F72 := F55.other W70 (Or.inr (slot_ne (Or.inr (ow hw 243 rfl)) (Or.inr (ow hw 251 rfl)) (by decide) (t := (.object "java/lang/String")) (t' := (.object "com/example/lapsed/lapsed/State")) (by decide) (by decide)))
  have F73 := F56.other W70 (Or.inr (slot_ne (Or.inr (ow hw 245 rfl)) (Or.inr (ow hw 251 rfl)) (by decide) (t := (.object "java/lang/String")) (t' := (.object "com/example/lapsed/lapsed/State")) (by decide) (by decide)))
  have F74 := F57.other W70 (Or.inr (slot_ne (Or.inr (ow hw 247 rfl)) (Or.inr (ow hw 251 rfl)) (by decide) (t := .long) (t' := (.object "com/example/lapsed/lapsed/State")) (by decide) (by decide)))
  have F75 := F58.other W70 (Or.inr (slot_ne (Or.inr (ow hw 249 rfl)) (Or.inr (ow hw 251 rfl)) (by decide) (t := (.object "java/lang/String")) (t' := (.object "com/example/lapsed/lapsed/State")) (by decide) (by decide)))
  have F76 := F59.same W70
  have F77 := F60.other W70 (Or.inr (slot_ne (Or.inr (ow hw 253 rfl)) (Or.inr (ow hw 251 rfl)) (by decide) (t := .int) (t' := (.object "com/example/lapsed/lapsed/State")) (by decide) (by decide)))
  have F78 := F61.other W70 (Or.inr (slot_ne (Or.inr (ow hw 255 rfl)) (Or.inr (ow hw 251 rfl)) (by decide) (t := .int) (t' := (.object "com/example/lapsed/lapsed/State")) (by decide) (by decide)))
  have F79 := F62.other W70 (Or.inr (slot_ne (Or.inr (ow hw 257 rfl)) (Or.inr (ow hw 251 rfl)) (by decide) (t := .long) (t' := (.object "com/example/lapsed/lapsed/State")) (by decide) (by decide)))
  have F80 := F63.other W70 (Or.inr (slot_ne (Or.inr (ow hw 259 rfl)) (Or.inr (ow hw 251 rfl)) (by decide) (t := .long) (t' := (.object "com/example/lapsed/lapsed/State")) (by decide) (by decide)))
  have F81 := F64.other W70 (Or.inr (slot_ne (Or.inr (ow hw 261 rfl)) (Or.inr (ow hw 251 rfl)) (by decide) (t := .long) (t' := (.object "com/example/lapsed/lapsed/State")) (by decide) (by decide)))
  have F82 := F65.other W70 (Or.inr (slot_ne (Or.inr (ow hw 263 rfl)) (Or.inr (ow hw 251 rfl)) (by decide) (t := .long) (t' := (.object "com/example/lapsed/lapsed/State")) (by decide) (by decide)))
  have F83 := F66.other W70 (Or.inr (slot_ne (Or.inr (ow hw 265 rfl)) (Or.inr (ow hw 251 rfl)) (by decide) (t := (.object "java/lang/String")) (t' := (.object "com/example/lapsed/lapsed/State")) (by decide) (by decide)))
  have K84 := K67.wr W70 (Or.inl (List.mem_of_getElem? (i := 0) rfl))
  have Z85 := oz_ Z68 W70
  have N86 := Fr.snoc X70 N69 Pf13
  show Go _ _ _ _ (T70.setTop (mkF m 31 #[.val (.ref so), .val (.ref qu), .val (.ref ii), .val (.long du), .second, .val .null, .val (.ref se), .val (.int atm), .val (.int fa), .val (.long ct), .second, .val (.long lu), .second, .val (.long ra), .second, .val (.long da), .second, .val .null] []))
  refine Go.st (fun _ k => XS.aloadN X70.here hx rfl (hb hby d40_31) rfl rfl k) ?_
  show Go _ _ _ _ (T70.setTop (mkF m 32 #[.val (.ref so), .val (.ref qu), .val (.ref ii), .val (.long du), .second, .val .null, .val (.ref se), .val (.int atm), .val (.int fa), .val (.long ct), .second, .val (.long lu), .second, .val (.long ra), .second, .val (.long da), .second, .val .null] [(.ref so)]))
  refine Go.st (fun _ k => XS.iload X70.here hx rfl (hb hby d40_32) rfl k) ?_
  show Go _ _ _ _ (T70.setTop (mkF m 34 #[.val (.ref so), .val (.ref qu), .val (.ref ii), .val (.long du), .second, .val .null, .val (.ref se), .val (.int atm), .val (.int fa), .val (.long ct), .second, .val (.long lu), .second, .val (.long ra), .second, .val (.long da), .second, .val .null] [(.int atm), (.ref so)]))
  obtain ⟨T87, h87, X87, e87, W87, st87⟩ := putF X70 hx hZ hown (host := "") (Or.inl (ow hw 252 rfl)) Via.refl e70 F77 F71 (Or.inr ⟨(ow hw 253 rfl), rfl, hnm⟩) (ow hw 224 rfl) (ty := .int) (by decide) rfl rfl (g := (mkF m 34 #[.val (.ref so), .val (.ref qu), .val (.ref ii), .val (.long du), .second, .val .null, .val (.ref se), .val (.int atm), .val (.int fa), .val (.long ct), .second, .val (.long lu), .second, .val (.long ra), .second, .val (.long da), .second, .val .null] [(.int atm), (.ref so)])) rfl rfl (hb hby d40_34)
  refine Go.st st87 ?_
  have F88 := F71.wr W87
  have F89 := F72.other W87 (Or.inr (slot_ne (Or.inr (ow hw 243 rfl)) (Or.inr (ow hw 253 rfl)) (by decide) (t := (.object "java/lang/String")) (t' := .int) (by decide) (by decide)))
  have F90 := F73.other W87 (Or.inr (slot_ne (Or.inr (ow hw 245 rfl)) (Or.inr (ow hw 253 rfl)) (by decide) (t := (.object "java/lang/String")) (t' := .int) (by decide) (by decide)))
  have F91 := F74.other W87 (Or.inr (slot_ne (Or.inr (ow hw 247 rfl)) (Or.inr (ow hw 253 rfl)) (by decide) (t := .long) (t' := .int) (by decide) (by decide)))
  have F92 := F75.other W87 (Or.inr (slot_ne (Or.inr (ow hw 249 rfl)) (Or.inr (ow hw 253 rfl)) (by decide) (t := (.object "java/lang/String")) (t' := .int) (by decide) (by decide)))
  have F93 := F76.other W87 (Or.inr (slot_ne (Or.inr (ow hw 251 rfl)) (Or.inr (ow hw 253 rfl)) (by decide) (t := (.object "com/example/lapsed/lapsed/State")) (t' := .int) (by decide) (by decide)))
  have F94 := F77.same W87
  have F95 := F78.other W87 (Or.inr (slot_ne (Or.inr (ow hw 255 rfl)) (Or.inr (ow hw 253 rfl)) (by decide) (t := .int) (t' := .int) (by decide) (by decide)))
  have F96 := F79.other W87 (Or.inr (slot_ne (Or.inr (ow hw 257 rfl)) (Or.inr (ow hw 253 rfl)) (by decide) (t := .long) (t' := .int) (by decide) (by decide)))
  have F97 := F80.other W87 (Or.inr (slot_ne (Or.inr (ow hw 259 rfl)) (Or.inr (ow hw 253 rfl)) (by decide) (t := .long) (t' := .int) (by decide) (by decide)))
  have F98 := F81.other W87 (Or.inr (slot_ne (Or.inr (ow hw 261 rfl)) (Or.inr (ow hw 253 rfl)) (by decide) (t := .long) (t' := .int) (by decide) (by decide)))
  have F99 := F82.other W87 (Or.inr (slot_ne (Or.inr (ow hw 263 rfl)) (Or.inr (ow hw 253 rfl)) (by decide) (t := .long) (t' := .int) (by decide) (by decide)))
  have F100 := F83.other W87 (Or.inr (slot_ne (Or.inr (ow hw 265 rfl)) (Or.inr (ow hw 253 rfl)) (by decide) (t := (.object "java/lang/String")) (t' := .int) (by decide) (by decide)))
  have K101 := K84.wr W87 (Or.inl (List.mem_of_getElem? (i := 0) rfl))
  have Z102 := oz_ Z85 W87
  have N103 := Fr.snoc X87 N86 Pf13
  show Go _ _ _ _ (T87.setTop (mkF m 37 #[.val (.ref so), .val (.ref qu), .val (.ref ii), .val (.long du), .second, .val .null, .val (.ref se), .val (.int atm), .val (.int fa), .val (.long ct), .second, .val (.long lu), .second, .val (.long ra), .second, .val (.long da), .second, .val .null] []))
  refine Go.st (fun _ k => XS.aloadN X87.here hx rfl (hb hby d40_37) rfl rfl k) ?_
  show Go _ _ _ _ (T87.setTop (mkF m 38 #[.val (.ref so), .val (.ref qu), .val (.ref ii), .val (.long du), .second, .val .null, .val (.ref se), .val (.int atm), .val (.int fa), .val (.long ct), .second, .val (.long lu), .second, .val (.long ra), .second, .val (.long da), .second, .val .null] [(.ref so)]))
  refine Go.st (fun _ k => XS.iload X87.here hx rfl (hb hby d40_38) rfl k) ?_
  show Go _ _ _ _ (T87.setTop (mkF m 40 #[.val (.ref so), .val (.ref qu), .val (.ref ii), .val (.long du), .second, .val .null, .val (.ref se), .val (.int atm), .val (.int fa), .val (.long ct), .second, .val (.long lu), .second, .val (.long ra), .second, .val (.long da), .second, .val .null] [(.int fa), (.ref so)]))
  obtain ⟨T104, h104, X104, e104, W104, st104⟩ := putF X87 hx hZ hown (host := "") (Or.inl (ow hw 254 rfl)) Via.refl e87 F95 F88 (Or.inr ⟨(ow hw 255 rfl), rfl, hnm⟩) (ow hw 224 rfl) (ty := .int) (by decide) rfl rfl (g := (mkF m 40 #[.val (.ref so), .val (.ref qu), .val (.ref ii), .val (.long du), .second, .val .null, .val (.ref se), .val (.int atm), .val (.int fa), .val (.long ct), .second, .val (.long lu), .second, .val (.long ra), .second, .val (.long da), .second, .val .null] [(.int fa), (.ref so)])) rfl rfl (hb hby d40_40)
  refine Go.st st104 ?_
  have F105 := F88.wr W104
  have F106 := F89.other W104 (Or.inr (slot_ne (Or.inr (ow hw 243 rfl)) (Or.inr (ow hw 255 rfl)) (by decide) (t := (.object "java/lang/String")) (t' := .int) (by decide) (by decide)))
  have F107 := F90.other W104 (Or.inr (slot_ne (Or.inr (ow hw 245 rfl)) (Or.inr (ow hw 255 rfl)) (by decide) (t := (.object "java/lang/String")) (t' := .int) (by decide) (by decide)))
  have F108 := F91.other W104 (Or.inr (slot_ne (Or.inr (ow hw 247 rfl)) (Or.inr (ow hw 255 rfl)) (by decide) (t := .long) (t' := .int) (by decide) (by decide)))
  have F109 := F92.other W104 (Or.inr (slot_ne (Or.inr (ow hw 249 rfl)) (Or.inr (ow hw 255 rfl)) (by decide) (t := (.object "java/lang/String")) (t' := .int) (by decide) (by decide)))
  have F110 := F93.other W104 (Or.inr (slot_ne (Or.inr (ow hw 251 rfl)) (Or.inr (ow hw 255 rfl)) (by decide) (t := (.object "com/example/lapsed/lapsed/State")) (t' := .int) (by decide) (by decide)))
  have F111 := F94.other W104 (Or.inr (slot_ne (Or.inr (ow hw 253 rfl)) (Or.inr (ow hw 255 rfl)) (by decide) (t := .int) (t' := .int) (by decide) (by decide)))
  have F112 := F95.same W104
  have F113 := F96.other W104 (Or.inr (slot_ne (Or.inr (ow hw 257 rfl)) (Or.inr (ow hw 255 rfl)) (by decide) (t := .long) (t' := .int) (by decide) (by decide)))
  have F114 := F97.other W104 (Or.inr (slot_ne (Or.inr (ow hw 259 rfl)) (Or.inr (ow hw 255 rfl)) (by decide) (t := .long) (t' := .int) (by decide) (by decide)))
  have F115 := F98.other W104 (Or.inr (slot_ne (Or.inr (ow hw 261 rfl)) (Or.inr (ow hw 255 rfl)) (by decide) (t := .long) (t' := .int) (by decide) (by decide)))
  have F116 := F99.other W104 (Or.inr (slot_ne (Or.inr (ow hw 263 rfl)) (Or.inr (ow hw 255 rfl)) (by decide) (t := .long) (t' := .int) (by decide) (by decide)))
  have F117 := F100.other W104 (Or.inr (slot_ne (Or.inr (ow hw 265 rfl)) (Or.inr (ow hw 255 rfl)) (by decide) (t := (.object "java/lang/String")) (t' := .int) (by decide) (by decide)))
  have K118 := K101.wr W104 (Or.inl (List.mem_of_getElem? (i := 0) rfl))
  have Z119 := oz_ Z102 W104
  have N120 := Fr.snoc X104 N103 Pf13
  show Go _ _ _ _ (T104.setTop (mkF m 43 #[.val (.ref so), .val (.ref qu), .val (.ref ii), .val (.long du), .second, .val .null, .val (.ref se), .val (.int atm), .val (.int fa), .val (.long ct), .second, .val (.long lu), .second, .val (.long ra), .second, .val (.long da), .second, .val .null] []))
  refine Go.st (fun _ k => XS.aloadN X104.here hx rfl (hb hby d40_43) rfl rfl k) ?_
  show Go _ _ _ _ (T104.setTop (mkF m 44 #[.val (.ref so), .val (.ref qu), .val (.ref ii), .val (.long du), .second, .val .null, .val (.ref se), .val (.int atm), .val (.int fa), .val (.long ct), .second, .val (.long lu), .second, .val (.long ra), .second, .val (.long da), .second, .val .null] [(.ref so)]))
  refine Go.st (fun _ k => XS.lload X104.here hx rfl (hb hby d40_44) rfl k) ?_
  show Go _ _ _ _ (T104.setTop (mkF m 46 #[.val (.ref so), .val (.ref qu), .val (.ref ii), .val (.long du), .second, .val .null, .val (.ref se), .val (.int atm), .val (.int fa), .val (.long ct), .second, .val (.long lu), .second, .val (.long ra), .second, .val (.long da), .second, .val .null] [(.long ct), (.ref so)]))
  obtain ⟨T121, h121, X121, e121, W121, st121⟩ := putF X104 hx hZ hown (host := "") (Or.inl (ow hw 256 rfl)) Via.refl e104 F113 F105 (Or.inr ⟨(ow hw 257 rfl), rfl, hnm⟩) (ow hw 224 rfl) (ty := .long) (by decide) rfl rfl (g := (mkF m 46 #[.val (.ref so), .val (.ref qu), .val (.ref ii), .val (.long du), .second, .val .null, .val (.ref se), .val (.int atm), .val (.int fa), .val (.long ct), .second, .val (.long lu), .second, .val (.long ra), .second, .val (.long da), .second, .val .null] [(.long ct), (.ref so)])) rfl rfl (hb hby d40_46)
  refine Go.st st121 ?_
  have F122 := F105.wr W121
  have F123 := F106.other W121 (Or.inr (slot_ne (Or.inr (ow hw 243 rfl)) (Or.inr (ow hw 257 rfl)) (by decide) (t := (.object "java/lang/String")) (t' := .long) (by decide) (by decide)))
  have F124 := F107.other W121 (Or.inr (slot_ne (Or.inr (ow hw 245 rfl)) (Or.inr (ow hw 257 rfl)) (by decide) (t := (.object "java/lang/String")) (t' := .long) (by decide) (by decide)))
  have F125 := F108.other W121 (Or.inr (slot_ne (Or.inr (ow hw 247 rfl)) (Or.inr (ow hw 257 rfl)) (by decide) (t := .long) (t' := .long) (by decide) (by decide)))
  have F126 := F109.other W121 (Or.inr (slot_ne (Or.inr (ow hw 249 rfl)) (Or.inr (ow hw 257 rfl)) (by decide) (t := (.object "java/lang/String")) (t' := .long) (by decide) (by decide)))
  have F127 := F110.other W121 (Or.inr (slot_ne (Or.inr (ow hw 251 rfl)) (Or.inr (ow hw 257 rfl)) (by decide) (t := (.object "com/example/lapsed/lapsed/State")) (t' := .long) (by decide) (by decide)))
  have F128 := F111.other W121 (Or.inr (slot_ne (Or.inr (ow hw 253 rfl)) (Or.inr (ow hw 257 rfl)) (by decide) (t := .int) (t' := .long) (by decide) (by decide)))
  have F129 := F112.other W121 (Or.inr (slot_ne (Or.inr (ow hw 255 rfl)) (Or.inr (ow hw 257 rfl)) (by decide) (t := .int) (t' := .long) (by decide) (by decide)))
  have F130 := F113.same W121
  have F131 := F114.other W121 (Or.inr (slot_ne (Or.inr (ow hw 259 rfl)) (Or.inr (ow hw 257 rfl)) (by decide) (t := .long) (t' := .long) (by decide) (by decide)))
  have F132 := F115.other W121 (Or.inr (slot_ne (Or.inr (ow hw 261 rfl)) (Or.inr (ow hw 257 rfl)) (by decide) (t := .long) (t' := .long) (by decide) (by decide)))
  have F133 := F116.other W121 (Or.inr (slot_ne (Or.inr (ow hw 263 rfl)) (Or.inr (ow hw 257 rfl)) (by decide) (t := .long) (t' := .long) (by decide) (by decide)))
  have F134 := F117.other W121 (Or.inr (slot_ne (Or.inr (ow hw 265 rfl)) (Or.inr (ow hw 257 rfl)) (by decide) (t := (.object "java/lang/String")) (t' := .long) (by decide) (by decide)))
  have K135 := K118.wr W121 (Or.inl (List.mem_of_getElem? (i := 0) rfl))
  have Z136 := oz_ Z119 W121
  have N137 := Fr.snoc X121 N120 Pf13
  show Go _ _ _ _ (T121.setTop (mkF m 49 #[.val (.ref so), .val (.ref qu), .val (.ref ii), .val (.long du), .second, .val .null, .val (.ref se), .val (.int atm), .val (.int fa), .val (.long ct), .second, .val (.long lu), .second, .val (.long ra), .second, .val (.long da), .second, .val .null] []))
  refine Go.st (fun _ k => XS.aloadN X121.here hx rfl (hb hby d40_49) rfl rfl k) ?_
  show Go _ _ _ _ (T121.setTop (mkF m 50 #[.val (.ref so), .val (.ref qu), .val (.ref ii), .val (.long du), .second, .val .null, .val (.ref se), .val (.int atm), .val (.int fa), .val (.long ct), .second, .val (.long lu), .second, .val (.long ra), .second, .val (.long da), .second, .val .null] [(.ref so)]))
  refine Go.st (fun _ k => XS.lload X121.here hx rfl (hb hby d40_50) rfl k) ?_
  show Go _ _ _ _ (T121.setTop (mkF m 52 #[.val (.ref so), .val (.ref qu), .val (.ref ii), .val (.long du), .second, .val .null, .val (.ref se), .val (.int atm), .val (.int fa), .val (.long ct), .second, .val (.long lu), .second, .val (.long ra), .second, .val (.long da), .second, .val .null] [(.long lu), (.ref so)]))
  obtain ⟨T138, h138, X138, e138, W138, st138⟩ := putF X121 hx hZ hown (host := "") (Or.inl (ow hw 258 rfl)) Via.refl e121 F131 F122 (Or.inr ⟨(ow hw 259 rfl), rfl, hnm⟩) (ow hw 224 rfl) (ty := .long) (by decide) rfl rfl (g := (mkF m 52 #[.val (.ref so), .val (.ref qu), .val (.ref ii), .val (.long du), .second, .val .null, .val (.ref se), .val (.int atm), .val (.int fa), .val (.long ct), .second, .val (.long lu), .second, .val (.long ra), .second, .val (.long da), .second, .val .null] [(.long lu), (.ref so)])) rfl rfl (hb hby d40_52)
  refine Go.st st138 ?_
  have F139 := F122.wr W138
  have F140 := F123.other W138 (Or.inr (slot_ne (Or.inr (ow hw 243 rfl)) (Or.inr (ow hw 259 rfl)) (by decide) (t := (.object "java/lang/String")) (t' := .long) (by decide) (by decide)))
  have F141 := F124.other W138 (Or.inr (slot_ne (Or.inr (ow hw 245 rfl)) (Or.inr (ow hw 259 rfl)) (by decide) (t := (.object "java/lang/String")) (t' := .long) (by decide) (by decide)))
  have F142 := F125.other W138 (Or.inr (slot_ne (Or.inr (ow hw 247 rfl)) (Or.inr (ow hw 259 rfl)) (by decide) (t := .long) (t' := .long) (by decide) (by decide)))
  have F143 := F126.other W138 (Or.inr (slot_ne (Or.inr (ow hw 249 rfl)) (Or.inr (ow hw 259 rfl)) (by decide) (t := (.object "java/lang/String")) (t' := .long) (by decide) (by decide)))
  have F144 := F127.other W138 (Or.inr (slot_ne (Or.inr (ow hw 251 rfl)) (Or.inr (ow hw 259 rfl)) (by decide) (t := (.object "com/example/lapsed/lapsed/State")) (t' := .long) (by decide) (by decide)))
  have F145 := F128.other W138 (Or.inr (slot_ne (Or.inr (ow hw 253 rfl)) (Or.inr (ow hw 259 rfl)) (by decide) (t := .int) (t' := .long) (by decide) (by decide)))
  have F146 := F129.other W138 (Or.inr (slot_ne (Or.inr (ow hw 255 rfl)) (Or.inr (ow hw 259 rfl)) (by decide) (t := .int) (t' := .long) (by decide) (by decide)))
  have F147 := F130.other W138 (Or.inr (slot_ne (Or.inr (ow hw 257 rfl)) (Or.inr (ow hw 259 rfl)) (by decide) (t := .long) (t' := .long) (by decide) (by decide)))
  have F148 := F131.same W138
  have F149 := F132.other W138 (Or.inr (slot_ne (Or.inr (ow hw 261 rfl)) (Or.inr (ow hw 259 rfl)) (by decide) (t := .long) (t' := .long) (by decide) (by decide)))
  have F150 := F133.other W138 (Or.inr (slot_ne (Or.inr (ow hw 263 rfl)) (Or.inr (ow hw 259 rfl)) (by decide) (t := .long) (t' := .long) (by decide) (by decide)))
  have F151 := F134.other W138 (Or.inr (slot_ne (Or.inr (ow hw 265 rfl)) (Or.inr (ow hw 259 rfl)) (by decide) (t := (.object "java/lang/String")) (t' := .long) (by decide) (by decide)))
  have K152 := K135.wr W138 (Or.inl (List.mem_of_getElem? (i := 0) rfl))
  have Z153 := oz_ Z136 W138
  have N154 := Fr.snoc X138 N137 Pf13
  show Go _ _ _ _ (T138.setTop (mkF m 55 #[.val (.ref so), .val (.ref qu), .val (.ref ii), .val (.long du), .second, .val .null, .val (.ref se), .val (.int atm), .val (.int fa), .val (.long ct), .second, .val (.long lu), .second, .val (.long ra), .second, .val (.long da), .second, .val .null] []))
  refine Go.st (fun _ k => XS.aloadN X138.here hx rfl (hb hby d40_55) rfl rfl k) ?_
  show Go _ _ _ _ (T138.setTop (mkF m 56 #[.val (.ref so), .val (.ref qu), .val (.ref ii), .val (.long du), .second, .val .null, .val (.ref se), .val (.int atm), .val (.int fa), .val (.long ct), .second, .val (.long lu), .second, .val (.long ra), .second, .val (.long da), .second, .val .null] [(.ref so)]))
  refine Go.st (fun _ k => XS.lload X138.here hx rfl (hb hby d40_56) rfl k) ?_
  show Go _ _ _ _ (T138.setTop (mkF m 58 #[.val (.ref so), .val (.ref qu), .val (.ref ii), .val (.long du), .second, .val .null, .val (.ref se), .val (.int atm), .val (.int fa), .val (.long ct), .second, .val (.long lu), .second, .val (.long ra), .second, .val (.long da), .second, .val .null] [(.long ra), (.ref so)]))
  obtain ⟨T155, h155, X155, e155, W155, st155⟩ := putF X138 hx hZ hown (host := "") (Or.inl (ow hw 260 rfl)) Via.refl e138 F149 F139 (Or.inr ⟨(ow hw 261 rfl), rfl, hnm⟩) (ow hw 224 rfl) (ty := .long) (by decide) rfl rfl (g := (mkF m 58 #[.val (.ref so), .val (.ref qu), .val (.ref ii), .val (.long du), .second, .val .null, .val (.ref se), .val (.int atm), .val (.int fa), .val (.long ct), .second, .val (.long lu), .second, .val (.long ra), .second, .val (.long da), .second, .val .null] [(.long ra), (.ref so)])) rfl rfl (hb hby d40_58)
  refine Go.st st155 ?_
  have F156 := F139.wr W155
  have F157 := F140.other W155 (Or.inr (slot_ne (Or.inr (ow hw 243 rfl)) (Or.inr (ow hw 261 rfl)) (by decide) (t := (.object "java/lang/String")) (t' := .long) (by decide) (by decide)))
  have F158 := F141.other W155 (Or.inr (slot_ne (Or.inr (ow hw 245 rfl)) (Or.inr (ow hw 261 rfl)) (by decide) (t := (.object "java/lang/String")) (t' := .long) (by decide) (by decide)))
  have F159 := F142.other W155 (Or.inr (slot_ne (Or.inr (ow hw 247 rfl)) (Or.inr (ow hw 261 rfl)) (by decide) (t := .long) (t' := .long) (by decide) (by decide)))
  have F160 := F143.other W155 (Or.inr (slot_ne (Or.inr (ow hw 249 rfl)) (Or.inr (ow hw 261 rfl)) (by decide) (t := (.object "java/lang/String")) (t' := .long) (by decide) (by decide)))
  have F161 := F144.other W155 (Or.inr (slot_ne (Or.inr (ow hw 251 rfl)) (Or.inr (ow hw 261 rfl)) (by decide) (t := (.object "com/example/lapsed/lapsed/State")) (t' := .long) (by decide) (by decide)))
  have F162 := F145.other W155 (Or.inr (slot_ne (Or.inr (ow hw 253 rfl)) (Or.inr (ow hw 261 rfl)) (by decide) (t := .int) (t' := .long) (by decide) (by decide)))
  have F163 := F146.other W155 (Or.inr (slot_ne (Or.inr (ow hw 255 rfl)) (Or.inr (ow hw 261 rfl)) (by decide) (t := .int) (t' := .long) (by decide) (by decide)))
  have F164 := F147.other W155 (Or.inr (slot_ne (Or.inr (ow hw 257 rfl)) (Or.inr (ow hw 261 rfl)) (by decide) (t := .long) (t' := .long) (by decide) (by decide)))
  have F165 := F148.other W155 (Or.inr (slot_ne (Or.inr (ow hw 259 rfl)) (Or.inr (ow hw 261 rfl)) (by decide) (t := .long) (t' := .long) (by decide) (by decide)))
  have F166 := F149.same W155
  have F167 := F150.other W155 (Or.inr (slot_ne (Or.inr (ow hw 263 rfl)) (Or.inr (ow hw 261 rfl)) (by decide) (t := .long) (t' := .long) (by decide) (by decide)))
  have F168 := F151.other W155 (Or.inr (slot_ne (Or.inr (ow hw 265 rfl)) (Or.inr (ow hw 261 rfl)) (by decide) (t := (.object "java/lang/String")) (t' := .long) (by decide) (by decide)))
  have K169 := K152.wr W155 (Or.inl (List.mem_of_getElem? (i := 0) rfl))
  have Z170 := oz_ Z153 W155
  have N171 := Fr.snoc X155 N154 Pf13
  show Go _ _ _ _ (T155.setTop (mkF m 61 #[.val (.ref so), .val (.ref qu), .val (.ref ii), .val (.long du), .second, .val .null, .val (.ref se), .val (.int atm), .val (.int fa), .val (.long ct), .second, .val (.long lu), .second, .val (.long ra), .second, .val (.long da), .second, .val .null] []))
  refine Go.st (fun _ k => XS.aloadN X155.here hx rfl (hb hby d40_61) rfl rfl k) ?_
  show Go _ _ _ _ (T155.setTop (mkF m 62 #[.val (.ref so), .val (.ref qu), .val (.ref ii), .val (.long du), .second, .val .null, .val (.ref se), .val (.int atm), .val (.int fa), .val (.long ct), .second, .val (.long lu), .second, .val (.long ra), .second, .val (.long da), .second, .val .null] [(.ref so)]))
  refine Go.st (fun _ k => XS.lload X155.here hx rfl (hb hby d40_62) rfl k) ?_
  show Go _ _ _ _ (T155.setTop (mkF m 64 #[.val (.ref so), .val (.ref qu), .val (.ref ii), .val (.long du), .second, .val .null, .val (.ref se), .val (.int atm), .val (.int fa), .val (.long ct), .second, .val (.long lu), .second, .val (.long ra), .second, .val (.long da), .second, .val .null] [(.long da), (.ref so)]))
  obtain ⟨T172, h172, X172, e172, W172, st172⟩ := putF X155 hx hZ hown (host := "") (Or.inl (ow hw 262 rfl)) Via.refl e155 F167 F156 (Or.inr ⟨(ow hw 263 rfl), rfl, hnm⟩) (ow hw 224 rfl) (ty := .long) (by decide) rfl rfl (g := (mkF m 64 #[.val (.ref so), .val (.ref qu), .val (.ref ii), .val (.long du), .second, .val .null, .val (.ref se), .val (.int atm), .val (.int fa), .val (.long ct), .second, .val (.long lu), .second, .val (.long ra), .second, .val (.long da), .second, .val .null] [(.long da), (.ref so)])) rfl rfl (hb hby d40_64)
  refine Go.st st172 ?_
  have F173 := F156.wr W172
  have F174 := F157.other W172 (Or.inr (slot_ne (Or.inr (ow hw 243 rfl)) (Or.inr (ow hw 263 rfl)) (by decide) (t := (.object "java/lang/String")) (t' := .long) (by decide) (by decide)))
  have F175 := F158.other W172 (Or.inr (slot_ne (Or.inr (ow hw 245 rfl)) (Or.inr (ow hw 263 rfl)) (by decide) (t := (.object "java/lang/String")) (t' := .long) (by decide) (by decide)))
  have F176 := F159.other W172 (Or.inr (slot_ne (Or.inr (ow hw 247 rfl)) (Or.inr (ow hw 263 rfl)) (by decide) (t := .long) (t' := .long) (by decide) (by decide)))
  have F177 := F160.other W172 (Or.inr (slot_ne (Or.inr (ow hw 249 rfl)) (Or.inr (ow hw 263 rfl)) (by decide) (t := (.object "java/lang/String")) (t' := .long) (by decide) (by decide)))
  have F178 := F161.other W172 (Or.inr (slot_ne (Or.inr (ow hw 251 rfl)) (Or.inr (ow hw 263 rfl)) (by decide) (t := (.object "com/example/lapsed/lapsed/State")) (t' := .long) (by decide) (by decide)))
  have F179 := F162.other W172 (Or.inr (slot_ne (Or.inr (ow hw 253 rfl)) (Or.inr (ow hw 263 rfl)) (by decide) (t := .int) (t' := .long) (by decide) (by decide)))
  have F180 := F163.other W172 (Or.inr (slot_ne (Or.inr (ow hw 255 rfl)) (Or.inr (ow hw 263 rfl)) (by decide) (t := .int) (t' := .long) (by decide) (by decide)))
  have F181 := F164.other W172 (Or.inr (slot_ne (Or.inr (ow hw 257 rfl)) (Or.inr (ow hw 263 rfl)) (by decide) (t := .long) (t' := .long) (by decide) (by decide)))
  have F182 := F165.other W172 (Or.inr (slot_ne (Or.inr (ow hw 259 rfl)) (Or.inr (ow hw 263 rfl)) (by decide) (t := .long) (t' := .long) (by decide) (by decide)))
  have F183 := F166.other W172 (Or.inr (slot_ne (Or.inr (ow hw 261 rfl)) (Or.inr (ow hw 263 rfl)) (by decide) (t := .long) (t' := .long) (by decide) (by decide)))
  have F184 := F167.same W172
  have F185 := F168.other W172 (Or.inr (slot_ne (Or.inr (ow hw 265 rfl)) (Or.inr (ow hw 263 rfl)) (by decide) (t := (.object "java/lang/String")) (t' := .long) (by decide) (by decide)))
  have K186 := K169.wr W172 (Or.inl (List.mem_of_getElem? (i := 0) rfl))
  have Z187 := oz_ Z170 W172
  have N188 := Fr.snoc X172 N171 Pf13
  show Go _ _ _ _ (T172.setTop (mkF m 67 #[.val (.ref so), .val (.ref qu), .val (.ref ii), .val (.long du), .second, .val .null, .val (.ref se), .val (.int atm), .val (.int fa), .val (.long ct), .second, .val (.long lu), .second, .val (.long ra), .second, .val (.long da), .second, .val .null] []))
  refine Go.st (fun _ k => XS.aloadN X172.here hx rfl (hb hby d40_67) rfl rfl k) ?_
  show Go _ _ _ _ (T172.setTop (mkF m 68 #[.val (.ref so), .val (.ref qu), .val (.ref ii), .val (.long du), .second, .val .null, .val (.ref se), .val (.int atm), .val (.int fa), .val (.long ct), .second, .val (.long lu), .second, .val (.long ra), .second, .val (.long da), .second, .val .null] [(.ref so)]))
  refine Go.st (fun _ k => XS.aload X172.here hx rfl (hb hby d40_68) rfl rfl k) ?_
  show Go _ _ _ _ (T172.setTop (mkF m 70 #[.val (.ref so), .val (.ref qu), .val (.ref ii), .val (.long du), .second, .val .null, .val (.ref se), .val (.int atm), .val (.int fa), .val (.long ct), .second, .val (.long lu), .second, .val (.long ra), .second, .val (.long da), .second, .val .null] [.null, (.ref so)]))
  obtain ⟨T189, h189, X189, e189, W189, st189⟩ := putF X172 hx hZ hown (host := "") (Or.inl (ow hw 264 rfl)) Via.refl e172 F185 F173 (Or.inr ⟨(ow hw 265 rfl), rfl, hnm⟩) (ow hw 224 rfl) (ty := (.object "java/lang/String")) (by decide) rfl rfl (g := (mkF m 70 #[.val (.ref so), .val (.ref qu), .val (.ref ii), .val (.long du), .second, .val .null, .val (.ref se), .val (.int atm), .val (.int fa), .val (.long ct), .second, .val (.long lu), .second, .val (.long ra), .second, .val (.long da), .second, .val .null] [.null, (.ref so)])) rfl rfl (hb hby d40_70)
  refine Go.st st189 ?_
  have F190 := F173.wr W189
  have F191 := F174.other W189 (Or.inr (slot_ne (Or.inr (ow hw 243 rfl)) (Or.inr (ow hw 265 rfl)) (by decide) (t := (.object "java/lang/String")) (t' := (.object "java/lang/String")) (by decide) (by decide)))
  have F192 := F175.other W189 (Or.inr (slot_ne (Or.inr (ow hw 245 rfl)) (Or.inr (ow hw 265 rfl)) (by decide) (t := (.object "java/lang/String")) (t' := (.object "java/lang/String")) (by decide) (by decide)))
  have F193 := F176.other W189 (Or.inr (slot_ne (Or.inr (ow hw 247 rfl)) (Or.inr (ow hw 265 rfl)) (by decide) (t := .long) (t' := (.object "java/lang/String")) (by decide) (by decide)))
  have F194 := F177.other W189 (Or.inr (slot_ne (Or.inr (ow hw 249 rfl)) (Or.inr (ow hw 265 rfl)) (by decide) (t := (.object "java/lang/String")) (t' := (.object "java/lang/String")) (by decide) (by decide)))
  have F195 := F178.other W189 (Or.inr (slot_ne (Or.inr (ow hw 251 rfl)) (Or.inr (ow hw 265 rfl)) (by decide) (t := (.object "com/example/lapsed/lapsed/State")) (t' := (.object "java/lang/String")) (by decide) (by decide)))
  have F196 := F179.other W189 (Or.inr (slot_ne (Or.inr (ow hw 253 rfl)) (Or.inr (ow hw 265 rfl)) (by decide) (t := .int) (t' := (.object "java/lang/String")) (by decide) (by decide)))
  have F197 := F180.other W189 (Or.inr (slot_ne (Or.inr (ow hw 255 rfl)) (Or.inr (ow hw 265 rfl)) (by decide) (t := .int) (t' := (.object "java/lang/String")) (by decide) (by decide)))
  have F198 := F181.other W189 (Or.inr (slot_ne (Or.inr (ow hw 257 rfl)) (Or.inr (ow hw 265 rfl)) (by decide) (t := .long) (t' := (.object "java/lang/String")) (by decide) (by decide)))
  have F199 := F182.other W189 (Or.inr (slot_ne (Or.inr (ow hw 259 rfl)) (Or.inr (ow hw 265 rfl)) (by decide) (t := .long) (t' := (.object "java/lang/String")) (by decide) (by decide)))
  have F200 := F183.other W189 (Or.inr (slot_ne (Or.inr (ow hw 261 rfl)) (Or.inr (ow hw 265 rfl)) (by decide) (t := .long) (t' := (.object "java/lang/String")) (by decide) (by decide)))
  have F201 := F184.other W189 (Or.inr (slot_ne (Or.inr (ow hw 263 rfl)) (Or.inr (ow hw 265 rfl)) (by decide) (t := .long) (t' := (.object "java/lang/String")) (by decide) (by decide)))
  have F202 := F185.same W189
  have K203 := K186.wr W189 (Or.inl (List.mem_of_getElem? (i := 0) rfl))
  have Z204 := oz_ Z187 W189
  have N205 := Fr.snoc X189 N188 Pf13
  show Go _ _ _ _ (T189.setTop (mkF m 73 #[.val (.ref so), .val (.ref qu), .val (.ref ii), .val (.long du), .second, .val .null, .val (.ref se), .val (.int atm), .val (.int fa), .val (.long ct), .second, .val (.long lu), .second, .val (.long ra), .second, .val (.long da), .second, .val .null] []))
  subst hG
  obtain ⟨fs, hr, hrun, hended, hW, hsame⟩ := X189.leave (v := none) (fun _ => rfl)
  refine ⟨_, _, ?_, hrun, hended, _, _, rfl, ?_, ⟨_, rfl⟩, hW, hsame.mono (by decide) (by decide)⟩
  · exact X189.returnOut hx Bd.returns (hb hby d40_73) hr
  · show Q_tin0 Z so qu ii du se atm fa ct lu ra da h0 n0 _ T189.heap _
    rw [e189]
    exact ⟨rfl, N205, K203, F190, F191, F192, F193, F194, F195, F196, F197, F198, F199, F200, F201, F202⟩
theorem ef_tin1 (m : MethodId) (so : Addr) (qu : Addr) (ii : Addr) (du : Int64) (se : Addr) (atm : Int32) (fa : Int32) (ct : Int64) (lu : Int64) (ra : Int64) (da : Int64) (le : Addr) : entryFrame m #[(.ref so), (.ref qu), (.ref ii), (.long du), .null, (.ref se), (.int atm), (.int fa), (.long ct), (.long lu), (.long ra), (.long da), (.ref le)] 18 = mkF m 0 #[.val (.ref so), .val (.ref qu), .val (.ref ii), .val (.long du), .second, .val .null, .val (.ref se), .val (.int atm), .val (.int fa), .val (.long ct), .second, .val (.long lu), .second, .val (.long ra), .second, .val (.long da), .second, .val (.ref le)] [] := by first | (simp [entryFrame, mkF, argsToLocals, Value.category]; done) | rfl
def Q_tin1 (Z : State) (so : Addr) (qu : Addr) (ii : Addr) (du : Int64) (se : Addr) (atm : Int32) (fa : Int32) (ct : Int64) (lu : Int64) (ra : Int64) (da : Int64) (le : Addr) (h0 : Heap) (n0 : Nat) (v : Option Value) (h : Heap) (L : List Loc) : Prop := v = none ∧ Fr n0 L ∧ Keep h0 h [so] ∧ Exa Z h so "com/example/lapsed/lapsed/Timeout" ∧ Fld Z h so "com/example/lapsed/lapsed/Timeout" "queue" "Ljava/lang/String;" (.ref qu) ∧ Fld Z h so "com/example/lapsed/lapsed/Timeout" "id" "Ljava/lang/String;" (.ref ii) ∧ Fld Z h so "com/example/lapsed/lapsed/Timeout" "dueAt" "J" (.long du) ∧ Fld Z h so "com/example/lapsed/lapsed/Timeout" "payload" "Ljava/lang/String;" .null ∧ Fld Z h so "com/example/lapsed/lapsed/Timeout" "state" "Lcom/example/lapsed/lapsed/State;" (.ref se) ∧ Fld Z h so "com/example/lapsed/lapsed/Timeout" "attempt" "I" (.int atm) ∧ Fld Z h so "com/example/lapsed/lapsed/Timeout" "failures" "I" (.int fa) ∧ Fld Z h so "com/example/lapsed/lapsed/Timeout" "claimedAt" "J" (.long ct) ∧ Fld Z h so "com/example/lapsed/lapsed/Timeout" "leaseUntil" "J" (.long lu) ∧ Fld Z h so "com/example/lapsed/lapsed/Timeout" "retryAt" "J" (.long ra) ∧ Fld Z h so "com/example/lapsed/lapsed/Timeout" "deadAt" "J" (.long da) ∧ Fld Z h so "com/example/lapsed/lapsed/Timeout" "lastError" "Ljava/lang/String;" (.ref le)
set_option maxRecDepth 65536 in
set_option maxHeartbeats 40000000 in
theorem rm_tin1 (l : Launch) (Z : State) (a0 : Array Value) (hw : ∀ d ∈ tables_1, d.before a0 Z = true) (ws : List Jvm.Cond) (so : Addr) (qu : Addr) (ii : Addr) (du : Int64) (se : Addr) (atm : Int32) (fa : Int32) (ct : Int64) (lu : Int64) (ra : Int64) (da : Int64) (le : Addr) (h0 : Heap) (n0 : Nat) (Z0 : n0 ≤ h0.size) (Pf0 : Exa Z h0 so "com/example/lapsed/lapsed/Timeout") (Pf1 : Fld Z h0 so "com/example/lapsed/lapsed/Timeout" "queue" "Ljava/lang/String;" .null) (Pf2 : Fld Z h0 so "com/example/lapsed/lapsed/Timeout" "id" "Ljava/lang/String;" .null) (Pf3 : Fld Z h0 so "com/example/lapsed/lapsed/Timeout" "dueAt" "J" (.long (0 : Int64))) (Pf4 : Fld Z h0 so "com/example/lapsed/lapsed/Timeout" "payload" "Ljava/lang/String;" .null) (Pf5 : Fld Z h0 so "com/example/lapsed/lapsed/Timeout" "state" "Lcom/example/lapsed/lapsed/State;" .null) (Pf6 : Fld Z h0 so "com/example/lapsed/lapsed/Timeout" "attempt" "I" (.int (0 : Int32))) (Pf7 : Fld Z h0 so "com/example/lapsed/lapsed/Timeout" "failures" "I" (.int (0 : Int32))) (Pf8 : Fld Z h0 so "com/example/lapsed/lapsed/Timeout" "claimedAt" "J" (.long (0 : Int64))) (Pf9 : Fld Z h0 so "com/example/lapsed/lapsed/Timeout" "leaseUntil" "J" (.long (0 : Int64))) (Pf10 : Fld Z h0 so "com/example/lapsed/lapsed/Timeout" "retryAt" "J" (.long (0 : Int64))) (Pf11 : Fld Z h0 so "com/example/lapsed/lapsed/Timeout" "deadAt" "J" (.long (0 : Int64))) (Pf12 : Fld Z h0 so "com/example/lapsed/lapsed/Timeout" "lastError" "Ljava/lang/String;" .null) (Pf13 : n0 ≤ so) :
    MetFree l (⟨"com/example/lapsed/lapsed/Timeout", "<init>", "(Ljava/lang/String;Ljava/lang/String;JLjava/lang/String;Lcom/example/lapsed/lapsed/State;IIJJJJLjava/lang/String;)V"⟩ : MethodName) (head1 (Jvm.Cond.code (⟨"com/example/lapsed/lapsed/Timeout", "<init>", "(Ljava/lang/String;Ljava/lang/String;JLjava/lang/String;Lcom/example/lapsed/lapsed/State;IIJJJJLjava/lang/String;)V"⟩ : MethodName) prog_14_method_1_code 18 none :: ws) ({ frames := 1, cells := 0, slots := 0, locals := 12 } : Room)) (fun a U => a = #[(.ref so), (.ref qu), (.ref ii), (.long du), .null, (.ref se), (.int atm), (.int fa), (.long ct), (.long lu), (.long ra), (.long da), (.ref le)] ∧ Z.Warmed39 U.vm ∧ U.heap = h0) (fun _ _ _ _ _ => True) (fun _ U o U' => ∃ v L, o = .returned v ∧ Q_tin1 Z so qu ii du se atm fa ct lu ra da le h0 n0 v U'.heap L ∧ FrameEnd U o U' L ({ frames := 1, cells := 0, slots := 0, locals := 12 } : Room).cells ({ frames := 1, cells := 0, slots := 0, locals := 12 } : Room).slots) := by
  refine MetFree.of_bodySF (plainFor_of_name pn_16) hisR ?_
  intro p e s m args below meth c s₁ Bd hml0 hP hK
  obtain ⟨rfl, hZ, hh⟩ := hP
  have hx := Bd.exec
  have hby := Bd.bytes
  have hml : c.maxLocals = 18 := hml0
  have hown : s.vm.findClass "com/example/lapsed/lapsed/Timeout" = some m.cls := findClass_of_methodNamed Bd.named
  have hnm := (name_of_methodNamed Bd.named Bd.method).1
  have X0 : Stand p l e ({ frames := 1, cells := 0, slots := 0, locals := 12 } : Room) s m #[(.ref so), (.ref qu), (.ref ii), (.long du), .null, (.ref se), (.int atm), (.int fa), (.long ct), (.long lu), (.long ra), (.long da), (.ref le)] below meth c s₁ [] 0 0 := Stand.of_body Bd
  have e0 : s₁.heap = h0 := by rw [← hh, Bd.state]; rfl
  have N0 := Fr.nil n0
  have K0 : Keep h0 h0 [so] := Keep.refl h0 [so]
  show Go p.tables e below _ (s₁.setTop (entryFrame m #[(.ref so), (.ref qu), (.ref ii), (.long du), .null, (.ref se), (.int atm), (.int fa), (.long ct), (.long lu), (.long ra), (.long da), (.ref le)] 18))
  refine Go.start ?_
  intro G hG
  refine Go.st (fun t k => castTop (ef_tin1 m so qu ii du se atm fa ct lu ra da le) k) ?_
  show Go _ _ _ _ (s₁.setTop (mkF m 0 #[.val (.ref so), .val (.ref qu), .val (.ref ii), .val (.long du), .second, .val .null, .val (.ref se), .val (.int atm), .val (.int fa), .val (.long ct), .second, .val (.long lu), .second, .val (.long ra), .second, .val (.long da), .second, .val (.ref le)] []))
  refine Go.st (fun _ k => XS.aloadN X0.here hx rfl (hb hby d40_0) rfl rfl k) ?_
  show Go _ _ _ _ (s₁.setTop (mkF m 1 #[.val (.ref so), .val (.ref qu), .val (.ref ii), .val (.long du), .second, .val .null, .val (.ref se), .val (.int atm), .val (.int fa), .val (.long ct), .second, .val (.long lu), .second, .val (.long ra), .second, .val (.long da), .second, .val (.ref le)] [(.ref so)]))
  obtain ⟨T1, X1, e1, st1⟩ := initO X0 hx hZ hown (ow hw 241 rfl) (ow hw 22 rfl) (ow hw 23 rfl) e0 (g := (mkF m 1 #[.val (.ref so), .val (.ref qu), .val (.ref ii), .val (.long du), .second, .val .null, .val (.ref se), .val (.int atm), .val (.int fa), .val (.long ct), .second, .val (.long lu), .second, .val (.long ra), .second, .val (.long da), .second, .val (.ref le)] [(.ref so)])) rfl (by rw [hml]; rfl) rfl (hb hby d40_1) (by decide) (W := 0) (by show 2 * 0 + _ ≤ _; exact Nat.le_of_eq rfl) (by decide)
  refine Go.st st1 ?_
  show Go _ _ _ _ (T1.setTop (mkF m 4 #[.val (.ref so), .val (.ref qu), .val (.ref ii), .val (.long du), .second, .val .null, .val (.ref se), .val (.int atm), .val (.int fa), .val (.long ct), .second, .val (.long lu), .second, .val (.long ra), .second, .val (.long da), .second, .val (.ref le)] []))
  refine Go.st (fun _ k => XS.aloadN X1.here hx rfl (hb hby d40_4) rfl rfl k) ?_
  show Go _ _ _ _ (T1.setTop (mkF m 5 #[.val (.ref so), .val (.ref qu), .val (.ref ii), .val (.long du), .second, .val .null, .val (.ref se), .val (.int atm), .val (.int fa), .val (.long ct), .second, .val (.long lu), .second, .val (.long ra), .second, .val (.long da), .second, .val (.ref le)] [(.ref so)]))
  refine Go.st (fun _ k => XS.aloadN X1.here hx rfl (hb hby d40_5) rfl rfl k) ?_
  show Go _ _ _ _ (T1.setTop (mkF m 6 #[.val (.ref so), .val (.ref qu), .val (.ref ii), .val (.long du), .second, .val .null, .val (.ref se), .val (.int atm), .val (.int fa), .val (.long ct), .second, .val (.long lu), .second, .val (.long ra), .second, .val (.long da), .second, .val (.ref le)] [(.ref qu), (.ref so)]))
  obtain ⟨T2, h2, X2, e2, W2, st2⟩ := putF X1 hx hZ hown (host := "") (Or.inl (ow hw 242 rfl)) Via.refl e1 Pf1 Pf0 (Or.inr ⟨(ow hw 243 rfl), rfl, hnm⟩) (ow hw 224 rfl) (ty := (.object "java/lang/String")) (by decide) rfl rfl (g := (mkF m 6 #[.val (.ref so), .val (.ref qu), .val (.ref ii), .val (.long du), .second, .val .null, .val (.ref se), .val (.int atm), .val (.int fa), .val (.long ct), .second, .val (.long lu), .second, .val (.long ra), .second, .val (.long da), .second, .val (.ref le)] [(.ref qu), (.ref so)])) rfl rfl (hb hby d40_6)
  refine Go.st st2 ?_
  have F3 := Pf0.wr W2
  have F4 := Pf1.same W2
  have F5 := Pf2.other W2 (Or.inr (slot_ne (Or.inr (ow hw 245 rfl)) (Or.inr (ow hw 243 rfl)) (by decide) (t := (.object "java/lang/String")) (t' := (.object "java/lang/String")) (by decide) (by decide)))
  have F6 := Pf3.other W2 (Or.inr (slot_ne (Or.inr (ow hw 247 rfl)) (Or.inr (ow hw 243 rfl)) (by decide) (t := .long) (t' := (.object "java/lang/String")) (by decide) (by decide)))
  have F7 := Pf4.other W2 (Or.inr (slot_ne (Or.inr (ow hw 249 rfl)) (Or.inr (ow hw 243 rfl)) (by decide) (t := (.object "java/lang/String")) (t' := (.object "java/lang/String")) (by decide) (by decide)))
  have F8 := Pf5.other W2 (Or.inr (slot_ne (Or.inr (ow hw 251 rfl)) (Or.inr (ow hw 243 rfl)) (by decide) (t := (.object "com/example/lapsed/lapsed/State")) (t' := (.object "java/lang/String")) (by decide) (by decide)))
  have F9 := Pf6.other W2 (Or.inr (slot_ne (Or.inr (ow hw 253 rfl)) (Or.inr (ow hw 243 rfl)) (by decide) (t := .int) (t' := (.object "java/lang/String")) (by decide) (by decide)))
  have F10 := Pf7.other W2 (Or.inr (slot_ne (Or.inr (ow hw 255 rfl)) (Or.inr (ow hw 243 rfl)) (by decide) (t := .int) (t' := (.object "java/lang/String")) (by decide) (by decide)))
  have F11 := Pf8.other W2 (Or.inr (slot_ne (Or.inr (ow hw 257 rfl)) (Or.inr (ow hw 243 rfl)) (by decide) (t := .long) (t' := (.object "java/lang/String")) (by decide) (by decide)))
  have F12 := Pf9.other W2 (Or.inr (slot_ne (Or.inr (ow hw 259 rfl)) (Or.inr (ow hw 243 rfl)) (by decide) (t := .long) (t' := (.object "java/lang/String")) (by decide) (by decide)))
  have F13 := Pf10.other W2 (Or.inr (slot_ne (Or.inr (ow hw 261 rfl)) (Or.inr (ow hw 243 rfl)) (by decide) (t := .long) (t' := (.object "java/lang/String")) (by decide) (by decide)))
  have F14 := Pf11.other W2 (Or.inr (slot_ne (Or.inr (ow hw 263 rfl)) (Or.inr (ow hw 243 rfl)) (by decide) (t := .long) (t' := (.object "java/lang/String")) (by decide) (by decide)))
  have F15 := Pf12.other W2 (Or.inr (slot_ne (Or.inr (ow hw 265 rfl)) (Or.inr (ow hw 243 rfl)) (by decide) (t := (.object "java/lang/String")) (t' := (.object "java/lang/String")) (by decide) (by decide)))
  have K16 := K0.wr W2 (Or.inl (List.mem_of_getElem? (i := 0) rfl))
  have Z17 := oz_ Z0 W2
  have N18 := Fr.snoc X2 N0 Pf13
  show Go _ _ _ _ (T2.setTop (mkF m 9 #[.val (.ref so), .val (.ref qu), .val (.ref ii), .val (.long du), .second, .val .null, .val (.ref se), .val (.int atm), .val (.int fa), .val (.long ct), .second, .val (.long lu), .second, .val (.long ra), .second, .val (.long da), .second, .val (.ref le)] []))
  refine Go.st (fun _ k => XS.aloadN X2.here hx rfl (hb hby d40_9) rfl rfl k) ?_
  show Go _ _ _ _ (T2.setTop (mkF m 10 #[.val (.ref so), .val (.ref qu), .val (.ref ii), .val (.long du), .second, .val .null, .val (.ref se), .val (.int atm), .val (.int fa), .val (.long ct), .second, .val (.long lu), .second, .val (.long ra), .second, .val (.long da), .second, .val (.ref le)] [(.ref so)]))
  refine Go.st (fun _ k => XS.aloadN X2.here hx rfl (hb hby d40_10) rfl rfl k) ?_
  show Go _ _ _ _ (T2.setTop (mkF m 11 #[.val (.ref so), .val (.ref qu), .val (.ref ii), .val (.long du), .second, .val .null, .val (.ref se), .val (.int atm), .val (.int fa), .val (.long ct), .second, .val (.long lu), .second, .val (.long ra), .second, .val (.long da), .second, .val (.ref le)] [(.ref ii), (.ref so)]))
  obtain ⟨T19, h19, X19, e19, W19, st19⟩ := putF X2 hx hZ hown (host := "") (Or.inl (ow hw 244 rfl)) Via.refl e2 F5 F3 (Or.inr ⟨(ow hw 245 rfl), rfl, hnm⟩) (ow hw 224 rfl) (ty := (.object "java/lang/String")) (by decide) rfl rfl (g := (mkF m 11 #[.val (.ref so), .val (.ref qu), .val (.ref ii), .val (.long du), .second, .val .null, .val (.ref se), .val (.int atm), .val (.int fa), .val (.long ct), .second, .val (.long lu), .second, .val (.long ra), .second, .val (.long da), .second, .val (.ref le)] [(.ref ii), (.ref so)])) rfl rfl (hb hby d40_11)
  refine Go.st st19 ?_
  have F20 := F3.wr W19
  have F21 := F4.other W19 (Or.inr (slot_ne (Or.inr (ow hw 243 rfl)) (Or.inr (ow hw 245 rfl)) (by decide) (t := (.object "java/lang/String")) (t' := (.object "java/lang/String")) (by decide) (by decide)))
  have F22 := F5.same W19
  have F23 := F6.other W19 (Or.inr (slot_ne (Or.inr (ow hw 247 rfl)) (Or.inr (ow hw 245 rfl)) (by decide) (t := .long) (t' := (.object "java/lang/String")) (by decide) (by decide)))
  have F24 := F7.other W19 (Or.inr (slot_ne (Or.inr (ow hw 249 rfl)) (Or.inr (ow hw 245 rfl)) (by decide) (t := (.object "java/lang/String")) (t' := (.object "java/lang/String")) (by decide) (by decide)))
  have F25 := F8.other W19 (Or.inr (slot_ne (Or.inr (ow hw 251 rfl)) (Or.inr (ow hw 245 rfl)) (by decide) (t := (.object "com/example/lapsed/lapsed/State")) (t' := (.object "java/lang/String")) (by decide) (by decide)))
  have F26 := F9.other W19 (Or.inr (slot_ne (Or.inr (ow hw 253 rfl)) (Or.inr (ow hw 245 rfl)) (by decide) (t := .int) (t' := (.object "java/lang/String")) (by decide) (by decide)))
  have F27 := F10.other W19 (Or.inr (slot_ne (Or.inr (ow hw 255 rfl)) (Or.inr (ow hw 245 rfl)) (by decide) (t := .int) (t' := (.object "java/lang/String")) (by decide) (by decide)))
  have F28 := F11.other W19 (Or.inr (slot_ne (Or.inr (ow hw 257 rfl)) (Or.inr (ow hw 245 rfl)) (by decide) (t := .long) (t' := (.object "java/lang/String")) (by decide) (by decide)))
  have F29 := F12.other W19 (Or.inr (slot_ne (Or.inr (ow hw 259 rfl)) (Or.inr (ow hw 245 rfl)) (by decide) (t := .long) (t' := (.object "java/lang/String")) (by decide) (by decide)))
  have F30 := F13.other W19 (Or.inr (slot_ne (Or.inr (ow hw 261 rfl)) (Or.inr (ow hw 245 rfl)) (by decide) (t := .long) (t' := (.object "java/lang/String")) (by decide) (by decide)))
  have F31 := F14.other W19 (Or.inr (slot_ne (Or.inr (ow hw 263 rfl)) (Or.inr (ow hw 245 rfl)) (by decide) (t := .long) (t' := (.object "java/lang/String")) (by decide) (by decide)))
  have F32 := F15.other W19 (Or.inr (slot_ne (Or.inr (ow hw 265 rfl)) (Or.inr (ow hw 245 rfl)) (by decide) (t := (.object "java/lang/String")) (t' := (.object "java/lang/String")) (by decide) (by decide)))
  have K33 := K16.wr W19 (Or.inl (List.mem_of_getElem? (i := 0) rfl))
  have Z34 := oz_ Z17 W19
  have N35 := Fr.snoc X19 N18 Pf13
  show Go _ _ _ _ (T19.setTop (mkF m 14 #[.val (.ref so), .val (.ref qu), .val (.ref ii), .val (.long du), .second, .val .null, .val (.ref se), .val (.int atm), .val (.int fa), .val (.long ct), .second, .val (.long lu), .second, .val (.long ra), .second, .val (.long da), .second, .val (.ref le)] []))
  refine Go.st (fun _ k => XS.aloadN X19.here hx rfl (hb hby d40_14) rfl rfl k) ?_
  show Go _ _ _ _ (T19.setTop (mkF m 15 #[.val (.ref so), .val (.ref qu), .val (.ref ii), .val (.long du), .second, .val .null, .val (.ref se), .val (.int atm), .val (.int fa), .val (.long ct), .second, .val (.long lu), .second, .val (.long ra), .second, .val (.long da), .second, .val (.ref le)] [(.ref so)]))
  refine Go.st (fun _ k => XS.lloadN X19.here hx rfl (hb hby d40_15) rfl k) ?_
  show Go _ _ _ _ (T19.setTop (mkF m 16 #[.val (.ref so), .val (.ref qu), .val (.ref ii), .val (.long du), .second, .val .null, .val (.ref se), .val (.int atm), .val (.int fa), .val (.long ct), .second, .val (.long lu), .second, .val (.long ra), .second, .val (.long da), .second, .val (.ref le)] [(.long du), (.ref so)]))
  obtain ⟨T36, h36, X36, e36, W36, st36⟩ := putF X19 hx hZ hown (host := "") (Or.inl (ow hw 246 rfl)) Via.refl e19 F23 F20 (Or.inr ⟨(ow hw 247 rfl), rfl, hnm⟩) (ow hw 224 rfl) (ty := .long) (by decide) rfl rfl (g := (mkF m 16 #[.val (.ref so), .val (.ref qu), .val (.ref ii), .val (.long du), .second, .val .null, .val (.ref se), .val (.int atm), .val (.int fa), .val (.long ct), .second, .val (.long lu), .second, .val (.long ra), .second, .val (.long da), .second, .val (.ref le)] [(.long du), (.ref so)])) rfl rfl (hb hby d40_16)
  refine Go.st st36 ?_
  have F37 := F20.wr W36
  have F38 := F21.other W36 (Or.inr (slot_ne (Or.inr (ow hw 243 rfl)) (Or.inr (ow hw 247 rfl)) (by decide) (t := (.object "java/lang/String")) (t' := .long) (by decide) (by decide)))
  have F39 := F22.other W36 (Or.inr (slot_ne (Or.inr (ow hw 245 rfl)) (Or.inr (ow hw 247 rfl)) (by decide) (t := (.object "java/lang/String")) (t' := .long) (by decide) (by decide)))
  have F40 := F23.same W36
  have F41 := F24.other W36 (Or.inr (slot_ne (Or.inr (ow hw 249 rfl)) (Or.inr (ow hw 247 rfl)) (by decide) (t := (.object "java/lang/String")) (t' := .long) (by decide) (by decide)))
  have F42 := F25.other W36 (Or.inr (slot_ne (Or.inr (ow hw 251 rfl)) (Or.inr (ow hw 247 rfl)) (by decide) (t := (.object "com/example/lapsed/lapsed/State")) (t' := .long) (by decide) (by decide)))
  have F43 := F26.other W36 (Or.inr (slot_ne (Or.inr (ow hw 253 rfl)) (Or.inr (ow hw 247 rfl)) (by decide) (t := .int) (t' := .long) (by decide) (by decide)))
  have F44 := F27.other W36 (Or.inr (slot_ne (Or.inr (ow hw 255 rfl)) (Or.inr (ow hw 247 rfl)) (by decide) (t := .int) (t' := .long) (by decide) (by decide)))
  have F45 := F28.other W36 (Or.inr (slot_ne (Or.inr (ow hw 257 rfl)) (Or.inr (ow hw 247 rfl)) (by decide) (t := .long) (t' := .long) (by decide) (by decide)))
  have F46 := F29.other W36 (Or.inr (slot_ne (Or.inr (ow hw 259 rfl)) (Or.inr (ow hw 247 rfl)) (by decide) (t := .long) (t' := .long) (by decide) (by decide)))
  have F47 := F30.other W36 (Or.inr (slot_ne (Or.inr (ow hw 261 rfl)) (Or.inr (ow hw 247 rfl)) (by decide) (t := .long) (t' := .long) (by decide) (by decide)))
  have F48 := F31.other W36 (Or.inr (slot_ne (Or.inr (ow hw 263 rfl)) (Or.inr (ow hw 247 rfl)) (by decide) (t := .long) (t' := .long) (by decide) (by decide)))
  have F49 := F32.other W36 (Or.inr (slot_ne (Or.inr (ow hw 265 rfl)) (Or.inr (ow hw 247 rfl)) (by decide) (t := (.object "java/lang/String")) (t' := .long) (by decide) (by decide)))
  have K50 := K33.wr W36 (Or.inl (List.mem_of_getElem? (i := 0) rfl))
  have Z51 := oz_ Z34 W36
  have N52 := Fr.snoc X36 N35 Pf13
  show Go _ _ _ _ (T36.setTop (mkF m 19 #[.val (.ref so), .val (.ref qu), .val (.ref ii), .val (.long du), .second, .val .null, .val (.ref se), .val (.int atm), .val (.int fa), .val (.long ct), .second, .val (.long lu), .second, .val (.long ra), .second, .val (.long da), .second, .val (.ref le)] []))
  refine Go.st (fun _ k => XS.aloadN X36.here hx rfl (hb hby d40_19) rfl rfl k) ?_
  show Go _ _ _ _ (T36.setTop (mkF m 20 #[.val (.ref so), .val (.ref qu), .val (.ref ii), .val (.long du), .second, .val .null, .val (.ref se), .val (.int atm), .val (.int fa), .val (.long ct), .second, .val (.long lu), .second, .val (.long ra), .second, .val (.long da), .second, .val (.ref le)] [(.ref so)]))
  refine Go.st (fun _ k => XS.aload X36.here hx rfl (hb hby d40_20) rfl rfl k) ?_
  show Go _ _ _ _ (T36.setTop (mkF m 22 #[.val (.ref so), .val (.ref qu), .val (.ref ii), .val (.long du), .second, .val .null, .val (.ref se), .val (.int atm), .val (.int fa), .val (.long ct), .second, .val (.long lu), .second, .val (.long ra), .second, .val (.long da), .second, .val (.ref le)] [.null, (.ref so)]))
  obtain ⟨T53, h53, X53, e53, W53, st53⟩ := putF X36 hx hZ hown (host := "") (Or.inl (ow hw 248 rfl)) Via.refl e36 F41 F37 (Or.inr ⟨(ow hw 249 rfl), rfl, hnm⟩) (ow hw 224 rfl) (ty := (.object "java/lang/String")) (by decide) rfl rfl (g := (mkF m 22 #[.val (.ref so), .val (.ref qu), .val (.ref ii), .val (.long du), .second, .val .null, .val (.ref se), .val (.int atm), .val (.int fa), .val (.long ct), .second, .val (.long lu), .second, .val (.long ra), .second, .val (.long da), .second, .val (.ref le)] [.null, (.ref so)])) rfl rfl (hb hby d40_22)
  refine Go.st st53 ?_
  have F54 := F37.wr W53
  have F55 := F38.other W53 (Or.inr (slot_ne (Or.inr (ow hw 243 rfl)) (Or.inr (ow hw 249 rfl)) (by decide) (t := (.object "java/lang/String")) (t' := (.object "java/lang/String")) (by decide) (by decide)))
  have F56 := F39.other W53 (Or.inr (slot_ne (Or.inr (ow hw 245 rfl)) (Or.inr (ow hw 249 rfl)) (by decide) (t := (.object "java/lang/String")) (t' := (.object "java/lang/String")) (by decide) (by decide)))
  have F57 := F40.other W53 (Or.inr (slot_ne (Or.inr (ow hw 247 rfl)) (Or.inr (ow hw 249 rfl)) (by decide) (t := .long) (t' := (.object "java/lang/String")) (by decide) (by decide)))
  have F58 := F41.same W53
  have F59 := F42.other W53 (Or.inr (slot_ne (Or.inr (ow hw 251 rfl)) (Or.inr (ow hw 249 rfl)) (by decide) (t := (.object "com/example/lapsed/lapsed/State")) (t' := (.object "java/lang/String")) (by decide) (by decide)))
  have F60 := F43.other W53 (Or.inr (slot_ne (Or.inr (ow hw 253 rfl)) (Or.inr (ow hw 249 rfl)) (by decide) (t := .int) (t' := (.object "java/lang/String")) (by decide) (by decide)))
  have F61 := F44.other W53 (Or.inr (slot_ne (Or.inr (ow hw 255 rfl)) (Or.inr (ow hw 249 rfl)) (by decide) (t := .int) (t' := (.object "java/lang/String")) (by decide) (by decide)))
  have F62 := F45.other W53 (Or.inr (slot_ne (Or.inr (ow hw 257 rfl)) (Or.inr (ow hw 249 rfl)) (by decide) (t := .long) (t' := (.object "java/lang/String")) (by decide) (by decide)))
  have F63 := F46.other W53 (Or.inr (slot_ne (Or.inr (ow hw 259 rfl)) (Or.inr (ow hw 249 rfl)) (by decide) (t := .long) (t' := (.object "java/lang/String")) (by decide) (by decide)))
  have F64 := F47.other W53 (Or.inr (slot_ne (Or.inr (ow hw 261 rfl)) (Or.inr (ow hw 249 rfl)) (by decide) (t := .long) (t' := (.object "java/lang/String")) (by decide) (by decide)))
  have F65 := F48.other W53 (Or.inr (slot_ne (Or.inr (ow hw 263 rfl)) (Or.inr (ow hw 249 rfl)) (by decide) (t := .long) (t' := (.object "java/lang/String")) (by decide) (by decide)))
  have F66 := F49.other W53 (Or.inr (slot_ne (Or.inr (ow hw 265 rfl)) (Or.inr (ow hw 249 rfl)) (by decide) (t := (.object "java/lang/String")) (t' := (.object "java/lang/String")) (by decide) (by decide)))
  have K67 := K50.wr W53 (Or.inl (List.mem_of_getElem? (i := 0) rfl))
  have Z68 := oz_ Z51 W53
  have N69 := Fr.snoc X53 N52 Pf13
  show Go _ _ _ _ (T53.setTop (mkF m 25 #[.val (.ref so), .val (.ref qu), .val (.ref ii), .val (.long du), .second, .val .null, .val (.ref se), .val (.int atm), .val (.int fa), .val (.long ct), .second, .val (.long lu), .second, .val (.long ra), .second, .val (.long da), .second, .val (.ref le)] []))
  refine Go.st (fun _ k => XS.aloadN X53.here hx rfl (hb hby d40_25) rfl rfl k) ?_
  show Go _ _ _ _ (T53.setTop (mkF m 26 #[.val (.ref so), .val (.ref qu), .val (.ref ii), .val (.long du), .second, .val .null, .val (.ref se), .val (.int atm), .val (.int fa), .val (.long ct), .second, .val (.long lu), .second, .val (.long ra), .second, .val (.long da), .second, .val (.ref le)] [(.ref so)]))
  refine Go.st (fun _ k => XS.aload X53.here hx rfl (hb hby d40_26) rfl rfl k) ?_
  show Go _ _ _ _ (T53.setTop (mkF m 28 #[.val (.ref so), .val (.ref qu), .val (.ref ii), .val (.long du), .second, .val .null, .val (.ref se), .val (.int atm), .val (.int fa), .val (.long ct), .second, .val (.long lu), .second, .val (.long ra), .second, .val (.long da), .second, .val (.ref le)] [(.ref se), (.ref so)]))
  obtain ⟨T70, h70, X70, e70, W70, st70⟩ := putF X53 hx hZ hown (host := "") (Or.inl (ow hw 250 rfl)) Via.refl e53 F59 F54 (Or.inr ⟨(ow hw 251 rfl), rfl, hnm⟩) (ow hw 224 rfl) (ty := (.object "com/example/lapsed/lapsed/State")) (by decide) rfl rfl (g := (mkF m 28 #[.val (.ref so), .val (.ref qu), .val (.ref ii), .val (.long du), .second, .val .null, .val (.ref se), .val (.int atm), .val (.int fa), .val (.long ct), .second, .val (.long lu), .second, .val (.long ra), .second, .val (.long da), .second, .val (.ref le)] [(.ref se), (.ref so)])) rfl rfl (hb hby d40_28)
  refine Go.st st70 ?_
  have F71 := F54.wr W70
  have F72 := F55.other W70 (Or.inr (slot_ne (Or.inr (ow hw 243 rfl)) (Or.inr (ow hw 251 rfl)) (by decide) (t := (.object "java/lang/String")) (t' := (.object "com/example/lapsed/lapsed/State")) (by decide) (by decide)))
  have F73 := F56.other W70 (Or.inr (slot_ne (Or.inr (ow hw 245 rfl)) (Or.inr (ow hw 251 rfl)) (by decide) (t := (.object "java/lang/String")) (t' := (.object "com/example/lapsed/lapsed/State")) (by decide) (by decide)))
  have F74 := F57.other W70 (Or.inr (slot_ne (Or.inr (ow hw 247 rfl)) (Or.inr (ow hw 251 rfl)) (by decide) (t := .long) (t' := (.object "com/example/lapsed/lapsed/State")) (by decide) (by decide)))
  have F75 := F58.other W70 (Or.inr (slot_ne (Or.inr (ow hw 249 rfl)) (Or.inr (ow hw 251 rfl)) (by decide) (t := (.object "java/lang/String")) (t' := (.object "com/example/lapsed/lapsed/State")) (by decide) (by decide)))
  have F76 := F59.same W70
  have F77 := F60.other W70 (Or.inr (slot_ne (Or.inr (ow hw 253 rfl)) (Or.inr (ow hw 251 rfl)) (by decide) (t := .int) (t' := (.object "com/example/lapsed/lapsed/State")) (by decide) (by decide)))
  have F78 := F61.other W70 (Or.inr (slot_ne (Or.inr (ow hw 255 rfl)) (Or.inr (ow hw 251 rfl)) (by decide) (t := .int) (t' := (.object "com/example/lapsed/lapsed/State")) (by decide) (by decide)))
  have F79 := F62.other W70 (Or.inr (slot_ne (Or.inr (ow hw 257 rfl)) (Or.inr (ow hw 251 rfl)) (by decide) (t := .long) (t' := (.object "com/example/lapsed/lapsed/State")) (by decide) (by decide)))
  have F80 := F63.other W70 (Or.inr (slot_ne (Or.inr (ow hw 259 rfl)) (Or.inr (ow hw 251 rfl)) (by decide) (t := .long) (t' := (.object "com/example/lapsed/lapsed/State")) (by decide) (by decide)))
  have F81 := F64.other W70 (Or.inr (slot_ne (Or.inr (ow hw 261 rfl)) (Or.inr (ow hw 251 rfl)) (by decide) (t := .long) (t' := (.object "com/example/lapsed/lapsed/State")) (by decide) (by decide)))
  have F82 := F65.other W70 (Or.inr (slot_ne (Or.inr (ow hw 263 rfl)) (Or.inr (ow hw 251 rfl)) (by decide) (t := .long) (t' := (.object "com/example/lapsed/lapsed/State")) (by decide) (by decide)))
  have F83 := F66.other W70 (Or.inr (slot_ne (Or.inr (ow hw 265 rfl)) (Or.inr (ow hw 251 rfl)) (by decide) (t := (.object "java/lang/String")) (t' := (.object "com/example/lapsed/lapsed/State")) (by decide) (by decide)))
  have K84 := K67.wr W70 (Or.inl (List.mem_of_getElem? (i := 0) rfl))
  have Z85 := oz_ Z68 W70
  have N86 := Fr.snoc X70 N69 Pf13
  show Go _ _ _ _ (T70.setTop (mkF m 31 #[.val (.ref so), .val (.ref qu), .val (.ref ii), .val (.long du), .second, .val .null, .val (.ref se), .val (.int atm), .val (.int fa), .val (.long ct), .second, .val (.long lu), .second, .val (.long ra), .second, .val (.long da), .second, .val (.ref le)] []))
  refine Go.st (fun _ k => XS.aloadN X70.here hx rfl (hb hby d40_31) rfl rfl k) ?_
  show Go _ _ _ _ (T70.setTop (mkF m 32 #[.val (.ref so), .val (.ref qu), .val (.ref ii), .val (.long du), .second, .val .null, .val (.ref se), .val (.int atm), .val (.int fa), .val (.long ct), .second, .val (.long lu), .second, .val (.long ra), .second, .val (.long da), .second, .val (.ref le)] [(.ref so)]))
  refine Go.st (fun _ k => XS.iload X70.here hx rfl (hb hby d40_32) rfl k) ?_
  show Go _ _ _ _ (T70.setTop (mkF m 34 #[.val (.ref so), .val (.ref qu), .val (.ref ii), .val (.long du), .second, .val .null, .val (.ref se), .val (.int atm), .val (.int fa), .val (.long ct), .second, .val (.long lu), .second, .val (.long ra), .second, .val (.long da), .second, .val (.ref le)] [(.int atm), (.ref so)]))
  obtain ⟨T87, h87, X87, e87, W87, st87⟩ := putF X70 hx hZ hown (host := "") (Or.inl (ow hw 252 rfl)) Via.refl e70 F77 F71 (Or.inr ⟨(ow hw 253 rfl), rfl, hnm⟩) (ow hw 224 rfl) (ty := .int) (by decide) rfl rfl (g := (mkF m 34 #[.val (.ref so), .val (.ref qu), .val (.ref ii), .val (.long du), .second, .val .null, .val (.ref se), .val (.int atm), .val (.int fa), .val (.long ct), .second, .val (.long lu), .second, .val (.long ra), .second, .val (.long da), .second, .val (.ref le)] [(.int atm), (.ref so)])) rfl rfl (hb hby d40_34)
  refine Go.st st87 ?_
  have F88 := F71.wr W87
  have F89 := F72.other W87 (Or.inr (slot_ne (Or.inr (ow hw 243 rfl)) (Or.inr (ow hw 253 rfl)) (by decide) (t := (.object "java/lang/String")) (t' := .int) (by decide) (by decide)))
  have F90 := F73.other W87 (Or.inr (slot_ne (Or.inr (ow hw 245 rfl)) (Or.inr (ow hw 253 rfl)) (by decide) (t := (.object "java/lang/String")) (t' := .int) (by decide) (by decide)))
  have F91 := F74.other W87 (Or.inr (slot_ne (Or.inr (ow hw 247 rfl)) (Or.inr (ow hw 253 rfl)) (by decide) (t := .long) (t' := .int) (by decide) (by decide)))
  have F92 := F75.other W87 (Or.inr (slot_ne (Or.inr (ow hw 249 rfl)) (Or.inr (ow hw 253 rfl)) (by decide) (t := (.object "java/lang/String")) (t' := .int) (by decide) (by decide)))
  have F93 := F76.other W87 (Or.inr (slot_ne (Or.inr (ow hw 251 rfl)) (Or.inr (ow hw 253 rfl)) (by decide) (t := (.object "com/example/lapsed/lapsed/State")) (t' := .int) (by decide) (by decide)))
  have F94 := F77.same W87
  have F95 := F78.other W87 (Or.inr (slot_ne (Or.inr (ow hw 255 rfl)) (Or.inr (ow hw 253 rfl)) (by decide) (t := .int) (t' := .int) (by decide) (by decide)))
  have F96 := F79.other W87 (Or.inr (slot_ne (Or.inr (ow hw 257 rfl)) (Or.inr (ow hw 253 rfl)) (by decide) (t := .long) (t' := .int) (by decide) (by decide)))
  have F97 := F80.other W87 (Or.inr (slot_ne (Or.inr (ow hw 259 rfl)) (Or.inr (ow hw 253 rfl)) (by decide) (t := .long) (t' := .int) (by decide) (by decide)))
  have F98 := F81.other W87 (Or.inr (slot_ne (Or.inr (ow hw 261 rfl)) (Or.inr (ow hw 253 rfl)) (by decide) (t := .long) (t' := .int) (by decide) (by decide)))
  have F99 := F82.other W87 (Or.inr (slot_ne (Or.inr (ow hw 263 rfl)) (Or.inr (ow hw 253 rfl)) (by decide) (t := .long) (t' := .int) (by decide) (by decide)))
  have F100 := F83.other W87 (Or.inr (slot_ne (Or.inr (ow hw 265 rfl)) (Or.inr (ow hw 253 rfl)) (by decide) (t := (.object "java/lang/String")) (t' := .int) (by decide) (by decide)))
  have K101 := K84.wr W87 (Or.inl (List.mem_of_getElem? (i := 0) rfl))
  have Z102 := oz_ Z85 W87
  have N103 := Fr.snoc X87 N86 Pf13
  show Go _ _ _ _ (T87.setTop (mkF m 37 #[.val (.ref so), .val (.ref qu), .val (.ref ii), .val (.long du), .second, .val .null, .val (.ref se), .val (.int atm), .val (.int fa), .val (.long ct), .second, .val (.long lu), .second, .val (.long ra), .second, .val (.long da), .second, .val (.ref le)] []))
  refine Go.st (fun _ k => XS.aloadN X87.here hx rfl (hb hby d40_37) rfl rfl k) ?_
  show Go _ _ _ _ (T87.setTop (mkF m 38 #[.val (.ref so), .val (.ref qu), .val (.ref ii), .val (.long du), .second, .val .null, .val (.ref se), .val (.int atm), .val (.int fa), .val (.long ct), .second, .val (.long lu), .second, .val (.long ra), .second, .val (.long da), .second, .val (.ref le)] [(.ref so)]))
  refine Go.st (fun _ k => XS.iload X87.here hx rfl (hb hby d40_38) rfl k) ?_
  show Go _ _ _ _ (T87.setTop (mkF m 40 #[.val (.ref so), .val (.ref qu), .val (.ref ii), .val (.long du), .second, .val .null, .val (.ref se), .val (.int atm), .val (.int fa), .val (.long ct), .second, .val (.long lu), .second, .val (.long ra), .second, .val (.long da), .second, .val (.ref le)] [(.int fa), (.ref so)]))
  obtain ⟨T104, h104, X104, e104, W104, st104⟩ := putF X87 hx hZ hown (host := "") (Or.inl (ow hw 254 rfl)) Via.refl e87 F95 F88 (Or.inr ⟨(ow hw 255 rfl), rfl, hnm⟩) (ow hw 224 rfl) (ty := .int) (by decide) rfl rfl (g := (mkF m 40 #[.val (.ref so), .val (.ref qu), .val (.ref ii), .val (.long du), .second, .val .null, .val (.ref se), .val (.int atm), .val (.int fa), .val (.long ct), .second, .val (.long lu), .second, .val (.long ra), .second, .val (.long da), .second, .val (.ref le)] [(.int fa), (.ref so)])) rfl rfl (hb hby d40_40)
  refine Go.st st104 ?_
  have F105 := F88.wr W104
  have F106 := F89.other W104 (Or.inr (slot_ne (Or.inr (ow hw 243 rfl)) (Or.inr (ow hw 255 rfl)) (by decide) (t := (.object "java/lang/String")) (t' := .int) (by decide) (by decide)))
  have F107 := F90.other W104 (Or.inr (slot_ne (Or.inr (ow hw 245 rfl)) (Or.inr (ow hw 255 rfl)) (by decide) (t := (.object "java/lang/String")) (t' := .int) (by decide) (by decide)))
  have F108 := F91.other W104 (Or.inr (slot_ne (Or.inr (ow hw 247 rfl)) (Or.inr (ow hw 255 rfl)) (by decide) (t := .long) (t' := .int) (by decide) (by decide)))
  have F109 := F92.other W104 (Or.inr (slot_ne (Or.inr (ow hw 249 rfl)) (Or.inr (ow hw 255 rfl)) (by decide) (t := (.object "java/lang/String")) (t' := .int) (by decide) (by decide)))
  have F110 := F93.other W104 (Or.inr (slot_ne (Or.inr (ow hw 251 rfl)) (Or.inr (ow hw 255 rfl)) (by decide) (t := (.object "com/example/lapsed/lapsed/State")) (t' := .int) (by decide) (by decide)))
  have F111 := F94.other W104 (Or.inr (slot_ne (Or.inr (ow hw 253 rfl)) (Or.inr (ow hw 255 rfl)) (by decide) (t := .int) (t' := .int) (by decide) (by decide)))
  have F112 := F95.same W104
  have F113 := F96.other W104 (Or.inr (slot_ne (Or.inr (ow hw 257 rfl)) (Or.inr (ow hw 255 rfl)) (by decide) (t := .long) (t' := .int) (by decide) (by decide)))
  have F114 := F97.other W104 (Or.inr (slot_ne (Or.inr (ow hw 259 rfl)) (Or.inr (ow hw 255 rfl)) (by decide) (t := .long) (t' := .int) (by decide) (by decide)))
  have F115 := F98.other W104 (Or.inr (slot_ne (Or.inr (ow hw 261 rfl)) (Or.inr (ow hw 255 rfl)) (by decide) (t := .long) (t' := .int) (by decide) (by decide)))
  have F116 := F99.other W104 (Or.inr (slot_ne (Or.inr (ow hw 263 rfl)) (Or.inr (ow hw 255 rfl)) (by decide) (t := .long) (t' := .int) (by decide) (by decide)))
  have F117 := F100.other W104 (Or.inr (slot_ne (Or.inr (ow hw 265 rfl)) (Or.inr (ow hw 255 rfl)) (by decide) (t := (.object "java/lang/String")) (t' := .int) (by decide) (by decide)))
  have K118 := K101.wr W104 (Or.inl (List.mem_of_getElem? (i := 0) rfl))
  have Z119 := oz_ Z102 W104
  have N120 := Fr.snoc X104 N103 Pf13
  show Go _ _ _ _ (T104.setTop (mkF m 43 #[.val (.ref so), .val (.ref qu), .val (.ref ii), .val (.long du), .second, .val .null, .val (.ref se), .val (.int atm), .val (.int fa), .val (.long ct), .second, .val (.long lu), .second, .val (.long ra), .second, .val (.long da), .second, .val (.ref le)] []))
  refine Go.st (fun _ k => XS.aloadN X104.here hx rfl (hb hby d40_43) rfl rfl k) ?_
  show Go _ _ _ _ (T104.setTop (mkF m 44 #[.val (.ref so), .val (.ref qu), .val (.ref ii), .val (.long du), .second, .val .null, .val (.ref se), .val (.int atm), .val (.int fa), .val (.long ct), .second, .val (.long lu), .second, .val (.long ra), .second, .val (.long da), .second, .val (.ref le)] [(.ref so)]))
  refine Go.st (fun _ k => XS.lload X104.here hx rfl (hb hby d40_44) rfl k) ?_
  show Go _ _ _ _ (T104.setTop (mkF m 46 #[.val (.ref so), .val (.ref qu), .val (.ref ii), .val (.long du), .second, .val .null, .val (.ref se), .val (.int atm), .val (.int fa), .val (.long ct), .second, .val (.long lu), .second, .val (.long ra), .second, .val (.long da), .second, .val (.ref le)] [(.long ct), (.ref so)]))
  obtain ⟨T121, h121, X121, e121, W121, st121⟩ := putF X104 hx hZ hown (host := "") (Or.inl (ow hw 256 rfl)) Via.refl e104 F113 F105 (Or.inr ⟨(ow hw 257 rfl), rfl, hnm⟩) (ow hw 224 rfl) (ty := .long) (by decide) rfl rfl (g := (mkF m 46 #[.val (.ref so), .val (.ref qu), .val (.ref ii), .val (.long du), .second, .val .null, .val (.ref se), .val (.int atm), .val (.int fa), .val (.long ct), .second, .val (.long lu), .second, .val (.long ra), .second, .val (.long da), .second, .val (.ref le)] [(.long ct), (.ref so)])) rfl rfl (hb hby d40_46)
  refine Go.st st121 ?_
  have F122 := F105.wr W121
  have F123 := F106.other W121 (Or.inr (slot_ne (Or.inr (ow hw 243 rfl)) (Or.inr (ow hw 257 rfl)) (by decide) (t := (.object "java/lang/String")) (t' := .long) (by decide) (by decide)))
  have F124 := F107.other W121 (Or.inr (slot_ne (Or.inr (ow hw 245 rfl)) (Or.inr (ow hw 257 rfl)) (by decide) (t := (.object "java/lang/String")) (t' := .long) (by decide) (by decide)))
  have F125 := F108.other W121 (Or.inr (slot_ne (Or.inr (ow hw 247 rfl)) (Or.inr (ow hw 257 rfl)) (by decide) (t := .long) (t' := .long) (by decide) (by decide)))
  have F126 := F109.other W121 (Or.inr (slot_ne (Or.inr (ow hw 249 rfl)) (Or.inr (ow hw 257 rfl)) (by decide) (t := (.object "java/lang/String")) (t' := .long) (by decide) (by decide)))
  have F127 := F110.other W121 (Or.inr (slot_ne (Or.inr (ow hw 251 rfl)) (Or.inr (ow hw 257 rfl)) (by decide) (t := (.object "com/example/lapsed/lapsed/State")) (t' := .long) (by decide) (by decide)))
  have F128 := F111.other W121 (Or.inr (slot_ne (Or.inr (ow hw 253 rfl)) (Or.inr (ow hw 257 rfl)) (by decide) (t := .int) (t' := .long) (by decide) (by decide)))
  have F129 := F112.other W121 (Or.inr (slot_ne (Or.inr (ow hw 255 rfl)) (Or.inr (ow hw 257 rfl)) (by decide) (t := .int) (t' := .long) (by decide) (by decide)))
  have F130 := F113.same W121
  have F131 := F114.other W121 (Or.inr (slot_ne (Or.inr (ow hw 259 rfl)) (Or.inr (ow hw 257 rfl)) (by decide) (t := .long) (t' := .long) (by decide) (by decide)))
  have F132 := F115.other W121 (Or.inr (slot_ne (Or.inr (ow hw 261 rfl)) (Or.inr (ow hw 257 rfl)) (by decide) (t := .long) (t' := .long) (by decide) (by decide)))
  have F133 := F116.other W121 (Or.inr (slot_ne (Or.inr (ow hw 263 rfl)) (Or.inr (ow hw 257 rfl)) (by decide) (t := .long) (t' := .long) (by decide) (by decide)))
  have F134 := F117.other W121 (Or.inr (slot_ne (Or.inr (ow hw 265 rfl)) (Or.inr (ow hw 257 rfl)) (by decide) (t := (.object "java/lang/String")) (t' := .long) (by decide) (by decide)))
  have K135 := K118.wr W121 (Or.inl (List.mem_of_getElem? (i := 0) rfl))
  have Z136 := oz_ Z119 W121
  have N137 := Fr.snoc X121 N120 Pf13
  show Go _ _ _ _ (T121.setTop (mkF m 49 #[.val (.ref so), .val (.ref qu), .val (.ref ii), .val (.long du), .second, .val .null, .val (.ref se), .val (.int atm), .val (.int fa), .val (.long ct), .second, .val (.long lu), .second, .val (.long ra), .second, .val (.long da), .second, .val (.ref le)] []))
  refine Go.st (fun _ k => XS.aloadN X121.here hx rfl (hb hby d40_49) rfl rfl k) ?_
  show Go _ _ _ _ (T121.setTop (mkF m 50 #[.val (.ref so), .val (.ref qu), .val (.ref ii), .val (.long du), .second, .val .null, .val (.ref se), .val (.int atm), .val (.int fa), .val (.long ct), .second, .val (.long lu), .second, .val (.long ra), .second, .val (.long da), .second, .val (.ref le)] [(.ref so)]))
  refine Go.st (fun _ k => XS.lload X121.here hx rfl (hb hby d40_50) rfl k) ?_
  show Go _ _ _ _ (T121.setTop (mkF m 52 #[.val (.ref so), .val (.ref qu), .val (.ref ii), .val (.long du), .second, .val .null, .val (.ref se), .val (.int atm), .val (.int fa), .val (.long ct), .second, .val (.long lu), .second, .val (.long ra), .second, .val (.long da), .second, .val (.ref le)] [(.long lu), (.ref so)]))
  obtain ⟨T138, h138, X138, e138, W138, st138⟩ := putF X121 hx hZ hown (host := "") (Or.inl (ow hw 258 rfl)) Via.refl e121 F131 F122 (Or.inr ⟨(ow hw 259 rfl), rfl, hnm⟩) (ow hw 224 rfl) (ty := .long) (by decide) rfl rfl (g := (mkF m 52 #[.val (.ref so), .val (.ref qu), .val (.ref ii), .val (.long du), .second, .val .null, .val (.ref se), .val (.int atm), .val (.int fa), .val (.long ct), .second, .val (.long lu), .second, .val (.long ra), .second, .val (.long da), .second, .val (.ref le)] [(.long lu), (.ref so)])) rfl rfl (hb hby d40_52)
  refine Go.st st138 ?_
  have F139 := F122.wr W138
  have F140 := F123.other W138 (Or.inr (slot_ne (Or.inr (ow hw 243 rfl)) (Or.inr (ow hw 259 rfl)) (by decide) (t := (.object "java/lang/String")) (t' := .long) (by decide) (by decide)))
  have F141 := F124.other W138 (Or.inr (slot_ne (Or.inr (ow hw 245 rfl)) (Or.inr (ow hw 259 rfl)) (by decide) (t := (.object "java/lang/String")) (t' := .long) (by decide) (by decide)))
  have F142 := F125.other W138 (Or.inr (slot_ne (Or.inr (ow hw 247 rfl)) (Or.inr (ow hw 259 rfl)) (by decide) (t := .long) (t' := .long) (by decide) (by decide)))
  have F143 := F126.other W138 (Or.inr (slot_ne (Or.inr (ow hw 249 rfl)) (Or.inr (ow hw 259 rfl)) (by decide) (t := (.object "java/lang/String")) (t' := .long) (by decide) (by decide)))
  have F144 := F127.other W138 (Or.inr (slot_ne (Or.inr (ow hw 251 rfl)) (Or.inr (ow hw 259 rfl)) (by decide) (t := (.object "com/example/lapsed/lapsed/State")) (t' := .long) (by decide) (by decide)))
  have F145 := F128.other W138 (Or.inr (slot_ne (Or.inr (ow hw 253 rfl)) (Or.inr (ow hw 259 rfl)) (by decide) (t := .int) (t' := .long) (by decide) (by decide)))
  have F146 := F129.other W138 (Or.inr (slot_ne (Or.inr (ow hw 255 rfl)) (Or.inr (ow hw 259 rfl)) (by decide) (t := .int) (t' := .long) (by decide) (by decide)))
  have F147 := F130.other W138 (Or.inr (slot_ne (Or.inr (ow hw 257 rfl)) (Or.inr (ow hw 259 rfl)) (by decide) (t := .long) (t' := .long) (by decide) (by decide)))
  have F148 := F131.same W138
  have F149 := F132.other W138 (Or.inr (slot_ne (Or.inr (ow hw 261 rfl)) (Or.inr (ow hw 259 rfl)) (by decide) (t := .long) (t' := .long) (by decide) (by decide)))
  have F150 := F133.other W138 (Or.inr (slot_ne (Or.inr (ow hw 263 rfl)) (Or.inr (ow hw 259 rfl)) (by decide) (t := .long) (t' := .long) (by decide) (by decide)))
  have F151 := F134.other W138 (Or.inr (slot_ne (Or.inr (ow hw 265 rfl)) (Or.inr (ow hw 259 rfl)) (by decide) (t := (.object "java/lang/String")) (t' := .long) (by decide) (by decide)))
  have K152 := K135.wr W138 (Or.inl (List.mem_of_getElem? (i := 0) rfl))
  have Z153 := oz_ Z136 W138
  have N154 := Fr.snoc X138 N137 Pf13
  show Go _ _ _ _ (T138.setTop (mkF m 55 #[.val (.ref so), .val (.ref qu), .val (.ref ii), .val (.long du), .second, .val .null, .val (.ref se), .val (.int atm), .val (.int fa), .val (.long ct), .second, .val (.long lu), .second, .val (.long ra), .second, .val (.long da), .second, .val (.ref le)] []))
  refine Go.st (fun _ k => XS.aloadN X138.here hx rfl (hb hby d40_55) rfl rfl k) ?_
  show Go _ _ _ _ (T138.setTop (mkF m 56 #[.val (.ref so), .val (.ref qu), .val (.ref ii), .val (.long du), .second, .val .null, .val (.ref se), .val (.int atm), .val (.int fa), .val (.long ct), .second, .val (.long lu), .second, .val (.long ra), .second, .val (.long da), .second, .val (.ref le)] [(.ref so)]))
  refine Go.st (fun _ k => XS.lload X138.here hx rfl (hb hby d40_56) rfl k) ?_
  show Go _ _ _ _ (T138.setTop (mkF m 58 #[.val (.ref so), .val (.ref qu), .val (.ref ii), .val (.long du), .second, .val .null, .val (.ref se), .val (.int atm), .val (.int fa), .val (.long ct), .second, .val (.long lu), .second, .val (.long ra), .second, .val (.long da), .second, .val (.ref le)] [(.long ra), (.ref so)]))
  obtain ⟨T155, h155, X155, e155, W155, st155⟩ := putF X138 hx hZ hown (host := "") (Or.inl (ow hw 260 rfl)) Via.refl e138 F149 F139 (Or.inr ⟨(ow hw 261 rfl), rfl, hnm⟩) (ow hw 224 rfl) (ty := .long) (by decide) rfl rfl (g := (mkF m 58 #[.val (.ref so), .val (.ref qu), .val (.ref ii), .val (.long du), .second, .val .null, .val (.ref se), .val (.int atm), .val (.int fa), .val (.long ct), .second, .val (.long lu), .second, .val (.long ra), .second, .val (.long da), .second, .val (.ref le)] [(.long ra), (.ref so)])) rfl rfl (hb hby d40_58)
  refine Go.st st155 ?_
  have F156 := F139.wr W155
  have F157 := F140.other W155 (Or.inr (slot_ne (Or.inr (ow hw 243 rfl)) (Or.inr (ow hw 261 rfl)) (by decide) (t := (.object "java/lang/String")) (t' := .long) (by decide) (by decide)))
  have F158 := F141.other W155 (Or.inr (slot_ne (Or.inr (ow hw 245 rfl)) (Or.inr (ow hw 261 rfl)) (by decide) (t := (.object "java/lang/String")) (t' := .long) (by decide) (by decide)))
  have F159 := F142.other W155 (Or.inr (slot_ne (Or.inr (ow hw 247 rfl)) (Or.inr (ow hw 261 rfl)) (by decide) (t := .long) (t' := .long) (by decide) (by decide)))
  have F160 := F143.other W155 (Or.inr (slot_ne (Or.inr (ow hw 249 rfl)) (Or.inr (ow hw 261 rfl)) (by decide) (t := (.object "java/lang/String")) (t' := .long) (by decide) (by decide)))
  have F161 := F144.other W155 (Or.inr (slot_ne (Or.inr (ow hw 251 rfl)) (Or.inr (ow hw 261 rfl)) (by decide) (t := (.object "com/example/lapsed/lapsed/State")) (t' := .long) (by decide) (by decide)))
  have F162 := F145.other W155 (Or.inr (slot_ne (Or.inr (ow hw 253 rfl)) (Or.inr (ow hw 261 rfl)) (by decide) (t := .int) (t' := .long) (by decide) (by decide)))
  have F163 := F146.other W155 (Or.inr (slot_ne (Or.inr (ow hw 255 rfl)) (Or.inr (ow hw 261 rfl)) (by decide) (t := .int) (t' := .long) (by decide) (by decide)))
  have F164 := F147.other W155 (Or.inr (slot_ne (Or.inr (ow hw 257 rfl)) (Or.inr (ow hw 261 rfl)) (by decide) (t := .long) (t' := .long) (by decide) (by decide)))
  have F165 := F148.other W155 (Or.inr (slot_ne (Or.inr (ow hw 259 rfl)) (Or.inr (ow hw 261 rfl)) (by decide) (t := .long) (t' := .long) (by decide) (by decide)))
  have F166 := F149.same W155
  have F167 := F150.other W155 (Or.inr (slot_ne (Or.inr (ow hw 263 rfl)) (Or.inr (ow hw 261 rfl)) (by decide) (t := .long) (t' := .long) (by decide) (by decide)))
  have F168 := F151.other W155 (Or.inr (slot_ne (Or.inr (ow hw 265 rfl)) (Or.inr (ow hw 261 rfl)) (by decide) (t := (.object "java/lang/String")) (t' := .long) (by decide) (by decide)))
  have K169 := K152.wr W155 (Or.inl (List.mem_of_getElem? (i := 0) rfl))
  have Z170 := oz_ Z153 W155
  have N171 := Fr.snoc X155 N154 Pf13
  show Go _ _ _ _ (T155.setTop (mkF m 61 #[.val (.ref so), .val (.ref qu), .val (.ref ii), .val (.long du), .second, .val .null, .val (.ref se), .val (.int atm), .val (.int fa), .val (.long ct), .second, .val (.long lu), .second, .val (.long ra), .second, .val (.long da), .second, .val (.ref le)] []))
  refine Go.st (fun _ k => XS.aloadN X155.here hx rfl (hb hby d40_61) rfl rfl k) ?_
  show Go _ _ _ _ (T155.setTop (mkF m 62 #[.val (.ref so), .val (.ref qu), .val (.ref ii), .val (.long du), .second, .val .null, .val (.ref se), .val (.int atm), .val (.int fa), .val (.long ct), .second, .val (.long lu), .second, .val (.long ra), .second, .val (.long da), .second, .val (.ref le)] [(.ref so)]))
  refine Go.st (fun _ k => XS.lload X155.here hx rfl (hb hby d40_62) rfl k) ?_
  show Go _ _ _ _ (T155.setTop (mkF m 64 #[.val (.ref so), .val (.ref qu), .val (.ref ii), .val (.long du), .second, .val .null, .val (.ref se), .val (.int atm), .val (.int fa), .val (.long ct), .second, .val (.long lu), .second, .val (.long ra), .second, .val (.long da), .second, .val (.ref le)] [(.long da), (.ref so)]))
  obtain ⟨T172, h172, X172, e172, W172, st172⟩ := putF X155 hx hZ hown (host := "") (Or.inl (ow hw 262 rfl)) Via.refl e155 F167 F156 (Or.inr ⟨(ow hw 263 rfl), rfl, hnm⟩) (ow hw 224 rfl) (ty := .long) (by decide) rfl rfl (g := (mkF m 64 #[.val (.ref so), .val (.ref qu), .val (.ref ii), .val (.long du), .second, .val .null, .val (.ref se), .val (.int atm), .val (.int fa), .val (.long ct), .second, .val (.long lu), .second, .val (.long ra), .second, .val (.long da), .second, .val (.ref le)] [(.long da), (.ref so)])) rfl rfl (hb hby d40_64)
  refine Go.st st172 ?_
  have F173 := F156.wr W172
  have F174 := F157.other W172 (Or.inr (slot_ne (Or.inr (ow hw 243 rfl)) (Or.inr (ow hw 263 rfl)) (by decide) (t := (.object "java/lang/String")) (t' := .long) (by decide) (by decide)))
  have F175 := F158.other W172 (Or.inr (slot_ne (Or.inr (ow hw 245 rfl)) (Or.inr (ow hw 263 rfl)) (by decide) (t := (.object "java/lang/String")) (t' := .long) (by decide) (by decide)))
  have F176 := F159.other W172 (Or.inr (slot_ne (Or.inr (ow hw 247 rfl)) (Or.inr (ow hw 263 rfl)) (by decide) (t := .long) (t' := .long) (by decide) (by decide)))
  have F177 := F160.other W172 (Or.inr (slot_ne (Or.inr (ow hw 249 rfl)) (Or.inr (ow hw 263 rfl)) (by decide) (t := (.object "java/lang/String")) (t' := .long) (by decide) (by decide)))
  have F178 := F161.other W172 (Or.inr (slot_ne (Or.inr (ow hw 251 rfl)) (Or.inr (ow hw 263 rfl)) (by decide) (t := (.object "com/example/lapsed/lapsed/State")) (t' := .long) (by decide) (by decide)))
  have F179 := F162.other W172 (Or.inr (slot_ne (Or.inr (ow hw 253 rfl)) (Or.inr (ow hw 263 rfl)) (by decide) (t := .int) (t' := .long) (by decide) (by decide)))
  have F180 := F163.other W172 (Or.inr (slot_ne (Or.inr (ow hw 255 rfl)) (Or.inr (ow hw 263 rfl)) (by decide) (t := .int) (t' := .long) (by decide) (by decide)))
  have F181 := F164.other W172 (Or.inr (slot_ne (Or.inr (ow hw 257 rfl)) (Or.inr (ow hw 263 rfl)) (by decide) (t := .long) (t' := .long) (by decide) (by decide)))
  have F182 := F165.other W172 (Or.inr (slot_ne (Or.inr (ow hw 259 rfl)) (Or.inr (ow hw 263 rfl)) (by decide) (t := .long) (t' := .long) (by decide) (by decide)))
  have F183 := F166.other W172 (Or.inr (slot_ne (Or.inr (ow hw 261 rfl)) (Or.inr (ow hw 263 rfl)) (by decide) (t := .long) (t' := .long) (by decide) (by decide)))
  have F184 := F167.same W172
  have F185 := F168.other W172 (Or.inr (slot_ne (Or.inr (ow hw 265 rfl)) (Or.inr (ow hw 263 rfl)) (by decide) (t := (.object "java/lang/String")) (t' := .long) (by decide) (by decide)))
  have K186 := K169.wr W172 (Or.inl (List.mem_of_getElem? (i := 0) rfl))
  have Z187 := oz_ Z170 W172
  have N188 := Fr.snoc X172 N171 Pf13
  show Go _ _ _ _ (T172.setTop (mkF m 67 #[.val (.ref so), .val (.ref qu), .val (.ref ii), .val (.long du), .second, .val .null, .val (.ref se), .val (.int atm), .val (.int fa), .val (.long ct), .second, .val (.long lu), .second, .val (.long ra), .second, .val (.long da), .second, .val (.ref le)] []))
  refine Go.st (fun _ k => XS.aloadN X172.here hx rfl (hb hby d40_67) rfl rfl k) ?_
  show Go _ _ _ _ (T172.setTop (mkF m 68 #[.val (.ref so), .val (.ref qu), .val (.ref ii), .val (.long du), .second, .val .null, .val (.ref se), .val (.int atm), .val (.int fa), .val (.long ct), .second, .val (.long lu), .second, .val (.long ra), .second, .val (.long da), .second, .val (.ref le)] [(.ref so)]))
  refine Go.st (fun _ k => XS.aload X172.here hx rfl (hb hby d40_68) rfl rfl k) ?_
  show Go _ _ _ _ (T172.setTop (mkF m 70 #[.val (.ref so), .val (.ref qu), .val (.ref ii), .val (.long du), .second, .val .null, .val (.ref se), .val (.int atm), .val (.int fa), .val (.long ct), .second, .val (.long lu), .second, .val (.long ra), .second, .val (.long da), .second, .val (.ref le)] [(.ref le), (.ref so)]))
  obtain ⟨T189, h189, X189, e189, W189, st189⟩ := putF X172 hx hZ hown (host := "") (Or.inl (ow hw 264 rfl)) Via.refl e172 F185 F173 (Or.inr ⟨(ow hw 265 rfl), rfl, hnm⟩) (ow hw 224 rfl) (ty := (.object "java/lang/String")) (by decide) rfl rfl (g := (mkF m 70 #[.val (.ref so), .val (.ref qu), .val (.ref ii), .val (.long du), .second, .val .null, .val (.ref se), .val (.int atm), .val (.int fa), .val (.long ct), .second, .val (.long lu), .second, .val (.long ra), .second, .val (.long da), .second, .val (.ref le)] [(.ref le), (.ref so)])) rfl rfl (hb hby d40_70)
  refine Go.st st189 ?_
  have F190 := F173.wr W189
  have F191 := F174.other W189 (Or.inr (slot_ne (Or.inr (ow hw 243 rfl)) (Or.inr (ow hw 265 rfl)) (by decide) (t := (.object "java/lang/String")) (t' := (.object "java/lang/String")) (by decide) (by decide)))
  have F192 := F175.other W189 (Or.inr (slot_ne (Or.inr (ow hw 245 rfl)) (Or.inr (ow hw 265 rfl)) (by decide) (t := (.object "java/lang/String")) (t' := (.object "java/lang/String")) (by decide) (by decide)))
  have F193 := F176.other W189 (Or.inr (slot_ne (Or.inr (ow hw 247 rfl)) (Or.inr (ow hw 265 rfl)) (by decide) (t := .long) (t' := (.object "java/lang/String")) (by decide) (by decide)))
  have F194 := F177.other W189 (Or.inr (slot_ne (Or.inr (ow hw 249 rfl)) (Or.inr (ow hw 265 rfl)) (by decide) (t := (.object "java/lang/String")) (t' := (.object "java/lang/String")) (by decide) (by decide)))
  have F195 := F178.other W189 (Or.inr (slot_ne (Or.inr (ow hw 251 rfl)) (Or.inr (ow hw 265 rfl)) (by decide) (t := (.object "com/example/lapsed/lapsed/State")) (t' := (.object "java/lang/String")) (by decide) (by decide)))
  have F196 := F179.other W189 (Or.inr (slot_ne (Or.inr (ow hw 253 rfl)) (Or.inr (ow hw 265 rfl)) (by decide) (t := .int) (t' := (.object "java/lang/String")) (by decide) (by decide)))
  have F197 := F180.other W189 (Or.inr (slot_ne (Or.inr (ow hw 255 rfl)) (Or.inr (ow hw 265 rfl)) (by decide) (t := .int) (t' := (.object "java/lang/String")) (by decide) (by decide)))
  have F198 := F181.other W189 (Or.inr (slot_ne (Or.inr (ow hw 257 rfl)) (Or.inr (ow hw 265 rfl)) (by decide) (t := .long) (t' := (.object "java/lang/String")) (by decide) (by decide)))
  have F199 := F182.other W189 (Or.inr (slot_ne (Or.inr (ow hw 259 rfl)) (Or.inr (ow hw 265 rfl)) (by decide) (t := .long) (t' := (.object "java/lang/String")) (by decide) (by decide)))
  have F200 := F183.other W189 (Or.inr (slot_ne (Or.inr (ow hw 261 rfl)) (Or.inr (ow hw 265 rfl)) (by decide) (t := .long) (t' := (.object "java/lang/String")) (by decide) (by decide)))
  have F201 := F184.other W189 (Or.inr (slot_ne (Or.inr (ow hw 263 rfl)) (Or.inr (ow hw 265 rfl)) (by decide) (t := .long) (t' := (.object "java/lang/String")) (by decide) (by decide)))
  have F202 := F185.same W189
  have K203 := K186.wr W189 (Or.inl (List.mem_of_getElem? (i := 0) rfl))
  have Z204 := oz_ Z187 W189
  have N205 := Fr.snoc X189 N188 Pf13
  show Go _ _ _ _ (T189.setTop (mkF m 73 #[.val (.ref so), .val (.ref qu), .val (.ref ii), .val (.long du), .second, .val .null, .val (.ref se), .val (.int atm), .val (.int fa), .val (.long ct), .second, .val (.long lu), .second, .val (.long ra), .second, .val (.long da), .second, .val (.ref le)] []))
  subst hG
  obtain ⟨fs, hr, hrun, hended, hW, hsame⟩ := X189.leave (v := none) (fun _ => rfl)
  refine ⟨_, _, ?_, hrun, hended, _, _, rfl, ?_, ⟨_, rfl⟩, hW, hsame.mono (by decide) (by decide)⟩
  · exact X189.returnOut hx Bd.returns (hb hby d40_73) hr
  · show Q_tin1 Z so qu ii du se atm fa ct lu ra da le h0 n0 _ T189.heap _
    rw [e189]
    exact ⟨rfl, N205, K203, F190, F191, F192, F193, F194, F195, F196, F197, F198, F199, F200, F201, F202⟩
theorem d41_0 : decode prog_14_method_11_code 0 = .ok (.aload_n 0, 1) := by decide +kernel
theorem d41_1 : decode prog_14_method_11_code 1 = .ok (.getfield 40, 3) := by decide +kernel
theorem d41_4 : decode prog_14_method_11_code 4 = .ok (.lconst 0, 1) := by decide +kernel
theorem d41_5 : decode prog_14_method_11_code 5 = .ok (.lcmp, 1) := by decide +kernel
theorem d41_6 : decode prog_14_method_11_code 6 = .ok (.ifCond .ne 10, 3) := by decide +kernel
theorem d41_9 : decode prog_14_method_11_code 9 = .ok (.aload_n 0, 1) := by decide +kernel
theorem d41_10 : decode prog_14_method_11_code 10 = .ok (.getfield 16, 3) := by decide +kernel
theorem d41_13 : decode prog_14_method_11_code 13 = .ok (.goto 7, 3) := by decide +kernel
theorem d41_16 : decode prog_14_method_11_code 16 = .ok (.aload_n 0, 1) := by decide +kernel
theorem d41_17 : decode prog_14_method_11_code 17 = .ok (.getfield 40, 3) := by decide +kernel
theorem d41_20 : decode prog_14_method_11_code 20 = .ok (.lreturn, 1) := by decide +kernel
theorem ef_clm (m : MethodId) (so : Addr) : entryFrame m #[(.ref so)] 1 = mkF m 0 #[.val (.ref so)] [] := by first | (simp [entryFrame, mkF, argsToLocals, Value.category]; done) | rfl
def Q_clm (Z : State) (so : Addr) (ra : Int64) (du : Int64) (h0 : Heap) (n0 : Nat) (v : Option Value) (h : Heap) (L : List Loc) : Prop := v = some (.long (cbF ra du)) ∧ Fr n0 L ∧ h = h0
set_option maxRecDepth 65536 in
set_option maxHeartbeats 40000000 in
theorem rm_clm (l : Launch) (Z : State) (a0 : Array Value) (hw : ∀ d ∈ tables_1, d.before a0 Z = true) (ws : List Jvm.Cond) (so : Addr) (ra : Int64) (du : Int64) (h0 : Heap) (n0 : Nat) (Z0 : n0 ≤ h0.size) (Pf0 : Exa Z h0 so "com/example/lapsed/lapsed/Timeout") (Pf1 : Fld Z h0 so "com/example/lapsed/lapsed/Timeout" "retryAt" "J" (.long ra)) (Pf2 : Fld Z h0 so "com/example/lapsed/lapsed/Timeout" "dueAt" "J" (.long du)) :
    MetFree l (⟨"com/example/lapsed/lapsed/Timeout", "claimableAt", "()J"⟩ : MethodName) (head1 (Jvm.Cond.code (⟨"com/example/lapsed/lapsed/Timeout", "claimableAt", "()J"⟩ : MethodName) prog_14_method_11_code 1 (some .long) :: ws) ({ frames := 0, cells := 0, slots := 0, locals := 0 } : Room)) (fun a U => a = #[(.ref so)] ∧ Z.Warmed39 U.vm ∧ U.heap = h0) (fun _ _ _ _ _ => True) (fun _ U o U' => ∃ v L, o = .returned v ∧ Q_clm Z so ra du h0 n0 v U'.heap L ∧ FrameEnd U o U' L ({ frames := 0, cells := 0, slots := 0, locals := 0 } : Room).cells ({ frames := 0, cells := 0, slots := 0, locals := 0 } : Room).slots) := by
  refine MetFree.of_bodySF (plainFor_of_name pn_16) hisR ?_
  intro p e s m args below meth c s₁ Bd hml0 hP hK
  obtain ⟨rfl, hZ, hh⟩ := hP
  have hx := Bd.exec
  have hby := Bd.bytes
  have hml : c.maxLocals = 1 := hml0
  have hown : s.vm.findClass "com/example/lapsed/lapsed/Timeout" = some m.cls := findClass_of_methodNamed Bd.named
  have hnm := (name_of_methodNamed Bd.named Bd.method).1
  have X0 : Stand p l e ({ frames := 0, cells := 0, slots := 0, locals := 0 } : Room) s m #[(.ref so)] below meth c s₁ [] 0 0 := Stand.of_body Bd
  have e0 : s₁.heap = h0 := by rw [← hh, Bd.state]; rfl
  have N0 := Fr.nil n0
  have K0 : Keep h0 h0 [] := Keep.refl h0 []
  show Go p.tables e below _ (s₁.setTop (entryFrame m #[(.ref so)] 1))
  refine Go.start ?_
  intro G hG
  refine Go.st (fun t k => castTop (ef_clm m so) k) ?_
  show Go _ _ _ _ (s₁.setTop (mkF m 0 #[.val (.ref so)] []))
  refine Go.st (fun _ k => XS.aloadN X0.here hx rfl (hb hby d41_0) rfl rfl k) ?_
  show Go _ _ _ _ (s₁.setTop (mkF m 1 #[.val (.ref so)] [(.ref so)]))
  obtain ⟨T1, X1, e1, st1⟩ := getF X0 hx hZ hown (host := "") (Or.inl (ow hw 260 rfl)) Via.refl e0 Pf1 (g := (mkF m 1 #[.val (.ref so)] [(.ref so)])) rfl rfl (hb hby d41_1)
  refine Go.st st1 ?_
  show Go _ _ _ _ (T1.setTop (mkF m 4 #[.val (.ref so)] [(.long ra)]))
  refine Go.st (fun _ k => XS.lconst X1.here hx rfl (hb hby d41_4) k) ?_
  show Go _ _ _ _ (T1.setTop (mkF m 5 #[.val (.ref so)] [(.long (0 : Int64)), (.long ra)]))
  refine Go.st (fun _ k => Jvm.Free.XT.lcmp X1.here hx rfl (hb hby d41_5) rfl k) ?_
  show Go _ _ _ _ (T1.setTop (mkF m 6 #[.val (.ref so)] [(.int (Jvm.Free.XT.cmpL ra (0 : Int64)))]))
  by_cases hc6 : ra = (0 : Int64)
  · skip
    refine Go.st (fun _ k => XS.ifNo X1.here hx rfl (hb hby d41_6) rfl (Jvm.Free.XT.ll_ne_f hc6) k) ?_
    show Go _ _ _ _ (T1.setTop (mkF m 9 #[.val (.ref so)] []))
    refine Go.st (fun _ k => XS.aloadN X1.here hx rfl (hb hby d41_9) rfl rfl k) ?_
    show Go _ _ _ _ (T1.setTop (mkF m 10 #[.val (.ref so)] [(.ref so)]))
    obtain ⟨T2, X2, e2, st2⟩ := getF X1 hx hZ hown (host := "") (Or.inl (ow hw 246 rfl)) Via.refl e1 Pf2 (g := (mkF m 10 #[.val (.ref so)] [(.ref so)])) rfl rfl (hb hby d41_10)
    refine Go.st st2 ?_
    show Go _ _ _ _ (T2.setTop (mkF m 13 #[.val (.ref so)] [(.long du)]))
    refine Go.st (fun _ k => XS.goto X2.here hx rfl (pc0 := 13) (pc' := 20) rfl (hb hby d41_13) (by decide) (by decide) k) ?_
    show Go _ _ _ _ (T2.setTop (mkF m 20 #[.val (.ref so)] [(.long du)]))
    subst hG
    obtain ⟨fs, hr, hrun, hended, hW, hsame⟩ := X2.leave (v := some (.long du)) (fun h => by rw [Bd.returns] at h; cases h)
    refine ⟨_, _, ?_, hrun, hended, _, _, rfl, ?_, ⟨_, rfl⟩, hW, hsame.mono (by decide) (by decide)⟩
    · exact retOut X2 hx Bd.returns rfl (Or.inr (Or.inl ⟨rfl, rfl, _, rfl⟩)) (hb hby d41_20) hr
    · show Q_clm Z so ra du h0 n0 _ T2.heap _
      rw [e2]
      exact ⟨(by simp only [cbF, if_pos hc6]), N0, rfl⟩
  · skip
    refine Go.st (fun _ k => XS.ifYes X1.here hx rfl (pc0 := 6) (pc' := 16) rfl (hb hby d41_6) rfl (Jvm.Free.XT.ll_ne_t hc6) (by decide) (by decide) k) ?_
    show Go _ _ _ _ (T1.setTop (mkF m 16 #[.val (.ref so)] []))
    refine Go.st (fun _ k => XS.aloadN X1.here hx rfl (hb hby d41_16) rfl rfl k) ?_
    show Go _ _ _ _ (T1.setTop (mkF m 17 #[.val (.ref so)] [(.ref so)]))
    obtain ⟨T3, X3, e3, st3⟩ := getF X1 hx hZ hown (host := "") (Or.inl (ow hw 260 rfl)) Via.refl e1 Pf1 (g := (mkF m 17 #[.val (.ref so)] [(.ref so)])) rfl rfl (hb hby d41_17)
    refine Go.st st3 ?_
    show Go _ _ _ _ (T3.setTop (mkF m 20 #[.val (.ref so)] [(.long ra)]))
    subst hG
    obtain ⟨fs, hr, hrun, hended, hW, hsame⟩ := X3.leave (v := some (.long ra)) (fun h => by rw [Bd.returns] at h; cases h)
    refine ⟨_, _, ?_, hrun, hended, _, _, rfl, ?_, ⟨_, rfl⟩, hW, hsame.mono (by decide) (by decide)⟩
    · exact retOut X3 hx Bd.returns rfl (Or.inr (Or.inl ⟨rfl, rfl, _, rfl⟩)) (hb hby d41_20) hr
    · show Q_clm Z so ra du h0 n0 _ T3.heap _
      rw [e3]
      exact ⟨(by simp only [cbF, if_neg hc6]), N0, rfl⟩
theorem pd_22 : parseMethodDescriptor "(Ljava/lang/String;Ljava/lang/String;JLjava/lang/String;Lcom/example/lapsed/lapsed/State;IIJJJJLjava/lang/String;)V" = some ⟨[(.object "java/lang/String"), (.object "java/lang/String"), .long, (.object "java/lang/String"), (.object "com/example/lapsed/lapsed/State"), .int, .int, .long, .long, .long, .long, (.object "java/lang/String")], none⟩ := by decide +kernel
theorem d42_0 : decode prog_14_method_2_code 0 = .ok (.aload_n 0, 1) := by decide +kernel
theorem d42_1 : decode prog_14_method_2_code 1 = .ok (.aload_n 1, 1) := by decide +kernel
theorem d42_2 : decode prog_14_method_2_code 2 = .ok (.getfield 7, 3) := by decide +kernel
theorem d42_5 : decode prog_14_method_2_code 5 = .ok (.aload_n 1, 1) := by decide +kernel
theorem d42_6 : decode prog_14_method_2_code 6 = .ok (.getfield 13, 3) := by decide +kernel
theorem d42_9 : decode prog_14_method_2_code 9 = .ok (.aload_n 1, 1) := by decide +kernel
theorem d42_10 : decode prog_14_method_2_code 10 = .ok (.getfield 16, 3) := by decide +kernel
theorem d42_13 : decode prog_14_method_2_code 13 = .ok (.aload_n 1, 1) := by decide +kernel
theorem d42_14 : decode prog_14_method_2_code 14 = .ok (.getfield 20, 3) := by decide +kernel
theorem d42_17 : decode prog_14_method_2_code 17 = .ok (.aload_n 2, 1) := by decide +kernel
theorem d42_18 : decode prog_14_method_2_code 18 = .ok (.iload_n 3, 1) := by decide +kernel
theorem d42_19 : decode prog_14_method_2_code 19 = .ok (.aload_n 1, 1) := by decide +kernel
theorem d42_20 : decode prog_14_method_2_code 20 = .ok (.getfield 31, 3) := by decide +kernel
theorem d42_23 : decode prog_14_method_2_code 23 = .ok (.lload 4, 2) := by decide +kernel
theorem d42_25 : decode prog_14_method_2_code 25 = .ok (.lload 6, 2) := by decide +kernel
theorem d42_27 : decode prog_14_method_2_code 27 = .ok (.aload_n 1, 1) := by decide +kernel
theorem d42_28 : decode prog_14_method_2_code 28 = .ok (.getfield 40, 3) := by decide +kernel
theorem d42_31 : decode prog_14_method_2_code 31 = .ok (.aload_n 1, 1) := by decide +kernel
theorem d42_32 : decode prog_14_method_2_code 32 = .ok (.getfield 43, 3) := by decide +kernel
theorem d42_35 : decode prog_14_method_2_code 35 = .ok (.aload_n 1, 1) := by decide +kernel
theorem d42_36 : decode prog_14_method_2_code 36 = .ok (.getfield 46, 3) := by decide +kernel
theorem d42_39 : decode prog_14_method_2_code 39 = .ok (.invokespecial 49, 3) := by decide +kernel
theorem d42_42 : decode prog_14_method_2_code 42 = .ok (.return_, 1) := by decide +kernel
theorem ef_tin2 (m : MethodId) (so : Addr) (fo : Addr) (sx : Addr) (ax : Int32) (cx : Int64) (lx : Int64) : entryFrame m #[(.ref so), (.ref fo), (.ref sx), (.int ax), (.long cx), (.long lx)] 8 = mkF m 0 #[.val (.ref so), .val (.ref fo), .val (.ref sx), .val (.int ax), .val (.long cx), .second, .val (.long lx), .second] [] := by first | (simp [entryFrame, mkF, argsToLocals, Value.category]; done) | rfl
def Q_tin2 (Z : State) (so : Addr) (fo : Addr) (sx : Addr) (ax : Int32) (cx : Int64) (lx : Int64) (qu : Addr) (ii : Addr) (du : Int64) (se : Addr) (atm : Int32) (fa : Int32) (ct : Int64) (lu : Int64) (ra : Int64) (da : Int64) (h0 : Heap) (n0 : Nat) (v : Option Value) (h : Heap) (L : List Loc) : Prop := v = none ∧ Fr n0 L ∧ Keep h0 h [so] ∧ Exa Z h so "com/example/lapsed/lapsed/Timeout" ∧ Fld Z h so "com/example/lapsed/lapsed/Timeout" "queue" "Ljava/lang/String;" (.ref qu) ∧ Fld Z h so "com/example/lapsed/lapsed/Timeout" "id" "Ljava/lang/String;" (.ref ii) ∧ Fld Z h so "com/example/lapsed/lapsed/Timeout" "dueAt" "J" (.long du) ∧ Fld Z h so "com/example/lapsed/lapsed/Timeout" "payload" "Ljava/lang/String;" .null ∧ Fld Z h so "com/example/lapsed/lapsed/Timeout" "state" "Lcom/example/lapsed/lapsed/State;" (.ref sx) ∧ Fld Z h so "com/example/lapsed/lapsed/Timeout" "attempt" "I" (.int ax) ∧ Fld Z h so "com/example/lapsed/lapsed/Timeout" "failures" "I" (.int fa) ∧ Fld Z h so "com/example/lapsed/lapsed/Timeout" "claimedAt" "J" (.long cx) ∧ Fld Z h so "com/example/lapsed/lapsed/Timeout" "leaseUntil" "J" (.long lx) ∧ Fld Z h so "com/example/lapsed/lapsed/Timeout" "retryAt" "J" (.long ra) ∧ Fld Z h so "com/example/lapsed/lapsed/Timeout" "deadAt" "J" (.long da) ∧ Fld Z h so "com/example/lapsed/lapsed/Timeout" "lastError" "Ljava/lang/String;" .null
set_option maxRecDepth 65536 in
set_option maxHeartbeats 40000000 in
theorem rm_tin2 (l : Launch) (Z : State) (a0 : Array Value) (hw : ∀ d ∈ tables_1, d.before a0 Z = true) (ws : List Jvm.Cond) (so : Addr) (fo : Addr) (sx : Addr) (ax : Int32) (cx : Int64) (lx : Int64) (qu : Addr) (ii : Addr) (du : Int64) (se : Addr) (atm : Int32) (fa : Int32) (ct : Int64) (lu : Int64) (ra : Int64) (da : Int64) (h0 : Heap) (n0 : Nat) (Z0 : n0 ≤ h0.size) (Pf0 : Exa Z h0 so "com/example/lapsed/lapsed/Timeout") (Pf1 : Fld Z h0 so "com/example/lapsed/lapsed/Timeout" "queue" "Ljava/lang/String;" .null) (Pf2 : Fld Z h0 so "com/example/lapsed/lapsed/Timeout" "id" "Ljava/lang/String;" .null) (Pf3 : Fld Z h0 so "com/example/lapsed/lapsed/Timeout" "dueAt" "J" (.long (0 : Int64))) (Pf4 : Fld Z h0 so "com/example/lapsed/lapsed/Timeout" "payload" "Ljava/lang/String;" .null) (Pf5 : Fld Z h0 so "com/example/lapsed/lapsed/Timeout" "state" "Lcom/example/lapsed/lapsed/State;" .null) (Pf6 : Fld Z h0 so "com/example/lapsed/lapsed/Timeout" "attempt" "I" (.int (0 : Int32))) (Pf7 : Fld Z h0 so "com/example/lapsed/lapsed/Timeout" "failures" "I" (.int (0 : Int32))) (Pf8 : Fld Z h0 so "com/example/lapsed/lapsed/Timeout" "claimedAt" "J" (.long (0 : Int64))) (Pf9 : Fld Z h0 so "com/example/lapsed/lapsed/Timeout" "leaseUntil" "J" (.long (0 : Int64))) (Pf10 : Fld Z h0 so "com/example/lapsed/lapsed/Timeout" "retryAt" "J" (.long (0 : Int64))) (Pf11 : Fld Z h0 so "com/example/lapsed/lapsed/Timeout" "deadAt" "J" (.long (0 : Int64))) (Pf12 : Fld Z h0 so "com/example/lapsed/lapsed/Timeout" "lastError" "Ljava/lang/String;" .null) (Pf13 : Exa Z h0 fo "com/example/lapsed/lapsed/Timeout") (Pf14 : Fld Z h0 fo "com/example/lapsed/lapsed/Timeout" "queue" "Ljava/lang/String;" (.ref qu)) (Pf15 : Fld Z h0 fo "com/example/lapsed/lapsed/Timeout" "id" "Ljava/lang/String;" (.ref ii)) (Pf16 : Fld Z h0 fo "com/example/lapsed/lapsed/Timeout" "dueAt" "J" (.long du)) (Pf17 : Fld Z h0 fo "com/example/lapsed/lapsed/Timeout" "payload" "Ljava/lang/String;" .null) (Pf18 : Fld Z h0 fo "com/example/lapsed/lapsed/Timeout" "state" "Lcom/example/lapsed/lapsed/State;" (.ref se)) (Pf19 : Fld Z h0 fo "com/example/lapsed/lapsed/Timeout" "attempt" "I" (.int atm)) (Pf20 : Fld Z h0 fo "com/example/lapsed/lapsed/Timeout" "failures" "I" (.int fa)) (Pf21 : Fld Z h0 fo "com/example/lapsed/lapsed/Timeout" "claimedAt" "J" (.long ct)) (Pf22 : Fld Z h0 fo "com/example/lapsed/lapsed/Timeout" "leaseUntil" "J" (.long lu)) (Pf23 : Fld Z h0 fo "com/example/lapsed/lapsed/Timeout" "retryAt" "J" (.long ra)) (Pf24 : Fld Z h0 fo "com/example/lapsed/lapsed/Timeout" "deadAt" "J" (.long da)) (Pf25 : Fld Z h0 fo "com/example/lapsed/lapsed/Timeout" "lastError" "Ljava/lang/String;" .null) (Pf26 : n0 ≤ so) (hne : fo ≠ so) :
    MetFree l (⟨"com/example/lapsed/lapsed/Timeout", "<init>", "(Lcom/example/lapsed/lapsed/Timeout;Lcom/example/lapsed/lapsed/State;IJJ)V"⟩ : MethodName) (head1 (Jvm.Cond.code (⟨"com/example/lapsed/lapsed/Timeout", "<init>", "(Lcom/example/lapsed/lapsed/Timeout;Lcom/example/lapsed/lapsed/State;IJJ)V"⟩ : MethodName) prog_14_method_2_code 8 none :: ws) ({ frames := 2, cells := 0, slots := 0, locals := 41 } : Room)) (fun a U => a = #[(.ref so), (.ref fo), (.ref sx), (.int ax), (.long cx), (.long lx)] ∧ Z.Warmed39 U.vm ∧ U.heap = h0) (fun _ _ _ _ _ => True) (fun _ U o U' => ∃ v L, o = .returned v ∧ Q_tin2 Z so fo sx ax cx lx qu ii du se atm fa ct lu ra da h0 n0 v U'.heap L ∧ FrameEnd U o U' L ({ frames := 2, cells := 0, slots := 0, locals := 41 } : Room).cells ({ frames := 2, cells := 0, slots := 0, locals := 41 } : Room).slots) := by
  refine MetFree.of_bodySF (plainFor_of_name pn_16) hisR ?_
  intro p e s m args below meth c s₁ Bd hml0 hP hK
  obtain ⟨rfl, hZ, hh⟩ := hP
  have hx := Bd.exec
  have hby := Bd.bytes
  have hml : c.maxLocals = 8 := hml0
  have hown : s.vm.findClass "com/example/lapsed/lapsed/Timeout" = some m.cls := findClass_of_methodNamed Bd.named
  have hnm := (name_of_methodNamed Bd.named Bd.method).1
  have X0 : Stand p l e ({ frames := 2, cells := 0, slots := 0, locals := 41 } : Room) s m #[(.ref so), (.ref fo), (.ref sx), (.int ax), (.long cx), (.long lx)] below meth c s₁ [] 0 0 := Stand.of_body Bd
  have e0 : s₁.heap = h0 := by rw [← hh, Bd.state]; rfl
  have N0 := Fr.nil n0
  have K0 : Keep h0 h0 [so] := Keep.refl h0 [so]
  show Go p.tables e below _ (s₁.setTop (entryFrame m #[(.ref so), (.ref fo), (.ref sx), (.int ax), (.long cx), (.long lx)] 8))
  refine Go.start ?_
  intro G hG
  refine Go.st (fun t k => castTop (ef_tin2 m so fo sx ax cx lx) k) ?_
  show Go _ _ _ _ (s₁.setTop (mkF m 0 #[.val (.ref so), .val (.ref fo), .val (.ref sx), .val (.int ax), .val (.long cx), .second, .val (.long lx), .second] []))
  refine Go.st (fun _ k => XS.aloadN X0.here hx rfl (hb hby d42_0) rfl rfl k) ?_
  show Go _ _ _ _ (s₁.setTop (mkF m 1 #[.val (.ref so), .val (.ref fo), .val (.ref sx), .val (.int ax), .val (.long cx), .second, .val (.long lx), .second] [(.ref so)]))
  refine Go.st (fun _ k => XS.aloadN X0.here hx rfl (hb hby d42_1) rfl rfl k) ?_
  show Go _ _ _ _ (s₁.setTop (mkF m 2 #[.val (.ref so), .val (.ref fo), .val (.ref sx), .val (.int ax), .val (.long cx), .second, .val (.long lx), .second] [(.ref fo), (.ref so)]))
  obtain ⟨T1, X1, e1, st1⟩ := getF X0 hx hZ hown (host := "") (Or.inl (ow hw 242 rfl)) Via.refl e0 Pf14 (g := (mkF m 2 #[.val (.ref so), .val (.ref fo), .val (.ref sx), .val (.int ax), .val (.long cx), .second, .val (.long lx), .second] [(.ref fo), (.ref so)])) rfl rfl (hb hby d42_2)
  refine Go.st st1 ?_
  show Go _ _ _ _ (T1.setTop (mkF m 5 #[.val (.ref so), .val (.ref fo), .val (.ref sx), .val (.int ax), .val (.long cx), .second, .val (.long lx), .second] [(.ref qu), (.ref so)]))
  refine Go.st (fun _ k => XS.aloadN X1.here hx rfl (hb hby d42_5) rfl rfl k) ?_
  show Go _ _ _ _ (T1.setTop (mkF m 6 #[.val (.ref so), .val (.ref fo), .val (.ref sx), .val (.int ax), .val (.long cx), .second, .val (.long lx), .second] [(.ref fo), (.ref qu), (.ref so)]))
  obtain ⟨T2, X2, e2, st2⟩ := getF X1 hx hZ hown (host := "") (Or.inl (ow hw 244 rfl)) Via.refl e1 Pf15 (g := (mkF m 6 #[.val (.ref so), .val (.ref fo), .val (.ref sx), .val (.int ax), .val (.long cx), .second, .val (.long lx), .second] [(.ref fo), (.ref qu), (.ref so)])) rfl rfl (hb hby d42_6)
  refine Go.st st2 ?_
  show Go _ _ _ _ (T2.setTop (mkF m 9 #[.val (.ref so), .val (.ref fo), .val (.ref sx), .val (.int ax), .val (.long cx), .second, .val (.long lx), .second] [(.ref ii), (.ref qu), (.ref so)]))
  refine Go.st (fun _ k => XS.aloadN X2.here hx rfl (hb hby d42_9) rfl rfl k) ?_
  show Go _ _ _ _ (T2.setTop (mkF m 10 #[.val (.ref so), .val (.ref fo), .val (.ref sx), .val (.int ax), .val (.long cx), .second, .val (.long lx), .second] [(.ref fo), (.ref ii), (.ref qu), (.ref so)]))
  obtain ⟨T3, X3, e3, st3⟩ := getF X2 hx hZ hown (host := "") (Or.inl (ow hw 246 rfl)) Via.refl e2 Pf16 (g := (mkF m 10 #[.val (.ref so), .val (.ref fo), .val (.ref sx), .val (.int ax), .val (.long cx), .second, .val (.long lx), .second] [(.ref fo), (.ref ii), (.ref qu), (.ref so)])) rfl rfl (hb hby d42_10)
  refine Go.st st3 ?_
  show Go _ _ _ _ (T3.setTop (mkF m 13 #[.val (.ref so), .val (.ref fo), .val (.ref sx), .val (.int ax), .val (.long cx), .second, .val (.long lx), .second] [(.long du), (.ref ii), (.ref qu), (.ref so)]))
  refine Go.st (fun _ k => XS.aloadN X3.here hx rfl (hb hby d42_13) rfl rfl k) ?_
  show Go _ _ _ _ (T3.setTop (mkF m 14 #[.val (.ref so), .val (.ref fo), .val (.ref sx), .val (.int ax), .val (.long cx), .second, .val (.long lx), .second] [(.ref fo), (.long du), (.ref ii), (.ref qu), (.ref so)]))
  obtain ⟨T4, X4, e4, st4⟩ := getF X3 hx hZ hown (host := "") (Or.inl (ow hw 248 rfl)) Via.refl e3 Pf17 (g := (mkF m 14 #[.val (.ref so), .val (.ref fo), .val (.ref sx), .val (.int ax), .val (.long cx), .second, .val (.long lx), .second] [(.ref fo), (.long du), (.ref ii), (.ref qu), (.ref so)])) rfl rfl (hb hby d42_14)
  refine Go.st st4 ?_
  show Go _ _ _ _ (T4.setTop (mkF m 17 #[.val (.ref so), .val (.ref fo), .val (.ref sx), .val (.int ax), .val (.long cx), .second, .val (.long lx), .second] [.null, (.long du), (.ref ii), (.ref qu), (.ref so)]))
  refine Go.st (fun _ k => XS.aloadN X4.here hx rfl (hb hby d42_17) rfl rfl k) ?_
  show Go _ _ _ _ (T4.setTop (mkF m 18 #[.val (.ref so), .val (.ref fo), .val (.ref sx), .val (.int ax), .val (.long cx), .second, .val (.long lx), .second] [(.ref sx), .null, (.long du), (.ref ii), (.ref qu), (.ref so)]))
  refine Go.st (fun _ k => XS.iloadN X4.here hx rfl (hb hby d42_18) rfl k) ?_
  show Go _ _ _ _ (T4.setTop (mkF m 19 #[.val (.ref so), .val (.ref fo), .val (.ref sx), .val (.int ax), .val (.long cx), .second, .val (.long lx), .second] [(.int ax), (.ref sx), .null, (.long du), (.ref ii), (.ref qu), (.ref so)]))
  refine Go.st (fun _ k => XS.aloadN X4.here hx rfl (hb hby d42_19) rfl rfl k) ?_
  show Go _ _ _ _ (T4.setTop (mkF m 20 #[.val (.ref so), .val (.ref fo), .val (.ref sx), .val (.int ax), .val (.long cx), .second, .val (.long lx), .second] [(.ref fo), (.int ax), (.ref sx), .null, (.long du), (.ref ii), (.ref qu), (.ref so)]))
  obtain ⟨T5, X5, e5, st5⟩ := getF X4 hx hZ hown (host := "") (Or.inl (ow hw 254 rfl)) Via.refl e4 Pf20 (g := (mkF m 20 #[.val (.ref so), .val (.ref fo), .val (.ref sx), .val (.int ax), .val (.long cx), .second, .val (.long lx), .second] [(.ref fo), (.int ax), (.ref sx), .null, (.long du), (.ref ii), (.ref qu), (.ref so)])) rfl rfl (hb hby d42_20)
  refine Go.st st5 ?_
  show Go _ _ _ _ (T5.setTop (mkF m 23 #[.val (.ref so), .val (.ref fo), .val (.ref sx), .val (.int ax), .val (.long cx), .second, .val (.long lx), .second] [(.int fa), (.int ax), (.ref sx), .null, (.long du), (.ref ii), (.ref qu), (.ref so)]))
  refine Go.st (fun _ k => XS.lload X5.here hx rfl (hb hby d42_23) rfl k) ?_
  show Go _ _ _ _ (T5.setTop (mkF m 25 #[.val (.ref so), .val (.ref fo), .val (.ref sx), .val (.int ax), .val (.long cx), .second, .val (.long lx), .second] [(.long cx), (.int fa), (.int ax), (.ref sx), .null, (.long du), (.ref ii), (.ref qu), (.ref so)]))
  refine Go.st (fun _ k => XS.lload X5.here hx rfl (hb hby d42_25) rfl k) ?_
  show Go _ _ _ _ (T5.setTop (mkF m 27 #[.val (.ref so), .val (.ref fo), .val (.ref sx), .val (.int ax), .val (.long cx), .second, .val (.long lx), .second] [(.long lx), (.long cx), (.int fa), (.int ax), (.ref sx), .null, (.long du), (.ref ii), (.ref qu), (.ref so)]))
  refine Go.st (fun _ k => XS.aloadN X5.here hx rfl (hb hby d42_27) rfl rfl k) ?_
  show Go _ _ _ _ (T5.setTop (mkF m 28 #[.val (.ref so), .val (.ref fo), .val (.ref sx), .val (.int ax), .val (.long cx), .second, .val (.long lx), .second] [(.ref fo), (.long lx), (.long cx), (.int fa), (.int ax), (.ref sx), .null, (.long du), (.ref ii), (.ref qu), (.ref so)]))
  obtain ⟨T6, X6, e6, st6⟩ := getF X5 hx hZ hown (host := "") (Or.inl (ow hw 260 rfl)) Via.refl e5 Pf23 (g := (mkF m 28 #[.val (.ref so), .val (.ref fo), .val (.ref sx), .val (.int ax), .val (.long cx), .second, .val (.long lx), .second] [(.ref fo), (.long lx), (.long cx), (.int fa), (.int ax), (.ref sx), .null, (.long du), (.ref ii), (.ref qu), (.ref so)])) rfl rfl (hb hby d42_28)
  refine Go.st st6 ?_
  show Go _ _ _ _ (T6.setTop (mkF m 31 #[.val (.ref so), .val (.ref fo), .val (.ref sx), .val (.int ax), .val (.long cx), .second, .val (.long lx), .second] [(.long ra), (.long lx), (.long cx), (.int fa), (.int ax), (.ref sx), .null, (.long du), (.ref ii), (.ref qu), (.ref so)]))
  refine Go.st (fun _ k => XS.aloadN X6.here hx rfl (hb hby d42_31) rfl rfl k) ?_
  show Go _ _ _ _ (T6.setTop (mkF m 32 #[.val (.ref so), .val (.ref fo), .val (.ref sx), .val (.int ax), .val (.long cx), .second, .val (.long lx), .second] [(.ref fo), (.long ra), (.long lx), (.long cx), (.int fa), (.int ax), (.ref sx), .null, (.long du), (.ref ii), (.ref qu), (.ref so)]))
  obtain ⟨T7, X7, e7, st7⟩ := getF X6 hx hZ hown (host := "") (Or.inl (ow hw 262 rfl)) Via.refl e6 Pf24 (g := (mkF m 32 #[.val (.ref so), .val (.ref fo), .val (.ref sx), .val (.int ax), .val (.long cx), .second, .val (.long lx), .second] [(.ref fo), (.long ra), (.long lx), (.long cx), (.int fa), (.int ax), (.ref sx), .null, (.long du), (.ref ii), (.ref qu), (.ref so)])) rfl rfl (hb hby d42_32)
  refine Go.st st7 ?_
  show Go _ _ _ _ (T7.setTop (mkF m 35 #[.val (.ref so), .val (.ref fo), .val (.ref sx), .val (.int ax), .val (.long cx), .second, .val (.long lx), .second] [(.long da), (.long ra), (.long lx), (.long cx), (.int fa), (.int ax), (.ref sx), .null, (.long du), (.ref ii), (.ref qu), (.ref so)]))
  refine Go.st (fun _ k => XS.aloadN X7.here hx rfl (hb hby d42_35) rfl rfl k) ?_
  show Go _ _ _ _ (T7.setTop (mkF m 36 #[.val (.ref so), .val (.ref fo), .val (.ref sx), .val (.int ax), .val (.long cx), .second, .val (.long lx), .second] [(.ref fo), (.long da), (.long ra), (.long lx), (.long cx), (.int fa), (.int ax), (.ref sx), .null, (.long du), (.ref ii), (.ref qu), (.ref so)]))
  obtain ⟨T8, X8, e8, st8⟩ := getF X7 hx hZ hown (host := "") (Or.inl (ow hw 264 rfl)) Via.refl e7 Pf25 (g := (mkF m 36 #[.val (.ref so), .val (.ref fo), .val (.ref sx), .val (.int ax), .val (.long cx), .second, .val (.long lx), .second] [(.ref fo), (.long da), (.long ra), (.long lx), (.long cx), (.int fa), (.int ax), (.ref sx), .null, (.long du), (.ref ii), (.ref qu), (.ref so)])) rfl rfl (hb hby d42_36)
  refine Go.st st8 ?_
  show Go _ _ _ _ (T8.setTop (mkF m 39 #[.val (.ref so), .val (.ref fo), .val (.ref sx), .val (.int ax), .val (.long cx), .second, .val (.long lx), .second] [.null, (.long da), (.long ra), (.long lx), (.long cx), (.int fa), (.int ax), (.ref sx), .null, (.long du), (.ref ii), (.ref qu), (.ref so)]))
  obtain ⟨_, _, ⟨T9, L9, k9, n9⟩, -, X9, ⟨Lc9, hQ9, l9, y9, z9⟩, st9⟩ := X8.specialBack hx (y := (⟨"com/example/lapsed/lapsed/Timeout", "<init>", "(Ljava/lang/String;Ljava/lang/String;JLjava/lang/String;Lcom/example/lapsed/lapsed/State;IIJJJJLjava/lang/String;)V"⟩ : MethodName)) rfl hown (mvT hZ (ow hw 282 rfl)) (mvT hZ (ow hw 239 rfl)) (mvT hZ (ow hw 240 rfl)) (by decide) (backOf (W := 0) (rm_tin0 l Z a0 hw [] so qu ii du sx ax fa cx lx ra da h0 n0 Z0 Pf0 Pf1 Pf2 Pf3 Pf4 Pf5 Pf6 Pf7 Pf8 Pf9 Pf10 Pf11 Pf12 Pf26) hZ (ow hw 240 rfl) (ow hw 225 rfl) (by decide) (by decide)) (g := (mkF m 39 #[.val (.ref so), .val (.ref fo), .val (.ref sx), .val (.int ax), .val (.long cx), .second, .val (.long lx), .second] [.null, (.long da), (.long ra), (.long lx), (.long cx), (.int fa), (.int ax), (.ref sx), .null, (.long du), (.ref ii), (.ref qu), (.ref so)])) rfl (by rw [hml]; rfl) (Steps.refl _) (a := so) (argsL := [(.ref qu), (.ref ii), (.long du), .null, (.ref sx), (.int ax), (.int fa), (.long cx), (.long lx), (.long ra), (.long da), .null]) (rest := []) (lenOf pd_22 rfl) rfl (by show 2 * 0 + _ ≤ _; exact Nat.le_of_eq rfl) (hb hby d42_39) (fun _ _ => ⟨rfl, e8, (by decide : 0 + 0 ≤ _), (by decide : 0 + 0 ≤ _)⟩)
  dsimp only [Pt.U, Pt.locs, Pt.cells, Pt.slots] at X9 l9 y9 z9 st9 hQ9
  rw [l9, y9, z9] at X9
  obtain ⟨rfl, N9q, K9q, Fq9_0, Fq9_1, Fq9_2, Fq9_3, Fq9_4, Fq9_5, Fq9_6, Fq9_7, Fq9_8, Fq9_9, Fq9_10, Fq9_11, Fq9_12⟩ := hQ9
  have N9 := Fr.app N0 N9q
  refine Go.st (fun _ k => st9.trans k) ?_
  have Z10 : n0 ≤ T9.heap.size := Nat.le_trans Z0 K9q.1
  have K11 := K0.trans K9q (fun z hz => (List.mem_cons.mp hz).elim (fun q => by rw [q]; exact Or.inl (List.mem_of_getElem? (i := 0) rfl)) nn_)
  have F12 := Pf0.keep K9q
  have F13 := Pf13.keep K9q
  have F14 := Pf14.keep K9q (fun z => (List.mem_cons.mp z).elim hne nn_)
  have F15 := Pf15.keep K9q (fun z => (List.mem_cons.mp z).elim hne nn_)
  have F16 := Pf16.keep K9q (fun z => (List.mem_cons.mp z).elim hne nn_)
  have F17 := Pf17.keep K9q (fun z => (List.mem_cons.mp z).elim hne nn_)
  have F18 := Pf18.keep K9q (fun z => (List.mem_cons.mp z).elim hne nn_)
  have F19 := Pf19.keep K9q (fun z => (List.mem_cons.mp z).elim hne nn_)
  have F20 := Pf20.keep K9q (fun z => (List.mem_cons.mp z).elim hne nn_)
  have F21 := Pf21.keep K9q (fun z => (List.mem_cons.mp z).elim hne nn_)
  have F22 := Pf22.keep K9q (fun z => (List.mem_cons.mp z).elim hne nn_)
  have F23 := Pf23.keep K9q (fun z => (List.mem_cons.mp z).elim hne nn_)
  have F24 := Pf24.keep K9q (fun z => (List.mem_cons.mp z).elim hne nn_)
  have F25 := Pf25.keep K9q (fun z => (List.mem_cons.mp z).elim hne nn_)
  show Go _ _ _ _ (T9.setTop (mkF m 42 #[.val (.ref so), .val (.ref fo), .val (.ref sx), .val (.int ax), .val (.long cx), .second, .val (.long lx), .second] []))
  subst hG
  obtain ⟨fs, hr, hrun, hended, hW, hsame⟩ := X9.leave (v := none) (fun _ => rfl)
  refine ⟨_, _, ?_, hrun, hended, _, _, rfl, ?_, ⟨_, rfl⟩, hW, hsame.mono (by decide) (by decide)⟩
  · exact X9.returnOut hx Bd.returns (hb hby d42_42) hr
  · show Q_tin2 Z so fo sx ax cx lx qu ii du se atm fa ct lu ra da h0 n0 _ T9.heap _
    exact ⟨rfl, N9, K11, Fq9_0, Fq9_1, Fq9_2, Fq9_3, Fq9_4, Fq9_5, Fq9_6, Fq9_7, Fq9_8, Fq9_9, Fq9_10, Fq9_11, Fq9_12⟩
theorem pd_23 : parseMethodDescriptor "(Lcom/example/lapsed/lapsed/Timeout;Lcom/example/lapsed/lapsed/State;IJJ)V" = some ⟨[(.object "com/example/lapsed/lapsed/Timeout"), (.object "com/example/lapsed/lapsed/State"), .int, .long, .long], none⟩ := by decide +kernel
theorem d43_0 : decode prog_14_method_5_code 0 = .ok (.new 8, 3) := by decide +kernel
theorem d43_3 : decode prog_14_method_5_code 3 = .ok (.dup, 1) := by decide +kernel
theorem d43_4 : decode prog_14_method_5_code 4 = .ok (.aload_n 0, 1) := by decide +kernel
theorem d43_5 : decode prog_14_method_5_code 5 = .ok (.getstatic 57, 3) := by decide +kernel
theorem d43_8 : decode prog_14_method_5_code 8 = .ok (.aload_n 0, 1) := by decide +kernel
theorem d43_9 : decode prog_14_method_5_code 9 = .ok (.getfield 27, 3) := by decide +kernel
theorem d43_12 : decode prog_14_method_5_code 12 = .ok (.iconst 1, 1) := by decide +kernel
theorem d43_13 : decode prog_14_method_5_code 13 = .ok (.iadd, 1) := by decide +kernel
theorem d43_14 : decode prog_14_method_5_code 14 = .ok (.lload_n 1, 1) := by decide +kernel
theorem d43_15 : decode prog_14_method_5_code 15 = .ok (.lload_n 1, 1) := by decide +kernel
theorem d43_16 : decode prog_14_method_5_code 16 = .ok (.lload_n 3, 1) := by decide +kernel
theorem d43_17 : decode prog_14_method_5_code 17 = .ok (.ladd, 1) := by decide +kernel
theorem d43_18 : decode prog_14_method_5_code 18 = .ok (.invokespecial 60, 3) := by decide +kernel
theorem d43_21 : decode prog_14_method_5_code 21 = .ok (.areturn, 1) := by decide +kernel
theorem ef_clmd (m : MethodId) (so : Addr) (ac : Int64) (ms : Int64) : entryFrame m #[(.ref so), (.long ac), (.long ms)] 5 = mkF m 0 #[.val (.ref so), .val (.long ac), .second, .val (.long ms), .second] [] := by first | (simp [entryFrame, mkF, argsToLocals, Value.category]; done) | rfl
def Q_clmd (Z : State) (so : Addr) (ac : Int64) (ms : Int64) (qu : Addr) (ii : Addr) (du : Int64) (se : Addr) (atm : Int32) (fa : Int32) (ct : Int64) (lu : Int64) (ra : Int64) (da : Int64) (sx : Addr) (h0 : Heap) (n0 : Nat) (v : Option Value) (h : Heap) (L : List Loc) : Prop := ∃ fr : Addr, v = some (.ref fr) ∧ Fr n0 L ∧ Keep h0 h [] ∧ n0 ≤ fr ∧ h0.size ≤ fr ∧ Exa Z h fr "com/example/lapsed/lapsed/Timeout" ∧ Fld Z h fr "com/example/lapsed/lapsed/Timeout" "queue" "Ljava/lang/String;" (.ref qu) ∧ Fld Z h fr "com/example/lapsed/lapsed/Timeout" "id" "Ljava/lang/String;" (.ref ii) ∧ Fld Z h fr "com/example/lapsed/lapsed/Timeout" "dueAt" "J" (.long du) ∧ Fld Z h fr "com/example/lapsed/lapsed/Timeout" "payload" "Ljava/lang/String;" .null ∧ Fld Z h fr "com/example/lapsed/lapsed/Timeout" "state" "Lcom/example/lapsed/lapsed/State;" (.ref sx) ∧ Fld Z h fr "com/example/lapsed/lapsed/Timeout" "attempt" "I" (.int (atm + (1 : Int32))) ∧ Fld Z h fr "com/example/lapsed/lapsed/Timeout" "failures" "I" (.int fa) ∧ Fld Z h fr "com/example/lapsed/lapsed/Timeout" "claimedAt" "J" (.long ac) ∧ Fld Z h fr "com/example/lapsed/lapsed/Timeout" "leaseUntil" "J" (.long (ac + ms)) ∧ Fld Z h fr "com/example/lapsed/lapsed/Timeout" "retryAt" "J" (.long ra) ∧ Fld Z h fr "com/example/lapsed/lapsed/Timeout" "deadAt" "J" (.long da) ∧ Fld Z h fr "com/example/lapsed/lapsed/Timeout" "lastError" "Ljava/lang/String;" .null
set_option maxRecDepth 65536 in
set_option maxHeartbeats 40000000 in
theorem rm_clmd (l : Launch) (Z : State) (a0 : Array Value) (hw : ∀ d ∈ tables_1, d.before a0 Z = true) (ws : List Jvm.Cond) (so : Addr) (ac : Int64) (ms : Int64) (qu : Addr) (ii : Addr) (du : Int64) (se : Addr) (atm : Int32) (fa : Int32) (ct : Int64) (lu : Int64) (ra : Int64) (da : Int64) (sx : Addr) (h0 : Heap) (n0 : Nat) (Z0 : n0 ≤ h0.size) (Pf0 : Exa Z h0 so "com/example/lapsed/lapsed/Timeout") (Pf1 : Fld Z h0 so "com/example/lapsed/lapsed/Timeout" "queue" "Ljava/lang/String;" (.ref qu)) (Pf2 : Fld Z h0 so "com/example/lapsed/lapsed/Timeout" "id" "Ljava/lang/String;" (.ref ii)) (Pf3 : Fld Z h0 so "com/example/lapsed/lapsed/Timeout" "dueAt" "J" (.long du)) (Pf4 : Fld Z h0 so "com/example/lapsed/lapsed/Timeout" "payload" "Ljava/lang/String;" .null) (Pf5 : Fld Z h0 so "com/example/lapsed/lapsed/Timeout" "state" "Lcom/example/lapsed/lapsed/State;" (.ref se)) (Pf6 : Fld Z h0 so "com/example/lapsed/lapsed/Timeout" "attempt" "I" (.int atm)) (Pf7 : Fld Z h0 so "com/example/lapsed/lapsed/Timeout" "failures" "I" (.int fa)) (Pf8 : Fld Z h0 so "com/example/lapsed/lapsed/Timeout" "claimedAt" "J" (.long ct)) (Pf9 : Fld Z h0 so "com/example/lapsed/lapsed/Timeout" "leaseUntil" "J" (.long lu)) (Pf10 : Fld Z h0 so "com/example/lapsed/lapsed/Timeout" "retryAt" "J" (.long ra)) (Pf11 : Fld Z h0 so "com/example/lapsed/lapsed/Timeout" "deadAt" "J" (.long da)) (Pf12 : Fld Z h0 so "com/example/lapsed/lapsed/Timeout" "lastError" "Ljava/lang/String;" .null) (Pf13 : Sta Z h0 "com/example/lapsed/lapsed/State" "CLAIMED" "Lcom/example/lapsed/lapsed/State;" (.ref sx)) :
    MetFree l (⟨"com/example/lapsed/lapsed/Timeout", "claimed", "(JJ)Lcom/example/lapsed/lapsed/Timeout;"⟩ : MethodName) (head1 (Jvm.Cond.code (⟨"com/example/lapsed/lapsed/Timeout", "claimed", "(JJ)Lcom/example/lapsed/lapsed/Timeout;"⟩ : MethodName) prog_14_method_5_code 5 (some (.object "com/example/lapsed/lapsed/Timeout")) :: ws) ({ frames := 3, cells := 1, slots := 12, locals := 61 } : Room)) (fun a U => a = #[(.ref so), (.long ac), (.long ms)] ∧ Z.Warmed39 U.vm ∧ U.heap = h0) (fun _ _ _ _ _ => True) (fun _ U o U' => ∃ v L, o = .returned v ∧ Q_clmd Z so ac ms qu ii du se atm fa ct lu ra da sx h0 n0 v U'.heap L ∧ FrameEnd U o U' L ({ frames := 3, cells := 1, slots := 12, locals := 61 } : Room).cells ({ frames := 3, cells := 1, slots := 12, locals := 61 } : Room).slots) := by
  refine MetFree.of_bodySF (plainFor_of_name pn_16) hisR ?_
  intro p e s m args below meth c s₁ Bd hml0 hP hK
  obtain ⟨rfl, hZ, hh⟩ := hP
  have hx := Bd.exec
  have hby := Bd.bytes
  have hml : c.maxLocals = 5 := hml0
  have hown : s.vm.findClass "com/example/lapsed/lapsed/Timeout" = some m.cls := findClass_of_methodNamed Bd.named
  have hnm := (name_of_methodNamed Bd.named Bd.method).1
  have X0 : Stand p l e ({ frames := 3, cells := 1, slots := 12, locals := 61 } : Room) s m #[(.ref so), (.long ac), (.long ms)] below meth c s₁ [] 0 0 := Stand.of_body Bd
  have e0 : s₁.heap = h0 := by rw [← hh, Bd.state]; rfl
  have N0 := Fr.nil n0
  have K0 : Keep h0 h0 [] := Keep.refl h0 []
  show Go p.tables e below _ (s₁.setTop (entryFrame m #[(.ref so), (.long ac), (.long ms)] 5))
  refine Go.start ?_
  intro G hG
  refine Go.st (fun t k => castTop (ef_clmd m so ac ms) k) ?_
  show Go _ _ _ _ (s₁.setTop (mkF m 0 #[.val (.ref so), .val (.long ac), .second, .val (.long ms), .second] []))
  obtain ⟨T1, h1, X1, e1, E1, A1, D1, -, st1⟩ := newO X0 hx hZ hown (ow hw 276 rfl) (ow hw 224 rfl) (ow hw 225 rfl) e0 (g := (mkF m 0 #[.val (.ref so), .val (.long ac), .second, .val (.long ms), .second] [])) rfl (hb hby d43_0) (by decide) (by decide)
  obtain ⟨b1, g1⟩ : ∃ z, z = h0.size := ⟨_, rfl⟩
  rw [← g1] at A1 D1 st1
  refine Go.st st1 ?_
  have ne2 := on_ Pf0.lt g1
  have ge3 : n0 ≤ b1 := Nat.le_trans Z0 (Nat.le_of_eq g1.symm)
  have sz4 : h0.size ≤ b1 := Nat.le_trans K0.1 (Nat.le_of_eq g1.symm)
  have Z5 : n0 ≤ h1.size := Nat.le_trans Z0 E1.1
  have K6 := K0.ext E1
  have F7 := Pf0.ext E1
  have F8 := Pf1.ext E1
  have F9 := Pf2.ext E1
  have F10 := Pf3.ext E1
  have F11 := Pf4.ext E1
  have F12 := Pf5.ext E1
  have F13 := Pf6.ext E1
  have F14 := Pf7.ext E1
  have F15 := Pf8.ext E1
  have F16 := Pf9.ext E1
  have F17 := Pf10.ext E1
  have F18 := Pf11.ext E1
  have F19 := Pf12.ext E1
  have F20 := Pf13.ext E1
  have F21 : Fld Z h1 b1 "com/example/lapsed/lapsed/Timeout" "queue" "Ljava/lang/String;" .null := D1 (Or.inr (ow hw 243 rfl)) (ty := (.object "java/lang/String")) (by decide)
  have F22 : Fld Z h1 b1 "com/example/lapsed/lapsed/Timeout" "id" "Ljava/lang/String;" .null := D1 (Or.inr (ow hw 245 rfl)) (ty := (.object "java/lang/String")) (by decide)
  have F23 : Fld Z h1 b1 "com/example/lapsed/lapsed/Timeout" "dueAt" "J" (.long (0 : Int64)) := D1 (Or.inr (ow hw 247 rfl)) (ty := .long) (by decide)
  have F24 : Fld Z h1 b1 "com/example/lapsed/lapsed/Timeout" "payload" "Ljava/lang/String;" .null := D1 (Or.inr (ow hw 249 rfl)) (ty := (.object "java/lang/String")) (by decide)
  have F25 : Fld Z h1 b1 "com/example/lapsed/lapsed/Timeout" "state" "Lcom/example/lapsed/lapsed/State;" .null := D1 (Or.inr (ow hw 251 rfl)) (ty := (.object "com/example/lapsed/lapsed/State")) (by decide)
  have F26 : Fld Z h1 b1 "com/example/lapsed/lapsed/Timeout" "attempt" "I" (.int (0 : Int32)) := D1 (Or.inr (ow hw 253 rfl)) (ty := .int) (by decide)
  have F27 : Fld Z h1 b1 "com/example/lapsed/lapsed/Timeout" "failures" "I" (.int (0 : Int32)) := D1 (Or.inr (ow hw 255 rfl)) (ty := .int) (by decide)
  have F28 : Fld Z h1 b1 "com/example/lapsed/lapsed/Timeout" "claimedAt" "J" (.long (0 : Int64)) := D1 (Or.inr (ow hw 257 rfl)) (ty := .long) (by decide)
  have F29 : Fld Z h1 b1 "com/example/lapsed/lapsed/Timeout" "leaseUntil" "J" (.long (0 : Int64)) := D1 (Or.inr (ow hw 259 rfl)) (ty := .long) (by decide)
  have F30 : Fld Z h1 b1 "com/example/lapsed/lapsed/Timeout" "retryAt" "J" (.long (0 : Int64)) := D1 (Or.inr (ow hw 261 rfl)) (ty := .long) (by decide)
  have F31 : Fld Z h1 b1 "com/example/lapsed/lapsed/Timeout" "deadAt" "J" (.long (0 : Int64)) := D1 (Or.inr (ow hw 263 rfl)) (ty := .long) (by decide)
  have F32 : Fld Z h1 b1 "com/example/lapsed/lapsed/Timeout" "lastError" "Ljava/lang/String;" .null := D1 (Or.inr (ow hw 265 rfl)) (ty := (.object "java/lang/String")) (by decide)
  show Go _ _ _ _ (T1.setTop (mkF m 3 #[.val (.ref so), .val (.long ac), .second, .val (.long ms), .second] [(.ref b1)]))
  refine Go.st (fun _ k => XS.dup X1.here hx rfl (hb hby d43_3) rfl rfl k) ?_
  show Go _ _ _ _ (T1.setTop (mkF m 4 #[.val (.ref so), .val (.long ac), .second, .val (.long ms), .second] [(.ref b1), (.ref b1)]))
  refine Go.st (fun _ k => XS.aloadN X1.here hx rfl (hb hby d43_4) rfl rfl k) ?_
  show Go _ _ _ _ (T1.setTop (mkF m 5 #[.val (.ref so), .val (.long ac), .second, .val (.long ms), .second] [(.ref so), (.ref b1), (.ref b1)]))
  obtain ⟨T33, X33, e33, st33⟩ := getS2 X1 hx hZ hown (host := "") (Or.inl (ow hw 277 rfl)) Via.refl e1 F20 (g := (mkF m 5 #[.val (.ref so), .val (.long ac), .second, .val (.long ms), .second] [(.ref so), (.ref b1), (.ref b1)])) rfl (hb hby d43_5)
  refine Go.st st33 ?_
  show Go _ _ _ _ (T33.setTop (mkF m 8 #[.val (.ref so), .val (.long ac), .second, .val (.long ms), .second] [(.ref sx), (.ref so), (.ref b1), (.ref b1)]))
  refine Go.st (fun _ k => XS.aloadN X33.here hx rfl (hb hby d43_8) rfl rfl k) ?_
  show Go _ _ _ _ (T33.setTop (mkF m 9 #[.val (.ref so), .val (.long ac), .second, .val (.long ms), .second] [(.ref so), (.ref sx), (.ref so), (.ref b1), (.ref b1)]))
  obtain ⟨T34, X34, e34, st34⟩ := getF X33 hx hZ hown (host := "") (Or.inl (ow hw 252 rfl)) Via.refl e33 F13 (g := (mkF m 9 #[.val (.ref so), .val (.long ac), .second, .val (.long ms), .second] [(.ref so), (.ref sx), (.ref so), (.ref b1), (.ref b1)])) rfl rfl (hb hby d43_9)
  refine Go.st st34 ?_
  show Go _ _ _ _ (T34.setTop (mkF m 12 #[.val (.ref so), .val (.long ac), .second, .val (.long ms), .second] [(.int atm), (.ref sx), (.ref so), (.ref b1), (.ref b1)]))
  refine Go.st (fun _ k => XS.iconst X34.here hx rfl (hb hby d43_12) k) ?_
  show Go _ _ _ _ (T34.setTop (mkF m 13 #[.val (.ref so), .val (.long ac), .second, .val (.long ms), .second] [(.int (1 : Int32)), (.int atm), (.ref sx), (.ref so), (.ref b1), (.ref b1)]))
  refine Go.st (fun _ k => XS.iadd X34.here hx rfl (hb hby d43_13) rfl k) ?_
  show Go _ _ _ _ (T34.setTop (mkF m 14 #[.val (.ref so), .val (.long ac), .second, .val (.long ms), .second] [(.int (atm + (1 : Int32))), (.ref sx), (.ref so), (.ref b1), (.ref b1)]))
  refine Go.st (fun _ k => XS.lloadN X34.here hx rfl (hb hby d43_14) rfl k) ?_
  show Go _ _ _ _ (T34.setTop (mkF m 15 #[.val (.ref so), .val (.long ac), .second, .val (.long ms), .second] [(.long ac), (.int (atm + (1 : Int32))), (.ref sx), (.ref so), (.ref b1), (.ref b1)]))
  refine Go.st (fun _ k => XS.lloadN X34.here hx rfl (hb hby d43_15) rfl k) ?_
  show Go _ _ _ _ (T34.setTop (mkF m 16 #[.val (.ref so), .val (.long ac), .second, .val (.long ms), .second] [(.long ac), (.long ac), (.int (atm + (1 : Int32))), (.ref sx), (.ref so), (.ref b1), (.ref b1)]))
  refine Go.st (fun _ k => XS.lloadN X34.here hx rfl (hb hby d43_16) rfl k) ?_
  show Go _ _ _ _ (T34.setTop (mkF m 17 #[.val (.ref so), .val (.long ac), .second, .val (.long ms), .second] [(.long ms), (.long ac), (.long ac), (.int (atm + (1 : Int32))), (.ref sx), (.ref so), (.ref b1), (.ref b1)]))
  refine Go.st (fun _ k => XS.ladd X34.here hx rfl (hb hby d43_17) rfl k) ?_
  show Go _ _ _ _ (T34.setTop (mkF m 18 #[.val (.ref so), .val (.long ac), .second, .val (.long ms), .second] [(.long (ac + ms)), (.long ac), (.int (atm + (1 : Int32))), (.ref sx), (.ref so), (.ref b1), (.ref b1)]))
  obtain ⟨_, _, ⟨T35, L35, k35, n35⟩, -, X35, ⟨Lc35, hQ35, l35, y35, z35⟩, st35⟩ := X34.specialBack hx (y := (⟨"com/example/lapsed/lapsed/Timeout", "<init>", "(Lcom/example/lapsed/lapsed/Timeout;Lcom/example/lapsed/lapsed/State;IJJ)V"⟩ : MethodName)) rfl hown (mvT hZ (ow hw 279 rfl)) (mvT hZ (ow hw 280 rfl)) (mvT hZ (ow hw 281 rfl)) (by decide) (backOf (W := 1) (rm_tin2 l Z a0 hw [] b1 so sx (atm + (1 : Int32)) ac (ac + ms) qu ii du se atm fa ct lu ra da h1 n0 Z5 A1 F21 F22 F23 F24 F25 F26 F27 F28 F29 F30 F31 F32 F7 F8 F9 F10 F11 F12 F13 F14 F15 F16 F17 F18 F19 ge3 ne2) hZ (ow hw 281 rfl) (ow hw 225 rfl) (by decide) (by decide)) (g := (mkF m 18 #[.val (.ref so), .val (.long ac), .second, .val (.long ms), .second] [(.long (ac + ms)), (.long ac), (.int (atm + (1 : Int32))), (.ref sx), (.ref so), (.ref b1), (.ref b1)])) rfl (by rw [hml]; rfl) (Steps.refl _) (a := b1) (argsL := [(.ref so), (.ref sx), (.int (atm + (1 : Int32))), (.long ac), (.long (ac + ms))]) (rest := [(.ref b1)]) (lenOf pd_23 rfl) rfl (by show 2 * 0 + _ ≤ _; exact Nat.le_of_eq rfl) (hb hby d43_18) (fun _ _ => ⟨rfl, e34, (by decide : 1 + 0 ≤ _), (by decide : 12 + 0 ≤ _)⟩)
  dsimp only [Pt.U, Pt.locs, Pt.cells, Pt.slots] at X35 l35 y35 z35 st35 hQ35
  rw [l35, y35, z35] at X35
  obtain ⟨rfl, N35q, K35q, Fq35_0, Fq35_1, Fq35_2, Fq35_3, Fq35_4, Fq35_5, Fq35_6, Fq35_7, Fq35_8, Fq35_9, Fq35_10, Fq35_11, Fq35_12⟩ := hQ35
  have N35 := Fr.app N0 N35q
  refine Go.st (fun _ k => st35.trans k) ?_
  have Z36 : n0 ≤ T35.heap.size := Nat.le_trans Z5 K35q.1
  have K37 := K6.trans K35q (fun z hz => (List.mem_cons.mp hz).elim (fun q => by rw [q]; exact Or.inr sz4) nn_)
  have F38 := F7.keep K35q
  have F39 := F8.keep K35q (fun z => (List.mem_cons.mp z).elim ne2 nn_)
  have F40 := F9.keep K35q (fun z => (List.mem_cons.mp z).elim ne2 nn_)
  have F41 := F10.keep K35q (fun z => (List.mem_cons.mp z).elim ne2 nn_)
  have F42 := F11.keep K35q (fun z => (List.mem_cons.mp z).elim ne2 nn_)
  have F43 := F12.keep K35q (fun z => (List.mem_cons.mp z).elim ne2 nn_)
  have F44 := F13.keep K35q (fun z => (List.mem_cons.mp z).elim ne2 nn_)
  have F45 := F14.keep K35q (fun z => (List.mem_cons.mp z).elim ne2 nn_)
  have F46 := F15.keep K35q (fun z => (List.mem_cons.mp z).elim ne2 nn_)
  have F47 := F16.keep K35q (fun z => (List.mem_cons.mp z).elim ne2 nn_)
  have F48 := F17.keep K35q (fun z => (List.mem_cons.mp z).elim ne2 nn_)
  have F49 := F18.keep K35q (fun z => (List.mem_cons.mp z).elim ne2 nn_)
  have F50 := F19.keep K35q (fun z => (List.mem_cons.mp z).elim ne2 nn_)
  have F51 := own_stakeepW F20 K35q (allS (P := fun x => ∀ c : Cell, h1[x]? = some c → c.vm.isStatics = false) (old_plain F32) all0)
  have F52 := A1.keep K35q
  show Go _ _ _ _ (T35.setTop (mkF m 21 #[.val (.ref so), .val (.long ac), .second, .val (.long ms), .second] [(.ref b1)]))
  subst hG
  obtain ⟨fs, hr, hrun, hended, hW, hsame⟩ := X35.leave (v := some (.ref b1)) (fun h => by rw [Bd.returns] at h; cases h)
  refine ⟨_, _, ?_, hrun, hended, _, _, rfl, ?_, ⟨_, rfl⟩, hW, hsame.mono (by decide) (by decide)⟩
  · exact retOut X35 hx Bd.returns rfl (Or.inr (Or.inr (Or.inr (Or.inr ⟨rfl, rfl, rfl⟩)))) (hb hby d43_21) hr
  · show Q_clmd Z so ac ms qu ii du se atm fa ct lu ra da sx h0 n0 _ T35.heap _
    exact ⟨b1, rfl, N35, K37, ge3, sz4, Fq35_0, Fq35_1, Fq35_2, Fq35_3, Fq35_4, Fq35_5, Fq35_6, Fq35_7, Fq35_8, Fq35_9, Fq35_10, Fq35_11, Fq35_12⟩
theorem d44_0 : decode prog_14_method_10_code 0 = .ok (.new 8, 3) := by decide +kernel
theorem d44_3 : decode prog_14_method_10_code 3 = .ok (.dup, 1) := by decide +kernel
theorem d44_4 : decode prog_14_method_10_code 4 = .ok (.aload_n 0, 1) := by decide +kernel
theorem d44_5 : decode prog_14_method_10_code 5 = .ok (.getfield 7, 3) := by decide +kernel
theorem d44_8 : decode prog_14_method_10_code 8 = .ok (.aload_n 0, 1) := by decide +kernel
theorem d44_9 : decode prog_14_method_10_code 9 = .ok (.getfield 13, 3) := by decide +kernel
theorem d44_12 : decode prog_14_method_10_code 12 = .ok (.aload_n 0, 1) := by decide +kernel
theorem d44_13 : decode prog_14_method_10_code 13 = .ok (.getfield 16, 3) := by decide +kernel
theorem d44_16 : decode prog_14_method_10_code 16 = .ok (.aload_n 0, 1) := by decide +kernel
theorem d44_17 : decode prog_14_method_10_code 17 = .ok (.getfield 20, 3) := by decide +kernel
theorem d44_20 : decode prog_14_method_10_code 20 = .ok (.aload_n 1, 1) := by decide +kernel
theorem d44_21 : decode prog_14_method_10_code 21 = .ok (.aload_n 0, 1) := by decide +kernel
theorem d44_22 : decode prog_14_method_10_code 22 = .ok (.getfield 27, 3) := by decide +kernel
theorem d44_25 : decode prog_14_method_10_code 25 = .ok (.iload_n 2, 1) := by decide +kernel
theorem d44_26 : decode prog_14_method_10_code 26 = .ok (.lconst 0, 1) := by decide +kernel
theorem d44_27 : decode prog_14_method_10_code 27 = .ok (.lconst 0, 1) := by decide +kernel
theorem d44_28 : decode prog_14_method_10_code 28 = .ok (.lload_n 3, 1) := by decide +kernel
theorem d44_29 : decode prog_14_method_10_code 29 = .ok (.lload 5, 2) := by decide +kernel
theorem d44_31 : decode prog_14_method_10_code 31 = .ok (.aload 7, 2) := by decide +kernel
theorem d44_33 : decode prog_14_method_10_code 33 = .ok (.invokespecial 49, 3) := by decide +kernel
theorem d44_36 : decode prog_14_method_10_code 36 = .ok (.areturn, 1) := by decide +kernel
theorem ef_inr0 (m : MethodId) (so : Addr) (sx : Addr) (nf : Int32) (nr : Int64) (nd : Int64) (ne : Addr) : entryFrame m #[(.ref so), (.ref sx), (.int nf), (.long nr), (.long nd), (.ref ne)] 8 = mkF m 0 #[.val (.ref so), .val (.ref sx), .val (.int nf), .val (.long nr), .second, .val (.long nd), .second, .val (.ref ne)] [] := by first | (simp [entryFrame, mkF, argsToLocals, Value.category]; done) | rfl
def Q_inr0 (Z : State) (so : Addr) (sx : Addr) (nf : Int32) (nr : Int64) (nd : Int64) (ne : Addr) (qu : Addr) (ii : Addr) (du : Int64) (se : Addr) (atm : Int32) (fa : Int32) (ct : Int64) (lu : Int64) (ra : Int64) (da : Int64) (h0 : Heap) (n0 : Nat) (v : Option Value) (h : Heap) (L : List Loc) : Prop := ∃ fr : Addr, v = some (.ref fr) ∧ Fr n0 L ∧ Keep h0 h [] ∧ n0 ≤ fr ∧ h0.size ≤ fr ∧ Exa Z h fr "com/example/lapsed/lapsed/Timeout" ∧ Fld Z h fr "com/example/lapsed/lapsed/Timeout" "queue" "Ljava/lang/String;" (.ref qu) ∧ Fld Z h fr "com/example/lapsed/lapsed/Timeout" "id" "Ljava/lang/String;" (.ref ii) ∧ Fld Z h fr "com/example/lapsed/lapsed/Timeout" "dueAt" "J" (.long du) ∧ Fld Z h fr "com/example/lapsed/lapsed/Timeout" "payload" "Ljava/lang/String;" .null ∧ Fld Z h fr "com/example/lapsed/lapsed/Timeout" "state" "Lcom/example/lapsed/lapsed/State;" (.ref sx) ∧ Fld Z h fr "com/example/lapsed/lapsed/Timeout" "attempt" "I" (.int atm) ∧ Fld Z h fr "com/example/lapsed/lapsed/Timeout" "failures" "I" (.int nf) ∧ Fld Z h fr "com/example/lapsed/lapsed/Timeout" "claimedAt" "J" (.long (0 : Int64)) ∧ Fld Z h fr "com/example/lapsed/lapsed/Timeout" "leaseUntil" "J" (.long (0 : Int64)) ∧ Fld Z h fr "com/example/lapsed/lapsed/Timeout" "retryAt" "J" (.long nr) ∧ Fld Z h fr "com/example/lapsed/lapsed/Timeout" "deadAt" "J" (.long nd) ∧ Fld Z h fr "com/example/lapsed/lapsed/Timeout" "lastError" "Ljava/lang/String;" (.ref ne)
set_option maxRecDepth 65536 in
set_option maxHeartbeats 40000000 in
theorem rm_inr0 (l : Launch) (Z : State) (a0 : Array Value) (hw : ∀ d ∈ tables_1, d.before a0 Z = true) (ws : List Jvm.Cond) (so : Addr) (sx : Addr) (nf : Int32) (nr : Int64) (nd : Int64) (ne : Addr) (qu : Addr) (ii : Addr) (du : Int64) (se : Addr) (atm : Int32) (fa : Int32) (ct : Int64) (lu : Int64) (ra : Int64) (da : Int64) (h0 : Heap) (n0 : Nat) (Z0 : n0 ≤ h0.size) (Pf0 : Exa Z h0 so "com/example/lapsed/lapsed/Timeout") (Pf1 : Fld Z h0 so "com/example/lapsed/lapsed/Timeout" "queue" "Ljava/lang/String;" (.ref qu)) (Pf2 : Fld Z h0 so "com/example/lapsed/lapsed/Timeout" "id" "Ljava/lang/String;" (.ref ii)) (Pf3 : Fld Z h0 so "com/example/lapsed/lapsed/Timeout" "dueAt" "J" (.long du)) (Pf4 : Fld Z h0 so "com/example/lapsed/lapsed/Timeout" "payload" "Ljava/lang/String;" .null) (Pf5 : Fld Z h0 so "com/example/lapsed/lapsed/Timeout" "state" "Lcom/example/lapsed/lapsed/State;" (.ref se)) (Pf6 : Fld Z h0 so "com/example/lapsed/lapsed/Timeout" "attempt" "I" (.int atm)) (Pf7 : Fld Z h0 so "com/example/lapsed/lapsed/Timeout" "failures" "I" (.int fa)) (Pf8 : Fld Z h0 so "com/example/lapsed/lapsed/Timeout" "claimedAt" "J" (.long ct)) (Pf9 : Fld Z h0 so "com/example/lapsed/lapsed/Timeout" "leaseUntil" "J" (.long lu)) (Pf10 : Fld Z h0 so "com/example/lapsed/lapsed/Timeout" "retryAt" "J" (.long ra)) (Pf11 : Fld Z h0 so "com/example/lapsed/lapsed/Timeout" "deadAt" "J" (.long da)) (Pf12 : Fld Z h0 so "com/example/lapsed/lapsed/Timeout" "lastError" "Ljava/lang/String;" .null) :
    MetFree l (⟨"com/example/lapsed/lapsed/Timeout", "inRound", "(Lcom/example/lapsed/lapsed/State;IJJLjava/lang/String;)Lcom/example/lapsed/lapsed/Timeout;"⟩ : MethodName) (head1 (Jvm.Cond.code (⟨"com/example/lapsed/lapsed/Timeout", "inRound", "(Lcom/example/lapsed/lapsed/State;IJJLjava/lang/String;)Lcom/example/lapsed/lapsed/Timeout;"⟩ : MethodName) prog_14_method_10_code 8 (some (.object "com/example/lapsed/lapsed/Timeout")) :: ws) ({ frames := 2, cells := 1, slots := 12, locals := 42 } : Room)) (fun a U => a = #[(.ref so), (.ref sx), (.int nf), (.long nr), (.long nd), (.ref ne)] ∧ Z.Warmed39 U.vm ∧ U.heap = h0) (fun _ _ _ _ _ => True) (fun _ U o U' => ∃ v L, o = .returned v ∧ Q_inr0 Z so sx nf nr nd ne qu ii du se atm fa ct lu ra da h0 n0 v U'.heap L ∧ FrameEnd U o U' L ({ frames := 2, cells := 1, slots := 12, locals := 42 } : Room).cells ({ frames := 2, cells := 1, slots := 12, locals := 42 } : Room).slots) := by
  refine MetFree.of_bodySF (plainFor_of_name pn_16) hisR ?_
  intro p e s m args below meth c s₁ Bd hml0 hP hK
  obtain ⟨rfl, hZ, hh⟩ := hP
  have hx := Bd.exec
  have hby := Bd.bytes
  have hml : c.maxLocals = 8 := hml0
  have hown : s.vm.findClass "com/example/lapsed/lapsed/Timeout" = some m.cls := findClass_of_methodNamed Bd.named
  have hnm := (name_of_methodNamed Bd.named Bd.method).1
  have X0 : Stand p l e ({ frames := 2, cells := 1, slots := 12, locals := 42 } : Room) s m #[(.ref so), (.ref sx), (.int nf), (.long nr), (.long nd), (.ref ne)] below meth c s₁ [] 0 0 := Stand.of_body Bd
  have e0 : s₁.heap = h0 := by rw [← hh, Bd.state]; rfl
  have N0 := Fr.nil n0
  have K0 : Keep h0 h0 [] := Keep.refl h0 []
  show Go p.tables e below _ (s₁.setTop (entryFrame m #[(.ref so), (.ref sx), (.int nf), (.long nr), (.long nd), (.ref ne)] 8))
  refine Go.start ?_
  intro G hG
  refine Go.st (fun t k => castTop (ef_inr0 m so sx nf nr nd ne) k) ?_
  show Go _ _ _ _ (s₁.setTop (mkF m 0 #[.val (.ref so), .val (.ref sx), .val (.int nf), .val (.long nr), .second, .val (.long nd), .second, .val (.ref ne)] []))
  obtain ⟨T1, h1, X1, e1, E1, A1, D1, -, st1⟩ := newO X0 hx hZ hown (ow hw 276 rfl) (ow hw 224 rfl) (ow hw 225 rfl) e0 (g := (mkF m 0 #[.val (.ref so), .val (.ref sx), .val (.int nf), .val (.long nr), .second, .val (.long nd), .second, .val (.ref ne)] [])) rfl (hb hby d44_0) (by decide) (by decide)
  obtain ⟨b1, g1⟩ : ∃ z, z = h0.size := ⟨_, rfl⟩
  rw [← g1] at A1 D1 st1
  refine Go.st st1 ?_
  have ne2 := on_ Pf0.lt g1
  have ge3 : n0 ≤ b1 := Nat.le_trans Z0 (Nat.le_of_eq g1.symm)
  have sz4 : h0.size ≤ b1 := Nat.le_trans K0.1 (Nat.le_of_eq g1.symm)
  have Z5 : n0 ≤ h1.size := Nat.le_trans Z0 E1.1
  have K6 := K0.ext E1
  have F7 := Pf0.ext E1
  have F8 := Pf1.ext E1
  have F9 := Pf2.ext E1
  have F10 := Pf3.ext E1
  have F11 := Pf4.ext E1
  have F12 := Pf5.ext E1
  have F13 := Pf6.ext E1
  have F14 := Pf7.ext E1
  have F15 := Pf8.ext E1
  have F16 := Pf9.ext E1
  have F17 := Pf10.ext E1
  have F18 := Pf11.ext E1
  have F19 := Pf12.ext E1
  have F20 : Fld Z h1 b1 "com/example/lapsed/lapsed/Timeout" "queue" "Ljava/lang/String;" .null := D1 (Or.inr (ow hw 243 rfl)) (ty := (.object "java/lang/String")) (by decide)
  have F21 : Fld Z h1 b1 "com/example/lapsed/lapsed/Timeout" "id" "Ljava/lang/String;" .null := D1 (Or.inr (ow hw 245 rfl)) (ty := (.object "java/lang/String")) (by decide)
  have F22 : Fld Z h1 b1 "com/example/lapsed/lapsed/Timeout" "dueAt" "J" (.long (0 : Int64)) := D1 (Or.inr (ow hw 247 rfl)) (ty := .long) (by decide)
  have F23 : Fld Z h1 b1 "com/example/lapsed/lapsed/Timeout" "payload" "Ljava/lang/String;" .null := D1 (Or.inr (ow hw 249 rfl)) (ty := (.object "java/lang/String")) (by decide)
  have F24 : Fld Z h1 b1 "com/example/lapsed/lapsed/Timeout" "state" "Lcom/example/lapsed/lapsed/State;" .null := D1 (Or.inr (ow hw 251 rfl)) (ty := (.object "com/example/lapsed/lapsed/State")) (by decide)
  have F25 : Fld Z h1 b1 "com/example/lapsed/lapsed/Timeout" "attempt" "I" (.int (0 : Int32)) := D1 (Or.inr (ow hw 253 rfl)) (ty := .int) (by decide)
  have F26 : Fld Z h1 b1 "com/example/lapsed/lapsed/Timeout" "failures" "I" (.int (0 : Int32)) := D1 (Or.inr (ow hw 255 rfl)) (ty := .int) (by decide)
  have F27 : Fld Z h1 b1 "com/example/lapsed/lapsed/Timeout" "claimedAt" "J" (.long (0 : Int64)) := D1 (Or.inr (ow hw 257 rfl)) (ty := .long) (by decide)
  have F28 : Fld Z h1 b1 "com/example/lapsed/lapsed/Timeout" "leaseUntil" "J" (.long (0 : Int64)) := D1 (Or.inr (ow hw 259 rfl)) (ty := .long) (by decide)
  have F29 : Fld Z h1 b1 "com/example/lapsed/lapsed/Timeout" "retryAt" "J" (.long (0 : Int64)) := D1 (Or.inr (ow hw 261 rfl)) (ty := .long) (by decide)
  have F30 : Fld Z h1 b1 "com/example/lapsed/lapsed/Timeout" "deadAt" "J" (.long (0 : Int64)) := D1 (Or.inr (ow hw 263 rfl)) (ty := .long) (by decide)
  have F31 : Fld Z h1 b1 "com/example/lapsed/lapsed/Timeout" "lastError" "Ljava/lang/String;" .null := D1 (Or.inr (ow hw 265 rfl)) (ty := (.object "java/lang/String")) (by decide)
  show Go _ _ _ _ (T1.setTop (mkF m 3 #[.val (.ref so), .val (.ref sx), .val (.int nf), .val (.long nr), .second, .val (.long nd), .second, .val (.ref ne)] [(.ref b1)]))
  refine Go.st (fun _ k => XS.dup X1.here hx rfl (hb hby d44_3) rfl rfl k) ?_
  show Go _ _ _ _ (T1.setTop (mkF m 4 #[.val (.ref so), .val (.ref sx), .val (.int nf), .val (.long nr), .second, .val (.long nd), .second, .val (.ref ne)] [(.ref b1), (.ref b1)]))
  refine Go.st (fun _ k => XS.aloadN X1.here hx rfl (hb hby d44_4) rfl rfl k) ?_
  show Go _ _ _ _ (T1.setTop (mkF m 5 #[.val (.ref so), .val (.ref sx), .val (.int nf), .val (.long nr), .second, .val (.long nd), .second, .val (.ref ne)] [(.ref so), (.ref b1), (.ref b1)]))
  obtain ⟨T32, X32, e32, st32⟩ := getF X1 hx hZ hown (host := "") (Or.inl (ow hw 242 rfl)) Via.refl e1 F8 (g := (mkF m 5 #[.val (.ref so), .val (.ref sx), .val (.int nf), .val (.long nr), .second, .val (.long nd), .second, .val (.ref ne)] [(.ref so), (.ref b1), (.ref b1)])) rfl rfl (hb hby d44_5)
  refine Go.st st32 ?_
  show Go _ _ _ _ (T32.setTop (mkF m 8 #[.val (.ref so), .val (.ref sx), .val (.int nf), .val (.long nr), .second, .val (.long nd), .second, .val (.ref ne)] [(.ref qu), (.ref b1), (.ref b1)]))
  refine Go.st (fun _ k => XS.aloadN X32.here hx rfl (hb hby d44_8) rfl rfl k) ?_
  show Go _ _ _ _ (T32.setTop (mkF m 9 #[.val (.ref so), .val (.ref sx), .val (.int nf), .val (.long nr), .second, .val (.long nd), .second, .val (.ref ne)] [(.ref so), (.ref qu), (.ref b1), (.ref b1)]))
  obtain ⟨T33, X33, e33, st33⟩ := getF X32 hx hZ hown (host := "") (Or.inl (ow hw 244 rfl)) Via.refl e32 F9 (g := (mkF m 9 #[.val (.ref so), .val (.ref sx), .val (.int nf), .val (.long nr), .second, .val (.long nd), .second, .val (.ref ne)] [(.ref so), (.ref qu), (.ref b1), (.ref b1)])) rfl rfl (hb hby d44_9)
  refine Go.st st33 ?_
  show Go _ _ _ _ (T33.setTop (mkF m 12 #[.val (.ref so), .val (.ref sx), .val (.int nf), .val (.long nr), .second, .val (.long nd), .second, .val (.ref ne)] [(.ref ii), (.ref qu), (.ref b1), (.ref b1)]))
  refine Go.st (fun _ k => XS.aloadN X33.here hx rfl (hb hby d44_12) rfl rfl k) ?_
  show Go _ _ _ _ (T33.setTop (mkF m 13 #[.val (.ref so), .val (.ref sx), .val (.int nf), .val (.long nr), .second, .val (.long nd), .second, .val (.ref ne)] [(.ref so), (.ref ii), (.ref qu), (.ref b1), (.ref b1)]))
  obtain ⟨T34, X34, e34, st34⟩ := getF X33 hx hZ hown (host := "") (Or.inl (ow hw 246 rfl)) Via.refl e33 F10 (g := (mkF m 13 #[.val (.ref so), .val (.ref sx), .val (.int nf), .val (.long nr), .second, .val (.long nd), .second, .val (.ref ne)] [(.ref so), (.ref ii), (.ref qu), (.ref b1), (.ref b1)])) rfl rfl (hb hby d44_13)
  refine Go.st st34 ?_
  show Go _ _ _ _ (T34.setTop (mkF m 16 #[.val (.ref so), .val (.ref sx), .val (.int nf), .val (.long nr), .second, .val (.long nd), .second, .val (.ref ne)] [(.long du), (.ref ii), (.ref qu), (.ref b1), (.ref b1)]))
  refine Go.st (fun _ k => XS.aloadN X34.here hx rfl (hb hby d44_16) rfl rfl k) ?_
  show Go _ _ _ _ (T34.setTop (mkF m 17 #[.val (.ref so), .val (.ref sx), .val (.int nf), .val (.long nr), .second, .val (.long nd), .second, .val (.ref ne)] [(.ref so), (.long du), (.ref ii), (.ref qu), (.ref b1), (.ref b1)]))
  obtain ⟨T35, X35, e35, st35⟩ := getF X34 hx hZ hown (host := "") (Or.inl (ow hw 248 rfl)) Via.refl e34 F11 (g := (mkF m 17 #[.val (.ref so), .val (.ref sx), .val (.int nf), .val (.long nr), .second, .val (.long nd), .second, .val (.ref ne)] [(.ref so), (.long du), (.ref ii), (.ref qu), (.ref b1), (.ref b1)])) rfl rfl (hb hby d44_17)
  refine Go.st st35 ?_
  show Go _ _ _ _ (T35.setTop (mkF m 20 #[.val (.ref so), .val (.ref sx), .val (.int nf), .val (.long nr), .second, .val (.long nd), .second, .val (.ref ne)] [.null, (.long du), (.ref ii), (.ref qu), (.ref b1), (.ref b1)]))
  refine Go.st (fun _ k => XS.aloadN X35.here hx rfl (hb hby d44_20) rfl rfl k) ?_
  show Go _ _ _ _ (T35.setTop (mkF m 21 #[.val (.ref so), .val (.ref sx), .val (.int nf), .val (.long nr), .second, .val (.long nd), .second, .val (.ref ne)] [(.ref sx), .null, (.long du), (.ref ii), (.ref qu), (.ref b1), (.ref b1)]))
  refine Go.st (fun _ k => XS.aloadN X35.here hx rfl (hb hby d44_21) rfl rfl k) ?_
  show Go _ _ _ _ (T35.setTop (mkF m 22 #[.val (.ref so), .val (.ref sx), .val (.int nf), .val (.long nr), .second, .val (.long nd), .second, .val (.ref ne)] [(.ref so), (.ref sx), .null, (.long du), (.ref ii), (.ref qu), (.ref b1), (.ref b1)]))
  obtain ⟨T36, X36, e36, st36⟩ := getF X35 hx hZ hown (host := "") (Or.inl (ow hw 252 rfl)) Via.refl e35 F13 (g := (mkF m 22 #[.val (.ref so), .val (.ref sx), .val (.int nf), .val (.long nr), .second, .val (.long nd), .second, .val (.ref ne)] [(.ref so), (.ref sx), .null, (.long du), (.ref ii), (.ref qu), (.ref b1), (.ref b1)])) rfl rfl (hb hby d44_22)
  refine Go.st st36 ?_
  show Go _ _ _ _ (T36.setTop (mkF m 25 #[.val (.ref so), .val (.ref sx), .val (.int nf), .val (.long nr), .second, .val (.long nd), .second, .val (.ref ne)] [(.int atm), (.ref sx), .null, (.long du), (.ref ii), (.ref qu), (.ref b1), (.ref b1)]))
  refine Go.st (fun _ k => XS.iloadN X36.here hx rfl (hb hby d44_25) rfl k) ?_
  show Go _ _ _ _ (T36.setTop (mkF m 26 #[.val (.ref so), .val (.ref sx), .val (.int nf), .val (.long nr), .second, .val (.long nd), .second, .val (.ref ne)] [(.int nf), (.int atm), (.ref sx), .null, (.long du), (.ref ii), (.ref qu), (.ref b1), (.ref b1)]))
  refine Go.st (fun _ k => XS.lconst X36.here hx rfl (hb hby d44_26) k) ?_
  show Go _ _ _ _ (T36.setTop (mkF m 27 #[.val (.ref so), .val (.ref sx), .val (.int nf), .val (.long nr), .second, .val (.long nd), .second, .val (.ref ne)] [(.long (0 : Int64)), (.int nf), (.int atm), (.ref sx), .null, (.long du), (.ref ii), (.ref qu), (.ref b1), (.ref b1)]))
  refine Go.st (fun _ k => XS.lconst X36.here hx rfl (hb hby d44_27) k) ?_
  show Go _ _ _ _ (T36.setTop (mkF m 28 #[.val (.ref so), .val (.ref sx), .val (.int nf), .val (.long nr), .second, .val (.long nd), .second, .val (.ref ne)] [(.long (0 : Int64)), (.long (0 : Int64)), (.int nf), (.int atm), (.ref sx), .null, (.long du), (.ref ii), (.ref qu), (.ref b1), (.ref b1)]))
  refine Go.st (fun _ k => XS.lloadN X36.here hx rfl (hb hby d44_28) rfl k) ?_
  show Go _ _ _ _ (T36.setTop (mkF m 29 #[.val (.ref so), .val (.ref sx), .val (.int nf), .val (.long nr), .second, .val (.long nd), .second, .val (.ref ne)] [(.long nr), (.long (0 : Int64)), (.long (0 : Int64)), (.int nf), (.int atm), (.ref sx), .null, (.long du), (.ref ii), (.ref qu), (.ref b1), (.ref b1)]))
  refine Go.st (fun _ k => XS.lload X36.here hx rfl (hb hby d44_29) rfl k) ?_
  show Go _ _ _ _ (T36.setTop (mkF m 31 #[.val (.ref so), .val (.ref sx), .val (.int nf), .val (.long nr), .second, .val (.long nd), .second, .val (.ref ne)] [(.long nd), (.long nr), (.long (0 : Int64)), (.long (0 : Int64)), (.int nf), (.int atm), (.ref sx), .null, (.long du), (.ref ii), (.ref qu), (.ref b1), (.ref b1)]))
  refine Go.st (fun _ k => XS.aload X36.here hx rfl (hb hby d44_31) rfl rfl k) ?_
  show Go _ _ _ _ (T36.setTop (mkF m 33 #[.val (.ref so), .val (.ref sx), .val (.int nf), .val (.long nr), .second, .val (.long nd), .second, .val (.ref ne)] [(.ref ne), (.long nd), (.long nr), (.long (0 : Int64)), (.long (0 : Int64)), (.int nf), (.int atm), (.ref sx), .null, (.long du), (.ref ii), (.ref qu), (.ref b1), (.ref b1)]))
  obtain ⟨_, _, ⟨T37, L37, k37, n37⟩, -, X37, ⟨Lc37, hQ37, l37, y37, z37⟩, st37⟩ := X36.specialBack hx (y := (⟨"com/example/lapsed/lapsed/Timeout", "<init>", "(Ljava/lang/String;Ljava/lang/String;JLjava/lang/String;Lcom/example/lapsed/lapsed/State;IIJJJJLjava/lang/String;)V"⟩ : MethodName)) rfl hown (mvT hZ (ow hw 282 rfl)) (mvT hZ (ow hw 239 rfl)) (mvT hZ (ow hw 240 rfl)) (by decide) (backOf (W := 1) (rm_tin1 l Z a0 hw [] b1 qu ii du sx atm nf (0 : Int64) (0 : Int64) nr nd ne h1 n0 Z5 A1 F20 F21 F22 F23 F24 F25 F26 F27 F28 F29 F30 F31 ge3) hZ (ow hw 240 rfl) (ow hw 225 rfl) (by decide) (by decide)) (g := (mkF m 33 #[.val (.ref so), .val (.ref sx), .val (.int nf), .val (.long nr), .second, .val (.long nd), .second, .val (.ref ne)] [(.ref ne), (.long nd), (.long nr), (.long (0 : Int64)), (.long (0 : Int64)), (.int nf), (.int atm), (.ref sx), .null, (.long du), (.ref ii), (.ref qu), (.ref b1), (.ref b1)])) rfl (by rw [hml]; rfl) (Steps.refl _) (a := b1) (argsL := [(.ref qu), (.ref ii), (.long du), .null, (.ref sx), (.int atm), (.int nf), (.long (0 : Int64)), (.long (0 : Int64)), (.long nr), (.long nd), (.ref ne)]) (rest := [(.ref b1)]) (lenOf pd_22 rfl) rfl (by show 2 * 0 + _ ≤ _; exact Nat.le_of_eq rfl) (hb hby d44_33) (fun _ _ => ⟨rfl, e36, (by decide : 1 + 0 ≤ _), (by decide : 12 + 0 ≤ _)⟩)
  dsimp only [Pt.U, Pt.locs, Pt.cells, Pt.slots] at X37 l37 y37 z37 st37 hQ37
  rw [l37, y37, z37] at X37
  obtain ⟨rfl, N37q, K37q, Fq37_0, Fq37_1, Fq37_2, Fq37_3, Fq37_4, Fq37_5, Fq37_6, Fq37_7, Fq37_8, Fq37_9, Fq37_10, Fq37_11, Fq37_12⟩ := hQ37
  have N37 := Fr.app N0 N37q
  refine Go.st (fun _ k => st37.trans k) ?_
  have Z38 : n0 ≤ T37.heap.size := Nat.le_trans Z5 K37q.1
  have K39 := K6.trans K37q (fun z hz => (List.mem_cons.mp hz).elim (fun q => by rw [q]; exact Or.inr sz4) nn_)
  have F40 := F7.keep K37q
  have F41 := F8.keep K37q (fun z => (List.mem_cons.mp z).elim ne2 nn_)
  have F42 := F9.keep K37q (fun z => (List.mem_cons.mp z).elim ne2 nn_)
  have F43 := F10.keep K37q (fun z => (List.mem_cons.mp z).elim ne2 nn_)
  have F44 := F11.keep K37q (fun z => (List.mem_cons.mp z).elim ne2 nn_)
  have F45 := F12.keep K37q (fun z => (List.mem_cons.mp z).elim ne2 nn_)
  have F46 := F13.keep K37q (fun z => (List.mem_cons.mp z).elim ne2 nn_)
  have F47 := F14.keep K37q (fun z => (List.mem_cons.mp z).elim ne2 nn_)
  have F48 := F15.keep K37q (fun z => (List.mem_cons.mp z).elim ne2 nn_)
  have F49 := F16.keep K37q (fun z => (List.mem_cons.mp z).elim ne2 nn_)
  have F50 := F17.keep K37q (fun z => (List.mem_cons.mp z).elim ne2 nn_)
  have F51 := F18.keep K37q (fun z => (List.mem_cons.mp z).elim ne2 nn_)
  have F52 := F19.keep K37q (fun z => (List.mem_cons.mp z).elim ne2 nn_)
  have F53 := A1.keep K37q
  show Go _ _ _ _ (T37.setTop (mkF m 36 #[.val (.ref so), .val (.ref sx), .val (.int nf), .val (.long nr), .second, .val (.long nd), .second, .val (.ref ne)] [(.ref b1)]))
  subst hG
  obtain ⟨fs, hr, hrun, hended, hW, hsame⟩ := X37.leave (v := some (.ref b1)) (fun h => by rw [Bd.returns] at h; cases h)
  refine ⟨_, _, ?_, hrun, hended, _, _, rfl, ?_, ⟨_, rfl⟩, hW, hsame.mono (by decide) (by decide)⟩
  · exact retOut X37 hx Bd.returns rfl (Or.inr (Or.inr (Or.inr (Or.inr ⟨rfl, rfl, rfl⟩)))) (hb hby d44_36) hr
  · show Q_inr0 Z so sx nf nr nd ne qu ii du se atm fa ct lu ra da h0 n0 _ T37.heap _
    exact ⟨b1, rfl, N37, K39, ge3, sz4, Fq37_0, Fq37_1, Fq37_2, Fq37_3, Fq37_4, Fq37_5, Fq37_6, Fq37_7, Fq37_8, Fq37_9, Fq37_10, Fq37_11, Fq37_12⟩
theorem ef_inr1 (m : MethodId) (so : Addr) (sx : Addr) (nf : Int32) (nr : Int64) (nd : Int64) (ne : Addr) : entryFrame m #[(.ref so), (.ref sx), (.int nf), (.long nr), (.long nd), (.ref ne)] 8 = mkF m 0 #[.val (.ref so), .val (.ref sx), .val (.int nf), .val (.long nr), .second, .val (.long nd), .second, .val (.ref ne)] [] := by first | (simp [entryFrame, mkF, argsToLocals, Value.category]; done) | rfl
def Q_inr1 (Z : State) (so : Addr) (sx : Addr) (nf : Int32) (nr : Int64) (nd : Int64) (ne : Addr) (qu : Addr) (ii : Addr) (du : Int64) (se : Addr) (atm : Int32) (fa : Int32) (ct : Int64) (lu : Int64) (ra : Int64) (da : Int64) (le : Addr) (h0 : Heap) (n0 : Nat) (v : Option Value) (h : Heap) (L : List Loc) : Prop := ∃ fr : Addr, v = some (.ref fr) ∧ Fr n0 L ∧ Keep h0 h [] ∧ n0 ≤ fr ∧ h0.size ≤ fr ∧ Exa Z h fr "com/example/lapsed/lapsed/Timeout" ∧ Fld Z h fr "com/example/lapsed/lapsed/Timeout" "queue" "Ljava/lang/String;" (.ref qu) ∧ Fld Z h fr "com/example/lapsed/lapsed/Timeout" "id" "Ljava/lang/String;" (.ref ii) ∧ Fld Z h fr "com/example/lapsed/lapsed/Timeout" "dueAt" "J" (.long du) ∧ Fld Z h fr "com/example/lapsed/lapsed/Timeout" "payload" "Ljava/lang/String;" .null ∧ Fld Z h fr "com/example/lapsed/lapsed/Timeout" "state" "Lcom/example/lapsed/lapsed/State;" (.ref sx) ∧ Fld Z h fr "com/example/lapsed/lapsed/Timeout" "attempt" "I" (.int atm) ∧ Fld Z h fr "com/example/lapsed/lapsed/Timeout" "failures" "I" (.int nf) ∧ Fld Z h fr "com/example/lapsed/lapsed/Timeout" "claimedAt" "J" (.long (0 : Int64)) ∧ Fld Z h fr "com/example/lapsed/lapsed/Timeout" "leaseUntil" "J" (.long (0 : Int64)) ∧ Fld Z h fr "com/example/lapsed/lapsed/Timeout" "retryAt" "J" (.long nr) ∧ Fld Z h fr "com/example/lapsed/lapsed/Timeout" "deadAt" "J" (.long nd) ∧ Fld Z h fr "com/example/lapsed/lapsed/Timeout" "lastError" "Ljava/lang/String;" (.ref ne)
set_option maxRecDepth 65536 in
set_option maxHeartbeats 40000000 in
theorem rm_inr1 (l : Launch) (Z : State) (a0 : Array Value) (hw : ∀ d ∈ tables_1, d.before a0 Z = true) (ws : List Jvm.Cond) (so : Addr) (sx : Addr) (nf : Int32) (nr : Int64) (nd : Int64) (ne : Addr) (qu : Addr) (ii : Addr) (du : Int64) (se : Addr) (atm : Int32) (fa : Int32) (ct : Int64) (lu : Int64) (ra : Int64) (da : Int64) (le : Addr) (h0 : Heap) (n0 : Nat) (Z0 : n0 ≤ h0.size) (Pf0 : Exa Z h0 so "com/example/lapsed/lapsed/Timeout") (Pf1 : Fld Z h0 so "com/example/lapsed/lapsed/Timeout" "queue" "Ljava/lang/String;" (.ref qu)) (Pf2 : Fld Z h0 so "com/example/lapsed/lapsed/Timeout" "id" "Ljava/lang/String;" (.ref ii)) (Pf3 : Fld Z h0 so "com/example/lapsed/lapsed/Timeout" "dueAt" "J" (.long du)) (Pf4 : Fld Z h0 so "com/example/lapsed/lapsed/Timeout" "payload" "Ljava/lang/String;" .null) (Pf5 : Fld Z h0 so "com/example/lapsed/lapsed/Timeout" "state" "Lcom/example/lapsed/lapsed/State;" (.ref se)) (Pf6 : Fld Z h0 so "com/example/lapsed/lapsed/Timeout" "attempt" "I" (.int atm)) (Pf7 : Fld Z h0 so "com/example/lapsed/lapsed/Timeout" "failures" "I" (.int fa)) (Pf8 : Fld Z h0 so "com/example/lapsed/lapsed/Timeout" "claimedAt" "J" (.long ct)) (Pf9 : Fld Z h0 so "com/example/lapsed/lapsed/Timeout" "leaseUntil" "J" (.long lu)) (Pf10 : Fld Z h0 so "com/example/lapsed/lapsed/Timeout" "retryAt" "J" (.long ra)) (Pf11 : Fld Z h0 so "com/example/lapsed/lapsed/Timeout" "deadAt" "J" (.long da)) (Pf12 : Fld Z h0 so "com/example/lapsed/lapsed/Timeout" "lastError" "Ljava/lang/String;" (.ref le)) :
    MetFree l (⟨"com/example/lapsed/lapsed/Timeout", "inRound", "(Lcom/example/lapsed/lapsed/State;IJJLjava/lang/String;)Lcom/example/lapsed/lapsed/Timeout;"⟩ : MethodName) (head1 (Jvm.Cond.code (⟨"com/example/lapsed/lapsed/Timeout", "inRound", "(Lcom/example/lapsed/lapsed/State;IJJLjava/lang/String;)Lcom/example/lapsed/lapsed/Timeout;"⟩ : MethodName) prog_14_method_10_code 8 (some (.object "com/example/lapsed/lapsed/Timeout")) :: ws) ({ frames := 2, cells := 1, slots := 12, locals := 42 } : Room)) (fun a U => a = #[(.ref so), (.ref sx), (.int nf), (.long nr), (.long nd), (.ref ne)] ∧ Z.Warmed39 U.vm ∧ U.heap = h0) (fun _ _ _ _ _ => True) (fun _ U o U' => ∃ v L, o = .returned v ∧ Q_inr1 Z so sx nf nr nd ne qu ii du se atm fa ct lu ra da le h0 n0 v U'.heap L ∧ FrameEnd U o U' L ({ frames := 2, cells := 1, slots := 12, locals := 42 } : Room).cells ({ frames := 2, cells := 1, slots := 12, locals := 42 } : Room).slots) := by
  refine MetFree.of_bodySF (plainFor_of_name pn_16) hisR ?_
  intro p e s m args below meth c s₁ Bd hml0 hP hK
  obtain ⟨rfl, hZ, hh⟩ := hP
  have hx := Bd.exec
  have hby := Bd.bytes
  have hml : c.maxLocals = 8 := hml0
  have hown : s.vm.findClass "com/example/lapsed/lapsed/Timeout" = some m.cls := findClass_of_methodNamed Bd.named
  have hnm := (name_of_methodNamed Bd.named Bd.method).1
  have X0 : Stand p l e ({ frames := 2, cells := 1, slots := 12, locals := 42 } : Room) s m #[(.ref so), (.ref sx), (.int nf), (.long nr), (.long nd), (.ref ne)] below meth c s₁ [] 0 0 := Stand.of_body Bd
  have e0 : s₁.heap = h0 := by rw [← hh, Bd.state]; rfl
  have N0 := Fr.nil n0
  have K0 : Keep h0 h0 [] := Keep.refl h0 []
  show Go p.tables e below _ (s₁.setTop (entryFrame m #[(.ref so), (.ref sx), (.int nf), (.long nr), (.long nd), (.ref ne)] 8))
  refine Go.start ?_
  intro G hG
  refine Go.st (fun t k => castTop (ef_inr1 m so sx nf nr nd ne) k) ?_
  show Go _ _ _ _ (s₁.setTop (mkF m 0 #[.val (.ref so), .val (.ref sx), .val (.int nf), .val (.long nr), .second, .val (.long nd), .second, .val (.ref ne)] []))
  obtain ⟨T1, h1, X1, e1, E1, A1, D1, -, st1⟩ := newO X0 hx hZ hown (ow hw 276 rfl) (ow hw 224 rfl) (ow hw 225 rfl) e0 (g := (mkF m 0 #[.val (.ref so), .val (.ref sx), .val (.int nf), .val (.long nr), .second, .val (.long nd), .second, .val (.ref ne)] [])) rfl (hb hby d44_0) (by decide) (by decide)
  obtain ⟨b1, g1⟩ : ∃ z, z = h0.size := ⟨_, rfl⟩
  rw [← g1] at A1 D1 st1
  refine Go.st st1 ?_
  have ne2 := on_ Pf0.lt g1
  have ge3 : n0 ≤ b1 := Nat.le_trans Z0 (Nat.le_of_eq g1.symm)
  have sz4 : h0.size ≤ b1 := Nat.le_trans K0.1 (Nat.le_of_eq g1.symm)
  have Z5 : n0 ≤ h1.size := Nat.le_trans Z0 E1.1
  have K6 := K0.ext E1
  have F7 := Pf0.ext E1
  have F8 := Pf1.ext E1
  have F9 := Pf2.ext E1
  have F10 := Pf3.ext E1
  have F11 := Pf4.ext E1
  have F12 := Pf5.ext E1
  have F13 := Pf6.ext E1
  have F14 := Pf7.ext E1
  have F15 := Pf8.ext E1
  have F16 := Pf9.ext E1
  have F17 := Pf10.ext E1
  have F18 := Pf11.ext E1
  have F19 := Pf12.ext E1
  have F20 : Fld Z h1 b1 "com/example/lapsed/lapsed/Timeout" "queue" "Ljava/lang/String;" .null := D1 (Or.inr (ow hw 243 rfl)) (ty := (.object "java/lang/String")) (by decide)
  have F21 : Fld Z h1 b1 "com/example/lapsed/lapsed/Timeout" "id" "Ljava/lang/String;" .null := D1 (Or.inr (ow hw 245 rfl)) (ty := (.object "java/lang/String")) (by decide)
  have F22 : Fld Z h1 b1 "com/example/lapsed/lapsed/Timeout" "dueAt" "J" (.long (0 : Int64)) := D1 (Or.inr (ow hw 247 rfl)) (ty := .long) (by decide)
  have F23 : Fld Z h1 b1 "com/example/lapsed/lapsed/Timeout" "payload" "Ljava/lang/String;" .null := D1 (Or.inr (ow hw 249 rfl)) (ty := (.object "java/lang/String")) (by decide)
  have F24 : Fld Z h1 b1 "com/example/lapsed/lapsed/Timeout" "state" "Lcom/example/lapsed/lapsed/State;" .null := D1 (Or.inr (ow hw 251 rfl)) (ty := (.object "com/example/lapsed/lapsed/State")) (by decide)
  have F25 : Fld Z h1 b1 "com/example/lapsed/lapsed/Timeout" "attempt" "I" (.int (0 : Int32)) := D1 (Or.inr (ow hw 253 rfl)) (ty := .int) (by decide)
  have F26 : Fld Z h1 b1 "com/example/lapsed/lapsed/Timeout" "failures" "I" (.int (0 : Int32)) := D1 (Or.inr (ow hw 255 rfl)) (ty := .int) (by decide)
  have F27 : Fld Z h1 b1 "com/example/lapsed/lapsed/Timeout" "claimedAt" "J" (.long (0 : Int64)) := D1 (Or.inr (ow hw 257 rfl)) (ty := .long) (by decide)
  have F28 : Fld Z h1 b1 "com/example/lapsed/lapsed/Timeout" "leaseUntil" "J" (.long (0 : Int64)) := D1 (Or.inr (ow hw 259 rfl)) (ty := .long) (by decide)
  have F29 : Fld Z h1 b1 "com/example/lapsed/lapsed/Timeout" "retryAt" "J" (.long (0 : Int64)) := D1 (Or.inr (ow hw 261 rfl)) (ty := .long) (by decide)
  have F30 : Fld Z h1 b1 "com/example/lapsed/lapsed/Timeout" "deadAt" "J" (.long (0 : Int64)) := D1 (Or.inr (ow hw 263 rfl)) (ty := .long) (by decide)
  have F31 : Fld Z h1 b1 "com/example/lapsed/lapsed/Timeout" "lastError" "Ljava/lang/String;" .null := D1 (Or.inr (ow hw 265 rfl)) (ty := (.object "java/lang/String")) (by decide)
  show Go _ _ _ _ (T1.setTop (mkF m 3 #[.val (.ref so), .val (.ref sx), .val (.int nf), .val (.long nr), .second, .val (.long nd), .second, .val (.ref ne)] [(.ref b1)]))
  refine Go.st (fun _ k => XS.dup X1.here hx rfl (hb hby d44_3) rfl rfl k) ?_
  show Go _ _ _ _ (T1.setTop (mkF m 4 #[.val (.ref so), .val (.ref sx), .val (.int nf), .val (.long nr), .second, .val (.long nd), .second, .val (.ref ne)] [(.ref b1), (.ref b1)]))
  refine Go.st (fun _ k => XS.aloadN X1.here hx rfl (hb hby d44_4) rfl rfl k) ?_
  show Go _ _ _ _ (T1.setTop (mkF m 5 #[.val (.ref so), .val (.ref sx), .val (.int nf), .val (.long nr), .second, .val (.long nd), .second, .val (.ref ne)] [(.ref so), (.ref b1), (.ref b1)]))
  obtain ⟨T32, X32, e32, st32⟩ := getF X1 hx hZ hown (host := "") (Or.inl (ow hw 242 rfl)) Via.refl e1 F8 (g := (mkF m 5 #[.val (.ref so), .val (.ref sx), .val (.int nf), .val (.long nr), .second, .val (.long nd), .second, .val (.ref ne)] [(.ref so), (.ref b1), (.ref b1)])) rfl rfl (hb hby d44_5)
  refine Go.st st32 ?_
  show Go _ _ _ _ (T32.setTop (mkF m 8 #[.val (.ref so), .val (.ref sx), .val (.int nf), .val (.long nr), .second, .val (.long nd), .second, .val (.ref ne)] [(.ref qu), (.ref b1), (.ref b1)]))
  refine Go.st (fun _ k => XS.aloadN X32.here hx rfl (hb hby d44_8) rfl rfl k) ?_
  show Go _ _ _ _ (T32.setTop (mkF m 9 #[.val (.ref so), .val (.ref sx), .val (.int nf), .val (.long nr), .second, .val (.long nd), .second, .val (.ref ne)] [(.ref so), (.ref qu), (.ref b1), (.ref b1)]))
  obtain ⟨T33, X33, e33, st33⟩ := getF X32 hx hZ hown (host := "") (Or.inl (ow hw 244 rfl)) Via.refl e32 F9 (g := (mkF m 9 #[.val (.ref so), .val (.ref sx), .val (.int nf), .val (.long nr), .second, .val (.long nd), .second, .val (.ref ne)] [(.ref so), (.ref qu), (.ref b1), (.ref b1)])) rfl rfl (hb hby d44_9)
  refine Go.st st33 ?_
  show Go _ _ _ _ (T33.setTop (mkF m 12 #[.val (.ref so), .val (.ref sx), .val (.int nf), .val (.long nr), .second, .val (.long nd), .second, .val (.ref ne)] [(.ref ii), (.ref qu), (.ref b1), (.ref b1)]))
  refine Go.st (fun _ k => XS.aloadN X33.here hx rfl (hb hby d44_12) rfl rfl k) ?_
  show Go _ _ _ _ (T33.setTop (mkF m 13 #[.val (.ref so), .val (.ref sx), .val (.int nf), .val (.long nr), .second, .val (.long nd), .second, .val (.ref ne)] [(.ref so), (.ref ii), (.ref qu), (.ref b1), (.ref b1)]))
  obtain ⟨T34, X34, e34, st34⟩ := getF X33 hx hZ hown (host := "") (Or.inl (ow hw 246 rfl)) Via.refl e33 F10 (g := (mkF m 13 #[.val (.ref so), .val (.ref sx), .val (.int nf), .val (.long nr), .second, .val (.long nd), .second, .val (.ref ne)] [(.ref so), (.ref ii), (.ref qu), (.ref b1), (.ref b1)])) rfl rfl (hb hby d44_13)
  refine Go.st st34 ?_
  show Go _ _ _ _ (T34.setTop (mkF m 16 #[.val (.ref so), .val (.ref sx), .val (.int nf), .val (.long nr), .second, .val (.long nd), .second, .val (.ref ne)] [(.long du), (.ref ii), (.ref qu), (.ref b1), (.ref b1)]))
  refine Go.st (fun _ k => XS.aloadN X34.here hx rfl (hb hby d44_16) rfl rfl k) ?_
  show Go _ _ _ _ (T34.setTop (mkF m 17 #[.val (.ref so), .val (.ref sx), .val (.int nf), .val (.long nr), .second, .val (.long nd), .second, .val (.ref ne)] [(.ref so), (.long du), (.ref ii), (.ref qu), (.ref b1), (.ref b1)]))
  obtain ⟨T35, X35, e35, st35⟩ := getF X34 hx hZ hown (host := "") (Or.inl (ow hw 248 rfl)) Via.refl e34 F11 (g := (mkF m 17 #[.val (.ref so), .val (.ref sx), .val (.int nf), .val (.long nr), .second, .val (.long nd), .second, .val (.ref ne)] [(.ref so), (.long du), (.ref ii), (.ref qu), (.ref b1), (.ref b1)])) rfl rfl (hb hby d44_17)
  refine Go.st st35 ?_
  show Go _ _ _ _ (T35.setTop (mkF m 20 #[.val (.ref so), .val (.ref sx), .val (.int nf), .val (.long nr), .second, .val (.long nd), .second, .val (.ref ne)] [.null, (.long du), (.ref ii), (.ref qu), (.ref b1), (.ref b1)]))
  refine Go.st (fun _ k => XS.aloadN X35.here hx rfl (hb hby d44_20) rfl rfl k) ?_
  show Go _ _ _ _ (T35.setTop (mkF m 21 #[.val (.ref so), .val (.ref sx), .val (.int nf), .val (.long nr), .second, .val (.long nd), .second, .val (.ref ne)] [(.ref sx), .null, (.long du), (.ref ii), (.ref qu), (.ref b1), (.ref b1)]))
  refine Go.st (fun _ k => XS.aloadN X35.here hx rfl (hb hby d44_21) rfl rfl k) ?_
  show Go _ _ _ _ (T35.setTop (mkF m 22 #[.val (.ref so), .val (.ref sx), .val (.int nf), .val (.long nr), .second, .val (.long nd), .second, .val (.ref ne)] [(.ref so), (.ref sx), .null, (.long du), (.ref ii), (.ref qu), (.ref b1), (.ref b1)]))
  obtain ⟨T36, X36, e36, st36⟩ := getF X35 hx hZ hown (host := "") (Or.inl (ow hw 252 rfl)) Via.refl e35 F13 (g := (mkF m 22 #[.val (.ref so), .val (.ref sx), .val (.int nf), .val (.long nr), .second, .val (.long nd), .second, .val (.ref ne)] [(.ref so), (.ref sx), .null, (.long du), (.ref ii), (.ref qu), (.ref b1), (.ref b1)])) rfl rfl (hb hby d44_22)
  refine Go.st st36 ?_
  show Go _ _ _ _ (T36.setTop (mkF m 25 #[.val (.ref so), .val (.ref sx), .val (.int nf), .val (.long nr), .second, .val (.long nd), .second, .val (.ref ne)] [(.int atm), (.ref sx), .null, (.long du), (.ref ii), (.ref qu), (.ref b1), (.ref b1)]))
  refine Go.st (fun _ k => XS.iloadN X36.here hx rfl (hb hby d44_25) rfl k) ?_
  show Go _ _ _ _ (T36.setTop (mkF m 26 #[.val (.ref so), .val (.ref sx), .val (.int nf), .val (.long nr), .second, .val (.long nd), .second, .val (.ref ne)] [(.int nf), (.int atm), (.ref sx), .null, (.long du), (.ref ii), (.ref qu), (.ref b1), (.ref b1)]))
  refine Go.st (fun _ k => XS.lconst X36.here hx rfl (hb hby d44_26) k) ?_
  show Go _ _ _ _ (T36.setTop (mkF m 27 #[.val (.ref so), .val (.ref sx), .val (.int nf), .val (.long nr), .second, .val (.long nd), .second, .val (.ref ne)] [(.long (0 : Int64)), (.int nf), (.int atm), (.ref sx), .null, (.long du), (.ref ii), (.ref qu), (.ref b1), (.ref b1)]))
  refine Go.st (fun _ k => XS.lconst X36.here hx rfl (hb hby d44_27) k) ?_
  show Go _ _ _ _ (T36.setTop (mkF m 28 #[.val (.ref so), .val (.ref sx), .val (.int nf), .val (.long nr), .second, .val (.long nd), .second, .val (.ref ne)] [(.long (0 : Int64)), (.long (0 : Int64)), (.int nf), (.int atm), (.ref sx), .null, (.long du), (.ref ii), (.ref qu), (.ref b1), (.ref b1)]))
  refine Go.st (fun _ k => XS.lloadN X36.here hx rfl (hb hby d44_28) rfl k) ?_
  show Go _ _ _ _ (T36.setTop (mkF m 29 #[.val (.ref so), .val (.ref sx), .val (.int nf), .val (.long nr), .second, .val (.long nd), .second, .val (.ref ne)] [(.long nr), (.long (0 : Int64)), (.long (0 : Int64)), (.int nf), (.int atm), (.ref sx), .null, (.long du), (.ref ii), (.ref qu), (.ref b1), (.ref b1)]))
  refine Go.st (fun _ k => XS.lload X36.here hx rfl (hb hby d44_29) rfl k) ?_
  show Go _ _ _ _ (T36.setTop (mkF m 31 #[.val (.ref so), .val (.ref sx), .val (.int nf), .val (.long nr), .second, .val (.long nd), .second, .val (.ref ne)] [(.long nd), (.long nr), (.long (0 : Int64)), (.long (0 : Int64)), (.int nf), (.int atm), (.ref sx), .null, (.long du), (.ref ii), (.ref qu), (.ref b1), (.ref b1)]))
  refine Go.st (fun _ k => XS.aload X36.here hx rfl (hb hby d44_31) rfl rfl k) ?_
  show Go _ _ _ _ (T36.setTop (mkF m 33 #[.val (.ref so), .val (.ref sx), .val (.int nf), .val (.long nr), .second, .val (.long nd), .second, .val (.ref ne)] [(.ref ne), (.long nd), (.long nr), (.long (0 : Int64)), (.long (0 : Int64)), (.int nf), (.int atm), (.ref sx), .null, (.long du), (.ref ii), (.ref qu), (.ref b1), (.ref b1)]))
  obtain ⟨_, _, ⟨T37, L37, k37, n37⟩, -, X37, ⟨Lc37, hQ37, l37, y37, z37⟩, st37⟩ := X36.specialBack hx (y := (⟨"com/example/lapsed/lapsed/Timeout", "<init>", "(Ljava/lang/String;Ljava/lang/String;JLjava/lang/String;Lcom/example/lapsed/lapsed/State;IIJJJJLjava/lang/String;)V"⟩ : MethodName)) rfl hown (mvT hZ (ow hw 282 rfl)) (mvT hZ (ow hw 239 rfl)) (mvT hZ (ow hw 240 rfl)) (by decide) (backOf (W := 1) (rm_tin1 l Z a0 hw [] b1 qu ii du sx atm nf (0 : Int64) (0 : Int64) nr nd ne h1 n0 Z5 A1 F20 F21 F22 F23 F24 F25 F26 F27 F28 F29 F30 F31 ge3) hZ (ow hw 240 rfl) (ow hw 225 rfl) (by decide) (by decide)) (g := (mkF m 33 #[.val (.ref so), .val (.ref sx), .val (.int nf), .val (.long nr), .second, .val (.long nd), .second, .val (.ref ne)] [(.ref ne), (.long nd), (.long nr), (.long (0 : Int64)), (.long (0 : Int64)), (.int nf), (.int atm), (.ref sx), .null, (.long du), (.ref ii), (.ref qu), (.ref b1), (.ref b1)])) rfl (by rw [hml]; rfl) (Steps.refl _) (a := b1) (argsL := [(.ref qu), (.ref ii), (.long du), .null, (.ref sx), (.int atm), (.int nf), (.long (0 : Int64)), (.long (0 : Int64)), (.long nr), (.long nd), (.ref ne)]) (rest := [(.ref b1)]) (lenOf pd_22 rfl) rfl (by show 2 * 0 + _ ≤ _; exact Nat.le_of_eq rfl) (hb hby d44_33) (fun _ _ => ⟨rfl, e36, (by decide : 1 + 0 ≤ _), (by decide : 12 + 0 ≤ _)⟩)
  dsimp only [Pt.U, Pt.locs, Pt.cells, Pt.slots] at X37 l37 y37 z37 st37 hQ37
  rw [l37, y37, z37] at X37
  obtain ⟨rfl, N37q, K37q, Fq37_0, Fq37_1, Fq37_2, Fq37_3, Fq37_4, Fq37_5, Fq37_6, Fq37_7, Fq37_8, Fq37_9, Fq37_10, Fq37_11, Fq37_12⟩ := hQ37
  have N37 := Fr.app N0 N37q
  refine Go.st (fun _ k => st37.trans k) ?_
  have Z38 : n0 ≤ T37.heap.size := Nat.le_trans Z5 K37q.1
  have K39 := K6.trans K37q (fun z hz => (List.mem_cons.mp hz).elim (fun q => by rw [q]; exact Or.inr sz4) nn_)
  have F40 := F7.keep K37q
  have F41 := F8.keep K37q (fun z => (List.mem_cons.mp z).elim ne2 nn_)
  have F42 := F9.keep K37q (fun z => (List.mem_cons.mp z).elim ne2 nn_)
  have F43 := F10.keep K37q (fun z => (List.mem_cons.mp z).elim ne2 nn_)
  have F44 := F11.keep K37q (fun z => (List.mem_cons.mp z).elim ne2 nn_)
  have F45 := F12.keep K37q (fun z => (List.mem_cons.mp z).elim ne2 nn_)
  have F46 := F13.keep K37q (fun z => (List.mem_cons.mp z).elim ne2 nn_)
  have F47 := F14.keep K37q (fun z => (List.mem_cons.mp z).elim ne2 nn_)
  have F48 := F15.keep K37q (fun z => (List.mem_cons.mp z).elim ne2 nn_)
  have F49 := F16.keep K37q (fun z => (List.mem_cons.mp z).elim ne2 nn_)
  have F50 := F17.keep K37q (fun z => (List.mem_cons.mp z).elim ne2 nn_)
  have F51 := F18.keep K37q (fun z => (List.mem_cons.mp z).elim ne2 nn_)
  have F52 := F19.keep K37q (fun z => (List.mem_cons.mp z).elim ne2 nn_)
  have F53 := A1.keep K37q
  show Go _ _ _ _ (T37.setTop (mkF m 36 #[.val (.ref so), .val (.ref sx), .val (.int nf), .val (.long nr), .second, .val (.long nd), .second, .val (.ref ne)] [(.ref b1)]))
  subst hG
  obtain ⟨fs, hr, hrun, hended, hW, hsame⟩ := X37.leave (v := some (.ref b1)) (fun h => by rw [Bd.returns] at h; cases h)
  refine ⟨_, _, ?_, hrun, hended, _, _, rfl, ?_, ⟨_, rfl⟩, hW, hsame.mono (by decide) (by decide)⟩
  · exact retOut X37 hx Bd.returns rfl (Or.inr (Or.inr (Or.inr (Or.inr ⟨rfl, rfl, rfl⟩)))) (hb hby d44_36) hr
  · show Q_inr1 Z so sx nf nr nd ne qu ii du se atm fa ct lu ra da le h0 n0 _ T37.heap _
    exact ⟨b1, rfl, N37, K39, ge3, sz4, Fq37_0, Fq37_1, Fq37_2, Fq37_3, Fq37_4, Fq37_5, Fq37_6, Fq37_7, Fq37_8, Fq37_9, Fq37_10, Fq37_11, Fq37_12⟩
theorem pd_24 : parseMethodDescriptor "(I)Ljava/util/OptionalLong;" = some ⟨[.int], some (.object "java/util/OptionalLong")⟩ := by decide +kernel
theorem pd_25 : parseMethodDescriptor "(Lcom/example/lapsed/lapsed/State;IJJLjava/lang/String;)Lcom/example/lapsed/lapsed/Timeout;" = some ⟨[(.object "com/example/lapsed/lapsed/State"), .int, .long, .long, (.object "java/lang/String")], some (.object "com/example/lapsed/lapsed/Timeout")⟩ := by decide +kernel
theorem d45_0 : decode prog_14_method_8_code 0 = .ok (.aload 4, 2) := by decide +kernel
theorem d45_2 : decode prog_14_method_8_code 2 = .ok (.aload_n 0, 1) := by decide +kernel
theorem d45_3 : decode prog_14_method_8_code 3 = .ok (.getfield 31, 3) := by decide +kernel
theorem d45_6 : decode prog_14_method_8_code 6 = .ok (.iconst 1, 1) := by decide +kernel
theorem d45_7 : decode prog_14_method_8_code 7 = .ok (.iadd, 1) := by decide +kernel
theorem d45_8 : decode prog_14_method_8_code 8 = .ok (.invokevirtual 63, 3) := by decide +kernel
theorem d45_11 : decode prog_14_method_8_code 11 = .ok (.astore 5, 2) := by decide +kernel
theorem d45_13 : decode prog_14_method_8_code 13 = .ok (.aload 5, 2) := by decide +kernel
theorem d45_15 : decode prog_14_method_8_code 15 = .ok (.invokevirtual 69, 3) := by decide +kernel
theorem d45_18 : decode prog_14_method_8_code 18 = .ok (.ifCond .eq 30, 3) := by decide +kernel
theorem d45_21 : decode prog_14_method_8_code 21 = .ok (.aload_n 0, 1) := by decide +kernel
theorem d45_22 : decode prog_14_method_8_code 22 = .ok (.getstatic 52, 3) := by decide +kernel
theorem d45_25 : decode prog_14_method_8_code 25 = .ok (.aload_n 0, 1) := by decide +kernel
theorem d45_26 : decode prog_14_method_8_code 26 = .ok (.getfield 31, 3) := by decide +kernel
theorem d45_29 : decode prog_14_method_8_code 29 = .ok (.iconst 1, 1) := by decide +kernel
theorem d45_30 : decode prog_14_method_8_code 30 = .ok (.iadd, 1) := by decide +kernel
theorem d45_31 : decode prog_14_method_8_code 31 = .ok (.lload_n 1, 1) := by decide +kernel
theorem d45_32 : decode prog_14_method_8_code 32 = .ok (.aload 5, 2) := by decide +kernel
theorem d45_34 : decode prog_14_method_8_code 34 = .ok (.invokevirtual 75, 3) := by decide +kernel
theorem d45_37 : decode prog_14_method_8_code 37 = .ok (.ladd, 1) := by decide +kernel
theorem d45_38 : decode prog_14_method_8_code 38 = .ok (.lconst 0, 1) := by decide +kernel
theorem d45_39 : decode prog_14_method_8_code 39 = .ok (.aload_n 3, 1) := by decide +kernel
theorem d45_40 : decode prog_14_method_8_code 40 = .ok (.invokevirtual 79, 3) := by decide +kernel
theorem d45_43 : decode prog_14_method_8_code 43 = .ok (.astore 6, 2) := by decide +kernel
theorem d45_45 : decode prog_14_method_8_code 45 = .ok (.goto 21, 3) := by decide +kernel
theorem d45_66 : decode prog_14_method_8_code 66 = .ok (.aload 6, 2) := by decide +kernel
theorem d45_68 : decode prog_14_method_8_code 68 = .ok (.areturn, 1) := by decide +kernel
theorem ef_fail1 (m : MethodId) (so : Addr) (ac : Int64) (re : Addr) (po : Addr) : entryFrame m #[(.ref so), (.long ac), (.ref re), (.ref po)] 7 = mkF m 0 #[.val (.ref so), .val (.long ac), .second, .val (.ref re), .val (.ref po), .unset, .unset] [] := by first | (simp [entryFrame, mkF, argsToLocals, Value.category]; done) | rfl
def Q_fail1 (Z : State) (so : Addr) (ac : Int64) (re : Addr) (po : Addr) (qu : Addr) (ii : Addr) (du : Int64) (se : Addr) (atm : Int32) (ct : Int64) (lu : Int64) (ra : Int64) (da : Int64) (sx : Addr) (fl : Addr) (eo : Addr) (em : Addr) (pv : Int64) (h0 : Heap) (n0 : Nat) (v : Option Value) (h : Heap) (L : List Loc) : Prop := ∃ fr : Addr, v = some (.ref fr) ∧ Fr n0 L ∧ Keep h0 h [] ∧ n0 ≤ fr ∧ h0.size ≤ fr ∧ Exa Z h fr "com/example/lapsed/lapsed/Timeout" ∧ Fld Z h fr "com/example/lapsed/lapsed/Timeout" "queue" "Ljava/lang/String;" (.ref qu) ∧ Fld Z h fr "com/example/lapsed/lapsed/Timeout" "id" "Ljava/lang/String;" (.ref ii) ∧ Fld Z h fr "com/example/lapsed/lapsed/Timeout" "dueAt" "J" (.long du) ∧ Fld Z h fr "com/example/lapsed/lapsed/Timeout" "payload" "Ljava/lang/String;" .null ∧ Fld Z h fr "com/example/lapsed/lapsed/Timeout" "state" "Lcom/example/lapsed/lapsed/State;" (.ref sx) ∧ Fld Z h fr "com/example/lapsed/lapsed/Timeout" "attempt" "I" (.int atm) ∧ Fld Z h fr "com/example/lapsed/lapsed/Timeout" "failures" "I" (.int (1 : Int32)) ∧ Fld Z h fr "com/example/lapsed/lapsed/Timeout" "claimedAt" "J" (.long (0 : Int64)) ∧ Fld Z h fr "com/example/lapsed/lapsed/Timeout" "leaseUntil" "J" (.long (0 : Int64)) ∧ Fld Z h fr "com/example/lapsed/lapsed/Timeout" "retryAt" "J" (.long (ac + pv)) ∧ Fld Z h fr "com/example/lapsed/lapsed/Timeout" "deadAt" "J" (.long (0 : Int64)) ∧ Fld Z h fr "com/example/lapsed/lapsed/Timeout" "lastError" "Ljava/lang/String;" (.ref re)
set_option maxRecDepth 65536 in
set_option maxHeartbeats 40000000 in
theorem rm_fail1 (l : Launch) (Z : State) (a0 : Array Value) (hw : ∀ d ∈ tables_1, d.before a0 Z = true) (ws : List Jvm.Cond) (so : Addr) (ac : Int64) (re : Addr) (po : Addr) (qu : Addr) (ii : Addr) (du : Int64) (se : Addr) (atm : Int32) (ct : Int64) (lu : Int64) (ra : Int64) (da : Int64) (sx : Addr) (fl : Addr) (eo : Addr) (em : Addr) (pv : Int64) (h0 : Heap) (n0 : Nat) (Z0 : n0 ≤ h0.size) (Pf0 : Exa Z h0 so "com/example/lapsed/lapsed/Timeout") (Pf1 : Fld Z h0 so "com/example/lapsed/lapsed/Timeout" "queue" "Ljava/lang/String;" (.ref qu)) (Pf2 : Fld Z h0 so "com/example/lapsed/lapsed/Timeout" "id" "Ljava/lang/String;" (.ref ii)) (Pf3 : Fld Z h0 so "com/example/lapsed/lapsed/Timeout" "dueAt" "J" (.long du)) (Pf4 : Fld Z h0 so "com/example/lapsed/lapsed/Timeout" "payload" "Ljava/lang/String;" .null) (Pf5 : Fld Z h0 so "com/example/lapsed/lapsed/Timeout" "state" "Lcom/example/lapsed/lapsed/State;" (.ref se)) (Pf6 : Fld Z h0 so "com/example/lapsed/lapsed/Timeout" "attempt" "I" (.int atm)) (Pf7 : Fld Z h0 so "com/example/lapsed/lapsed/Timeout" "failures" "I" (.int (0 : Int32))) (Pf8 : Fld Z h0 so "com/example/lapsed/lapsed/Timeout" "claimedAt" "J" (.long ct)) (Pf9 : Fld Z h0 so "com/example/lapsed/lapsed/Timeout" "leaseUntil" "J" (.long lu)) (Pf10 : Fld Z h0 so "com/example/lapsed/lapsed/Timeout" "retryAt" "J" (.long ra)) (Pf11 : Fld Z h0 so "com/example/lapsed/lapsed/Timeout" "deadAt" "J" (.long da)) (Pf12 : Fld Z h0 so "com/example/lapsed/lapsed/Timeout" "lastError" "Ljava/lang/String;" .null) (Pf13 : Sta Z h0 "com/example/lapsed/lapsed/State" "PENDING" "Lcom/example/lapsed/lapsed/State;" (.ref sx)) (Pf14 : Exa Z h0 po "com/example/lapsed/lapsed/RetryPolicy") (Pf15 : Fld Z h0 po "com/example/lapsed/lapsed/RetryPolicy" "delaysMs" "Ljava/util/List;" (.ref fl)) (Pf16 : Exa Z h0 fl "java/util/ImmutableCollections$List12") (Pf17 : Fld Z h0 fl "java/util/ImmutableCollections$List12" "e0" "Ljava/lang/Object;" (.ref eo)) (Pf18 : Fld Z h0 fl "java/util/ImmutableCollections$List12" "e1" "Ljava/lang/Object;" (.ref em)) (Pf19 : Exa Z h0 eo "java/lang/Long") (Pf20 : Fld Z h0 eo "java/lang/Long" "value" "J" (.long pv)) (Pf21 : Sta Z h0 "java/util/ImmutableCollections" "EMPTY" "Ljava/lang/Object;" (.ref em)) :
    MetFree l (⟨"com/example/lapsed/lapsed/Timeout", "failed", "(JLjava/lang/String;Lcom/example/lapsed/lapsed/RetryPolicy;)Lcom/example/lapsed/lapsed/Timeout;"⟩ : MethodName) (head1 (Jvm.Cond.code (⟨"com/example/lapsed/lapsed/Timeout", "failed", "(JLjava/lang/String;Lcom/example/lapsed/lapsed/RetryPolicy;)Lcom/example/lapsed/lapsed/Timeout;"⟩ : MethodName) prog_14_method_8_code 7 (some (.object "com/example/lapsed/lapsed/Timeout")) :: ws) ({ frames := 4, cells := 2, slots := 14, locals := 61 } : Room)) (fun a U => a = #[(.ref so), (.long ac), (.ref re), (.ref po)] ∧ Z.Warmed39 U.vm ∧ U.heap = h0) (fun _ _ _ _ _ => True) (fun _ U o U' => ∃ v L, o = .returned v ∧ Q_fail1 Z so ac re po qu ii du se atm ct lu ra da sx fl eo em pv h0 n0 v U'.heap L ∧ FrameEnd U o U' L ({ frames := 4, cells := 2, slots := 14, locals := 61 } : Room).cells ({ frames := 4, cells := 2, slots := 14, locals := 61 } : Room).slots) := by
  refine MetFree.of_bodySF (plainFor_of_name pn_16) hisR ?_
  intro p e s m args below meth c s₁ Bd hml0 hP hK
  obtain ⟨rfl, hZ, hh⟩ := hP
  have hx := Bd.exec
  have hby := Bd.bytes
  have hml : c.maxLocals = 7 := hml0
  have hown : s.vm.findClass "com/example/lapsed/lapsed/Timeout" = some m.cls := findClass_of_methodNamed Bd.named
  have hnm := (name_of_methodNamed Bd.named Bd.method).1
  have X0 : Stand p l e ({ frames := 4, cells := 2, slots := 14, locals := 61 } : Room) s m #[(.ref so), (.long ac), (.ref re), (.ref po)] below meth c s₁ [] 0 0 := Stand.of_body Bd
  have e0 : s₁.heap = h0 := by rw [← hh, Bd.state]; rfl
  have N0 := Fr.nil n0
  have K0 : Keep h0 h0 [] := Keep.refl h0 []
  show Go p.tables e below _ (s₁.setTop (entryFrame m #[(.ref so), (.long ac), (.ref re), (.ref po)] 7))
  refine Go.start ?_
  intro G hG
  refine Go.st (fun t k => castTop (ef_fail1 m so ac re po) k) ?_
  show Go _ _ _ _ (s₁.setTop (mkF m 0 #[.val (.ref so), .val (.long ac), .second, .val (.ref re), .val (.ref po), .unset, .unset] []))
  refine Go.st (fun _ k => XS.aload X0.here hx rfl (hb hby d45_0) rfl rfl k) ?_
  show Go _ _ _ _ (s₁.setTop (mkF m 2 #[.val (.ref so), .val (.long ac), .second, .val (.ref re), .val (.ref po), .unset, .unset] [(.ref po)]))
  refine Go.st (fun _ k => XS.aloadN X0.here hx rfl (hb hby d45_2) rfl rfl k) ?_
  show Go _ _ _ _ (s₁.setTop (mkF m 3 #[.val (.ref so), .val (.long ac), .second, .val (.ref re), .val (.ref po), .unset, .unset] [(.ref so), (.ref po)]))
  obtain ⟨T1, X1, e1, st1⟩ := getF X0 hx hZ hown (host := "") (Or.inl (ow hw 254 rfl)) Via.refl e0 Pf7 (g := (mkF m 3 #[.val (.ref so), .val (.long ac), .second, .val (.ref re), .val (.ref po), .unset, .unset] [(.ref so), (.ref po)])) rfl rfl (hb hby d45_3)
  refine Go.st st1 ?_
  show Go _ _ _ _ (T1.setTop (mkF m 6 #[.val (.ref so), .val (.long ac), .second, .val (.ref re), .val (.ref po), .unset, .unset] [(.int (0 : Int32)), (.ref po)]))
  refine Go.st (fun _ k => XS.iconst X1.here hx rfl (hb hby d45_6) k) ?_
  show Go _ _ _ _ (T1.setTop (mkF m 7 #[.val (.ref so), .val (.long ac), .second, .val (.ref re), .val (.ref po), .unset, .unset] [(.int (1 : Int32)), (.int (0 : Int32)), (.ref po)]))
  refine Go.st (fun _ k => XS.iadd X1.here hx rfl (hb hby d45_7) rfl k) ?_
  show Go _ _ _ _ (T1.setTop (mkF m 8 #[.val (.ref so), .val (.long ac), .second, .val (.ref re), .val (.ref po), .unset, .unset] [(.int ((0 : Int32) + (1 : Int32))), (.ref po)]))
  rw [show ((0 : Int32) + (1 : Int32)) = (1 : Int32) from by decide]
  show Go _ _ _ _ (T1.setTop (mkF m 8 #[.val (.ref so), .val (.long ac), .second, .val (.ref re), .val (.ref po), .unset, .unset] [(.int (1 : Int32)), (.ref po)]))
  obtain ⟨cq2, kq2, q2a, q2b, q2c⟩ := isOf hZ e1 Pf14
  obtain ⟨_, _, ⟨T2, L2, k2, n2⟩, -, X2, ⟨Lc2, hQ2, l2, y2, z2⟩, st2⟩ := X1.virtualBack hx (y := (⟨"com/example/lapsed/lapsed/RetryPolicy", "delayAfter", "(I)Ljava/util/OptionalLong;"⟩ : MethodName)) (z := (⟨"com/example/lapsed/lapsed/RetryPolicy", "delayAfter", "(I)Ljava/util/OptionalLong;"⟩ : MethodName)) hown (mvT hZ (ow hw 289 rfl)) (mvT hZ (ow hw 290 rfl)) (notFace_of_selects (args := #[]) (mvT hZ (ow hw 292 rfl))) (mvT hZ (ow hw 292 rfl)) (mvT hZ (ow hw 291 rfl)) (by decide) (backOf (W := 0) (rm_dela1 l Z a0 hw [] po (1 : Int32) fl eo em pv h0 n0 Z0 Pf14 Pf15 Pf16 Pf17 Pf18 Pf19 Pf20 Pf21 (by show (1 : Int32) = (1 : Int32); exact rfl)) hZ (ow hw 293 rfl) (ow hw 70 rfl) (by decide) (by decide)) q2a q2c (g := (mkF m 8 #[.val (.ref so), .val (.long ac), .second, .val (.ref re), .val (.ref po), .unset, .unset] [(.int (1 : Int32)), (.ref po)])) rfl (by rw [hml]; rfl) (Steps.refl _) (argsL := [(.int (1 : Int32))]) (rest := []) (lenOf pd_24 rfl) rfl (by show 2 * 0 + _ ≤ _; exact Nat.le_of_eq rfl) (hb hby d45_8) (fun _ _ => ⟨rfl, e1, (by decide : 0 + 1 ≤ _), (by decide : 0 + 2 ≤ _)⟩)
  dsimp only [Pt.U, Pt.locs, Pt.cells, Pt.slots] at X2 l2 y2 z2 st2 hQ2
  rw [l2, y2, z2] at X2
  obtain ⟨b2_fr, rfl, N2q, K2q, g2_fr, s2_fr, Fq2_0, Fq2_1, Fq2_2⟩ := hQ2
  have N2 := Fr.app N0 N2q
  refine Go.st (fun _ k => st2.trans k) ?_
  have ne3 := om_ Pf0.lt s2_fr
  have ne4 := om_ Pf14.lt s2_fr
  have ne5 := om_ Pf16.lt s2_fr
  have ne6 := om_ Pf19.lt s2_fr
  have sz7 : h0.size ≤ b2_fr := Nat.le_trans K0.1 s2_fr
  have Z8 : n0 ≤ T2.heap.size := Nat.le_trans Z0 K2q.1
  have K9 := K0.trans K2q (fun z hz => absurd hz nm_)
  have F10 := Pf0.keep K2q
  have F11 := Pf1.keep K2q nm_
  have F12 := Pf2.keep K2q nm_
  have F13 := Pf3.keep K2q nm_
  have F14 := Pf4.keep K2q nm_
  have F15 := Pf5.keep K2q nm_
  have F16 := Pf6.keep K2q nm_
  have F17 := Pf7.keep K2q nm_
  have F18 := Pf8.keep K2q nm_
  have F19 := Pf9.keep K2q nm_
  have F20 := Pf10.keep K2q nm_
  have F21 := Pf11.keep K2q nm_
  have F22 := Pf12.keep K2q nm_
  have F23 := own_stakeep Pf13 K2q
  have F24 := Pf14.keep K2q
  have F25 := Pf15.keep K2q nm_
  have F26 := Pf16.keep K2q
  have F27 := Pf17.keep K2q nm_
  have F28 := Pf18.keep K2q nm_
  have F29 := Pf19.keep K2q
  have F30 := Pf20.keep K2q nm_
  have F31 := own_stakeep Pf21 K2q
  show Go _ _ _ _ (T2.setTop (mkF m 11 #[.val (.ref so), .val (.long ac), .second, .val (.ref re), .val (.ref po), .unset, .unset] [(.ref b2_fr)]))
  refine Go.st (fun _ k => XS.astore X2.here hx rfl (hb hby d45_11) rfl rfl (l' := #[.val (.ref so), .val (.long ac), .second, .val (.ref re), .val (.ref po), .val (.ref b2_fr), .unset]) rfl k) ?_
  show Go _ _ _ _ (T2.setTop (mkF m 13 #[.val (.ref so), .val (.long ac), .second, .val (.ref re), .val (.ref po), .val (.ref b2_fr), .unset] []))
  refine Go.st (fun _ k => XS.aload X2.here hx rfl (hb hby d45_13) rfl rfl k) ?_
  show Go _ _ _ _ (T2.setTop (mkF m 15 #[.val (.ref so), .val (.long ac), .second, .val (.ref re), .val (.ref po), .val (.ref b2_fr), .unset] [(.ref b2_fr)]))
  obtain ⟨cq32, kq32, q32a, q32b, q32c⟩ := isOf hZ (rfl : T2.heap = T2.heap) Fq2_0
  obtain ⟨_, _, ⟨T32, L32, k32, n32⟩, -, X32, ⟨Lc32, hQ32, l32, y32, z32⟩, st32⟩ := X2.virtualBack hx (y := (⟨"java/util/OptionalLong", "isPresent", "()Z"⟩ : MethodName)) (z := (⟨"java/util/OptionalLong", "isPresent", "()Z"⟩ : MethodName)) hown (mvT hZ (ow hw 326 rfl)) (mvT hZ (ow hw 327 rfl)) (notFace_of_selects (args := #[]) (mvT hZ (ow hw 329 rfl))) (mvT hZ (ow hw 329 rfl)) (mvT hZ (ow hw 328 rfl)) (by decide) (backOf (W := 0) (rm_olip1 l Z a0 hw [] b2_fr T2.heap n0 Z8 Fq2_0 Fq2_1) hZ (ow hw 330 rfl) (ow hw 313 rfl) (by decide) (by decide)) q32a q32c (g := (mkF m 15 #[.val (.ref so), .val (.long ac), .second, .val (.ref re), .val (.ref po), .val (.ref b2_fr), .unset] [(.ref b2_fr)])) rfl (by rw [hml]; rfl) (Steps.refl _) (argsL := []) (rest := []) (lenOf pd_11 rfl) rfl (by show 2 * 0 + _ ≤ _; exact Nat.le_of_eq rfl) (hb hby d45_15) (fun _ _ => ⟨rfl, (rfl : T2.heap = T2.heap), (by decide : 1 + 0 ≤ _), (by decide : 2 + 0 ≤ _)⟩)
  dsimp only [Pt.U, Pt.locs, Pt.cells, Pt.slots] at X32 l32 y32 z32 st32 hQ32
  rw [l32, y32, z32] at X32
  obtain ⟨rfl, N32q, e32⟩ := hQ32
  have N32 := Fr.app N2 N32q
  refine Go.st (fun _ k => st32.trans k) ?_
  show Go _ _ _ _ (T32.setTop (mkF m 18 #[.val (.ref so), .val (.long ac), .second, .val (.ref re), .val (.ref po), .val (.ref b2_fr), .unset] [(.int (1 : Int32))]))
  have hl33 : ¬ ((1 : Int32) = (0 : Int32)) := by decide
  refine Go.st (fun _ k => XS.ifNo X32.here hx rfl (hb hby d45_18) rfl (Jvm.Free.XT.i0_eq_f hl33) k) ?_
  show Go _ _ _ _ (T32.setTop (mkF m 21 #[.val (.ref so), .val (.long ac), .second, .val (.ref re), .val (.ref po), .val (.ref b2_fr), .unset] []))
  refine Go.st (fun _ k => XS.aloadN X32.here hx rfl (hb hby d45_21) rfl rfl k) ?_
  show Go _ _ _ _ (T32.setTop (mkF m 22 #[.val (.ref so), .val (.long ac), .second, .val (.ref re), .val (.ref po), .val (.ref b2_fr), .unset] [(.ref so)]))
  obtain ⟨T34, X34, e34, st34⟩ := getS2 X32 hx hZ hown (host := "") (Or.inl (ow hw 331 rfl)) Via.refl e32 F23 (g := (mkF m 22 #[.val (.ref so), .val (.long ac), .second, .val (.ref re), .val (.ref po), .val (.ref b2_fr), .unset] [(.ref so)])) rfl (hb hby d45_22)
  refine Go.st st34 ?_
  show Go _ _ _ _ (T34.setTop (mkF m 25 #[.val (.ref so), .val (.long ac), .second, .val (.ref re), .val (.ref po), .val (.ref b2_fr), .unset] [(.ref sx), (.ref so)]))
  refine Go.st (fun _ k => XS.aloadN X34.here hx rfl (hb hby d45_25) rfl rfl k) ?_
  show Go _ _ _ _ (T34.setTop (mkF m 26 #[.val (.ref so), .val (.long ac), .second, .val (.ref re), .val (.ref po), .val (.ref b2_fr), .unset] [(.ref so), (.ref sx), (.ref so)]))
  obtain ⟨T35, X35, e35, st35⟩ := getF X34 hx hZ hown (host := "") (Or.inl (ow hw 254 rfl)) Via.refl e34 F17 (g := (mkF m 26 #[.val (.ref so), .val (.long ac), .second, .val (.ref re), .val (.ref po), .val (.ref b2_fr), .unset] [(.ref so), (.ref sx), (.ref so)])) rfl rfl (hb hby d45_26)
  refine Go.st st35 ?_
  show Go _ _ _ _ (T35.setTop (mkF m 29 #[.val (.ref so), .val (.long ac), .second, .val (.ref re), .val (.ref po), .val (.ref b2_fr), .unset] [(.int (0 : Int32)), (.ref sx), (.ref so)]))
  refine Go.st (fun _ k => XS.iconst X35.here hx rfl (hb hby d45_29) k) ?_
  show Go _ _ _ _ (T35.setTop (mkF m 30 #[.val (.ref so), .val (.long ac), .second, .val (.ref re), .val (.ref po), .val (.ref b2_fr), .unset] [(.int (1 : Int32)), (.int (0 : Int32)), (.ref sx), (.ref so)]))
  refine Go.st (fun _ k => XS.iadd X35.here hx rfl (hb hby d45_30) rfl k) ?_
  show Go _ _ _ _ (T35.setTop (mkF m 31 #[.val (.ref so), .val (.long ac), .second, .val (.ref re), .val (.ref po), .val (.ref b2_fr), .unset] [(.int ((0 : Int32) + (1 : Int32))), (.ref sx), (.ref so)]))
  rw [show ((0 : Int32) + (1 : Int32)) = (1 : Int32) from by decide]
  show Go _ _ _ _ (T35.setTop (mkF m 31 #[.val (.ref so), .val (.long ac), .second, .val (.ref re), .val (.ref po), .val (.ref b2_fr), .unset] [(.int (1 : Int32)), (.ref sx), (.ref so)]))
  refine Go.st (fun _ k => XS.lloadN X35.here hx rfl (hb hby d45_31) rfl k) ?_
  show Go _ _ _ _ (T35.setTop (mkF m 32 #[.val (.ref so), .val (.long ac), .second, .val (.ref re), .val (.ref po), .val (.ref b2_fr), .unset] [(.long ac), (.int (1 : Int32)), (.ref sx), (.ref so)]))
  refine Go.st (fun _ k => XS.aload X35.here hx rfl (hb hby d45_32) rfl rfl k) ?_
  show Go _ _ _ _ (T35.setTop (mkF m 34 #[.val (.ref so), .val (.long ac), .second, .val (.ref re), .val (.ref po), .val (.ref b2_fr), .unset] [(.ref b2_fr), (.long ac), (.int (1 : Int32)), (.ref sx), (.ref so)]))
  obtain ⟨cq36, kq36, q36a, q36b, q36c⟩ := isOf hZ e35 Fq2_0
  obtain ⟨_, _, ⟨T36, L36, k36, n36⟩, -, X36, ⟨Lc36, hQ36, l36, y36, z36⟩, st36⟩ := X35.virtualBack hx (y := (⟨"java/util/OptionalLong", "getAsLong", "()J"⟩ : MethodName)) (z := (⟨"java/util/OptionalLong", "getAsLong", "()J"⟩ : MethodName)) hown (mvT hZ (ow hw 332 rfl)) (mvT hZ (ow hw 333 rfl)) (notFace_of_selects (args := #[]) (mvT hZ (ow hw 335 rfl))) (mvT hZ (ow hw 335 rfl)) (mvT hZ (ow hw 334 rfl)) (by decide) (backOf (W := 5) (rm_olget l Z a0 hw [] b2_fr pv T2.heap n0 Z8 Fq2_0 Fq2_1 Fq2_2) hZ (ow hw 336 rfl) (ow hw 313 rfl) (by decide) (by decide)) q36a q36c (g := (mkF m 34 #[.val (.ref so), .val (.long ac), .second, .val (.ref re), .val (.ref po), .val (.ref b2_fr), .unset] [(.ref b2_fr), (.long ac), (.int (1 : Int32)), (.ref sx), (.ref so)])) rfl (by rw [hml]; rfl) (Steps.refl _) (argsL := []) (rest := [(.long ac), (.int (1 : Int32)), (.ref sx), (.ref so)]) (lenOf pd_17 rfl) rfl (by show 2 * 0 + _ ≤ _; exact Nat.le_of_eq rfl) (hb hby d45_34) (fun _ _ => ⟨rfl, e35, (by decide : 1 + 0 ≤ _), (by decide : 2 + 0 ≤ _)⟩)
  dsimp only [Pt.U, Pt.locs, Pt.cells, Pt.slots] at X36 l36 y36 z36 st36 hQ36
  rw [l36, y36, z36] at X36
  obtain ⟨rfl, N36q, e36⟩ := hQ36
  have N36 := Fr.app N32 N36q
  refine Go.st (fun _ k => st36.trans k) ?_
  show Go _ _ _ _ (T36.setTop (mkF m 37 #[.val (.ref so), .val (.long ac), .second, .val (.ref re), .val (.ref po), .val (.ref b2_fr), .unset] [(.long pv), (.long ac), (.int (1 : Int32)), (.ref sx), (.ref so)]))
  refine Go.st (fun _ k => XS.ladd X36.here hx rfl (hb hby d45_37) rfl k) ?_
  show Go _ _ _ _ (T36.setTop (mkF m 38 #[.val (.ref so), .val (.long ac), .second, .val (.ref re), .val (.ref po), .val (.ref b2_fr), .unset] [(.long (ac + pv)), (.int (1 : Int32)), (.ref sx), (.ref so)]))
  refine Go.st (fun _ k => XS.lconst X36.here hx rfl (hb hby d45_38) k) ?_
  show Go _ _ _ _ (T36.setTop (mkF m 39 #[.val (.ref so), .val (.long ac), .second, .val (.ref re), .val (.ref po), .val (.ref b2_fr), .unset] [(.long (0 : Int64)), (.long (ac + pv)), (.int (1 : Int32)), (.ref sx), (.ref so)]))
  refine Go.st (fun _ k => XS.aloadN X36.here hx rfl (hb hby d45_39) rfl rfl k) ?_
  show Go _ _ _ _ (T36.setTop (mkF m 40 #[.val (.ref so), .val (.long ac), .second, .val (.ref re), .val (.ref po), .val (.ref b2_fr), .unset] [(.ref re), (.long (0 : Int64)), (.long (ac + pv)), (.int (1 : Int32)), (.ref sx), (.ref so)]))
  obtain ⟨cq37, q37, q37'⟩ := F10.cell
  obtain ⟨_, _, ⟨T37, L37, k37, n37⟩, -, X37, ⟨Lc37, hQ37, l37, y37, z37⟩, st37⟩ := X36.privateBack hx (y := (⟨"com/example/lapsed/lapsed/Timeout", "inRound", "(Lcom/example/lapsed/lapsed/State;IJJLjava/lang/String;)Lcom/example/lapsed/lapsed/Timeout;"⟩ : MethodName)) hown (mvT hZ (ow hw 337 rfl)) (mvT hZ (ow hw 338 rfl)) (mvT hZ (own_selp (y := (⟨"com/example/lapsed/lapsed/Timeout", "inRound", "(Lcom/example/lapsed/lapsed/State;IJJLjava/lang/String;)Lcom/example/lapsed/lapsed/Timeout;"⟩ : MethodName)) (ow hw 224 rfl) (ow hw 339 rfl) (ow hw 338 rfl) (by decide))) (Cond.privateMethod_at (mvP hZ (ow hw 339 rfl) (args := #[]))) (mvT hZ (ow hw 340 rfl)) (by decide) (backOf (W := 0) (rm_inr0 l Z a0 hw [] so sx (1 : Int32) (ac + pv) (0 : Int64) re qu ii du se atm (0 : Int32) ct lu ra da T2.heap n0 Z8 F10 F11 F12 F13 F14 F15 F16 F17 F18 F19 F20 F21 F22) hZ (ow hw 340 rfl) (ow hw 225 rfl) (by decide) (by decide)) (g := (mkF m 40 #[.val (.ref so), .val (.long ac), .second, .val (.ref re), .val (.ref po), .val (.ref b2_fr), .unset] [(.ref re), (.long (0 : Int64)), (.long (ac + pv)), (.int (1 : Int32)), (.ref sx), (.ref so)])) rfl (by rw [hml]; rfl) (Steps.refl _) (a := so) (by rw [e36]; exact q37) q37' (argsL := [(.ref sx), (.int (1 : Int32)), (.long (ac + pv)), (.long (0 : Int64)), (.ref re)]) (rest := []) (lenOf pd_25 rfl) rfl (by show 2 * 0 + _ ≤ _; exact Nat.le_of_eq rfl) (hb hby d45_40) (fun _ _ => ⟨rfl, e36, (by decide : 1 + 1 ≤ _), (by decide : 2 + 12 ≤ _)⟩)
  dsimp only [Pt.U, Pt.locs, Pt.cells, Pt.slots] at X37 l37 y37 z37 st37 hQ37
  rw [l37, y37, z37] at X37
  obtain ⟨b37_fr, rfl, N37q, K37q, g37_fr, s37_fr, Fq37_0, Fq37_1, Fq37_2, Fq37_3, Fq37_4, Fq37_5, Fq37_6, Fq37_7, Fq37_8, Fq37_9, Fq37_10, Fq37_11, Fq37_12⟩ := hQ37
  have N37 := Fr.app N36 N37q
  refine Go.st (fun _ k => st37.trans k) ?_
  have ne38 := om_ F10.lt s37_fr
  have ne39 := om_ F24.lt s37_fr
  have ne40 := om_ F26.lt s37_fr
  have ne41 := om_ F29.lt s37_fr
  have ne42 := om_ Fq2_0.lt s37_fr
  have sz43 : h0.size ≤ b37_fr := Nat.le_trans K9.1 s37_fr
  have Z44 : n0 ≤ T37.heap.size := Nat.le_trans Z8 K37q.1
  have K45 := K9.trans K37q (fun z hz => absurd hz nm_)
  have F46 := F10.keep K37q
  have F47 := F11.keep K37q nm_
  have F48 := F12.keep K37q nm_
  have F49 := F13.keep K37q nm_
  have F50 := F14.keep K37q nm_
  have F51 := F15.keep K37q nm_
  have F52 := F16.keep K37q nm_
  have F53 := F17.keep K37q nm_
  have F54 := F18.keep K37q nm_
  have F55 := F19.keep K37q nm_
  have F56 := F20.keep K37q nm_
  have F57 := F21.keep K37q nm_
  have F58 := F22.keep K37q nm_
  have F59 := own_stakeep F23 K37q
  have F60 := F24.keep K37q
  have F61 := F25.keep K37q nm_
  have F62 := F26.keep K37q
  have F63 := F27.keep K37q nm_
  have F64 := F28.keep K37q nm_
  have F65 := F29.keep K37q
  have F66 := F30.keep K37q nm_
  have F67 := own_stakeep F31 K37q
  have F68 := Fq2_0.keep K37q
  have F69 := Fq2_1.keep K37q nm_
  have F70 := Fq2_2.keep K37q nm_
  show Go _ _ _ _ (T37.setTop (mkF m 43 #[.val (.ref so), .val (.long ac), .second, .val (.ref re), .val (.ref po), .val (.ref b2_fr), .unset] [(.ref b37_fr)]))
  refine Go.st (fun _ k => XS.astore X37.here hx rfl (hb hby d45_43) rfl rfl (l' := #[.val (.ref so), .val (.long ac), .second, .val (.ref re), .val (.ref po), .val (.ref b2_fr), .val (.ref b37_fr)]) rfl k) ?_
  show Go _ _ _ _ (T37.setTop (mkF m 45 #[.val (.ref so), .val (.long ac), .second, .val (.ref re), .val (.ref po), .val (.ref b2_fr), .val (.ref b37_fr)] []))
  refine Go.st (fun _ k => XS.goto X37.here hx rfl (pc0 := 45) (pc' := 66) rfl (hb hby d45_45) (by decide) (by decide) k) ?_
  show Go _ _ _ _ (T37.setTop (mkF m 66 #[.val (.ref so), .val (.long ac), .second, .val (.ref re), .val (.ref po), .val (.ref b2_fr), .val (.ref b37_fr)] []))
  refine Go.st (fun _ k => XS.aload X37.here hx rfl (hb hby d45_66) rfl rfl k) ?_
  show Go _ _ _ _ (T37.setTop (mkF m 68 #[.val (.ref so), .val (.long ac), .second, .val (.ref re), .val (.ref po), .val (.ref b2_fr), .val (.ref b37_fr)] [(.ref b37_fr)]))
  subst hG
  obtain ⟨fs, hr, hrun, hended, hW, hsame⟩ := X37.leave (v := some (.ref b37_fr)) (fun h => by rw [Bd.returns] at h; cases h)
  refine ⟨_, _, ?_, hrun, hended, _, _, rfl, ?_, ⟨_, rfl⟩, hW, hsame.mono (by decide) (by decide)⟩
  · exact retOut X37 hx Bd.returns rfl (Or.inr (Or.inr (Or.inr (Or.inr ⟨rfl, rfl, rfl⟩)))) (hb hby d45_68) hr
  · show Q_fail1 Z so ac re po qu ii du se atm ct lu ra da sx fl eo em pv h0 n0 _ T37.heap _
    exact ⟨b37_fr, rfl, N37, K45, g37_fr, sz43, Fq37_0, Fq37_1, Fq37_2, Fq37_3, Fq37_4, Fq37_5, Fq37_6, Fq37_7, Fq37_8, Fq37_9, Fq37_10, Fq37_11, Fq37_12⟩
theorem d45_48 : decode prog_14_method_8_code 48 = .ok (.aload_n 0, 1) := by decide +kernel
theorem d45_49 : decode prog_14_method_8_code 49 = .ok (.getstatic 83, 3) := by decide +kernel
theorem d45_52 : decode prog_14_method_8_code 52 = .ok (.aload_n 0, 1) := by decide +kernel
theorem d45_53 : decode prog_14_method_8_code 53 = .ok (.getfield 31, 3) := by decide +kernel
theorem d45_56 : decode prog_14_method_8_code 56 = .ok (.iconst 1, 1) := by decide +kernel
theorem d45_57 : decode prog_14_method_8_code 57 = .ok (.iadd, 1) := by decide +kernel
theorem d45_58 : decode prog_14_method_8_code 58 = .ok (.lconst 0, 1) := by decide +kernel
theorem d45_59 : decode prog_14_method_8_code 59 = .ok (.lload_n 1, 1) := by decide +kernel
theorem d45_60 : decode prog_14_method_8_code 60 = .ok (.aload_n 3, 1) := by decide +kernel
theorem d45_61 : decode prog_14_method_8_code 61 = .ok (.invokevirtual 79, 3) := by decide +kernel
theorem d45_64 : decode prog_14_method_8_code 64 = .ok (.astore 6, 2) := by decide +kernel
theorem ef_fail0 (m : MethodId) (so : Addr) (ac : Int64) (re : Addr) (po : Addr) : entryFrame m #[(.ref so), (.long ac), (.ref re), (.ref po)] 7 = mkF m 0 #[.val (.ref so), .val (.long ac), .second, .val (.ref re), .val (.ref po), .unset, .unset] [] := by first | (simp [entryFrame, mkF, argsToLocals, Value.category]; done) | rfl
def Q_fail0 (Z : State) (so : Addr) (ac : Int64) (re : Addr) (po : Addr) (qu : Addr) (ii : Addr) (du : Int64) (se : Addr) (atm : Int32) (ct : Int64) (lu : Int64) (ra : Int64) (da : Int64) (sx : Addr) (el : Addr) (le : Addr) (kl : ClassId) (oe : Addr) (h0 : Heap) (n0 : Nat) (v : Option Value) (h : Heap) (L : List Loc) : Prop := ∃ fr : Addr, v = some (.ref fr) ∧ Fr n0 L ∧ Keep h0 h [] ∧ n0 ≤ fr ∧ h0.size ≤ fr ∧ Exa Z h fr "com/example/lapsed/lapsed/Timeout" ∧ Fld Z h fr "com/example/lapsed/lapsed/Timeout" "queue" "Ljava/lang/String;" (.ref qu) ∧ Fld Z h fr "com/example/lapsed/lapsed/Timeout" "id" "Ljava/lang/String;" (.ref ii) ∧ Fld Z h fr "com/example/lapsed/lapsed/Timeout" "dueAt" "J" (.long du) ∧ Fld Z h fr "com/example/lapsed/lapsed/Timeout" "payload" "Ljava/lang/String;" .null ∧ Fld Z h fr "com/example/lapsed/lapsed/Timeout" "state" "Lcom/example/lapsed/lapsed/State;" (.ref sx) ∧ Fld Z h fr "com/example/lapsed/lapsed/Timeout" "attempt" "I" (.int atm) ∧ Fld Z h fr "com/example/lapsed/lapsed/Timeout" "failures" "I" (.int (1 : Int32)) ∧ Fld Z h fr "com/example/lapsed/lapsed/Timeout" "claimedAt" "J" (.long (0 : Int64)) ∧ Fld Z h fr "com/example/lapsed/lapsed/Timeout" "leaseUntil" "J" (.long (0 : Int64)) ∧ Fld Z h fr "com/example/lapsed/lapsed/Timeout" "retryAt" "J" (.long (0 : Int64)) ∧ Fld Z h fr "com/example/lapsed/lapsed/Timeout" "deadAt" "J" (.long ac) ∧ Fld Z h fr "com/example/lapsed/lapsed/Timeout" "lastError" "Ljava/lang/String;" (.ref re)
set_option maxRecDepth 65536 in
set_option maxHeartbeats 40000000 in
theorem rm_fail0 (l : Launch) (Z : State) (a0 : Array Value) (hw : ∀ d ∈ tables_1, d.before a0 Z = true) (ws : List Jvm.Cond) (so : Addr) (ac : Int64) (re : Addr) (po : Addr) (qu : Addr) (ii : Addr) (du : Int64) (se : Addr) (atm : Int32) (ct : Int64) (lu : Int64) (ra : Int64) (da : Int64) (sx : Addr) (el : Addr) (le : Addr) (kl : ClassId) (oe : Addr) (h0 : Heap) (n0 : Nat) (Z0 : n0 ≤ h0.size) (Pf0 : Exa Z h0 so "com/example/lapsed/lapsed/Timeout") (Pf1 : Fld Z h0 so "com/example/lapsed/lapsed/Timeout" "queue" "Ljava/lang/String;" (.ref qu)) (Pf2 : Fld Z h0 so "com/example/lapsed/lapsed/Timeout" "id" "Ljava/lang/String;" (.ref ii)) (Pf3 : Fld Z h0 so "com/example/lapsed/lapsed/Timeout" "dueAt" "J" (.long du)) (Pf4 : Fld Z h0 so "com/example/lapsed/lapsed/Timeout" "payload" "Ljava/lang/String;" .null) (Pf5 : Fld Z h0 so "com/example/lapsed/lapsed/Timeout" "state" "Lcom/example/lapsed/lapsed/State;" (.ref se)) (Pf6 : Fld Z h0 so "com/example/lapsed/lapsed/Timeout" "attempt" "I" (.int atm)) (Pf7 : Fld Z h0 so "com/example/lapsed/lapsed/Timeout" "failures" "I" (.int (0 : Int32))) (Pf8 : Fld Z h0 so "com/example/lapsed/lapsed/Timeout" "claimedAt" "J" (.long ct)) (Pf9 : Fld Z h0 so "com/example/lapsed/lapsed/Timeout" "leaseUntil" "J" (.long lu)) (Pf10 : Fld Z h0 so "com/example/lapsed/lapsed/Timeout" "retryAt" "J" (.long ra)) (Pf11 : Fld Z h0 so "com/example/lapsed/lapsed/Timeout" "deadAt" "J" (.long da)) (Pf12 : Fld Z h0 so "com/example/lapsed/lapsed/Timeout" "lastError" "Ljava/lang/String;" .null) (Pf13 : Sta Z h0 "com/example/lapsed/lapsed/State" "DEAD" "Lcom/example/lapsed/lapsed/State;" (.ref sx)) (Pf14 : Exa Z h0 po "com/example/lapsed/lapsed/RetryPolicy") (Pf15 : Fld Z h0 po "com/example/lapsed/lapsed/RetryPolicy" "delaysMs" "Ljava/util/List;" (.ref el)) (Pf16 : Exa Z h0 el "java/util/ImmutableCollections$ListN") (Pf17 : Fld Z h0 el "java/util/ImmutableCollections$ListN" "elements" "[Ljava/lang/Object;" (.ref le)) (Pf18 : Arv Z h0 le kl (.object "java/lang/Object") (0 : Int32) [] .null) (Pf19 : Exa Z h0 le "[Ljava/lang/Object;") (Pf20 : Sta Z h0 "java/util/OptionalLong" "EMPTY" "Ljava/util/OptionalLong;" (.ref oe)) (Pf21 : Exa Z h0 oe "java/util/OptionalLong") (Pf22 : Fld Z h0 oe "java/util/OptionalLong" "isPresent" "Z" (.int (0 : Int32))) :
    MetFree l (⟨"com/example/lapsed/lapsed/Timeout", "failed", "(JLjava/lang/String;Lcom/example/lapsed/lapsed/RetryPolicy;)Lcom/example/lapsed/lapsed/Timeout;"⟩ : MethodName) (head1 (Jvm.Cond.code (⟨"com/example/lapsed/lapsed/Timeout", "failed", "(JLjava/lang/String;Lcom/example/lapsed/lapsed/RetryPolicy;)Lcom/example/lapsed/lapsed/Timeout;"⟩ : MethodName) prog_14_method_8_code 7 (some (.object "com/example/lapsed/lapsed/Timeout")) :: ws) ({ frames := 3, cells := 1, slots := 12, locals := 61 } : Room)) (fun a U => a = #[(.ref so), (.long ac), (.ref re), (.ref po)] ∧ Z.Warmed39 U.vm ∧ U.heap = h0) (fun _ _ _ _ _ => True) (fun _ U o U' => ∃ v L, o = .returned v ∧ Q_fail0 Z so ac re po qu ii du se atm ct lu ra da sx el le kl oe h0 n0 v U'.heap L ∧ FrameEnd U o U' L ({ frames := 3, cells := 1, slots := 12, locals := 61 } : Room).cells ({ frames := 3, cells := 1, slots := 12, locals := 61 } : Room).slots) := by
  refine MetFree.of_bodySF (plainFor_of_name pn_16) hisR ?_
  intro p e s m args below meth c s₁ Bd hml0 hP hK
  obtain ⟨rfl, hZ, hh⟩ := hP
  have hx := Bd.exec
  have hby := Bd.bytes
  have hml : c.maxLocals = 7 := hml0
  have hown : s.vm.findClass "com/example/lapsed/lapsed/Timeout" = some m.cls := findClass_of_methodNamed Bd.named
  have hnm := (name_of_methodNamed Bd.named Bd.method).1
  have X0 : Stand p l e ({ frames := 3, cells := 1, slots := 12, locals := 61 } : Room) s m #[(.ref so), (.long ac), (.ref re), (.ref po)] below meth c s₁ [] 0 0 := Stand.of_body Bd
  have e0 : s₁.heap = h0 := by rw [← hh, Bd.state]; rfl
  have N0 := Fr.nil n0
  have K0 : Keep h0 h0 [] := Keep.refl h0 []
  show Go p.tables e below _ (s₁.setTop (entryFrame m #[(.ref so), (.long ac), (.ref re), (.ref po)] 7))
  refine Go.start ?_
  intro G hG
  refine Go.st (fun t k => castTop (ef_fail0 m so ac re po) k) ?_
  show Go _ _ _ _ (s₁.setTop (mkF m 0 #[.val (.ref so), .val (.long ac), .second, .val (.ref re), .val (.ref po), .unset, .unset] []))
  refine Go.st (fun _ k => XS.aload X0.here hx rfl (hb hby d45_0) rfl rfl k) ?_
  show Go _ _ _ _ (s₁.setTop (mkF m 2 #[.val (.ref so), .val (.long ac), .second, .val (.ref re), .val (.ref po), .unset, .unset] [(.ref po)]))
  refine Go.st (fun _ k => XS.aloadN X0.here hx rfl (hb hby d45_2) rfl rfl k) ?_
  show Go _ _ _ _ (s₁.setTop (mkF m 3 #[.val (.ref so), .val (.long ac), .second, .val (.ref re), .val (.ref po), .unset, .unset] [(.ref so), (.ref po)]))
  obtain ⟨T1, X1, e1, st1⟩ := getF X0 hx hZ hown (host := "") (Or.inl (ow hw 254 rfl)) Via.refl e0 Pf7 (g := (mkF m 3 #[.val (.ref so), .val (.long ac), .second, .val (.ref re), .val (.ref po), .unset, .unset] [(.ref so), (.ref po)])) rfl rfl (hb hby d45_3)
  refine Go.st st1 ?_
  show Go _ _ _ _ (T1.setTop (mkF m 6 #[.val (.ref so), .val (.long ac), .second, .val (.ref re), .val (.ref po), .unset, .unset] [(.int (0 : Int32)), (.ref po)]))
  refine Go.st (fun _ k => XS.iconst X1.here hx rfl (hb hby d45_6) k) ?_
  show Go _ _ _ _ (T1.setTop (mkF m 7 #[.val (.ref so), .val (.long ac), .second, .val (.ref re), .val (.ref po), .unset, .unset] [(.int (1 : Int32)), (.int (0 : Int32)), (.ref po)]))
  refine Go.st (fun _ k => XS.iadd X1.here hx rfl (hb hby d45_7) rfl k) ?_
  show Go _ _ _ _ (T1.setTop (mkF m 8 #[.val (.ref so), .val (.long ac), .second, .val (.ref re), .val (.ref po), .unset, .unset] [(.int ((0 : Int32) + (1 : Int32))), (.ref po)]))
  rw [show ((0 : Int32) + (1 : Int32)) = (1 : Int32) from by decide]
  show Go _ _ _ _ (T1.setTop (mkF m 8 #[.val (.ref so), .val (.long ac), .second, .val (.ref re), .val (.ref po), .unset, .unset] [(.int (1 : Int32)), (.ref po)]))
  obtain ⟨cq2, kq2, q2a, q2b, q2c⟩ := isOf hZ e1 Pf14
  obtain ⟨_, _, ⟨T2, L2, k2, n2⟩, -, X2, ⟨Lc2, hQ2, l2, y2, z2⟩, st2⟩ := X1.virtualBack hx (y := (⟨"com/example/lapsed/lapsed/RetryPolicy", "delayAfter", "(I)Ljava/util/OptionalLong;"⟩ : MethodName)) (z := (⟨"com/example/lapsed/lapsed/RetryPolicy", "delayAfter", "(I)Ljava/util/OptionalLong;"⟩ : MethodName)) hown (mvT hZ (ow hw 289 rfl)) (mvT hZ (ow hw 290 rfl)) (notFace_of_selects (args := #[]) (mvT hZ (ow hw 292 rfl))) (mvT hZ (ow hw 292 rfl)) (mvT hZ (ow hw 291 rfl)) (by decide) (backOf (W := 0) (rm_dela0 l Z a0 hw [] po (1 : Int32) el le kl oe h0 n0 Z0 Pf14 Pf15 Pf16 Pf17 Pf18 Pf19 Pf20 (by show (1 : Int32) = (1 : Int32); exact rfl)) hZ (ow hw 293 rfl) (ow hw 70 rfl) (by decide) (by decide)) q2a q2c (g := (mkF m 8 #[.val (.ref so), .val (.long ac), .second, .val (.ref re), .val (.ref po), .unset, .unset] [(.int (1 : Int32)), (.ref po)])) rfl (by rw [hml]; rfl) (Steps.refl _) (argsL := [(.int (1 : Int32))]) (rest := []) (lenOf pd_24 rfl) rfl (by show 2 * 0 + _ ≤ _; exact Nat.le_of_eq rfl) (hb hby d45_8) (fun _ _ => ⟨rfl, e1, (by decide : 0 + 0 ≤ _), (by decide : 0 + 0 ≤ _)⟩)
  dsimp only [Pt.U, Pt.locs, Pt.cells, Pt.slots] at X2 l2 y2 z2 st2 hQ2
  rw [l2, y2, z2] at X2
  obtain ⟨rfl, N2q, e2⟩ := hQ2
  have N2 := Fr.app N0 N2q
  refine Go.st (fun _ k => st2.trans k) ?_
  show Go _ _ _ _ (T2.setTop (mkF m 11 #[.val (.ref so), .val (.long ac), .second, .val (.ref re), .val (.ref po), .unset, .unset] [(.ref oe)]))
  refine Go.st (fun _ k => XS.astore X2.here hx rfl (hb hby d45_11) rfl rfl (l' := #[.val (.ref so), .val (.long ac), .second, .val (.ref re), .val (.ref po), .val (.ref oe), .unset]) rfl k) ?_
  show Go _ _ _ _ (T2.setTop (mkF m 13 #[.val (.ref so), .val (.long ac), .second, .val (.ref re), .val (.ref po), .val (.ref oe), .unset] []))
  refine Go.st (fun _ k => XS.aload X2.here hx rfl (hb hby d45_13) rfl rfl k) ?_
  show Go _ _ _ _ (T2.setTop (mkF m 15 #[.val (.ref so), .val (.long ac), .second, .val (.ref re), .val (.ref po), .val (.ref oe), .unset] [(.ref oe)]))
  obtain ⟨cq3, kq3, q3a, q3b, q3c⟩ := isOf hZ e2 Pf21
  obtain ⟨_, _, ⟨T3, L3, k3, n3⟩, -, X3, ⟨Lc3, hQ3, l3, y3, z3⟩, st3⟩ := X2.virtualBack hx (y := (⟨"java/util/OptionalLong", "isPresent", "()Z"⟩ : MethodName)) (z := (⟨"java/util/OptionalLong", "isPresent", "()Z"⟩ : MethodName)) hown (mvT hZ (ow hw 326 rfl)) (mvT hZ (ow hw 327 rfl)) (notFace_of_selects (args := #[]) (mvT hZ (ow hw 329 rfl))) (mvT hZ (ow hw 329 rfl)) (mvT hZ (ow hw 328 rfl)) (by decide) (backOf (W := 0) (rm_olip0 l Z a0 hw [] oe h0 n0 Z0 Pf21 Pf22) hZ (ow hw 330 rfl) (ow hw 313 rfl) (by decide) (by decide)) q3a q3c (g := (mkF m 15 #[.val (.ref so), .val (.long ac), .second, .val (.ref re), .val (.ref po), .val (.ref oe), .unset] [(.ref oe)])) rfl (by rw [hml]; rfl) (Steps.refl _) (argsL := []) (rest := []) (lenOf pd_11 rfl) rfl (by show 2 * 0 + _ ≤ _; exact Nat.le_of_eq rfl) (hb hby d45_15) (fun _ _ => ⟨rfl, e2, (by decide : 0 + 0 ≤ _), (by decide : 0 + 0 ≤ _)⟩)
  dsimp only [Pt.U, Pt.locs, Pt.cells, Pt.slots] at X3 l3 y3 z3 st3 hQ3
  rw [l3, y3, z3] at X3
  obtain ⟨rfl, N3q, e3⟩ := hQ3
  have N3 := Fr.app N2 N3q
  refine Go.st (fun _ k => st3.trans k) ?_
  show Go _ _ _ _ (T3.setTop (mkF m 18 #[.val (.ref so), .val (.long ac), .second, .val (.ref re), .val (.ref po), .val (.ref oe), .unset] [(.int (0 : Int32))]))
  have hl4 : (0 : Int32) = (0 : Int32) := by decide
  refine Go.st (fun _ k => XS.ifYes X3.here hx rfl (pc0 := 18) (pc' := 48) rfl (hb hby d45_18) rfl (Jvm.Free.XT.i0_eq_t hl4) (by decide) (by decide) k) ?_
  show Go _ _ _ _ (T3.setTop (mkF m 48 #[.val (.ref so), .val (.long ac), .second, .val (.ref re), .val (.ref po), .val (.ref oe), .unset] []))
  refine Go.st (fun _ k => XS.aloadN X3.here hx rfl (hb hby d45_48) rfl rfl k) ?_
  show Go _ _ _ _ (T3.setTop (mkF m 49 #[.val (.ref so), .val (.long ac), .second, .val (.ref re), .val (.ref po), .val (.ref oe), .unset] [(.ref so)]))
  obtain ⟨T5, X5, e5, st5⟩ := getS2 X3 hx hZ hown (host := "") (Or.inl (ow hw 380 rfl)) Via.refl e3 Pf13 (g := (mkF m 49 #[.val (.ref so), .val (.long ac), .second, .val (.ref re), .val (.ref po), .val (.ref oe), .unset] [(.ref so)])) rfl (hb hby d45_49)
  refine Go.st st5 ?_
  show Go _ _ _ _ (T5.setTop (mkF m 52 #[.val (.ref so), .val (.long ac), .second, .val (.ref re), .val (.ref po), .val (.ref oe), .unset] [(.ref sx), (.ref so)]))
  refine Go.st (fun _ k => XS.aloadN X5.here hx rfl (hb hby d45_52) rfl rfl k) ?_
  show Go _ _ _ _ (T5.setTop (mkF m 53 #[.val (.ref so), .val (.long ac), .second, .val (.ref re), .val (.ref po), .val (.ref oe), .unset] [(.ref so), (.ref sx), (.ref so)]))
  obtain ⟨T6, X6, e6, st6⟩ := getF X5 hx hZ hown (host := "") (Or.inl (ow hw 254 rfl)) Via.refl e5 Pf7 (g := (mkF m 53 #[.val (.ref so), .val (.long ac), .second, .val (.ref re), .val (.ref po), .val (.ref oe), .unset] [(.ref so), (.ref sx), (.ref so)])) rfl rfl (hb hby d45_53)
  refine Go.st st6 ?_
  show Go _ _ _ _ (T6.setTop (mkF m 56 #[.val (.ref so), .val (.long ac), .second, .val (.ref re), .val (.ref po), .val (.ref oe), .unset] [(.int (0 : Int32)), (.ref sx), (.ref so)]))
  refine Go.st (fun _ k => XS.iconst X6.here hx rfl (hb hby d45_56) k) ?_
  show Go _ _ _ _ (T6.setTop (mkF m 57 #[.val (.ref so), .val (.long ac), .second, .val (.ref re), .val (.ref po), .val (.ref oe), .unset] [(.int (1 : Int32)), (.int (0 : Int32)), (.ref sx), (.ref so)]))
  refine Go.st (fun _ k => XS.iadd X6.here hx rfl (hb hby d45_57) rfl k) ?_
  show Go _ _ _ _ (T6.setTop (mkF m 58 #[.val (.ref so), .val (.long ac), .second, .val (.ref re), .val (.ref po), .val (.ref oe), .unset] [(.int ((0 : Int32) + (1 : Int32))), (.ref sx), (.ref so)]))
  rw [show ((0 : Int32) + (1 : Int32)) = (1 : Int32) from by decide]
  show Go _ _ _ _ (T6.setTop (mkF m 58 #[.val (.ref so), .val (.long ac), .second, .val (.ref re), .val (.ref po), .val (.ref oe), .unset] [(.int (1 : Int32)), (.ref sx), (.ref so)]))
  refine Go.st (fun _ k => XS.lconst X6.here hx rfl (hb hby d45_58) k) ?_
  show Go _ _ _ _ (T6.setTop (mkF m 59 #[.val (.ref so), .val (.long ac), .second, .val (.ref re), .val (.ref po), .val (.ref oe), .unset] [(.long (0 : Int64)), (.int (1 : Int32)), (.ref sx), (.ref so)]))
  refine Go.st (fun _ k => XS.lloadN X6.here hx rfl (hb hby d45_59) rfl k) ?_
  show Go _ _ _ _ (T6.setTop (mkF m 60 #[.val (.ref so), .val (.long ac), .second, .val (.ref re), .val (.ref po), .val (.ref oe), .unset] [(.long ac), (.long (0 : Int64)), (.int (1 : Int32)), (.ref sx), (.ref so)]))
  refine Go.st (fun _ k => XS.aloadN X6.here hx rfl (hb hby d45_60) rfl rfl k) ?_
  show Go _ _ _ _ (T6.setTop (mkF m 61 #[.val (.ref so), .val (.long ac), .second, .val (.ref re), .val (.ref po), .val (.ref oe), .unset] [(.ref re), (.long ac), (.long (0 : Int64)), (.int (1 : Int32)), (.ref sx), (.ref so)]))
  obtain ⟨cq7, q7, q7'⟩ := Pf0.cell
  obtain ⟨_, _, ⟨T7, L7, k7, n7⟩, -, X7, ⟨Lc7, hQ7, l7, y7, z7⟩, st7⟩ := X6.privateBack hx (y := (⟨"com/example/lapsed/lapsed/Timeout", "inRound", "(Lcom/example/lapsed/lapsed/State;IJJLjava/lang/String;)Lcom/example/lapsed/lapsed/Timeout;"⟩ : MethodName)) hown (mvT hZ (ow hw 337 rfl)) (mvT hZ (ow hw 338 rfl)) (mvT hZ (own_selp (y := (⟨"com/example/lapsed/lapsed/Timeout", "inRound", "(Lcom/example/lapsed/lapsed/State;IJJLjava/lang/String;)Lcom/example/lapsed/lapsed/Timeout;"⟩ : MethodName)) (ow hw 224 rfl) (ow hw 339 rfl) (ow hw 338 rfl) (by decide))) (Cond.privateMethod_at (mvP hZ (ow hw 339 rfl) (args := #[]))) (mvT hZ (ow hw 340 rfl)) (by decide) (backOf (W := 0) (rm_inr0 l Z a0 hw [] so sx (1 : Int32) (0 : Int64) ac re qu ii du se atm (0 : Int32) ct lu ra da h0 n0 Z0 Pf0 Pf1 Pf2 Pf3 Pf4 Pf5 Pf6 Pf7 Pf8 Pf9 Pf10 Pf11 Pf12) hZ (ow hw 340 rfl) (ow hw 225 rfl) (by decide) (by decide)) (g := (mkF m 61 #[.val (.ref so), .val (.long ac), .second, .val (.ref re), .val (.ref po), .val (.ref oe), .unset] [(.ref re), (.long ac), (.long (0 : Int64)), (.int (1 : Int32)), (.ref sx), (.ref so)])) rfl (by rw [hml]; rfl) (Steps.refl _) (a := so) (by rw [e6]; exact q7) q7' (argsL := [(.ref sx), (.int (1 : Int32)), (.long (0 : Int64)), (.long ac), (.ref re)]) (rest := []) (lenOf pd_25 rfl) rfl (by show 2 * 0 + _ ≤ _; exact Nat.le_of_eq rfl) (hb hby d45_61) (fun _ _ => ⟨rfl, e6, (by decide : 0 + 1 ≤ _), (by decide : 0 + 12 ≤ _)⟩)
  dsimp only [Pt.U, Pt.locs, Pt.cells, Pt.slots] at X7 l7 y7 z7 st7 hQ7
  rw [l7, y7, z7] at X7
  obtain ⟨b7_fr, rfl, N7q, K7q, g7_fr, s7_fr, Fq7_0, Fq7_1, Fq7_2, Fq7_3, Fq7_4, Fq7_5, Fq7_6, Fq7_7, Fq7_8, Fq7_9, Fq7_10, Fq7_11, Fq7_12⟩ := hQ7
  have N7 := Fr.app N3 N7q
  refine Go.st (fun _ k => st7.trans k) ?_
  have ne8 := om_ Pf0.lt s7_fr
  have ne9 := om_ Pf14.lt s7_fr
  have ne10 := om_ Pf16.lt s7_fr
  have ne11 := om_ Pf18.lt s7_fr
  have ne12 := om_ Pf21.lt s7_fr
  have sz13 : h0.size ≤ b7_fr := Nat.le_trans K0.1 s7_fr
  have Z14 : n0 ≤ T7.heap.size := Nat.le_trans Z0 K7q.1
  have K15 := K0.trans K7q (fun z hz => absurd hz nm_)
  have F16 := Pf0.keep K7q
  have F17 := Pf1.keep K7q nm_
  have F18 := Pf2.keep K7q nm_
  have F19 := Pf3.keep K7q nm_
  have F20 := Pf4.keep K7q nm_
  have F21 := Pf5.keep K7q nm_
  have F22 := Pf6.keep K7q nm_
  have F23 := Pf7.keep K7q nm_
  have F24 := Pf8.keep K7q nm_
  have F25 := Pf9.keep K7q nm_
  have F26 := Pf10.keep K7q nm_
  have F27 := Pf11.keep K7q nm_
  have F28 := Pf12.keep K7q nm_
  have F29 := own_stakeep Pf13 K7q
  have F30 := Pf14.keep K7q
  have F31 := Pf15.keep K7q nm_
  have F32 := Pf16.keep K7q
  have F33 := Pf17.keep K7q nm_
  have F34 := Pf18.keep K7q nm_
  have F35 := Pf19.keep K7q
  have F36 := own_stakeep Pf20 K7q
  have F37 := Pf21.keep K7q
  have F38 := Pf22.keep K7q nm_
  show Go _ _ _ _ (T7.setTop (mkF m 64 #[.val (.ref so), .val (.long ac), .second, .val (.ref re), .val (.ref po), .val (.ref oe), .unset] [(.ref b7_fr)]))
  refine Go.st (fun _ k => XS.astore X7.here hx rfl (hb hby d45_64) rfl rfl (l' := #[.val (.ref so), .val (.long ac), .second, .val (.ref re), .val (.ref po), .val (.ref oe), .val (.ref b7_fr)]) rfl k) ?_
  show Go _ _ _ _ (T7.setTop (mkF m 66 #[.val (.ref so), .val (.long ac), .second, .val (.ref re), .val (.ref po), .val (.ref oe), .val (.ref b7_fr)] []))
  refine Go.st (fun _ k => XS.aload X7.here hx rfl (hb hby d45_66) rfl rfl k) ?_
  show Go _ _ _ _ (T7.setTop (mkF m 68 #[.val (.ref so), .val (.long ac), .second, .val (.ref re), .val (.ref po), .val (.ref oe), .val (.ref b7_fr)] [(.ref b7_fr)]))
  subst hG
  obtain ⟨fs, hr, hrun, hended, hW, hsame⟩ := X7.leave (v := some (.ref b7_fr)) (fun h => by rw [Bd.returns] at h; cases h)
  refine ⟨_, _, ?_, hrun, hended, _, _, rfl, ?_, ⟨_, rfl⟩, hW, hsame.mono (by decide) (by decide)⟩
  · exact retOut X7 hx Bd.returns rfl (Or.inr (Or.inr (Or.inr (Or.inr ⟨rfl, rfl, rfl⟩)))) (hb hby d45_68) hr
  · show Q_fail0 Z so ac re po qu ii du se atm ct lu ra da sx el le kl oe h0 n0 _ T7.heap _
    exact ⟨b7_fr, rfl, N7, K15, g7_fr, sz13, Fq7_0, Fq7_1, Fq7_2, Fq7_3, Fq7_4, Fq7_5, Fq7_6, Fq7_7, Fq7_8, Fq7_9, Fq7_10, Fq7_11, Fq7_12⟩
theorem d46_0 : decode prog_14_method_9_code 0 = .ok (.aload_n 0, 1) := by decide +kernel
theorem d46_1 : decode prog_14_method_9_code 1 = .ok (.getstatic 52, 3) := by decide +kernel
theorem d46_4 : decode prog_14_method_9_code 4 = .ok (.iconst 0, 1) := by decide +kernel
theorem d46_5 : decode prog_14_method_9_code 5 = .ok (.lload_n 1, 1) := by decide +kernel
theorem d46_6 : decode prog_14_method_9_code 6 = .ok (.lconst 0, 1) := by decide +kernel
theorem d46_7 : decode prog_14_method_9_code 7 = .ok (.aload_n 0, 1) := by decide +kernel
theorem d46_8 : decode prog_14_method_9_code 8 = .ok (.getfield 46, 3) := by decide +kernel
theorem d46_11 : decode prog_14_method_9_code 11 = .ok (.invokevirtual 79, 3) := by decide +kernel
theorem d46_14 : decode prog_14_method_9_code 14 = .ok (.areturn, 1) := by decide +kernel
theorem ef_retr (m : MethodId) (so : Addr) (ac : Int64) : entryFrame m #[(.ref so), (.long ac)] 3 = mkF m 0 #[.val (.ref so), .val (.long ac), .second] [] := by first | (simp [entryFrame, mkF, argsToLocals, Value.category]; done) | rfl
def Q_retr (Z : State) (so : Addr) (ac : Int64) (qu : Addr) (ii : Addr) (du : Int64) (se : Addr) (atm : Int32) (fa : Int32) (ct : Int64) (lu : Int64) (ra : Int64) (da : Int64) (le : Addr) (sx : Addr) (h0 : Heap) (n0 : Nat) (v : Option Value) (h : Heap) (L : List Loc) : Prop := ∃ fr : Addr, v = some (.ref fr) ∧ Fr n0 L ∧ Keep h0 h [] ∧ n0 ≤ fr ∧ h0.size ≤ fr ∧ Exa Z h fr "com/example/lapsed/lapsed/Timeout" ∧ Fld Z h fr "com/example/lapsed/lapsed/Timeout" "queue" "Ljava/lang/String;" (.ref qu) ∧ Fld Z h fr "com/example/lapsed/lapsed/Timeout" "id" "Ljava/lang/String;" (.ref ii) ∧ Fld Z h fr "com/example/lapsed/lapsed/Timeout" "dueAt" "J" (.long du) ∧ Fld Z h fr "com/example/lapsed/lapsed/Timeout" "payload" "Ljava/lang/String;" .null ∧ Fld Z h fr "com/example/lapsed/lapsed/Timeout" "state" "Lcom/example/lapsed/lapsed/State;" (.ref sx) ∧ Fld Z h fr "com/example/lapsed/lapsed/Timeout" "attempt" "I" (.int atm) ∧ Fld Z h fr "com/example/lapsed/lapsed/Timeout" "failures" "I" (.int (0 : Int32)) ∧ Fld Z h fr "com/example/lapsed/lapsed/Timeout" "claimedAt" "J" (.long (0 : Int64)) ∧ Fld Z h fr "com/example/lapsed/lapsed/Timeout" "leaseUntil" "J" (.long (0 : Int64)) ∧ Fld Z h fr "com/example/lapsed/lapsed/Timeout" "retryAt" "J" (.long ac) ∧ Fld Z h fr "com/example/lapsed/lapsed/Timeout" "deadAt" "J" (.long (0 : Int64)) ∧ Fld Z h fr "com/example/lapsed/lapsed/Timeout" "lastError" "Ljava/lang/String;" (.ref le)
set_option maxRecDepth 65536 in
set_option maxHeartbeats 40000000 in
theorem rm_retr (l : Launch) (Z : State) (a0 : Array Value) (hw : ∀ d ∈ tables_1, d.before a0 Z = true) (ws : List Jvm.Cond) (so : Addr) (ac : Int64) (qu : Addr) (ii : Addr) (du : Int64) (se : Addr) (atm : Int32) (fa : Int32) (ct : Int64) (lu : Int64) (ra : Int64) (da : Int64) (le : Addr) (sx : Addr) (h0 : Heap) (n0 : Nat) (Z0 : n0 ≤ h0.size) (Pf0 : Exa Z h0 so "com/example/lapsed/lapsed/Timeout") (Pf1 : Fld Z h0 so "com/example/lapsed/lapsed/Timeout" "queue" "Ljava/lang/String;" (.ref qu)) (Pf2 : Fld Z h0 so "com/example/lapsed/lapsed/Timeout" "id" "Ljava/lang/String;" (.ref ii)) (Pf3 : Fld Z h0 so "com/example/lapsed/lapsed/Timeout" "dueAt" "J" (.long du)) (Pf4 : Fld Z h0 so "com/example/lapsed/lapsed/Timeout" "payload" "Ljava/lang/String;" .null) (Pf5 : Fld Z h0 so "com/example/lapsed/lapsed/Timeout" "state" "Lcom/example/lapsed/lapsed/State;" (.ref se)) (Pf6 : Fld Z h0 so "com/example/lapsed/lapsed/Timeout" "attempt" "I" (.int atm)) (Pf7 : Fld Z h0 so "com/example/lapsed/lapsed/Timeout" "failures" "I" (.int fa)) (Pf8 : Fld Z h0 so "com/example/lapsed/lapsed/Timeout" "claimedAt" "J" (.long ct)) (Pf9 : Fld Z h0 so "com/example/lapsed/lapsed/Timeout" "leaseUntil" "J" (.long lu)) (Pf10 : Fld Z h0 so "com/example/lapsed/lapsed/Timeout" "retryAt" "J" (.long ra)) (Pf11 : Fld Z h0 so "com/example/lapsed/lapsed/Timeout" "deadAt" "J" (.long da)) (Pf12 : Fld Z h0 so "com/example/lapsed/lapsed/Timeout" "lastError" "Ljava/lang/String;" (.ref le)) (Pf13 : Sta Z h0 "com/example/lapsed/lapsed/State" "PENDING" "Lcom/example/lapsed/lapsed/State;" (.ref sx)) :
    MetFree l (⟨"com/example/lapsed/lapsed/Timeout", "retried", "(J)Lcom/example/lapsed/lapsed/Timeout;"⟩ : MethodName) (head1 (Jvm.Cond.code (⟨"com/example/lapsed/lapsed/Timeout", "retried", "(J)Lcom/example/lapsed/lapsed/Timeout;"⟩ : MethodName) prog_14_method_9_code 3 (some (.object "com/example/lapsed/lapsed/Timeout")) :: ws) ({ frames := 3, cells := 1, slots := 12, locals := 61 } : Room)) (fun a U => a = #[(.ref so), (.long ac)] ∧ Z.Warmed39 U.vm ∧ U.heap = h0) (fun _ _ _ _ _ => True) (fun _ U o U' => ∃ v L, o = .returned v ∧ Q_retr Z so ac qu ii du se atm fa ct lu ra da le sx h0 n0 v U'.heap L ∧ FrameEnd U o U' L ({ frames := 3, cells := 1, slots := 12, locals := 61 } : Room).cells ({ frames := 3, cells := 1, slots := 12, locals := 61 } : Room).slots) := by
  refine MetFree.of_bodySF (plainFor_of_name pn_16) hisR ?_
  intro p e s m args below meth c s₁ Bd hml0 hP hK
  obtain ⟨rfl, hZ, hh⟩ := hP
  have hx := Bd.exec
  have hby := Bd.bytes
  have hml : c.maxLocals = 3 := hml0
  have hown : s.vm.findClass "com/example/lapsed/lapsed/Timeout" = some m.cls := findClass_of_methodNamed Bd.named
  have hnm := (name_of_methodNamed Bd.named Bd.method).1
  have X0 : Stand p l e ({ frames := 3, cells := 1, slots := 12, locals := 61 } : Room) s m #[(.ref so), (.long ac)] below meth c s₁ [] 0 0 := Stand.of_body Bd
  have e0 : s₁.heap = h0 := by rw [← hh, Bd.state]; rfl
  have N0 := Fr.nil n0
  have K0 : Keep h0 h0 [] := Keep.refl h0 []
  show Go p.tables e below _ (s₁.setTop (entryFrame m #[(.ref so), (.long ac)] 3))
  refine Go.start ?_
  intro G hG
  refine Go.st (fun t k => castTop (ef_retr m so ac) k) ?_
  show Go _ _ _ _ (s₁.setTop (mkF m 0 #[.val (.ref so), .val (.long ac), .second] []))
  refine Go.st (fun _ k => XS.aloadN X0.here hx rfl (hb hby d46_0) rfl rfl k) ?_
  show Go _ _ _ _ (s₁.setTop (mkF m 1 #[.val (.ref so), .val (.long ac), .second] [(.ref so)]))
  obtain ⟨T1, X1, e1, st1⟩ := getS2 X0 hx hZ hown (host := "") (Or.inl (ow hw 331 rfl)) Via.refl e0 Pf13 (g := (mkF m 1 #[.val (.ref so), .val (.long ac), .second] [(.ref so)])) rfl (hb hby d46_1)
  refine Go.st st1 ?_
  show Go _ _ _ _ (T1.setTop (mkF m 4 #[.val (.ref so), .val (.long ac), .second] [(.ref sx), (.ref so)]))
  refine Go.st (fun _ k => XS.iconst X1.here hx rfl (hb hby d46_4) k) ?_
  show Go _ _ _ _ (T1.setTop (mkF m 5 #[.val (.ref so), .val (.long ac), .second] [(.int (0 : Int32)), (.ref sx), (.ref so)]))
  refine Go.st (fun _ k => XS.lloadN X1.here hx rfl (hb hby d46_5) rfl k) ?_
  show Go _ _ _ _ (T1.setTop (mkF m 6 #[.val (.ref so), .val (.long ac), .second] [(.long ac), (.int (0 : Int32)), (.ref sx), (.ref so)]))
  refine Go.st (fun _ k => XS.lconst X1.here hx rfl (hb hby d46_6) k) ?_
  show Go _ _ _ _ (T1.setTop (mkF m 7 #[.val (.ref so), .val (.long ac), .second] [(.long (0 : Int64)), (.long ac), (.int (0 : Int32)), (.ref sx), (.ref so)]))
  refine Go.st (fun _ k => XS.aloadN X1.here hx rfl (hb hby d46_7) rfl rfl k) ?_
  show Go _ _ _ _ (T1.setTop (mkF m 8 #[.val (.ref so), .val (.long ac), .second] [(.ref so), (.long (0 : Int64)), (.long ac), (.int (0 : Int32)), (.ref sx), (.ref so)]))
  obtain ⟨T2, X2, e2, st2⟩ := getF X1 hx hZ hown (host := "") (Or.inl (ow hw 264 rfl)) Via.refl e1 Pf12 (g := (mkF m 8 #[.val (.ref so), .val (.long ac), .second] [(.ref so), (.long (0 : Int64)), (.long ac), (.int (0 : Int32)), (.ref sx), (.ref so)])) rfl rfl (hb hby d46_8)
  refine Go.st st2 ?_
  show Go _ _ _ _ (T2.setTop (mkF m 11 #[.val (.ref so), .val (.long ac), .second] [(.ref le), (.long (0 : Int64)), (.long ac), (.int (0 : Int32)), (.ref sx), (.ref so)]))
  obtain ⟨cq3, q3, q3'⟩ := Pf0.cell
  obtain ⟨_, _, ⟨T3, L3, k3, n3⟩, -, X3, ⟨Lc3, hQ3, l3, y3, z3⟩, st3⟩ := X2.privateBack hx (y := (⟨"com/example/lapsed/lapsed/Timeout", "inRound", "(Lcom/example/lapsed/lapsed/State;IJJLjava/lang/String;)Lcom/example/lapsed/lapsed/Timeout;"⟩ : MethodName)) hown (mvT hZ (ow hw 337 rfl)) (mvT hZ (ow hw 338 rfl)) (mvT hZ (own_selp (y := (⟨"com/example/lapsed/lapsed/Timeout", "inRound", "(Lcom/example/lapsed/lapsed/State;IJJLjava/lang/String;)Lcom/example/lapsed/lapsed/Timeout;"⟩ : MethodName)) (ow hw 224 rfl) (ow hw 339 rfl) (ow hw 338 rfl) (by decide))) (Cond.privateMethod_at (mvP hZ (ow hw 339 rfl) (args := #[]))) (mvT hZ (ow hw 340 rfl)) (by decide) (backOf (W := 0) (rm_inr1 l Z a0 hw [] so sx (0 : Int32) ac (0 : Int64) le qu ii du se atm fa ct lu ra da le h0 n0 Z0 Pf0 Pf1 Pf2 Pf3 Pf4 Pf5 Pf6 Pf7 Pf8 Pf9 Pf10 Pf11 Pf12) hZ (ow hw 340 rfl) (ow hw 225 rfl) (by decide) (by decide)) (g := (mkF m 11 #[.val (.ref so), .val (.long ac), .second] [(.ref le), (.long (0 : Int64)), (.long ac), (.int (0 : Int32)), (.ref sx), (.ref so)])) rfl (by rw [hml]; rfl) (Steps.refl _) (a := so) (by rw [e2]; exact q3) q3' (argsL := [(.ref sx), (.int (0 : Int32)), (.long ac), (.long (0 : Int64)), (.ref le)]) (rest := []) (lenOf pd_25 rfl) rfl (by show 2 * 0 + _ ≤ _; exact Nat.le_of_eq rfl) (hb hby d46_11) (fun _ _ => ⟨rfl, e2, (by decide : 0 + 1 ≤ _), (by decide : 0 + 12 ≤ _)⟩)
  dsimp only [Pt.U, Pt.locs, Pt.cells, Pt.slots] at X3 l3 y3 z3 st3 hQ3
  rw [l3, y3, z3] at X3
  obtain ⟨b3_fr, rfl, N3q, K3q, g3_fr, s3_fr, Fq3_0, Fq3_1, Fq3_2, Fq3_3, Fq3_4, Fq3_5, Fq3_6, Fq3_7, Fq3_8, Fq3_9, Fq3_10, Fq3_11, Fq3_12⟩ := hQ3
  have N3 := Fr.app N0 N3q
  refine Go.st (fun _ k => st3.trans k) ?_
  have ne4 := om_ Pf0.lt s3_fr
  have sz5 : h0.size ≤ b3_fr := Nat.le_trans K0.1 s3_fr
  have Z6 : n0 ≤ T3.heap.size := Nat.le_trans Z0 K3q.1
  have K7 := K0.trans K3q (fun z hz => absurd hz nm_)
  have F8 := Pf0.keep K3q
  have F9 := Pf1.keep K3q nm_
  have F10 := Pf2.keep K3q nm_
  have F11 := Pf3.keep K3q nm_
  have F12 := Pf4.keep K3q nm_
  have F13 := Pf5.keep K3q nm_
  have F14 := Pf6.keep K3q nm_
  have F15 := Pf7.keep K3q nm_
  have F16 := Pf8.keep K3q nm_
  have F17 := Pf9.keep K3q nm_
  have F18 := Pf10.keep K3q nm_
  have F19 := Pf11.keep K3q nm_
  have F20 := Pf12.keep K3q nm_
  have F21 := own_stakeep Pf13 K3q
  show Go _ _ _ _ (T3.setTop (mkF m 14 #[.val (.ref so), .val (.long ac), .second] [(.ref b3_fr)]))
  subst hG
  obtain ⟨fs, hr, hrun, hended, hW, hsame⟩ := X3.leave (v := some (.ref b3_fr)) (fun h => by rw [Bd.returns] at h; cases h)
  refine ⟨_, _, ?_, hrun, hended, _, _, rfl, ?_, ⟨_, rfl⟩, hW, hsame.mono (by decide) (by decide)⟩
  · exact retOut X3 hx Bd.returns rfl (Or.inr (Or.inr (Or.inr (Or.inr ⟨rfl, rfl, rfl⟩)))) (hb hby d46_14) hr
  · show Q_retr Z so ac qu ii du se atm fa ct lu ra da le sx h0 n0 _ T3.heap _
    exact ⟨b3_fr, rfl, N3, K7, g3_fr, sz5, Fq3_0, Fq3_1, Fq3_2, Fq3_3, Fq3_4, Fq3_5, Fq3_6, Fq3_7, Fq3_8, Fq3_9, Fq3_10, Fq3_11, Fq3_12⟩
theorem d47_0 : decode prog_14_method_4_code 0 = .ok (.new 8, 3) := by decide +kernel
theorem d47_3 : decode prog_14_method_4_code 3 = .ok (.dup, 1) := by decide +kernel
theorem d47_4 : decode prog_14_method_4_code 4 = .ok (.aload_n 0, 1) := by decide +kernel
theorem d47_5 : decode prog_14_method_4_code 5 = .ok (.getfield 7, 3) := by decide +kernel
theorem d47_8 : decode prog_14_method_4_code 8 = .ok (.aload_n 0, 1) := by decide +kernel
theorem d47_9 : decode prog_14_method_4_code 9 = .ok (.getfield 13, 3) := by decide +kernel
theorem d47_12 : decode prog_14_method_4_code 12 = .ok (.lload_n 1, 1) := by decide +kernel
theorem d47_13 : decode prog_14_method_4_code 13 = .ok (.aload_n 3, 1) := by decide +kernel
theorem d47_14 : decode prog_14_method_4_code 14 = .ok (.getstatic 52, 3) := by decide +kernel
theorem d47_17 : decode prog_14_method_4_code 17 = .ok (.aload_n 0, 1) := by decide +kernel
theorem d47_18 : decode prog_14_method_4_code 18 = .ok (.getfield 27, 3) := by decide +kernel
theorem d47_21 : decode prog_14_method_4_code 21 = .ok (.aload_n 0, 1) := by decide +kernel
theorem d47_22 : decode prog_14_method_4_code 22 = .ok (.getfield 31, 3) := by decide +kernel
theorem d47_25 : decode prog_14_method_4_code 25 = .ok (.lconst 0, 1) := by decide +kernel
theorem d47_26 : decode prog_14_method_4_code 26 = .ok (.lconst 0, 1) := by decide +kernel
theorem d47_27 : decode prog_14_method_4_code 27 = .ok (.lconst 0, 1) := by decide +kernel
theorem d47_28 : decode prog_14_method_4_code 28 = .ok (.lconst 0, 1) := by decide +kernel
theorem d47_29 : decode prog_14_method_4_code 29 = .ok (.aload_n 0, 1) := by decide +kernel
theorem d47_30 : decode prog_14_method_4_code 30 = .ok (.getfield 46, 3) := by decide +kernel
theorem d47_33 : decode prog_14_method_4_code 33 = .ok (.invokespecial 49, 3) := by decide +kernel
theorem d47_36 : decode prog_14_method_4_code 36 = .ok (.areturn, 1) := by decide +kernel
theorem ef_resc (m : MethodId) (so : Addr) (nd : Int64) : entryFrame m #[(.ref so), (.long nd), .null] 4 = mkF m 0 #[.val (.ref so), .val (.long nd), .second, .val .null] [] := by first | (simp [entryFrame, mkF, argsToLocals, Value.category]; done) | rfl
def Q_resc (Z : State) (so : Addr) (nd : Int64) (qu : Addr) (ii : Addr) (du : Int64) (se : Addr) (atm : Int32) (fa : Int32) (ct : Int64) (lu : Int64) (ra : Int64) (da : Int64) (le : Addr) (sx : Addr) (h0 : Heap) (n0 : Nat) (v : Option Value) (h : Heap) (L : List Loc) : Prop := ∃ fr : Addr, v = some (.ref fr) ∧ Fr n0 L ∧ Keep h0 h [] ∧ n0 ≤ fr ∧ h0.size ≤ fr ∧ Exa Z h fr "com/example/lapsed/lapsed/Timeout" ∧ Fld Z h fr "com/example/lapsed/lapsed/Timeout" "queue" "Ljava/lang/String;" (.ref qu) ∧ Fld Z h fr "com/example/lapsed/lapsed/Timeout" "id" "Ljava/lang/String;" (.ref ii) ∧ Fld Z h fr "com/example/lapsed/lapsed/Timeout" "dueAt" "J" (.long nd) ∧ Fld Z h fr "com/example/lapsed/lapsed/Timeout" "payload" "Ljava/lang/String;" .null ∧ Fld Z h fr "com/example/lapsed/lapsed/Timeout" "state" "Lcom/example/lapsed/lapsed/State;" (.ref sx) ∧ Fld Z h fr "com/example/lapsed/lapsed/Timeout" "attempt" "I" (.int atm) ∧ Fld Z h fr "com/example/lapsed/lapsed/Timeout" "failures" "I" (.int fa) ∧ Fld Z h fr "com/example/lapsed/lapsed/Timeout" "claimedAt" "J" (.long (0 : Int64)) ∧ Fld Z h fr "com/example/lapsed/lapsed/Timeout" "leaseUntil" "J" (.long (0 : Int64)) ∧ Fld Z h fr "com/example/lapsed/lapsed/Timeout" "retryAt" "J" (.long (0 : Int64)) ∧ Fld Z h fr "com/example/lapsed/lapsed/Timeout" "deadAt" "J" (.long (0 : Int64)) ∧ Fld Z h fr "com/example/lapsed/lapsed/Timeout" "lastError" "Ljava/lang/String;" (.ref le)
set_option maxRecDepth 65536 in
set_option maxHeartbeats 40000000 in
theorem rm_resc (l : Launch) (Z : State) (a0 : Array Value) (hw : ∀ d ∈ tables_1, d.before a0 Z = true) (ws : List Jvm.Cond) (so : Addr) (nd : Int64) (qu : Addr) (ii : Addr) (du : Int64) (se : Addr) (atm : Int32) (fa : Int32) (ct : Int64) (lu : Int64) (ra : Int64) (da : Int64) (le : Addr) (sx : Addr) (h0 : Heap) (n0 : Nat) (Z0 : n0 ≤ h0.size) (Pf0 : Exa Z h0 so "com/example/lapsed/lapsed/Timeout") (Pf1 : Fld Z h0 so "com/example/lapsed/lapsed/Timeout" "queue" "Ljava/lang/String;" (.ref qu)) (Pf2 : Fld Z h0 so "com/example/lapsed/lapsed/Timeout" "id" "Ljava/lang/String;" (.ref ii)) (Pf3 : Fld Z h0 so "com/example/lapsed/lapsed/Timeout" "dueAt" "J" (.long du)) (Pf4 : Fld Z h0 so "com/example/lapsed/lapsed/Timeout" "payload" "Ljava/lang/String;" .null) (Pf5 : Fld Z h0 so "com/example/lapsed/lapsed/Timeout" "state" "Lcom/example/lapsed/lapsed/State;" (.ref se)) (Pf6 : Fld Z h0 so "com/example/lapsed/lapsed/Timeout" "attempt" "I" (.int atm)) (Pf7 : Fld Z h0 so "com/example/lapsed/lapsed/Timeout" "failures" "I" (.int fa)) (Pf8 : Fld Z h0 so "com/example/lapsed/lapsed/Timeout" "claimedAt" "J" (.long ct)) (Pf9 : Fld Z h0 so "com/example/lapsed/lapsed/Timeout" "leaseUntil" "J" (.long lu)) (Pf10 : Fld Z h0 so "com/example/lapsed/lapsed/Timeout" "retryAt" "J" (.long ra)) (Pf11 : Fld Z h0 so "com/example/lapsed/lapsed/Timeout" "deadAt" "J" (.long da)) (Pf12 : Fld Z h0 so "com/example/lapsed/lapsed/Timeout" "lastError" "Ljava/lang/String;" (.ref le)) (Pf13 : Sta Z h0 "com/example/lapsed/lapsed/State" "PENDING" "Lcom/example/lapsed/lapsed/State;" (.ref sx)) :
    MetFree l (⟨"com/example/lapsed/lapsed/Timeout", "rescheduled", "(JLjava/lang/String;)Lcom/example/lapsed/lapsed/Timeout;"⟩ : MethodName) (head1 (Jvm.Cond.code (⟨"com/example/lapsed/lapsed/Timeout", "rescheduled", "(JLjava/lang/String;)Lcom/example/lapsed/lapsed/Timeout;"⟩ : MethodName) prog_14_method_4_code 4 (some (.object "com/example/lapsed/lapsed/Timeout")) :: ws) ({ frames := 2, cells := 1, slots := 12, locals := 42 } : Room)) (fun a U => a = #[(.ref so), (.long nd), .null] ∧ Z.Warmed39 U.vm ∧ U.heap = h0) (fun _ _ _ _ _ => True) (fun _ U o U' => ∃ v L, o = .returned v ∧ Q_resc Z so nd qu ii du se atm fa ct lu ra da le sx h0 n0 v U'.heap L ∧ FrameEnd U o U' L ({ frames := 2, cells := 1, slots := 12, locals := 42 } : Room).cells ({ frames := 2, cells := 1, slots := 12, locals := 42 } : Room).slots) := by
  refine MetFree.of_bodySF (plainFor_of_name pn_16) hisR ?_
  intro p e s m args below meth c s₁ Bd hml0 hP hK
  obtain ⟨rfl, hZ, hh⟩ := hP
  have hx := Bd.exec
  have hby := Bd.bytes
  have hml : c.maxLocals = 4 := hml0
  have hown : s.vm.findClass "com/example/lapsed/lapsed/Timeout" = some m.cls := findClass_of_methodNamed Bd.named
  have hnm := (name_of_methodNamed Bd.named Bd.method).1
  have X0 : Stand p l e ({ frames := 2, cells := 1, slots := 12, locals := 42 } : Room) s m #[(.ref so), (.long nd), .null] below meth c s₁ [] 0 0 := Stand.of_body Bd
  have e0 : s₁.heap = h0 := by rw [← hh, Bd.state]; rfl
  have N0 := Fr.nil n0
  have K0 : Keep h0 h0 [] := Keep.refl h0 []
  show Go p.tables e below _ (s₁.setTop (entryFrame m #[(.ref so), (.long nd), .null] 4))
  refine Go.start ?_
  intro G hG
  refine Go.st (fun t k => castTop (ef_resc m so nd) k) ?_
  show Go _ _ _ _ (s₁.setTop (mkF m 0 #[.val (.ref so), .val (.long nd), .second, .val .null] []))
  obtain ⟨T1, h1, X1, e1, E1, A1, D1, -, st1⟩ := newO X0 hx hZ hown (ow hw 276 rfl) (ow hw 224 rfl) (ow hw 225 rfl) e0 (g := (mkF m 0 #[.val (.ref so), .val (.long nd), .second, .val .null] [])) rfl (hb hby d47_0) (by decide) (by decide)
  obtain ⟨b1, g1⟩ : ∃ z, z = h0.size := ⟨_, rfl⟩
  rw [← g1] at A1 D1 st1
  refine Go.st st1 ?_
  have ne2 := on_ Pf0.lt g1
  have ge3 : n0 ≤ b1 := Nat.le_trans Z0 (Nat.le_of_eq g1.symm)
  have sz4 : h0.size ≤ b1 := Nat.le_trans K0.1 (Nat.le_of_eq g1.symm)
  have Z5 : n0 ≤ h1.size := Nat.le_trans Z0 E1.1
  have K6 := K0.ext E1
  have F7 := Pf0.ext E1
  have F8 := Pf1.ext E1
  have F9 := Pf2.ext E1
  have F10 := Pf3.ext E1
  have F11 := Pf4.ext E1
  have F12 := Pf5.ext E1
  have F13 := Pf6.ext E1
  have F14 := Pf7.ext E1
  have F15 := Pf8.ext E1
  have F16 := Pf9.ext E1
  have F17 := Pf10.ext E1
  have F18 := Pf11.ext E1
  have F19 := Pf12.ext E1
  have F20 := Pf13.ext E1
  have F21 : Fld Z h1 b1 "com/example/lapsed/lapsed/Timeout" "queue" "Ljava/lang/String;" .null := D1 (Or.inr (ow hw 243 rfl)) (ty := (.object "java/lang/String")) (by decide)
  have F22 : Fld Z h1 b1 "com/example/lapsed/lapsed/Timeout" "id" "Ljava/lang/String;" .null := D1 (Or.inr (ow hw 245 rfl)) (ty := (.object "java/lang/String")) (by decide)
  have F23 : Fld Z h1 b1 "com/example/lapsed/lapsed/Timeout" "dueAt" "J" (.long (0 : Int64)) := D1 (Or.inr (ow hw 247 rfl)) (ty := .long) (by decide)
  have F24 : Fld Z h1 b1 "com/example/lapsed/lapsed/Timeout" "payload" "Ljava/lang/String;" .null := D1 (Or.inr (ow hw 249 rfl)) (ty := (.object "java/lang/String")) (by decide)
  have F25 : Fld Z h1 b1 "com/example/lapsed/lapsed/Timeout" "state" "Lcom/example/lapsed/lapsed/State;" .null := D1 (Or.inr (ow hw 251 rfl)) (ty := (.object "com/example/lapsed/lapsed/State")) (by decide)
  have F26 : Fld Z h1 b1 "com/example/lapsed/lapsed/Timeout" "attempt" "I" (.int (0 : Int32)) := D1 (Or.inr (ow hw 253 rfl)) (ty := .int) (by decide)
  have F27 : Fld Z h1 b1 "com/example/lapsed/lapsed/Timeout" "failures" "I" (.int (0 : Int32)) := D1 (Or.inr (ow hw 255 rfl)) (ty := .int) (by decide)
  have F28 : Fld Z h1 b1 "com/example/lapsed/lapsed/Timeout" "claimedAt" "J" (.long (0 : Int64)) := D1 (Or.inr (ow hw 257 rfl)) (ty := .long) (by decide)
  have F29 : Fld Z h1 b1 "com/example/lapsed/lapsed/Timeout" "leaseUntil" "J" (.long (0 : Int64)) := D1 (Or.inr (ow hw 259 rfl)) (ty := .long) (by decide)
  have F30 : Fld Z h1 b1 "com/example/lapsed/lapsed/Timeout" "retryAt" "J" (.long (0 : Int64)) := D1 (Or.inr (ow hw 261 rfl)) (ty := .long) (by decide)
  have F31 : Fld Z h1 b1 "com/example/lapsed/lapsed/Timeout" "deadAt" "J" (.long (0 : Int64)) := D1 (Or.inr (ow hw 263 rfl)) (ty := .long) (by decide)
  have F32 : Fld Z h1 b1 "com/example/lapsed/lapsed/Timeout" "lastError" "Ljava/lang/String;" .null := D1 (Or.inr (ow hw 265 rfl)) (ty := (.object "java/lang/String")) (by decide)
  show Go _ _ _ _ (T1.setTop (mkF m 3 #[.val (.ref so), .val (.long nd), .second, .val .null] [(.ref b1)]))
  refine Go.st (fun _ k => XS.dup X1.here hx rfl (hb hby d47_3) rfl rfl k) ?_
  show Go _ _ _ _ (T1.setTop (mkF m 4 #[.val (.ref so), .val (.long nd), .second, .val .null] [(.ref b1), (.ref b1)]))
  refine Go.st (fun _ k => XS.aloadN X1.here hx rfl (hb hby d47_4) rfl rfl k) ?_
  show Go _ _ _ _ (T1.setTop (mkF m 5 #[.val (.ref so), .val (.long nd), .second, .val .null] [(.ref so), (.ref b1), (.ref b1)]))
  obtain ⟨T33, X33, e33, st33⟩ := getF X1 hx hZ hown (host := "") (Or.inl (ow hw 242 rfl)) Via.refl e1 F8 (g := (mkF m 5 #[.val (.ref so), .val (.long nd), .second, .val .null] [(.ref so), (.ref b1), (.ref b1)])) rfl rfl (hb hby d47_5)
  refine Go.st st33 ?_
  show Go _ _ _ _ (T33.setTop (mkF m 8 #[.val (.ref so), .val (.long nd), .second, .val .null] [(.ref qu), (.ref b1), (.ref b1)]))
  refine Go.st (fun _ k => XS.aloadN X33.here hx rfl (hb hby d47_8) rfl rfl k) ?_
  show Go _ _ _ _ (T33.setTop (mkF m 9 #[.val (.ref so), .val (.long nd), .second, .val .null] [(.ref so), (.ref qu), (.ref b1), (.ref b1)]))
  obtain ⟨T34, X34, e34, st34⟩ := getF X33 hx hZ hown (host := "") (Or.inl (ow hw 244 rfl)) Via.refl e33 F9 (g := (mkF m 9 #[.val (.ref so), .val (.long nd), .second, .val .null] [(.ref so), (.ref qu), (.ref b1), (.ref b1)])) rfl rfl (hb hby d47_9)
  refine Go.st st34 ?_
  show Go _ _ _ _ (T34.setTop (mkF m 12 #[.val (.ref so), .val (.long nd), .second, .val .null] [(.ref ii), (.ref qu), (.ref b1), (.ref b1)]))
  refine Go.st (fun _ k => XS.lloadN X34.here hx rfl (hb hby d47_12) rfl k) ?_
  show Go _ _ _ _ (T34.setTop (mkF m 13 #[.val (.ref so), .val (.long nd), .second, .val .null] [(.long nd), (.ref ii), (.ref qu), (.ref b1), (.ref b1)]))
  refine Go.st (fun _ k => XS.aloadN X34.here hx rfl (hb hby d47_13) rfl rfl k) ?_
  show Go _ _ _ _ (T34.setTop (mkF m 14 #[.val (.ref so), .val (.long nd), .second, .val .null] [.null, (.long nd), (.ref ii), (.ref qu), (.ref b1), (.ref b1)]))
  obtain ⟨T35, X35, e35, st35⟩ := getS2 X34 hx hZ hown (host := "") (Or.inl (ow hw 331 rfl)) Via.refl e34 F20 (g := (mkF m 14 #[.val (.ref so), .val (.long nd), .second, .val .null] [.null, (.long nd), (.ref ii), (.ref qu), (.ref b1), (.ref b1)])) rfl (hb hby d47_14)
  refine Go.st st35 ?_
  show Go _ _ _ _ (T35.setTop (mkF m 17 #[.val (.ref so), .val (.long nd), .second, .val .null] [(.ref sx), .null, (.long nd), (.ref ii), (.ref qu), (.ref b1), (.ref b1)]))
  refine Go.st (fun _ k => XS.aloadN X35.here hx rfl (hb hby d47_17) rfl rfl k) ?_
  show Go _ _ _ _ (T35.setTop (mkF m 18 #[.val (.ref so), .val (.long nd), .second, .val .null] [(.ref so), (.ref sx), .null, (.long nd), (.ref ii), (.ref qu), (.ref b1), (.ref b1)]))
  obtain ⟨T36, X36, e36, st36⟩ := getF X35 hx hZ hown (host := "") (Or.inl (ow hw 252 rfl)) Via.refl e35 F13 (g := (mkF m 18 #[.val (.ref so), .val (.long nd), .second, .val .null] [(.ref so), (.ref sx), .null, (.long nd), (.ref ii), (.ref qu), (.ref b1), (.ref b1)])) rfl rfl (hb hby d47_18)
  refine Go.st st36 ?_
  show Go _ _ _ _ (T36.setTop (mkF m 21 #[.val (.ref so), .val (.long nd), .second, .val .null] [(.int atm), (.ref sx), .null, (.long nd), (.ref ii), (.ref qu), (.ref b1), (.ref b1)]))
  refine Go.st (fun _ k => XS.aloadN X36.here hx rfl (hb hby d47_21) rfl rfl k) ?_
  show Go _ _ _ _ (T36.setTop (mkF m 22 #[.val (.ref so), .val (.long nd), .second, .val .null] [(.ref so), (.int atm), (.ref sx), .null, (.long nd), (.ref ii), (.ref qu), (.ref b1), (.ref b1)]))
  obtain ⟨T37, X37, e37, st37⟩ := getF X36 hx hZ hown (host := "") (Or.inl (ow hw 254 rfl)) Via.refl e36 F14 (g := (mkF m 22 #[.val (.ref so), .val (.long nd), .second, .val .null] [(.ref so), (.int atm), (.ref sx), .null, (.long nd), (.ref ii), (.ref qu), (.ref b1), (.ref b1)])) rfl rfl (hb hby d47_22)
  refine Go.st st37 ?_
  show Go _ _ _ _ (T37.setTop (mkF m 25 #[.val (.ref so), .val (.long nd), .second, .val .null] [(.int fa), (.int atm), (.ref sx), .null, (.long nd), (.ref ii), (.ref qu), (.ref b1), (.ref b1)]))
  refine Go.st (fun _ k => XS.lconst X37.here hx rfl (hb hby d47_25) k) ?_
  show Go _ _ _ _ (T37.setTop (mkF m 26 #[.val (.ref so), .val (.long nd), .second, .val .null] [(.long (0 : Int64)), (.int fa), (.int atm), (.ref sx), .null, (.long nd), (.ref ii), (.ref qu), (.ref b1), (.ref b1)]))
  refine Go.st (fun _ k => XS.lconst X37.here hx rfl (hb hby d47_26) k) ?_
  show Go _ _ _ _ (T37.setTop (mkF m 27 #[.val (.ref so), .val (.long nd), .second, .val .null] [(.long (0 : Int64)), (.long (0 : Int64)), (.int fa), (.int atm), (.ref sx), .null, (.long nd), (.ref ii), (.ref qu), (.ref b1), (.ref b1)]))
  refine Go.st (fun _ k => XS.lconst X37.here hx rfl (hb hby d47_27) k) ?_
  show Go _ _ _ _ (T37.setTop (mkF m 28 #[.val (.ref so), .val (.long nd), .second, .val .null] [(.long (0 : Int64)), (.long (0 : Int64)), (.long (0 : Int64)), (.int fa), (.int atm), (.ref sx), .null, (.long nd), (.ref ii), (.ref qu), (.ref b1), (.ref b1)]))
  refine Go.st (fun _ k => XS.lconst X37.here hx rfl (hb hby d47_28) k) ?_
  show Go _ _ _ _ (T37.setTop (mkF m 29 #[.val (.ref so), .val (.long nd), .second, .val .null] [(.long (0 : Int64)), (.long (0 : Int64)), (.long (0 : Int64)), (.long (0 : Int64)), (.int fa), (.int atm), (.ref sx), .null, (.long nd), (.ref ii), (.ref qu), (.ref b1), (.ref b1)]))
  refine Go.st (fun _ k => XS.aloadN X37.here hx rfl (hb hby d47_29) rfl rfl k) ?_
  show Go _ _ _ _ (T37.setTop (mkF m 30 #[.val (.ref so), .val (.long nd), .second, .val .null] [(.ref so), (.long (0 : Int64)), (.long (0 : Int64)), (.long (0 : Int64)), (.long (0 : Int64)), (.int fa), (.int atm), (.ref sx), .null, (.long nd), (.ref ii), (.ref qu), (.ref b1), (.ref b1)]))
  obtain ⟨T38, X38, e38, st38⟩ := getF X37 hx hZ hown (host := "") (Or.inl (ow hw 264 rfl)) Via.refl e37 F19 (g := (mkF m 30 #[.val (.ref so), .val (.long nd), .second, .val .null] [(.ref so), (.long (0 : Int64)), (.long (0 : Int64)), (.long (0 : Int64)), (.long (0 : Int64)), (.int fa), (.int atm), (.ref sx), .null, (.long nd), (.ref ii), (.ref qu), (.ref b1), (.ref b1)])) rfl rfl (hb hby d47_30)
  refine Go.st st38 ?_
  show Go _ _ _ _ (T38.setTop (mkF m 33 #[.val (.ref so), .val (.long nd), .second, .val .null] [(.ref le), (.long (0 : Int64)), (.long (0 : Int64)), (.long (0 : Int64)), (.long (0 : Int64)), (.int fa), (.int atm), (.ref sx), .null, (.long nd), (.ref ii), (.ref qu), (.ref b1), (.ref b1)]))
  obtain ⟨_, _, ⟨T39, L39, k39, n39⟩, -, X39, ⟨Lc39, hQ39, l39, y39, z39⟩, st39⟩ := X38.specialBack hx (y := (⟨"com/example/lapsed/lapsed/Timeout", "<init>", "(Ljava/lang/String;Ljava/lang/String;JLjava/lang/String;Lcom/example/lapsed/lapsed/State;IIJJJJLjava/lang/String;)V"⟩ : MethodName)) rfl hown (mvT hZ (ow hw 282 rfl)) (mvT hZ (ow hw 239 rfl)) (mvT hZ (ow hw 240 rfl)) (by decide) (backOf (W := 1) (rm_tin1 l Z a0 hw [] b1 qu ii nd sx atm fa (0 : Int64) (0 : Int64) (0 : Int64) (0 : Int64) le h1 n0 Z5 A1 F21 F22 F23 F24 F25 F26 F27 F28 F29 F30 F31 F32 ge3) hZ (ow hw 240 rfl) (ow hw 225 rfl) (by decide) (by decide)) (g := (mkF m 33 #[.val (.ref so), .val (.long nd), .second, .val .null] [(.ref le), (.long (0 : Int64)), (.long (0 : Int64)), (.long (0 : Int64)), (.long (0 : Int64)), (.int fa), (.int atm), (.ref sx), .null, (.long nd), (.ref ii), (.ref qu), (.ref b1), (.ref b1)])) rfl (by rw [hml]; rfl) (Steps.refl _) (a := b1) (argsL := [(.ref qu), (.ref ii), (.long nd), .null, (.ref sx), (.int atm), (.int fa), (.long (0 : Int64)), (.long (0 : Int64)), (.long (0 : Int64)), (.long (0 : Int64)), (.ref le)]) (rest := [(.ref b1)]) (lenOf pd_22 rfl) rfl (by show 2 * 0 + _ ≤ _; exact Nat.le_of_eq rfl) (hb hby d47_33) (fun _ _ => ⟨rfl, e38, (by decide : 1 + 0 ≤ _), (by decide : 12 + 0 ≤ _)⟩)
  dsimp only [Pt.U, Pt.locs, Pt.cells, Pt.slots] at X39 l39 y39 z39 st39 hQ39
  rw [l39, y39, z39] at X39
  obtain ⟨rfl, N39q, K39q, Fq39_0, Fq39_1, Fq39_2, Fq39_3, Fq39_4, Fq39_5, Fq39_6, Fq39_7, Fq39_8, Fq39_9, Fq39_10, Fq39_11, Fq39_12⟩ := hQ39
  have N39 := Fr.app N0 N39q
  refine Go.st (fun _ k => st39.trans k) ?_
  have Z40 : n0 ≤ T39.heap.size := Nat.le_trans Z5 K39q.1
  have K41 := K6.trans K39q (fun z hz => (List.mem_cons.mp hz).elim (fun q => by rw [q]; exact Or.inr sz4) nn_)
  have F42 := F7.keep K39q
  have F43 := F8.keep K39q (fun z => (List.mem_cons.mp z).elim ne2 nn_)
  have F44 := F9.keep K39q (fun z => (List.mem_cons.mp z).elim ne2 nn_)
  have F45 := F10.keep K39q (fun z => (List.mem_cons.mp z).elim ne2 nn_)
  have F46 := F11.keep K39q (fun z => (List.mem_cons.mp z).elim ne2 nn_)
  have F47 := F12.keep K39q (fun z => (List.mem_cons.mp z).elim ne2 nn_)
  have F48 := F13.keep K39q (fun z => (List.mem_cons.mp z).elim ne2 nn_)
  have F49 := F14.keep K39q (fun z => (List.mem_cons.mp z).elim ne2 nn_)
  have F50 := F15.keep K39q (fun z => (List.mem_cons.mp z).elim ne2 nn_)
  have F51 := F16.keep K39q (fun z => (List.mem_cons.mp z).elim ne2 nn_)
  have F52 := F17.keep K39q (fun z => (List.mem_cons.mp z).elim ne2 nn_)
  have F53 := F18.keep K39q (fun z => (List.mem_cons.mp z).elim ne2 nn_)
  have F54 := F19.keep K39q (fun z => (List.mem_cons.mp z).elim ne2 nn_)
  have F55 := own_stakeepW F20 K39q (allS (P := fun x => ∀ c : Cell, h1[x]? = some c → c.vm.isStatics = false) (old_plain F32) all0)
  have F56 := A1.keep K39q
  show Go _ _ _ _ (T39.setTop (mkF m 36 #[.val (.ref so), .val (.long nd), .second, .val .null] [(.ref b1)]))
  subst hG
  obtain ⟨fs, hr, hrun, hended, hW, hsame⟩ := X39.leave (v := some (.ref b1)) (fun h => by rw [Bd.returns] at h; cases h)
  refine ⟨_, _, ?_, hrun, hended, _, _, rfl, ?_, ⟨_, rfl⟩, hW, hsame.mono (by decide) (by decide)⟩
  · exact retOut X39 hx Bd.returns rfl (Or.inr (Or.inr (Or.inr (Or.inr ⟨rfl, rfl, rfl⟩)))) (hb hby d47_36) hr
  · show Q_resc Z so nd qu ii du se atm fa ct lu ra da le sx h0 n0 _ T39.heap _
    exact ⟨b1, rfl, N39, K41, ge3, sz4, Fq39_0, Fq39_1, Fq39_2, Fq39_3, Fq39_4, Fq39_5, Fq39_6, Fq39_7, Fq39_8, Fq39_9, Fq39_10, Fq39_11, Fq39_12⟩
theorem own_cb0 (d : Int64) : cbF (0 : Int64) d = d := if_pos rfl
theorem own_cbn {r d : Int64} (h : r.toInt ≠ 0) : cbF r d = r := by
  refine if_neg fun z => h ?_
  rw [z]; decide
theorem own_at1 {a v : Int64} (h : (1 : Int64) + (a &&& (4611686018427387903 : Int64)) = v) : 1 ≤ v.toInt ∧ v.toInt ≤ 4611686018427387904 := by
  have h1 := Jvm.Kit.i64_mask a (4611686018427387903 : Int64) (k := 62) (by decide) (by decide)
  have e1 : (1 : Int64).toInt = 1 := by decide
  have h2 : ((1 : Int64) + (a &&& (4611686018427387903 : Int64))).toInt = 1 + (a &&& (4611686018427387903 : Int64)).toInt := by rw [Jvm.Kit.i64_add (by omega) (by omega), e1]
  rw [← h]
  omega
theorem own_d {x : Int32} {v : Int64} (h : (x &&& (2147483647 : Int32)).toInt64 % (86400001 : Int64) = v) : 0 ≤ v.toInt ∧ v.toInt < 86400001 := by
  have h1 := Jvm.Kit.i32_mask x (2147483647 : Int32) (k := 31) (by decide) (by decide)
  have e1 : (86400001 : Int64).toInt = 86400001 := by decide
  have h2 : (x &&& (2147483647 : Int32)).toInt64.toInt = (x &&& (2147483647 : Int32)).toInt := Int32.toInt_toInt64 _
  rw [← h, ← lrem_mod, Jvm.Kit.i64_rem_nonneg (by omega), e1]
  omega
theorem own_sum {a v : Int64} (h : 1 ≤ a.toInt ∧ a.toInt ≤ 4611686018427387904) (h2 : 0 ≤ v.toInt ∧ v.toInt < 86400001) : (a + v).toInt ≠ 0 := by
  rw [Jvm.Kit.i64_add (by omega) (by omega)]
  omega

theorem pd_26 : parseMethodDescriptor "(Ljava/util/List;)V" = some ⟨[(.object "java/util/List")], none⟩ := by decide +kernel
theorem pd_27 : parseMethodDescriptor "(JJ)Lcom/example/lapsed/lapsed/Timeout;" = some ⟨[.long, .long], some (.object "com/example/lapsed/lapsed/Timeout")⟩ := by decide +kernel
theorem pd_28 : parseMethodDescriptor "(JLjava/lang/String;Lcom/example/lapsed/lapsed/RetryPolicy;)Lcom/example/lapsed/lapsed/Timeout;" = some ⟨[.long, (.object "java/lang/String"), (.object "com/example/lapsed/lapsed/RetryPolicy")], some (.object "com/example/lapsed/lapsed/Timeout")⟩ := by decide +kernel
theorem pd_29 : parseMethodDescriptor "(J)Lcom/example/lapsed/lapsed/Timeout;" = some ⟨[.long], some (.object "com/example/lapsed/lapsed/Timeout")⟩ := by decide +kernel
theorem pd_30 : parseMethodDescriptor "(JLjava/lang/String;)Lcom/example/lapsed/lapsed/Timeout;" = some ⟨[.long, (.object "java/lang/String")], some (.object "com/example/lapsed/lapsed/Timeout")⟩ := by decide +kernel
theorem pd_31 : parseMethodDescriptor "(J)Ljava/lang/Long;" = some ⟨[.long], some (.object "java/lang/Long")⟩ := by decide +kernel
theorem pd_32 : parseMethodDescriptor "(Ljava/lang/Object;)Z" = some ⟨[(.object "java/lang/Object")], some .boolean⟩ := by decide +kernel
theorem pn_17 : plainName "com/example/lapsed/lapsed/TimeoutClaimableAtPinLaw" = true := by first | (simp [plainName, overriddenIn]; done) | decide +kernel
theorem ef_law (m : MethodId) (pd : Int64) (pa : Int64) (px : Int32) (pb : Int64) (pe : Int64) (pg : Int32) : entryFrame m #[(.long pd), (.long pa), (.int px), (.long pb), (.long pe), (.int pg)] maxLocals = mkF m 0 #[.val (.long pd), .second, .val (.long pa), .second, .val (.int px), .val (.long pb), .second, .val (.long pe), .second, .val (.int pg), .unset, .unset, .unset, .unset, .unset, .unset, .unset, .unset, .unset, .unset, .unset] [] := by first | (simp [entryFrame, mkF, argsToLocals, Value.category, maxLocals]; done) | rfl
def Q_law (Z : State) (pd : Int64) (pa : Int64) (px : Int32) (pb : Int64) (pe : Int64) (pg : Int32) (de : Addr) (kd : ClassId) (ca : Addr) (cc : Cell) (em : Addr) (el : Addr) (le : Addr) (kl : ClassId) (oe : Addr) (mr : Addr) (sp : Addr) (sc : Addr) (sd : Addr) (h0 : Heap) (n0 : Nat) (v : Option Value) (h : Heap) (L : List Loc) : Prop := v = some (.int (1 : Int32)) ∧ Fr n0 L ∧ Keep h0 h []
set_option maxRecDepth 65536 in
set_option maxHeartbeats 40000000 in
theorem rm_law (l : Launch) (Z : State) (a0 : Array Value) (hw : ∀ d ∈ tables_1, d.before a0 Z = true) (ws : List Jvm.Cond) (pd : Int64) (pa : Int64) (px : Int32) (pb : Int64) (pe : Int64) (pg : Int32) (de : Addr) (kd : ClassId) (ca : Addr) (cc : Cell) (em : Addr) (el : Addr) (le : Addr) (kl : ClassId) (oe : Addr) (mr : Addr) (sp : Addr) (sc : Addr) (sd : Addr) (h0 : Heap) (n0 : Nat) (Z0 : n0 ≤ h0.size) (Pf0 : Old Z n0 h0) (Pf1 : Arv Z h0 de kd (.object "java/lang/Object") (0 : Int32) [] .null) (Pf2 : Exa Z h0 de "[Ljava/lang/Object;") (Pf3 : Sta Z h0 "java/util/ArrayList" "DEFAULTCAPACITY_EMPTY_ELEMENTDATA" "[Ljava/lang/Object;" (.ref de)) (Pf4 : Sta Z h0 "java/lang/Long$LongCache" "cache" "[Ljava/lang/Long;" (.ref ca)) (hbx : Bxs Z ca cc "java/lang/Long" "J" (256 : Int32) (fun j => .long (j - (128 : Int32)).toInt64)) (Pf6 : Sta Z h0 "java/util/ImmutableCollections" "EMPTY" "Ljava/lang/Object;" (.ref em)) (Pf7 : Sta Z h0 "java/util/ImmutableCollections" "EMPTY_LIST" "Ljava/util/ImmutableCollections$ListN;" (.ref el)) (Pf8 : Exa Z h0 el "java/util/ImmutableCollections$ListN") (Pf9 : Fld Z h0 el "java/util/ImmutableCollections$ListN" "elements" "[Ljava/lang/Object;" (.ref le)) (Pf10 : Arv Z h0 le kl (.object "java/lang/Object") (0 : Int32) [] .null) (Pf11 : Exa Z h0 le "[Ljava/lang/Object;") (Pf12 : Sta Z h0 "java/util/OptionalLong" "EMPTY" "Ljava/util/OptionalLong;" (.ref oe)) (Pf13 : Exa Z h0 oe "java/util/OptionalLong") (Pf14 : Fld Z h0 oe "java/util/OptionalLong" "isPresent" "Z" (.int (0 : Int32))) (hmir : Mir Z "[Ljava/lang/Object;" mr) (Pf16 : Sta Z h0 "com/example/lapsed/lapsed/State" "PENDING" "Lcom/example/lapsed/lapsed/State;" (.ref sp)) (Pf17 : Sta Z h0 "com/example/lapsed/lapsed/State" "CLAIMED" "Lcom/example/lapsed/lapsed/State;" (.ref sc)) (Pf18 : Sta Z h0 "com/example/lapsed/lapsed/State" "DEAD" "Lcom/example/lapsed/lapsed/State;" (.ref sd)) :
    MetFree l x (head1 (Jvm.Cond.code x code maxLocals ret :: ws) room_1) (fun a U => a = #[(.long pd), (.long pa), (.int px), (.long pb), (.long pe), (.int pg)] ∧ Z.Warmed39 U.vm ∧ U.heap = h0) (fun _ _ _ _ _ => True) (fun _ U o U' => ∃ v L, o = .returned v ∧ Q_law Z pd pa px pb pe pg de kd ca cc em el le kl oe mr sp sc sd h0 n0 v U'.heap L ∧ ReturnedEndW U o U' L room_1.cells room_1.slots) := by
  refine MetFree.of_bodySF (plainFor_of_name pn_17) hisR ?_
  intro p e s m args below meth c s₁ Bd hml0 hP hK
  obtain ⟨rfl, hZ, hh⟩ := hP
  have hx := Bd.exec
  have hby := Bd.bytes
  have hml : c.maxLocals = 21 := hml0
  have hown : s.vm.findClass "com/example/lapsed/lapsed/TimeoutClaimableAtPinLaw" = some m.cls := findClass_of_methodNamed Bd.named
  have hnm := (name_of_methodNamed Bd.named Bd.method).1
  have X0 : Stand p l e room_1 (s.setVm s.vm) m #[(.long pd), (.long pa), (.int px), (.long pb), (.long pe), (.int pg)] below meth c s₁ [] 0 0 := Stand.of_body Bd
  have hS0 : s.Since s.vm h0.size := (State.WarmedH.refl s).since _
  have hk0 : h0.size ≤ h0.size := Nat.le_refl _
  have e0 : s₁.heap = h0 := by rw [← hh, Bd.state]; rfl
  have N0 := Fr.nil n0
  have K0 : Keep h0 h0 [] := Keep.refl h0 []
  show Go p.tables e below _ (s₁.setTop (entryFrame m #[(.long pd), (.long pa), (.int px), (.long pb), (.long pe), (.int pg)] maxLocals))
  refine Go.start ?_
  intro G hG
  refine Go.st (fun t k => castTop (ef_law m pd pa px pb pe pg) k) ?_
  show Go _ _ _ _ (s₁.setTop (mkF m 0 #[.val (.long pd), .second, .val (.long pa), .second, .val (.int px), .val (.long pb), .second, .val (.long pe), .second, .val (.int pg), .unset, .unset, .unset, .unset, .unset, .unset, .unset, .unset, .unset, .unset, .unset] []))
  refine Go.st (fun _ k => XS.lconst X0.here hx rfl (hb hby at_0) k) ?_
  show Go _ _ _ _ (s₁.setTop (mkF m 1 #[.val (.long pd), .second, .val (.long pa), .second, .val (.int px), .val (.long pb), .second, .val (.long pe), .second, .val (.int pg), .unset, .unset, .unset, .unset, .unset, .unset, .unset, .unset, .unset, .unset, .unset] [(.long (1 : Int64))]))
  refine Go.st (fun _ k => XS.lloadN X0.here hx rfl (hb hby at_1) rfl k) ?_
  show Go _ _ _ _ (s₁.setTop (mkF m 2 #[.val (.long pd), .second, .val (.long pa), .second, .val (.int px), .val (.long pb), .second, .val (.long pe), .second, .val (.int pg), .unset, .unset, .unset, .unset, .unset, .unset, .unset, .unset, .unset, .unset, .unset] [(.long pa), (.long (1 : Int64))]))
  refine Go.st (fun _ k => X0.ldc2Long hx hown (mvT hZ (ow hw 0 rfl)) (g := (mkF m 2 #[.val (.long pd), .second, .val (.long pa), .second, .val (.int px), .val (.long pb), .second, .val (.long pe), .second, .val (.int pg), .unset, .unset, .unset, .unset, .unset, .unset, .unset, .unset, .unset, .unset, .unset] [(.long pa), (.long (1 : Int64))])) rfl (hb hby at_2) _ k) ?_
  show Go _ _ _ _ (s₁.setTop (mkF m 5 #[.val (.long pd), .second, .val (.long pa), .second, .val (.int px), .val (.long pb), .second, .val (.long pe), .second, .val (.int pg), .unset, .unset, .unset, .unset, .unset, .unset, .unset, .unset, .unset, .unset, .unset] [(.long (4611686018427387903 : Int64)), (.long pa), (.long (1 : Int64))]))
  refine Go.st (fun _ k => XS.land X0.here hx rfl (hb hby at_5) rfl k) ?_
  show Go _ _ _ _ (s₁.setTop (mkF m 6 #[.val (.long pd), .second, .val (.long pa), .second, .val (.int px), .val (.long pb), .second, .val (.long pe), .second, .val (.int pg), .unset, .unset, .unset, .unset, .unset, .unset, .unset, .unset, .unset, .unset, .unset] [(.long (pa &&& (4611686018427387903 : Int64))), (.long (1 : Int64))]))
  refine Go.st (fun _ k => XS.ladd X0.here hx rfl (hb hby at_6) rfl k) ?_
  show Go _ _ _ _ (s₁.setTop (mkF m 7 #[.val (.long pd), .second, .val (.long pa), .second, .val (.int px), .val (.long pb), .second, .val (.long pe), .second, .val (.int pg), .unset, .unset, .unset, .unset, .unset, .unset, .unset, .unset, .unset, .unset, .unset] [(.long ((1 : Int64) + (pa &&& (4611686018427387903 : Int64))))]))
  refine Go.st (fun _ k => XS.lstore X0.here hx rfl (hb hby at_7) rfl (l' := #[.val (.long pd), .second, .val (.long pa), .second, .val (.int px), .val (.long pb), .second, .val (.long pe), .second, .val (.int pg), .val (.long ((1 : Int64) + (pa &&& (4611686018427387903 : Int64)))), .second, .unset, .unset, .unset, .unset, .unset, .unset, .unset, .unset, .unset]) rfl k) ?_
  show Go _ _ _ _ (s₁.setTop (mkF m 9 #[.val (.long pd), .second, .val (.long pa), .second, .val (.int px), .val (.long pb), .second, .val (.long pe), .second, .val (.int pg), .val (.long ((1 : Int64) + (pa &&& (4611686018427387903 : Int64)))), .second, .unset, .unset, .unset, .unset, .unset, .unset, .unset, .unset, .unset] []))
  generalize hqv7 : ((1 : Int64) + (pa &&& (4611686018427387903 : Int64))) = v7
  show Go _ _ _ _ (s₁.setTop (mkF m 9 #[.val (.long pd), .second, .val (.long pa), .second, .val (.int px), .val (.long pb), .second, .val (.long pe), .second, .val (.int pg), .val (.long v7), .second, .unset, .unset, .unset, .unset, .unset, .unset, .unset, .unset, .unset] []))
  refine Go.st (fun _ k => XS.lconst X0.here hx rfl (hb hby at_9) k) ?_
  show Go _ _ _ _ (s₁.setTop (mkF m 10 #[.val (.long pd), .second, .val (.long pa), .second, .val (.int px), .val (.long pb), .second, .val (.long pe), .second, .val (.int pg), .val (.long v7), .second, .unset, .unset, .unset, .unset, .unset, .unset, .unset, .unset, .unset] [(.long (1 : Int64))]))
  refine Go.st (fun _ k => XS.lload X0.here hx rfl (hb hby at_10) rfl k) ?_
  show Go _ _ _ _ (s₁.setTop (mkF m 12 #[.val (.long pd), .second, .val (.long pa), .second, .val (.int px), .val (.long pb), .second, .val (.long pe), .second, .val (.int pg), .val (.long v7), .second, .unset, .unset, .unset, .unset, .unset, .unset, .unset, .unset, .unset] [(.long pb), (.long (1 : Int64))]))
  refine Go.st (fun _ k => X0.ldc2Long hx hown (mvT hZ (ow hw 0 rfl)) (g := (mkF m 12 #[.val (.long pd), .second, .val (.long pa), .second, .val (.int px), .val (.long pb), .second, .val (.long pe), .second, .val (.int pg), .val (.long v7), .second, .unset, .unset, .unset, .unset, .unset, .unset, .unset, .unset, .unset] [(.long pb), (.long (1 : Int64))])) rfl (hb hby at_12) _ k) ?_
  show Go _ _ _ _ (s₁.setTop (mkF m 15 #[.val (.long pd), .second, .val (.long pa), .second, .val (.int px), .val (.long pb), .second, .val (.long pe), .second, .val (.int pg), .val (.long v7), .second, .unset, .unset, .unset, .unset, .unset, .unset, .unset, .unset, .unset] [(.long (4611686018427387903 : Int64)), (.long pb), (.long (1 : Int64))]))
  refine Go.st (fun _ k => XS.land X0.here hx rfl (hb hby at_15) rfl k) ?_
  show Go _ _ _ _ (s₁.setTop (mkF m 16 #[.val (.long pd), .second, .val (.long pa), .second, .val (.int px), .val (.long pb), .second, .val (.long pe), .second, .val (.int pg), .val (.long v7), .second, .unset, .unset, .unset, .unset, .unset, .unset, .unset, .unset, .unset] [(.long (pb &&& (4611686018427387903 : Int64))), (.long (1 : Int64))]))
  refine Go.st (fun _ k => XS.ladd X0.here hx rfl (hb hby at_16) rfl k) ?_
  show Go _ _ _ _ (s₁.setTop (mkF m 17 #[.val (.long pd), .second, .val (.long pa), .second, .val (.int px), .val (.long pb), .second, .val (.long pe), .second, .val (.int pg), .val (.long v7), .second, .unset, .unset, .unset, .unset, .unset, .unset, .unset, .unset, .unset] [(.long ((1 : Int64) + (pb &&& (4611686018427387903 : Int64))))]))
  refine Go.st (fun _ k => XS.lstore X0.here hx rfl (hb hby at_17) rfl (l' := #[.val (.long pd), .second, .val (.long pa), .second, .val (.int px), .val (.long pb), .second, .val (.long pe), .second, .val (.int pg), .val (.long v7), .second, .val (.long ((1 : Int64) + (pb &&& (4611686018427387903 : Int64)))), .second, .unset, .unset, .unset, .unset, .unset, .unset, .unset]) rfl k) ?_
  show Go _ _ _ _ (s₁.setTop (mkF m 19 #[.val (.long pd), .second, .val (.long pa), .second, .val (.int px), .val (.long pb), .second, .val (.long pe), .second, .val (.int pg), .val (.long v7), .second, .val (.long ((1 : Int64) + (pb &&& (4611686018427387903 : Int64)))), .second, .unset, .unset, .unset, .unset, .unset, .unset, .unset] []))
  generalize hqv17 : ((1 : Int64) + (pb &&& (4611686018427387903 : Int64))) = v17
  show Go _ _ _ _ (s₁.setTop (mkF m 19 #[.val (.long pd), .second, .val (.long pa), .second, .val (.int px), .val (.long pb), .second, .val (.long pe), .second, .val (.int pg), .val (.long v7), .second, .val (.long v17), .second, .unset, .unset, .unset, .unset, .unset, .unset, .unset] []))
  refine Go.st (fun _ k => XS.iload X0.here hx rfl (hb hby at_19) rfl k) ?_
  show Go _ _ _ _ (s₁.setTop (mkF m 21 #[.val (.long pd), .second, .val (.long pa), .second, .val (.int px), .val (.long pb), .second, .val (.long pe), .second, .val (.int pg), .val (.long v7), .second, .val (.long v17), .second, .unset, .unset, .unset, .unset, .unset, .unset, .unset] [(.int px)]))
  refine Go.st (fun _ k => X0.ldcInt hx hown (mvT hZ (ow hw 1 rfl)) (g := (mkF m 21 #[.val (.long pd), .second, .val (.long pa), .second, .val (.int px), .val (.long pb), .second, .val (.long pe), .second, .val (.int pg), .val (.long v7), .second, .val (.long v17), .second, .unset, .unset, .unset, .unset, .unset, .unset, .unset] [(.int px)])) rfl (hb hby at_21) _ k) ?_
  show Go _ _ _ _ (s₁.setTop (mkF m 23 #[.val (.long pd), .second, .val (.long pa), .second, .val (.int px), .val (.long pb), .second, .val (.long pe), .second, .val (.int pg), .val (.long v7), .second, .val (.long v17), .second, .unset, .unset, .unset, .unset, .unset, .unset, .unset] [(.int (2147483647 : Int32)), (.int px)]))
  refine Go.st (fun _ k => XS.iand X0.here hx rfl (hb hby at_23) rfl k) ?_
  show Go _ _ _ _ (s₁.setTop (mkF m 24 #[.val (.long pd), .second, .val (.long pa), .second, .val (.int px), .val (.long pb), .second, .val (.long pe), .second, .val (.int pg), .val (.long v7), .second, .val (.long v17), .second, .unset, .unset, .unset, .unset, .unset, .unset, .unset] [(.int (px &&& (2147483647 : Int32)))]))
  refine Go.st (fun _ k => XS.i2l X0.here hx rfl (hb hby at_24) rfl k) ?_
  show Go _ _ _ _ (s₁.setTop (mkF m 25 #[.val (.long pd), .second, .val (.long pa), .second, .val (.int px), .val (.long pb), .second, .val (.long pe), .second, .val (.int pg), .val (.long v7), .second, .val (.long v17), .second, .unset, .unset, .unset, .unset, .unset, .unset, .unset] [(.long ((px &&& (2147483647 : Int32)).toInt64))]))
  refine Go.st (fun _ k => X0.ldc2Long hx hown (mvT hZ (ow hw 2 rfl)) (g := (mkF m 25 #[.val (.long pd), .second, .val (.long pa), .second, .val (.int px), .val (.long pb), .second, .val (.long pe), .second, .val (.int pg), .val (.long v7), .second, .val (.long v17), .second, .unset, .unset, .unset, .unset, .unset, .unset, .unset] [(.long ((px &&& (2147483647 : Int32)).toInt64))])) rfl (hb hby at_25) _ k) ?_
  show Go _ _ _ _ (s₁.setTop (mkF m 28 #[.val (.long pd), .second, .val (.long pa), .second, .val (.int px), .val (.long pb), .second, .val (.long pe), .second, .val (.int pg), .val (.long v7), .second, .val (.long v17), .second, .unset, .unset, .unset, .unset, .unset, .unset, .unset] [(.long (86400001 : Int64)), (.long ((px &&& (2147483647 : Int32)).toInt64))]))
  refine Go.st (fun _ k => XS.lrem X0.here hx rfl (hb hby at_28) rfl (by decide) (own_lrem k)) ?_
  show Go _ _ _ _ (s₁.setTop (mkF m 29 #[.val (.long pd), .second, .val (.long pa), .second, .val (.int px), .val (.long pb), .second, .val (.long pe), .second, .val (.int pg), .val (.long v7), .second, .val (.long v17), .second, .unset, .unset, .unset, .unset, .unset, .unset, .unset] [(.long (((px &&& (2147483647 : Int32)).toInt64) % (86400001 : Int64)))]))
  refine Go.st (fun _ k => XS.lstore X0.here hx rfl (hb hby at_29) rfl (l' := #[.val (.long pd), .second, .val (.long pa), .second, .val (.int px), .val (.long pb), .second, .val (.long pe), .second, .val (.int pg), .val (.long v7), .second, .val (.long v17), .second, .val (.long (((px &&& (2147483647 : Int32)).toInt64) % (86400001 : Int64))), .second, .unset, .unset, .unset, .unset, .unset]) rfl k) ?_
  show Go _ _ _ _ (s₁.setTop (mkF m 31 #[.val (.long pd), .second, .val (.long pa), .second, .val (.int px), .val (.long pb), .second, .val (.long pe), .second, .val (.int pg), .val (.long v7), .second, .val (.long v17), .second, .val (.long (((px &&& (2147483647 : Int32)).toInt64) % (86400001 : Int64))), .second, .unset, .unset, .unset, .unset, .unset] []))
  generalize hqv29 : (((px &&& (2147483647 : Int32)).toInt64) % (86400001 : Int64)) = v29
  show Go _ _ _ _ (s₁.setTop (mkF m 31 #[.val (.long pd), .second, .val (.long pa), .second, .val (.int px), .val (.long pb), .second, .val (.long pe), .second, .val (.int pg), .val (.long v7), .second, .val (.long v17), .second, .val (.long v29), .second, .unset, .unset, .unset, .unset, .unset] []))
  refine Go.st (fun _ k => XS.iload X0.here hx rfl (hb hby at_31) rfl k) ?_
  show Go _ _ _ _ (s₁.setTop (mkF m 33 #[.val (.long pd), .second, .val (.long pa), .second, .val (.int px), .val (.long pb), .second, .val (.long pe), .second, .val (.int pg), .val (.long v7), .second, .val (.long v17), .second, .val (.long v29), .second, .unset, .unset, .unset, .unset, .unset] [(.int pg)]))
  refine Go.st (fun _ k => XS.iconst X0.here hx rfl (hb hby at_33) k) ?_
  show Go _ _ _ _ (s₁.setTop (mkF m 34 #[.val (.long pd), .second, .val (.long pa), .second, .val (.int px), .val (.long pb), .second, .val (.long pe), .second, .val (.int pg), .val (.long v7), .second, .val (.long v17), .second, .val (.long v29), .second, .unset, .unset, .unset, .unset, .unset] [(.int (1 : Int32)), (.int pg)]))
  refine Go.st (fun _ k => XS.iand X0.here hx rfl (hb hby at_34) rfl k) ?_
  show Go _ _ _ _ (s₁.setTop (mkF m 35 #[.val (.long pd), .second, .val (.long pa), .second, .val (.int px), .val (.long pb), .second, .val (.long pe), .second, .val (.int pg), .val (.long v7), .second, .val (.long v17), .second, .val (.long v29), .second, .unset, .unset, .unset, .unset, .unset] [(.int (pg &&& (1 : Int32)))]))
  by_cases hc35 : (pg &&& (1 : Int32)) = (0 : Int32)
  · skip
    refine Go.st (fun _ k => XS.ifYes X0.here hx rfl (pc0 := 35) (pc' := 42) rfl (hb hby at_35) rfl (Jvm.Free.XT.i0_eq_t hc35) (by decide) (by decide) k) ?_
    show Go _ _ _ _ (s₁.setTop (mkF m 42 #[.val (.long pd), .second, .val (.long pa), .second, .val (.int px), .val (.long pb), .second, .val (.long pe), .second, .val (.int pg), .val (.long v7), .second, .val (.long v17), .second, .val (.long v29), .second, .unset, .unset, .unset, .unset, .unset] []))
    refine Go.st (fun _ k => XS.iconst X0.here hx rfl (hb hby at_42) k) ?_
    show Go _ _ _ _ (s₁.setTop (mkF m 43 #[.val (.long pd), .second, .val (.long pa), .second, .val (.int px), .val (.long pb), .second, .val (.long pe), .second, .val (.int pg), .val (.long v7), .second, .val (.long v17), .second, .val (.long v29), .second, .unset, .unset, .unset, .unset, .unset] [(.int (0 : Int32))]))
    refine Go.st (fun _ k => XS.istore X0.here hx rfl (hb hby at_43) rfl (l' := #[.val (.long pd), .second, .val (.long pa), .second, .val (.int px), .val (.long pb), .second, .val (.long pe), .second, .val (.int pg), .val (.long v7), .second, .val (.long v17), .second, .val (.long v29), .second, .val (.int (0 : Int32)), .unset, .unset, .unset, .unset]) rfl k) ?_
    show Go _ _ _ _ (s₁.setTop (mkF m 45 #[.val (.long pd), .second, .val (.long pa), .second, .val (.int px), .val (.long pb), .second, .val (.long pe), .second, .val (.int pg), .val (.long v7), .second, .val (.long v17), .second, .val (.long v29), .second, .val (.int (0 : Int32)), .unset, .unset, .unset, .unset] []))
    obtain ⟨T1, h1, X1, e1, E1, A1, D1, -, st1⟩ := newO X0 hx hZ hown (ow hw 3 rfl) (ow hw 4 rfl) (ow hw 5 rfl) e0 (g := (mkF m 45 #[.val (.long pd), .second, .val (.long pa), .second, .val (.int px), .val (.long pb), .second, .val (.long pe), .second, .val (.int pg), .val (.long v7), .second, .val (.long v17), .second, .val (.long v29), .second, .val (.int (0 : Int32)), .unset, .unset, .unset, .unset] [])) rfl (hb hby at_45) (by decide) (by decide)
    obtain ⟨b1, g1⟩ : ∃ z, z = h0.size := ⟨_, rfl⟩
    rw [← g1] at A1 D1 st1
    refine Go.st st1 ?_
    have ne2 := on_ Pf1.lt g1
    have ne3 := on_ Pf8.lt g1
    have ne4 := on_ Pf10.lt g1
    have ne5 := on_ Pf13.lt g1
    have ge6 : n0 ≤ b1 := Nat.le_trans Z0 (Nat.le_of_eq g1.symm)
    have sz7 : h0.size ≤ b1 := Nat.le_trans K0.1 (Nat.le_of_eq g1.symm)
    have Z8 : n0 ≤ h1.size := Nat.le_trans Z0 E1.1
    have K9 := K0.ext E1
    have hk10 := Nat.le_trans hk0 E1.1
    have F11 := Pf0.ext E1
    have F12 := Pf1.ext E1
    have F13 := Pf2.ext E1
    have F14 := Pf3.ext E1
    have F15 := Pf4.ext E1
    have F16 := Pf6.ext E1
    have F17 := Pf7.ext E1
    have F18 := Pf8.ext E1
    have F19 := Pf9.ext E1
    have F20 := Pf10.ext E1
    have F21 := Pf11.ext E1
    have F22 := Pf12.ext E1
    have F23 := Pf13.ext E1
    have F24 := Pf14.ext E1
    have F25 := Pf16.ext E1
    have F26 := Pf17.ext E1
    have F27 := Pf18.ext E1
    have F28 : Fld Z h1 b1 "java/util/AbstractList" "modCount" "I" (.int (0 : Int32)) := D1 (Or.inl (ow hw 25 rfl)) (ty := .int) (by decide)
    have F29 : Fld Z h1 b1 "java/util/ArrayList" "elementData" "[Ljava/lang/Object;" .null := D1 (Or.inl (ow hw 28 rfl)) (ty := (.array (.object "java/lang/Object"))) (by decide)
    have F30 : Fld Z h1 b1 "java/util/ArrayList" "size" "I" (.int (0 : Int32)) := D1 (Or.inl (ow hw 45 rfl)) (ty := .int) (by decide)
    show Go _ _ _ _ (T1.setTop (mkF m 48 #[.val (.long pd), .second, .val (.long pa), .second, .val (.int px), .val (.long pb), .second, .val (.long pe), .second, .val (.int pg), .val (.long v7), .second, .val (.long v17), .second, .val (.long v29), .second, .val (.int (0 : Int32)), .unset, .unset, .unset, .unset] [(.ref b1)]))
    refine Go.st (fun _ k => XS.dup X1.here hx rfl (hb hby at_48) rfl rfl k) ?_
    show Go _ _ _ _ (T1.setTop (mkF m 49 #[.val (.long pd), .second, .val (.long pa), .second, .val (.int px), .val (.long pb), .second, .val (.long pe), .second, .val (.int pg), .val (.long v7), .second, .val (.long v17), .second, .val (.long v29), .second, .val (.int (0 : Int32)), .unset, .unset, .unset, .unset] [(.ref b1), (.ref b1)]))
    obtain ⟨_, _, ⟨T31, L31, k31, n31⟩, -, X31, ⟨Lc31, hQ31, l31, y31, z31⟩, st31⟩ := X1.specialBack hx (y := (⟨"java/util/ArrayList", "<init>", "()V"⟩ : MethodName)) rfl hown (mvT hZ (ow hw 6 rfl)) (mvT hZ (ow hw 7 rfl)) (mvT hZ (ow hw 8 rfl)) (by decide) (backOf (W := 1) (rm_alin l Z a0 hw [] b1 de h1 n0 Z8 A1 F28 F29 F30 ge6 F14) hZ (ow hw 8 rfl) (ow hw 5 rfl) (by decide) (by decide)) (g := (mkF m 49 #[.val (.long pd), .second, .val (.long pa), .second, .val (.int px), .val (.long pb), .second, .val (.long pe), .second, .val (.int pg), .val (.long v7), .second, .val (.long v17), .second, .val (.long v29), .second, .val (.int (0 : Int32)), .unset, .unset, .unset, .unset] [(.ref b1), (.ref b1)])) rfl (by rw [hml]; rfl) (Steps.refl _) (a := b1) (argsL := []) (rest := [(.ref b1)]) (lenOf pd_0 rfl) rfl (by show 2 * 0 + _ ≤ _; exact Nat.le_of_eq rfl) (hb hby at_49) (fun _ _ => ⟨rfl, e1, (by decide : 1 + 0 ≤ _), (by decide : 3 + 0 ≤ _)⟩)
    dsimp only [Pt.U, Pt.locs, Pt.cells, Pt.slots] at X31 l31 y31 z31 st31 hQ31
    rw [l31, y31, z31] at X31
    obtain ⟨rfl, N31q, K31q, Fq31_0, Fq31_1, Fq31_2, Fq31_3⟩ := hQ31
    have N31 := Fr.app N0 N31q
    refine Go.st (fun _ k => st31.trans k) ?_
    have Z32 : n0 ≤ T31.heap.size := Nat.le_trans Z8 K31q.1
    have hk33 := Nat.le_trans hk10 K31q.1
    have K34 := K9.trans K31q (fun z hz => (List.mem_cons.mp hz).elim (fun q => by rw [q]; exact Or.inr sz7) nn_)
    have F35 := F11.keep K31q (allS ge6 all0)
    have F36 := F12.keep K31q (fun z => (List.mem_cons.mp z).elim ne2 nn_)
    have F37 := F13.keep K31q
    have F38 := own_stakeepW F14 K31q (allS (P := fun x => ∀ c : Cell, h1[x]? = some c → c.vm.isStatics = false) (old_plain F30) all0)
    have F39 := own_stakeepW F15 K31q (allS (P := fun x => ∀ c : Cell, h1[x]? = some c → c.vm.isStatics = false) (old_plain F30) all0)
    have F40 := own_stakeepW F16 K31q (allS (P := fun x => ∀ c : Cell, h1[x]? = some c → c.vm.isStatics = false) (old_plain F30) all0)
    have F41 := own_stakeepW F17 K31q (allS (P := fun x => ∀ c : Cell, h1[x]? = some c → c.vm.isStatics = false) (old_plain F30) all0)
    have F42 := F18.keep K31q
    have F43 := F19.keep K31q (fun z => (List.mem_cons.mp z).elim ne3 nn_)
    have F44 := F20.keep K31q (fun z => (List.mem_cons.mp z).elim ne4 nn_)
    have F45 := F21.keep K31q
    have F46 := own_stakeepW F22 K31q (allS (P := fun x => ∀ c : Cell, h1[x]? = some c → c.vm.isStatics = false) (old_plain F30) all0)
    have F47 := F23.keep K31q
    have F48 := F24.keep K31q (fun z => (List.mem_cons.mp z).elim ne5 nn_)
    have F49 := own_stakeepW F25 K31q (allS (P := fun x => ∀ c : Cell, h1[x]? = some c → c.vm.isStatics = false) (old_plain F30) all0)
    have F50 := own_stakeepW F26 K31q (allS (P := fun x => ∀ c : Cell, h1[x]? = some c → c.vm.isStatics = false) (old_plain F30) all0)
    have F51 := own_stakeepW F27 K31q (allS (P := fun x => ∀ c : Cell, h1[x]? = some c → c.vm.isStatics = false) (old_plain F30) all0)
    have F52 := A1.keep K31q
    show Go _ _ _ _ (T31.setTop (mkF m 52 #[.val (.long pd), .second, .val (.long pa), .second, .val (.int px), .val (.long pb), .second, .val (.long pe), .second, .val (.int pg), .val (.long v7), .second, .val (.long v17), .second, .val (.long v29), .second, .val (.int (0 : Int32)), .unset, .unset, .unset, .unset] [(.ref b1)]))
    refine Go.st (fun _ k => XS.astore X31.here hx rfl (hb hby at_52) rfl rfl (l' := #[.val (.long pd), .second, .val (.long pa), .second, .val (.int px), .val (.long pb), .second, .val (.long pe), .second, .val (.int pg), .val (.long v7), .second, .val (.long v17), .second, .val (.long v29), .second, .val (.int (0 : Int32)), .val (.ref b1), .unset, .unset, .unset]) rfl k) ?_
    show Go _ _ _ _ (T31.setTop (mkF m 54 #[.val (.long pd), .second, .val (.long pa), .second, .val (.int px), .val (.long pb), .second, .val (.long pe), .second, .val (.int pg), .val (.long v7), .second, .val (.long v17), .second, .val (.long v29), .second, .val (.int (0 : Int32)), .val (.ref b1), .unset, .unset, .unset] []))
    refine Go.st (fun _ k => XS.iload X31.here hx rfl (hb hby at_54) rfl k) ?_
    show Go _ _ _ _ (T31.setTop (mkF m 56 #[.val (.long pd), .second, .val (.long pa), .second, .val (.int px), .val (.long pb), .second, .val (.long pe), .second, .val (.int pg), .val (.long v7), .second, .val (.long v17), .second, .val (.long v29), .second, .val (.int (0 : Int32)), .val (.ref b1), .unset, .unset, .unset] [(.int (0 : Int32))]))
    have hl53 : (0 : Int32) = (0 : Int32) := by decide
    refine Go.st (fun _ k => XS.ifYes X31.here hx rfl (pc0 := 56) (pc' := 70) rfl (hb hby at_56) rfl (Jvm.Free.XT.i0_eq_t hl53) (by decide) (by decide) k) ?_
    show Go _ _ _ _ (T31.setTop (mkF m 70 #[.val (.long pd), .second, .val (.long pa), .second, .val (.int px), .val (.long pb), .second, .val (.long pe), .second, .val (.int pg), .val (.long v7), .second, .val (.long v17), .second, .val (.long v29), .second, .val (.int (0 : Int32)), .val (.ref b1), .unset, .unset, .unset] []))
    obtain ⟨T54, h54, X54, e54, E54, A54, D54, -, st54⟩ := newO X31 hx hZ hown (ow hw 68 rfl) (ow hw 69 rfl) (ow hw 70 rfl) (rfl : T31.heap = T31.heap) (g := (mkF m 70 #[.val (.long pd), .second, .val (.long pa), .second, .val (.int px), .val (.long pb), .second, .val (.long pe), .second, .val (.int pg), .val (.long v7), .second, .val (.long v17), .second, .val (.long v29), .second, .val (.int (0 : Int32)), .val (.ref b1), .unset, .unset, .unset] [])) rfl (hb hby at_70) (by decide) (by decide)
    obtain ⟨b54, g54⟩ : ∃ z, z = T31.heap.size := ⟨_, rfl⟩
    rw [← g54] at A54 D54 st54
    refine Go.st st54 ?_
    have ne55 := on_ F36.lt g54
    have ne56 := on_ F42.lt g54
    have ne57 := on_ F44.lt g54
    have ne58 := on_ F47.lt g54
    have ne59 := on_ Fq31_0.lt g54
    have ge60 : n0 ≤ b54 := Nat.le_trans Z32 (Nat.le_of_eq g54.symm)
    have sz61 : h0.size ≤ b54 := Nat.le_trans K34.1 (Nat.le_of_eq g54.symm)
    have Z62 : n0 ≤ h54.size := Nat.le_trans Z32 E54.1
    have K63 := K34.ext E54
    have hk64 := Nat.le_trans hk33 E54.1
    have F65 := F35.ext E54
    have F66 := F36.ext E54
    have F67 := F37.ext E54
    have F68 := F38.ext E54
    have F69 := F39.ext E54
    have F70 := F40.ext E54
    have F71 := F41.ext E54
    have F72 := F42.ext E54
    have F73 := F43.ext E54
    have F74 := F44.ext E54
    have F75 := F45.ext E54
    have F76 := F46.ext E54
    have F77 := F47.ext E54
    have F78 := F48.ext E54
    have F79 := F49.ext E54
    have F80 := F50.ext E54
    have F81 := F51.ext E54
    have F82 := Fq31_0.ext E54
    have F83 := Fq31_1.ext E54
    have F84 := Fq31_2.ext E54
    have F85 := Fq31_3.ext E54
    have F86 : Fld Z h54 b54 "com/example/lapsed/lapsed/RetryPolicy" "delaysMs" "Ljava/util/List;" .null := D54 (Or.inr (ow hw 222 rfl)) (ty := (.object "java/util/List")) (by decide)
    show Go _ _ _ _ (T54.setTop (mkF m 73 #[.val (.long pd), .second, .val (.long pa), .second, .val (.int px), .val (.long pb), .second, .val (.long pe), .second, .val (.int pg), .val (.long v7), .second, .val (.long v17), .second, .val (.long v29), .second, .val (.int (0 : Int32)), .val (.ref b1), .unset, .unset, .unset] [(.ref b54)]))
    refine Go.st (fun _ k => XS.dup X54.here hx rfl (hb hby at_73) rfl rfl k) ?_
    show Go _ _ _ _ (T54.setTop (mkF m 74 #[.val (.long pd), .second, .val (.long pa), .second, .val (.int px), .val (.long pb), .second, .val (.long pe), .second, .val (.int pg), .val (.long v7), .second, .val (.long v17), .second, .val (.long v29), .second, .val (.int (0 : Int32)), .val (.ref b1), .unset, .unset, .unset] [(.ref b54), (.ref b54)]))
    refine Go.st (fun _ k => XS.aload X54.here hx rfl (hb hby at_74) rfl rfl k) ?_
    show Go _ _ _ _ (T54.setTop (mkF m 76 #[.val (.long pd), .second, .val (.long pa), .second, .val (.int px), .val (.long pb), .second, .val (.long pe), .second, .val (.int pg), .val (.long v7), .second, .val (.long v17), .second, .val (.long v29), .second, .val (.int (0 : Int32)), .val (.ref b1), .unset, .unset, .unset] [(.ref b1), (.ref b54), (.ref b54)]))
    obtain ⟨_, _, ⟨T87, L87, k87, n87⟩, -, X87, ⟨Lc87, hQ87, l87, y87, z87⟩, st87⟩ := X54.specialBack hx (y := (⟨"com/example/lapsed/lapsed/RetryPolicy", "<init>", "(Ljava/util/List;)V"⟩ : MethodName)) rfl hown (mvT hZ (ow hw 71 rfl)) (mvT hZ (ow hw 72 rfl)) (mvT hZ (ow hw 73 rfl)) (by decide) (backOf (W := 1) (rm_rpi0 l Z a0 hw [] b54 b1 de (0 : Int32) el h54 n0 Z62 A54 F86 F82 F83 F84 F85 F71 ge60) hZ (ow hw 73 rfl) (ow hw 70 rfl) (by decide) (by decide)) (g := (mkF m 76 #[.val (.long pd), .second, .val (.long pa), .second, .val (.int px), .val (.long pb), .second, .val (.long pe), .second, .val (.int pg), .val (.long v7), .second, .val (.long v17), .second, .val (.long v29), .second, .val (.int (0 : Int32)), .val (.ref b1), .unset, .unset, .unset] [(.ref b1), (.ref b54), (.ref b54)])) rfl (by rw [hml]; rfl) (Steps.refl _) (a := b54) (argsL := [(.ref b1)]) (rest := [(.ref b54)]) (lenOf pd_26 rfl) rfl (by show 2 * 0 + _ ≤ _; exact Nat.le_of_eq rfl) (hb hby at_76) (fun _ _ => ⟨rfl, e54, (by decide : 2 + 1 ≤ _), (by decide : 4 + 4 ≤ _)⟩)
    dsimp only [Pt.U, Pt.locs, Pt.cells, Pt.slots] at X87 l87 y87 z87 st87 hQ87
    rw [l87, y87, z87] at X87
    obtain ⟨rfl, N87q, K87q, Fq87_0, Fq87_1⟩ := hQ87
    have N87 := Fr.app N31 N87q
    refine Go.st (fun _ k => st87.trans k) ?_
    have Z88 : n0 ≤ T87.heap.size := Nat.le_trans Z62 K87q.1
    have hk89 := Nat.le_trans hk64 K87q.1
    have K90 := K63.trans K87q (fun z hz => (List.mem_cons.mp hz).elim (fun q => by rw [q]; exact Or.inr sz61) nn_)
    have F91 := F65.keep K87q (allS ge60 all0)
    have F92 := F66.keep K87q (fun z => (List.mem_cons.mp z).elim ne55 nn_)
    have F93 := F67.keep K87q
    have F94 := own_stakeepW F68 K87q (allS (P := fun x => ∀ c : Cell, h54[x]? = some c → c.vm.isStatics = false) (old_plain F86) all0)
    have F95 := own_stakeepW F69 K87q (allS (P := fun x => ∀ c : Cell, h54[x]? = some c → c.vm.isStatics = false) (old_plain F86) all0)
    have F96 := own_stakeepW F70 K87q (allS (P := fun x => ∀ c : Cell, h54[x]? = some c → c.vm.isStatics = false) (old_plain F86) all0)
    have F97 := own_stakeepW F71 K87q (allS (P := fun x => ∀ c : Cell, h54[x]? = some c → c.vm.isStatics = false) (old_plain F86) all0)
    have F98 := F72.keep K87q
    have F99 := F73.keep K87q (fun z => (List.mem_cons.mp z).elim ne56 nn_)
    have F100 := F74.keep K87q (fun z => (List.mem_cons.mp z).elim ne57 nn_)
    have F101 := F75.keep K87q
    have F102 := own_stakeepW F76 K87q (allS (P := fun x => ∀ c : Cell, h54[x]? = some c → c.vm.isStatics = false) (old_plain F86) all0)
    have F103 := F77.keep K87q
    have F104 := F78.keep K87q (fun z => (List.mem_cons.mp z).elim ne58 nn_)
    have F105 := own_stakeepW F79 K87q (allS (P := fun x => ∀ c : Cell, h54[x]? = some c → c.vm.isStatics = false) (old_plain F86) all0)
    have F106 := own_stakeepW F80 K87q (allS (P := fun x => ∀ c : Cell, h54[x]? = some c → c.vm.isStatics = false) (old_plain F86) all0)
    have F107 := own_stakeepW F81 K87q (allS (P := fun x => ∀ c : Cell, h54[x]? = some c → c.vm.isStatics = false) (old_plain F86) all0)
    have F108 := F82.keep K87q
    have F109 := F83.keep K87q (fun z => (List.mem_cons.mp z).elim ne59 nn_)
    have F110 := F84.keep K87q (fun z => (List.mem_cons.mp z).elim ne59 nn_)
    have F111 := F85.keep K87q (fun z => (List.mem_cons.mp z).elim ne59 nn_)
    have F112 := A54.keep K87q
    show Go _ _ _ _ (T87.setTop (mkF m 79 #[.val (.long pd), .second, .val (.long pa), .second, .val (.int px), .val (.long pb), .second, .val (.long pe), .second, .val (.int pg), .val (.long v7), .second, .val (.long v17), .second, .val (.long v29), .second, .val (.int (0 : Int32)), .val (.ref b1), .unset, .unset, .unset] [(.ref b54)]))
    refine Go.st (fun _ k => XS.astore X87.here hx rfl (hb hby at_79) rfl rfl (l' := #[.val (.long pd), .second, .val (.long pa), .second, .val (.int px), .val (.long pb), .second, .val (.long pe), .second, .val (.int pg), .val (.long v7), .second, .val (.long v17), .second, .val (.long v29), .second, .val (.int (0 : Int32)), .val (.ref b1), .val (.ref b54), .unset, .unset]) rfl k) ?_
    show Go _ _ _ _ (T87.setTop (mkF m 81 #[.val (.long pd), .second, .val (.long pa), .second, .val (.int px), .val (.long pb), .second, .val (.long pe), .second, .val (.int pg), .val (.long v7), .second, .val (.long v17), .second, .val (.long v29), .second, .val (.int (0 : Int32)), .val (.ref b1), .val (.ref b54), .unset, .unset] []))
    obtain ⟨T113, h113, X113, e113, E113, A113, D113, -, st113⟩ := newO X87 hx hZ hown (ow hw 223 rfl) (ow hw 224 rfl) (ow hw 225 rfl) (rfl : T87.heap = T87.heap) (g := (mkF m 81 #[.val (.long pd), .second, .val (.long pa), .second, .val (.int px), .val (.long pb), .second, .val (.long pe), .second, .val (.int pg), .val (.long v7), .second, .val (.long v17), .second, .val (.long v29), .second, .val (.int (0 : Int32)), .val (.ref b1), .val (.ref b54), .unset, .unset] [])) rfl (hb hby at_81) (by decide) (by decide)
    obtain ⟨b113, g113⟩ : ∃ z, z = T87.heap.size := ⟨_, rfl⟩
    rw [← g113] at A113 D113 st113
    refine Go.st st113 ?_
    have ne114 := on_ F92.lt g113
    have ne115 := on_ F98.lt g113
    have ne116 := on_ F100.lt g113
    have ne117 := on_ F103.lt g113
    have ne118 := on_ F108.lt g113
    have ne119 := on_ Fq87_0.lt g113
    have ge120 : n0 ≤ b113 := Nat.le_trans Z88 (Nat.le_of_eq g113.symm)
    have sz121 : h0.size ≤ b113 := Nat.le_trans K90.1 (Nat.le_of_eq g113.symm)
    have Z122 : n0 ≤ h113.size := Nat.le_trans Z88 E113.1
    have K123 := K90.ext E113
    have hk124 := Nat.le_trans hk89 E113.1
    have F125 := F91.ext E113
    have F126 := F92.ext E113
    have F127 := F93.ext E113
    have F128 := F94.ext E113
    have F129 := F95.ext E113
    have F130 := F96.ext E113
    have F131 := F97.ext E113
    have F132 := F98.ext E113
    have F133 := F99.ext E113
    have F134 := F100.ext E113
    have F135 := F101.ext E113
    have F136 := F102.ext E113
    have F137 := F103.ext E113
    have F138 := F104.ext E113
    have F139 := F105.ext E113
    have F140 := F106.ext E113
    have F141 := F107.ext E113
    have F142 := F108.ext E113
    have F143 := F109.ext E113
    have F144 := F110.ext E113
    have F145 := F111.ext E113
    have F146 := Fq87_0.ext E113
    have F147 := Fq87_1.ext E113
    have F148 : Fld Z h113 b113 "com/example/lapsed/lapsed/Timeout" "queue" "Ljava/lang/String;" .null := D113 (Or.inr (ow hw 243 rfl)) (ty := (.object "java/lang/String")) (by decide)
    have F149 : Fld Z h113 b113 "com/example/lapsed/lapsed/Timeout" "id" "Ljava/lang/String;" .null := D113 (Or.inr (ow hw 245 rfl)) (ty := (.object "java/lang/String")) (by decide)
    have F150 : Fld Z h113 b113 "com/example/lapsed/lapsed/Timeout" "dueAt" "J" (.long (0 : Int64)) := D113 (Or.inr (ow hw 247 rfl)) (ty := .long) (by decide)
    have F151 : Fld Z h113 b113 "com/example/lapsed/lapsed/Timeout" "payload" "Ljava/lang/String;" .null := D113 (Or.inr (ow hw 249 rfl)) (ty := (.object "java/lang/String")) (by decide)
    have F152 : Fld Z h113 b113 "com/example/lapsed/lapsed/Timeout" "state" "Lcom/example/lapsed/lapsed/State;" .null := D113 (Or.inr (ow hw 251 rfl)) (ty := (.object "com/example/lapsed/lapsed/State")) (by decide)
    have F153 : Fld Z h113 b113 "com/example/lapsed/lapsed/Timeout" "attempt" "I" (.int (0 : Int32)) := D113 (Or.inr (ow hw 253 rfl)) (ty := .int) (by decide)
    have F154 : Fld Z h113 b113 "com/example/lapsed/lapsed/Timeout" "failures" "I" (.int (0 : Int32)) := D113 (Or.inr (ow hw 255 rfl)) (ty := .int) (by decide)
    have F155 : Fld Z h113 b113 "com/example/lapsed/lapsed/Timeout" "claimedAt" "J" (.long (0 : Int64)) := D113 (Or.inr (ow hw 257 rfl)) (ty := .long) (by decide)
    have F156 : Fld Z h113 b113 "com/example/lapsed/lapsed/Timeout" "leaseUntil" "J" (.long (0 : Int64)) := D113 (Or.inr (ow hw 259 rfl)) (ty := .long) (by decide)
    have F157 : Fld Z h113 b113 "com/example/lapsed/lapsed/Timeout" "retryAt" "J" (.long (0 : Int64)) := D113 (Or.inr (ow hw 261 rfl)) (ty := .long) (by decide)
    have F158 : Fld Z h113 b113 "com/example/lapsed/lapsed/Timeout" "deadAt" "J" (.long (0 : Int64)) := D113 (Or.inr (ow hw 263 rfl)) (ty := .long) (by decide)
    have F159 : Fld Z h113 b113 "com/example/lapsed/lapsed/Timeout" "lastError" "Ljava/lang/String;" .null := D113 (Or.inr (ow hw 265 rfl)) (ty := (.object "java/lang/String")) (by decide)
    show Go _ _ _ _ (T113.setTop (mkF m 84 #[.val (.long pd), .second, .val (.long pa), .second, .val (.int px), .val (.long pb), .second, .val (.long pe), .second, .val (.int pg), .val (.long v7), .second, .val (.long v17), .second, .val (.long v29), .second, .val (.int (0 : Int32)), .val (.ref b1), .val (.ref b54), .unset, .unset] [(.ref b113)]))
    refine Go.st (fun _ k => XS.dup X113.here hx rfl (hb hby at_84) rfl rfl k) ?_
    show Go _ _ _ _ (T113.setTop (mkF m 85 #[.val (.long pd), .second, .val (.long pa), .second, .val (.int px), .val (.long pb), .second, .val (.long pe), .second, .val (.int pg), .val (.long v7), .second, .val (.long v17), .second, .val (.long v29), .second, .val (.int (0 : Int32)), .val (.ref b1), .val (.ref b54), .unset, .unset] [(.ref b113), (.ref b113)]))
    obtain ⟨a160, T160, h160, k1160, X160, e160, E160, hS160, hk160, hZ160, hown160, st160⟩ := ldcS (s := s) X113 hx hZ hown (ow hw 226 rfl) (fun a ha => hw a (own_strAtoms a ha)) e113 hS0 hk124 (g := (mkF m 85 #[.val (.long pd), .second, .val (.long pa), .second, .val (.int px), .val (.long pb), .second, .val (.long pe), .second, .val (.int pg), .val (.long v7), .second, .val (.long v17), .second, .val (.long v29), .second, .val (.int (0 : Int32)), .val (.ref b1), .val (.ref b54), .unset, .unset] [(.ref b113), (.ref b113)])) rfl (hb hby at_85) (n := 4) (by decide) (by decide) (by decide) (by decide)
    refine Go.st st160 ?_
    have Z161 : n0 ≤ h160.size := Nat.le_trans Z122 E160.1
    have K162 := K123.ext E160
    have F163 := F125.ext E160
    have F164 := F126.ext E160
    have F165 := F127.ext E160
    have F166 := F128.ext E160
    have F167 := F129.ext E160
    have F168 := F130.ext E160
    have F169 := F131.ext E160
    have F170 := F132.ext E160
    have F171 := F133.ext E160
    have F172 := F134.ext E160
    have F173 := F135.ext E160
    have F174 := F136.ext E160
    have F175 := F137.ext E160
    have F176 := F138.ext E160
    have F177 := F139.ext E160
    have F178 := F140.ext E160
    have F179 := F141.ext E160
    have F180 := F142.ext E160
    have F181 := F143.ext E160
    have F182 := F144.ext E160
    have F183 := F145.ext E160
    have F184 := F146.ext E160
    have F185 := F147.ext E160
    have F186 := A113.ext E160
    have F187 := F148.ext E160
    have F188 := F149.ext E160
    have F189 := F150.ext E160
    have F190 := F151.ext E160
    have F191 := F152.ext E160
    have F192 := F153.ext E160
    have F193 := F154.ext E160
    have F194 := F155.ext E160
    have F195 := F156.ext E160
    have F196 := F157.ext E160
    have F197 := F158.ext E160
    have F198 := F159.ext E160
    show Go _ _ _ _ (T160.setTop (mkF m 87 #[.val (.long pd), .second, .val (.long pa), .second, .val (.int px), .val (.long pb), .second, .val (.long pe), .second, .val (.int pg), .val (.long v7), .second, .val (.long v17), .second, .val (.long v29), .second, .val (.int (0 : Int32)), .val (.ref b1), .val (.ref b54), .unset, .unset] [(.ref a160), (.ref b113), (.ref b113)]))
    obtain ⟨a199, T199, h199, k1199, X199, e199, E199, hS199, hk199, hZ199, hown199, st199⟩ := ldcS (s := s) X160 hx hZ160 hown160 (ow hw 234 rfl) (fun a ha => hw a (own_strAtoms a ha)) e160 hS160 hk160 (g := (mkF m 87 #[.val (.long pd), .second, .val (.long pa), .second, .val (.int px), .val (.long pb), .second, .val (.long pe), .second, .val (.int pg), .val (.long v7), .second, .val (.long v17), .second, .val (.long v29), .second, .val (.int (0 : Int32)), .val (.ref b1), .val (.ref b54), .unset, .unset] [(.ref a160), (.ref b113), (.ref b113)])) rfl (hb hby at_87) (n := 4) (by decide) (by decide) (by decide) (by decide)
    refine Go.st st199 ?_
    have Z200 : n0 ≤ h199.size := Nat.le_trans Z161 E199.1
    have K201 := K162.ext E199
    have F202 := F163.ext E199
    have F203 := F164.ext E199
    have F204 := F165.ext E199
    have F205 := F166.ext E199
    have F206 := F167.ext E199
    have F207 := F168.ext E199
    have F208 := F169.ext E199
    have F209 := F170.ext E199
    have F210 := F171.ext E199
    have F211 := F172.ext E199
    have F212 := F173.ext E199
    have F213 := F174.ext E199
    have F214 := F175.ext E199
    have F215 := F176.ext E199
    have F216 := F177.ext E199
    have F217 := F178.ext E199
    have F218 := F179.ext E199
    have F219 := F180.ext E199
    have F220 := F181.ext E199
    have F221 := F182.ext E199
    have F222 := F183.ext E199
    have F223 := F184.ext E199
    have F224 := F185.ext E199
    have F225 := F186.ext E199
    have F226 := F187.ext E199
    have F227 := F188.ext E199
    have F228 := F189.ext E199
    have F229 := F190.ext E199
    have F230 := F191.ext E199
    have F231 := F192.ext E199
    have F232 := F193.ext E199
    have F233 := F194.ext E199
    have F234 := F195.ext E199
    have F235 := F196.ext E199
    have F236 := F197.ext E199
    have F237 := F198.ext E199
    show Go _ _ _ _ (T199.setTop (mkF m 89 #[.val (.long pd), .second, .val (.long pa), .second, .val (.int px), .val (.long pb), .second, .val (.long pe), .second, .val (.int pg), .val (.long v7), .second, .val (.long v17), .second, .val (.long v29), .second, .val (.int (0 : Int32)), .val (.ref b1), .val (.ref b54), .unset, .unset] [(.ref a199), (.ref a160), (.ref b113), (.ref b113)]))
    refine Go.st (fun _ k => XS.lloadN X199.here hx rfl (hb hby at_89) rfl k) ?_
    show Go _ _ _ _ (T199.setTop (mkF m 90 #[.val (.long pd), .second, .val (.long pa), .second, .val (.int px), .val (.long pb), .second, .val (.long pe), .second, .val (.int pg), .val (.long v7), .second, .val (.long v17), .second, .val (.long v29), .second, .val (.int (0 : Int32)), .val (.ref b1), .val (.ref b54), .unset, .unset] [(.long pd), (.ref a199), (.ref a160), (.ref b113), (.ref b113)]))
    refine Go.st (fun _ k => XS.aconstNull X199.here hx rfl (hb hby at_90) k) ?_
    show Go _ _ _ _ (T199.setTop (mkF m 91 #[.val (.long pd), .second, .val (.long pa), .second, .val (.int px), .val (.long pb), .second, .val (.long pe), .second, .val (.int pg), .val (.long v7), .second, .val (.long v17), .second, .val (.long v29), .second, .val (.int (0 : Int32)), .val (.ref b1), .val (.ref b54), .unset, .unset] [.null, (.long pd), (.ref a199), (.ref a160), (.ref b113), (.ref b113)]))
    obtain ⟨T238, X238, e238, st238⟩ := getS2 X199 hx hZ199 hown199 (host := "") (Or.inl (ow hw 235 rfl)) Via.refl e199 F216 (g := (mkF m 91 #[.val (.long pd), .second, .val (.long pa), .second, .val (.int px), .val (.long pb), .second, .val (.long pe), .second, .val (.int pg), .val (.long v7), .second, .val (.long v17), .second, .val (.long v29), .second, .val (.int (0 : Int32)), .val (.ref b1), .val (.ref b54), .unset, .unset] [.null, (.long pd), (.ref a199), (.ref a160), (.ref b113), (.ref b113)])) rfl (hb hby at_91)
    refine Go.st st238 ?_
    show Go _ _ _ _ (T238.setTop (mkF m 94 #[.val (.long pd), .second, .val (.long pa), .second, .val (.int px), .val (.long pb), .second, .val (.long pe), .second, .val (.int pg), .val (.long v7), .second, .val (.long v17), .second, .val (.long v29), .second, .val (.int (0 : Int32)), .val (.ref b1), .val (.ref b54), .unset, .unset] [(.ref sp), .null, (.long pd), (.ref a199), (.ref a160), (.ref b113), (.ref b113)]))
    refine Go.st (fun _ k => XS.iconst X238.here hx rfl (hb hby at_94) k) ?_
    show Go _ _ _ _ (T238.setTop (mkF m 95 #[.val (.long pd), .second, .val (.long pa), .second, .val (.int px), .val (.long pb), .second, .val (.long pe), .second, .val (.int pg), .val (.long v7), .second, .val (.long v17), .second, .val (.long v29), .second, .val (.int (0 : Int32)), .val (.ref b1), .val (.ref b54), .unset, .unset] [(.int (0 : Int32)), (.ref sp), .null, (.long pd), (.ref a199), (.ref a160), (.ref b113), (.ref b113)]))
    refine Go.st (fun _ k => XS.iconst X238.here hx rfl (hb hby at_95) k) ?_
    show Go _ _ _ _ (T238.setTop (mkF m 96 #[.val (.long pd), .second, .val (.long pa), .second, .val (.int px), .val (.long pb), .second, .val (.long pe), .second, .val (.int pg), .val (.long v7), .second, .val (.long v17), .second, .val (.long v29), .second, .val (.int (0 : Int32)), .val (.ref b1), .val (.ref b54), .unset, .unset] [(.int (0 : Int32)), (.int (0 : Int32)), (.ref sp), .null, (.long pd), (.ref a199), (.ref a160), (.ref b113), (.ref b113)]))
    refine Go.st (fun _ k => XS.lconst X238.here hx rfl (hb hby at_96) k) ?_
    show Go _ _ _ _ (T238.setTop (mkF m 97 #[.val (.long pd), .second, .val (.long pa), .second, .val (.int px), .val (.long pb), .second, .val (.long pe), .second, .val (.int pg), .val (.long v7), .second, .val (.long v17), .second, .val (.long v29), .second, .val (.int (0 : Int32)), .val (.ref b1), .val (.ref b54), .unset, .unset] [(.long (0 : Int64)), (.int (0 : Int32)), (.int (0 : Int32)), (.ref sp), .null, (.long pd), (.ref a199), (.ref a160), (.ref b113), (.ref b113)]))
    refine Go.st (fun _ k => XS.lconst X238.here hx rfl (hb hby at_97) k) ?_
    show Go _ _ _ _ (T238.setTop (mkF m 98 #[.val (.long pd), .second, .val (.long pa), .second, .val (.int px), .val (.long pb), .second, .val (.long pe), .second, .val (.int pg), .val (.long v7), .second, .val (.long v17), .second, .val (.long v29), .second, .val (.int (0 : Int32)), .val (.ref b1), .val (.ref b54), .unset, .unset] [(.long (0 : Int64)), (.long (0 : Int64)), (.int (0 : Int32)), (.int (0 : Int32)), (.ref sp), .null, (.long pd), (.ref a199), (.ref a160), (.ref b113), (.ref b113)]))
    refine Go.st (fun _ k => XS.lconst X238.here hx rfl (hb hby at_98) k) ?_
    show Go _ _ _ _ (T238.setTop (mkF m 99 #[.val (.long pd), .second, .val (.long pa), .second, .val (.int px), .val (.long pb), .second, .val (.long pe), .second, .val (.int pg), .val (.long v7), .second, .val (.long v17), .second, .val (.long v29), .second, .val (.int (0 : Int32)), .val (.ref b1), .val (.ref b54), .unset, .unset] [(.long (0 : Int64)), (.long (0 : Int64)), (.long (0 : Int64)), (.int (0 : Int32)), (.int (0 : Int32)), (.ref sp), .null, (.long pd), (.ref a199), (.ref a160), (.ref b113), (.ref b113)]))
    refine Go.st (fun _ k => XS.lconst X238.here hx rfl (hb hby at_99) k) ?_
    show Go _ _ _ _ (T238.setTop (mkF m 100 #[.val (.long pd), .second, .val (.long pa), .second, .val (.int px), .val (.long pb), .second, .val (.long pe), .second, .val (.int pg), .val (.long v7), .second, .val (.long v17), .second, .val (.long v29), .second, .val (.int (0 : Int32)), .val (.ref b1), .val (.ref b54), .unset, .unset] [(.long (0 : Int64)), (.long (0 : Int64)), (.long (0 : Int64)), (.long (0 : Int64)), (.int (0 : Int32)), (.int (0 : Int32)), (.ref sp), .null, (.long pd), (.ref a199), (.ref a160), (.ref b113), (.ref b113)]))
    refine Go.st (fun _ k => XS.aconstNull X238.here hx rfl (hb hby at_100) k) ?_
    show Go _ _ _ _ (T238.setTop (mkF m 101 #[.val (.long pd), .second, .val (.long pa), .second, .val (.int px), .val (.long pb), .second, .val (.long pe), .second, .val (.int pg), .val (.long v7), .second, .val (.long v17), .second, .val (.long v29), .second, .val (.int (0 : Int32)), .val (.ref b1), .val (.ref b54), .unset, .unset] [.null, (.long (0 : Int64)), (.long (0 : Int64)), (.long (0 : Int64)), (.long (0 : Int64)), (.int (0 : Int32)), (.int (0 : Int32)), (.ref sp), .null, (.long pd), (.ref a199), (.ref a160), (.ref b113), (.ref b113)]))
    obtain ⟨_, _, ⟨T239, L239, k239, n239⟩, -, X239, ⟨Lc239, hQ239, l239, y239, z239⟩, st239⟩ := X238.specialBack hx (y := (⟨"com/example/lapsed/lapsed/Timeout", "<init>", "(Ljava/lang/String;Ljava/lang/String;JLjava/lang/String;Lcom/example/lapsed/lapsed/State;IIJJJJLjava/lang/String;)V"⟩ : MethodName)) rfl hown199 (mvT hZ199 (ow hw 238 rfl)) (mvT hZ199 (ow hw 239 rfl)) (mvT hZ199 (ow hw 240 rfl)) (by decide) (backOf (W := 1) (rm_tin0 l Z a0 hw [] b113 a160 a199 pd sp (0 : Int32) (0 : Int32) (0 : Int64) (0 : Int64) (0 : Int64) (0 : Int64) h199 n0 Z200 F225 F226 F227 F228 F229 F230 F231 F232 F233 F234 F235 F236 F237 ge120) hZ199 (ow hw 240 rfl) (ow hw 225 rfl) (by decide) (by decide)) (g := (mkF m 101 #[.val (.long pd), .second, .val (.long pa), .second, .val (.int px), .val (.long pb), .second, .val (.long pe), .second, .val (.int pg), .val (.long v7), .second, .val (.long v17), .second, .val (.long v29), .second, .val (.int (0 : Int32)), .val (.ref b1), .val (.ref b54), .unset, .unset] [.null, (.long (0 : Int64)), (.long (0 : Int64)), (.long (0 : Int64)), (.long (0 : Int64)), (.int (0 : Int32)), (.int (0 : Int32)), (.ref sp), .null, (.long pd), (.ref a199), (.ref a160), (.ref b113), (.ref b113)])) rfl (by rw [hml]; rfl) (Steps.refl _) (a := b113) (argsL := [(.ref a160), (.ref a199), (.long pd), .null, (.ref sp), (.int (0 : Int32)), (.int (0 : Int32)), (.long (0 : Int64)), (.long (0 : Int64)), (.long (0 : Int64)), (.long (0 : Int64)), .null]) (rest := [(.ref b113)]) (lenOf pd_22 rfl) rfl (by show 2 * 0 + _ ≤ _; exact Nat.le_of_eq rfl) (hb hby at_101) (fun _ _ => ⟨rfl, e238, (by decide : 8 + 0 ≤ _), (by decide : 36 + 0 ≤ _)⟩)
    dsimp only [Pt.U, Pt.locs, Pt.cells, Pt.slots] at X239 l239 y239 z239 st239 hQ239
    rw [l239, y239, z239] at X239
    obtain ⟨rfl, N239q, K239q, Fq239_0, Fq239_1, Fq239_2, Fq239_3, Fq239_4, Fq239_5, Fq239_6, Fq239_7, Fq239_8, Fq239_9, Fq239_10, Fq239_11, Fq239_12⟩ := hQ239
    have N239 := Fr.app N87 N239q
    refine Go.st (fun _ k => st239.trans k) ?_
    have Z240 : n0 ≤ T239.heap.size := Nat.le_trans Z200 K239q.1
    have hk241 := Nat.le_trans hk199 K239q.1
    have K242 := K201.trans K239q (fun z hz => (List.mem_cons.mp hz).elim (fun q => by rw [q]; exact Or.inr sz121) nn_)
    have F243 := F202.keep K239q (allS ge120 all0)
    have F244 := F203.keep K239q (fun z => (List.mem_cons.mp z).elim ne114 nn_)
    have F245 := F204.keep K239q
    have F246 := own_stakeepW F205 K239q (allS (P := fun x => ∀ c : Cell, h199[x]? = some c → c.vm.isStatics = false) (old_plain F237) all0)
    have F247 := own_stakeepW F206 K239q (allS (P := fun x => ∀ c : Cell, h199[x]? = some c → c.vm.isStatics = false) (old_plain F237) all0)
    have F248 := own_stakeepW F207 K239q (allS (P := fun x => ∀ c : Cell, h199[x]? = some c → c.vm.isStatics = false) (old_plain F237) all0)
    have F249 := own_stakeepW F208 K239q (allS (P := fun x => ∀ c : Cell, h199[x]? = some c → c.vm.isStatics = false) (old_plain F237) all0)
    have F250 := F209.keep K239q
    have F251 := F210.keep K239q (fun z => (List.mem_cons.mp z).elim ne115 nn_)
    have F252 := F211.keep K239q (fun z => (List.mem_cons.mp z).elim ne116 nn_)
    have F253 := F212.keep K239q
    have F254 := own_stakeepW F213 K239q (allS (P := fun x => ∀ c : Cell, h199[x]? = some c → c.vm.isStatics = false) (old_plain F237) all0)
    have F255 := F214.keep K239q
    have F256 := F215.keep K239q (fun z => (List.mem_cons.mp z).elim ne117 nn_)
    have F257 := own_stakeepW F216 K239q (allS (P := fun x => ∀ c : Cell, h199[x]? = some c → c.vm.isStatics = false) (old_plain F237) all0)
    have F258 := own_stakeepW F217 K239q (allS (P := fun x => ∀ c : Cell, h199[x]? = some c → c.vm.isStatics = false) (old_plain F237) all0)
    have F259 := own_stakeepW F218 K239q (allS (P := fun x => ∀ c : Cell, h199[x]? = some c → c.vm.isStatics = false) (old_plain F237) all0)
    have F260 := F219.keep K239q
    have F261 := F220.keep K239q (fun z => (List.mem_cons.mp z).elim ne118 nn_)
    have F262 := F221.keep K239q (fun z => (List.mem_cons.mp z).elim ne118 nn_)
    have F263 := F222.keep K239q (fun z => (List.mem_cons.mp z).elim ne118 nn_)
    have F264 := F223.keep K239q
    have F265 := F224.keep K239q (fun z => (List.mem_cons.mp z).elim ne119 nn_)
    have F266 := F225.keep K239q
    show Go _ _ _ _ (T239.setTop (mkF m 104 #[.val (.long pd), .second, .val (.long pa), .second, .val (.int px), .val (.long pb), .second, .val (.long pe), .second, .val (.int pg), .val (.long v7), .second, .val (.long v17), .second, .val (.long v29), .second, .val (.int (0 : Int32)), .val (.ref b1), .val (.ref b54), .unset, .unset] [(.ref b113)]))
    refine Go.st (fun _ k => XS.astore X239.here hx rfl (hb hby at_104) rfl rfl (l' := #[.val (.long pd), .second, .val (.long pa), .second, .val (.int px), .val (.long pb), .second, .val (.long pe), .second, .val (.int pg), .val (.long v7), .second, .val (.long v17), .second, .val (.long v29), .second, .val (.int (0 : Int32)), .val (.ref b1), .val (.ref b54), .val (.ref b113), .unset]) rfl k) ?_
    show Go _ _ _ _ (T239.setTop (mkF m 106 #[.val (.long pd), .second, .val (.long pa), .second, .val (.int px), .val (.long pb), .second, .val (.long pe), .second, .val (.int pg), .val (.long v7), .second, .val (.long v17), .second, .val (.long v29), .second, .val (.int (0 : Int32)), .val (.ref b1), .val (.ref b54), .val (.ref b113), .unset] []))
    refine Go.st (fun _ k => XS.aload X239.here hx rfl (hb hby at_106) rfl rfl k) ?_
    show Go _ _ _ _ (T239.setTop (mkF m 108 #[.val (.long pd), .second, .val (.long pa), .second, .val (.int px), .val (.long pb), .second, .val (.long pe), .second, .val (.int pg), .val (.long v7), .second, .val (.long v17), .second, .val (.long v29), .second, .val (.int (0 : Int32)), .val (.ref b1), .val (.ref b54), .val (.ref b113), .unset] [(.ref b113)]))
    obtain ⟨cq267, kq267, q267a, q267b, q267c⟩ := isOf hZ199 (rfl : T239.heap = T239.heap) Fq239_0
    obtain ⟨_, _, ⟨T267, L267, k267, n267⟩, -, X267, ⟨Lc267, hQ267, l267, y267, z267⟩, st267⟩ := X239.virtualBack hx (y := (⟨"com/example/lapsed/lapsed/Timeout", "claimableAt", "()J"⟩ : MethodName)) (z := (⟨"com/example/lapsed/lapsed/Timeout", "claimableAt", "()J"⟩ : MethodName)) hown199 (mvT hZ199 (ow hw 266 rfl)) (mvT hZ199 (ow hw 267 rfl)) (notFace_of_selects (args := #[]) (mvT hZ199 (ow hw 269 rfl))) (mvT hZ199 (ow hw 269 rfl)) (mvT hZ199 (ow hw 268 rfl)) (by decide) (backOf (W := 0) (rm_clm l Z a0 hw [] b113 (0 : Int64) pd T239.heap n0 Z240 Fq239_0 Fq239_10 Fq239_3) hZ199 (ow hw 270 rfl) (ow hw 225 rfl) (by decide) (by decide)) q267a q267c (g := (mkF m 108 #[.val (.long pd), .second, .val (.long pa), .second, .val (.int px), .val (.long pb), .second, .val (.long pe), .second, .val (.int pg), .val (.long v7), .second, .val (.long v17), .second, .val (.long v29), .second, .val (.int (0 : Int32)), .val (.ref b1), .val (.ref b54), .val (.ref b113), .unset] [(.ref b113)])) rfl (by rw [hml]; rfl) (Steps.refl _) (argsL := []) (rest := []) (lenOf pd_17 rfl) rfl (by show 2 * 0 + _ ≤ _; exact Nat.le_of_eq rfl) (hb hby at_108) (fun _ _ => ⟨rfl, (rfl : T239.heap = T239.heap), (by decide : 8 + 0 ≤ _), (by decide : 36 + 0 ≤ _)⟩)
    dsimp only [Pt.U, Pt.locs, Pt.cells, Pt.slots] at X267 l267 y267 z267 st267 hQ267
    rw [l267, y267, z267] at X267
    obtain ⟨rfl, N267q, e267⟩ := hQ267
    have N267 := Fr.app N239 N267q
    refine Go.st (fun _ k => st267.trans k) ?_
    show Go _ _ _ _ (T267.setTop (mkF m 111 #[.val (.long pd), .second, .val (.long pa), .second, .val (.int px), .val (.long pb), .second, .val (.long pe), .second, .val (.int pg), .val (.long v7), .second, .val (.long v17), .second, .val (.long v29), .second, .val (.int (0 : Int32)), .val (.ref b1), .val (.ref b54), .val (.ref b113), .unset] [(.long (cbF (0 : Int64) pd))]))
    refine Go.st (fun _ k => XS.lloadN X267.here hx rfl (hb hby at_111) rfl k) ?_
    show Go _ _ _ _ (T267.setTop (mkF m 112 #[.val (.long pd), .second, .val (.long pa), .second, .val (.int px), .val (.long pb), .second, .val (.long pe), .second, .val (.int pg), .val (.long v7), .second, .val (.long v17), .second, .val (.long v29), .second, .val (.int (0 : Int32)), .val (.ref b1), .val (.ref b54), .val (.ref b113), .unset] [(.long pd), (.long (cbF (0 : Int64) pd))]))
    refine Go.st (fun _ k => Jvm.Free.XT.lcmp X267.here hx rfl (hb hby at_112) rfl k) ?_
    show Go _ _ _ _ (T267.setTop (mkF m 113 #[.val (.long pd), .second, .val (.long pa), .second, .val (.int px), .val (.long pb), .second, .val (.long pe), .second, .val (.int pg), .val (.long v7), .second, .val (.long v17), .second, .val (.long v29), .second, .val (.int (0 : Int32)), .val (.ref b1), .val (.ref b54), .val (.ref b113), .unset] [(.int (Jvm.Free.XT.cmpL (cbF (0 : Int64) pd) pd))]))
    have hc113 : (cbF (0 : Int64) pd) = pd := own_cb0 _
    refine Go.st (fun _ k => XS.ifYes X267.here hx rfl (pc0 := 113) (pc' := 118) rfl (hb hby at_113) rfl (Jvm.Free.XT.ll_eq_t hc113) (by decide) (by decide) k) ?_
    show Go _ _ _ _ (T267.setTop (mkF m 118 #[.val (.long pd), .second, .val (.long pa), .second, .val (.int px), .val (.long pb), .second, .val (.long pe), .second, .val (.int pg), .val (.long v7), .second, .val (.long v17), .second, .val (.long v29), .second, .val (.int (0 : Int32)), .val (.ref b1), .val (.ref b54), .val (.ref b113), .unset] []))
    refine Go.st (fun _ k => XS.aload X267.here hx rfl (hb hby at_118) rfl rfl k) ?_
    show Go _ _ _ _ (T267.setTop (mkF m 120 #[.val (.long pd), .second, .val (.long pa), .second, .val (.int px), .val (.long pb), .second, .val (.long pe), .second, .val (.int pg), .val (.long v7), .second, .val (.long v17), .second, .val (.long v29), .second, .val (.int (0 : Int32)), .val (.ref b1), .val (.ref b54), .val (.ref b113), .unset] [(.ref b113)]))
    refine Go.st (fun _ k => XS.lload X267.here hx rfl (hb hby at_120) rfl k) ?_
    show Go _ _ _ _ (T267.setTop (mkF m 122 #[.val (.long pd), .second, .val (.long pa), .second, .val (.int px), .val (.long pb), .second, .val (.long pe), .second, .val (.int pg), .val (.long v7), .second, .val (.long v17), .second, .val (.long v29), .second, .val (.int (0 : Int32)), .val (.ref b1), .val (.ref b54), .val (.ref b113), .unset] [(.long v7), (.ref b113)]))
    refine Go.st (fun _ k => XS.iload X267.here hx rfl (hb hby at_122) rfl k) ?_
    show Go _ _ _ _ (T267.setTop (mkF m 124 #[.val (.long pd), .second, .val (.long pa), .second, .val (.int px), .val (.long pb), .second, .val (.long pe), .second, .val (.int pg), .val (.long v7), .second, .val (.long v17), .second, .val (.long v29), .second, .val (.int (0 : Int32)), .val (.ref b1), .val (.ref b54), .val (.ref b113), .unset] [(.int px), (.long v7), (.ref b113)]))
    refine Go.st (fun _ k => XS.i2l X267.here hx rfl (hb hby at_124) rfl k) ?_
    show Go _ _ _ _ (T267.setTop (mkF m 125 #[.val (.long pd), .second, .val (.long pa), .second, .val (.int px), .val (.long pb), .second, .val (.long pe), .second, .val (.int pg), .val (.long v7), .second, .val (.long v17), .second, .val (.long v29), .second, .val (.int (0 : Int32)), .val (.ref b1), .val (.ref b54), .val (.ref b113), .unset] [(.long (px.toInt64)), (.long v7), (.ref b113)]))
    obtain ⟨cq268, kq268, q268a, q268b, q268c⟩ := isOf hZ199 e267 Fq239_0
    obtain ⟨_, _, ⟨T268, L268, k268, n268⟩, -, X268, ⟨Lc268, hQ268, l268, y268, z268⟩, st268⟩ := X267.virtualBack hx (y := (⟨"com/example/lapsed/lapsed/Timeout", "claimed", "(JJ)Lcom/example/lapsed/lapsed/Timeout;"⟩ : MethodName)) (z := (⟨"com/example/lapsed/lapsed/Timeout", "claimed", "(JJ)Lcom/example/lapsed/lapsed/Timeout;"⟩ : MethodName)) hown199 (mvT hZ199 (ow hw 271 rfl)) (mvT hZ199 (ow hw 272 rfl)) (notFace_of_selects (args := #[]) (mvT hZ199 (ow hw 274 rfl))) (mvT hZ199 (ow hw 274 rfl)) (mvT hZ199 (ow hw 273 rfl)) (by decide) (backOf (W := 0) (rm_clmd l Z a0 hw [] b113 v7 (px.toInt64) a160 a199 pd sp (0 : Int32) (0 : Int32) (0 : Int64) (0 : Int64) (0 : Int64) (0 : Int64) sc T239.heap n0 Z240 Fq239_0 Fq239_1 Fq239_2 Fq239_3 Fq239_4 Fq239_5 Fq239_6 Fq239_7 Fq239_8 Fq239_9 Fq239_10 Fq239_11 Fq239_12 F258) hZ199 (ow hw 275 rfl) (ow hw 225 rfl) (by decide) (by decide)) q268a q268c (g := (mkF m 125 #[.val (.long pd), .second, .val (.long pa), .second, .val (.int px), .val (.long pb), .second, .val (.long pe), .second, .val (.int pg), .val (.long v7), .second, .val (.long v17), .second, .val (.long v29), .second, .val (.int (0 : Int32)), .val (.ref b1), .val (.ref b54), .val (.ref b113), .unset] [(.long (px.toInt64)), (.long v7), (.ref b113)])) rfl (by rw [hml]; rfl) (Steps.refl _) (argsL := [(.long v7), (.long (px.toInt64))]) (rest := []) (lenOf pd_27 rfl) rfl (by show 2 * 0 + _ ≤ _; exact Nat.le_of_eq rfl) (hb hby at_125) (fun _ _ => ⟨rfl, e267, (by decide : 8 + 1 ≤ _), (by decide : 36 + 12 ≤ _)⟩)
    dsimp only [Pt.U, Pt.locs, Pt.cells, Pt.slots] at X268 l268 y268 z268 st268 hQ268
    rw [l268, y268, z268] at X268
    obtain ⟨b268_fr, rfl, N268q, K268q, g268_fr, s268_fr, Fq268_0, Fq268_1, Fq268_2, Fq268_3, Fq268_4, Fq268_5, Fq268_6, Fq268_7, Fq268_8, Fq268_9, Fq268_10, Fq268_11, Fq268_12⟩ := hQ268
    have N268 := Fr.app N267 N268q
    refine Go.st (fun _ k => st268.trans k) ?_
    have ne269 := om_ F244.lt s268_fr
    have ne270 := om_ F250.lt s268_fr
    have ne271 := om_ F252.lt s268_fr
    have ne272 := om_ F255.lt s268_fr
    have ne273 := om_ F260.lt s268_fr
    have ne274 := om_ F264.lt s268_fr
    have ne275 := om_ Fq239_0.lt s268_fr
    have sz276 : h0.size ≤ b268_fr := Nat.le_trans K242.1 s268_fr
    have Z277 : n0 ≤ T268.heap.size := Nat.le_trans Z240 K268q.1
    have hk278 := Nat.le_trans hk241 K268q.1
    have K279 := K242.trans K268q (fun z hz => absurd hz nm_)
    have F280 := F243.keep K268q all0
    have F281 := F244.keep K268q nm_
    have F282 := F245.keep K268q
    have F283 := own_stakeep F246 K268q
    have F284 := own_stakeep F247 K268q
    have F285 := own_stakeep F248 K268q
    have F286 := own_stakeep F249 K268q
    have F287 := F250.keep K268q
    have F288 := F251.keep K268q nm_
    have F289 := F252.keep K268q nm_
    have F290 := F253.keep K268q
    have F291 := own_stakeep F254 K268q
    have F292 := F255.keep K268q
    have F293 := F256.keep K268q nm_
    have F294 := own_stakeep F257 K268q
    have F295 := own_stakeep F258 K268q
    have F296 := own_stakeep F259 K268q
    have F297 := F260.keep K268q
    have F298 := F261.keep K268q nm_
    have F299 := F262.keep K268q nm_
    have F300 := F263.keep K268q nm_
    have F301 := F264.keep K268q
    have F302 := F265.keep K268q nm_
    have F303 := Fq239_0.keep K268q
    have F304 := Fq239_1.keep K268q nm_
    have F305 := Fq239_2.keep K268q nm_
    have F306 := Fq239_3.keep K268q nm_
    have F307 := Fq239_4.keep K268q nm_
    have F308 := Fq239_5.keep K268q nm_
    have F309 := Fq239_6.keep K268q nm_
    have F310 := Fq239_7.keep K268q nm_
    have F311 := Fq239_8.keep K268q nm_
    have F312 := Fq239_9.keep K268q nm_
    have F313 := Fq239_10.keep K268q nm_
    have F314 := Fq239_11.keep K268q nm_
    have F315 := Fq239_12.keep K268q nm_
    show Go _ _ _ _ (T268.setTop (mkF m 128 #[.val (.long pd), .second, .val (.long pa), .second, .val (.int px), .val (.long pb), .second, .val (.long pe), .second, .val (.int pg), .val (.long v7), .second, .val (.long v17), .second, .val (.long v29), .second, .val (.int (0 : Int32)), .val (.ref b1), .val (.ref b54), .val (.ref b113), .unset] [(.ref b268_fr)]))
    refine Go.st (fun _ k => XS.lload X268.here hx rfl (hb hby at_128) rfl k) ?_
    show Go _ _ _ _ (T268.setTop (mkF m 130 #[.val (.long pd), .second, .val (.long pa), .second, .val (.int px), .val (.long pb), .second, .val (.long pe), .second, .val (.int pg), .val (.long v7), .second, .val (.long v17), .second, .val (.long v29), .second, .val (.int (0 : Int32)), .val (.ref b1), .val (.ref b54), .val (.ref b113), .unset] [(.long v7), (.ref b268_fr)]))
    obtain ⟨a316, T316, h316, k1316, X316, e316, E316, hS316, hk316, hZ316, hown316, st316⟩ := ldcS (s := s) X268 hx hZ199 hown199 (ow hw 283 rfl) (fun a ha => hw a (own_strAtoms a ha)) (rfl : T268.heap = T268.heap) hS199 hk278 (g := (mkF m 130 #[.val (.long pd), .second, .val (.long pa), .second, .val (.int px), .val (.long pb), .second, .val (.long pe), .second, .val (.int pg), .val (.long v7), .second, .val (.long v17), .second, .val (.long v29), .second, .val (.int (0 : Int32)), .val (.ref b1), .val (.ref b54), .val (.ref b113), .unset] [(.long v7), (.ref b268_fr)])) rfl (hb hby at_130) (n := 4) (by decide) (by decide) (by decide) (by decide)
    refine Go.st st316 ?_
    have Z317 : n0 ≤ h316.size := Nat.le_trans Z277 E316.1
    have K318 := K279.ext E316
    have F319 := F280.ext E316
    have F320 := F281.ext E316
    have F321 := F282.ext E316
    have F322 := F283.ext E316
    have F323 := F284.ext E316
    have F324 := F285.ext E316
    have F325 := F286.ext E316
    have F326 := F287.ext E316
    have F327 := F288.ext E316
    have F328 := F289.ext E316
    have F329 := F290.ext E316
    have F330 := F291.ext E316
    have F331 := F292.ext E316
    have F332 := F293.ext E316
    have F333 := F294.ext E316
    have F334 := F295.ext E316
    have F335 := F296.ext E316
    have F336 := F297.ext E316
    have F337 := F298.ext E316
    have F338 := F299.ext E316
    have F339 := F300.ext E316
    have F340 := F301.ext E316
    have F341 := F302.ext E316
    have F342 := F303.ext E316
    have F343 := F304.ext E316
    have F344 := F305.ext E316
    have F345 := F306.ext E316
    have F346 := F307.ext E316
    have F347 := F308.ext E316
    have F348 := F309.ext E316
    have F349 := F310.ext E316
    have F350 := F311.ext E316
    have F351 := F312.ext E316
    have F352 := F313.ext E316
    have F353 := F314.ext E316
    have F354 := F315.ext E316
    have F355 := Fq268_0.ext E316
    have F356 := Fq268_1.ext E316
    have F357 := Fq268_2.ext E316
    have F358 := Fq268_3.ext E316
    have F359 := Fq268_4.ext E316
    have F360 := Fq268_5.ext E316
    have F361 := Fq268_6.ext E316
    have F362 := Fq268_7.ext E316
    have F363 := Fq268_8.ext E316
    have F364 := Fq268_9.ext E316
    have F365 := Fq268_10.ext E316
    have F366 := Fq268_11.ext E316
    have F367 := Fq268_12.ext E316
    show Go _ _ _ _ (T316.setTop (mkF m 132 #[.val (.long pd), .second, .val (.long pa), .second, .val (.int px), .val (.long pb), .second, .val (.long pe), .second, .val (.int pg), .val (.long v7), .second, .val (.long v17), .second, .val (.long v29), .second, .val (.int (0 : Int32)), .val (.ref b1), .val (.ref b54), .val (.ref b113), .unset] [(.ref a316), (.long v7), (.ref b268_fr)]))
    refine Go.st (fun _ k => XS.aload X316.here hx rfl (hb hby at_132) rfl rfl k) ?_
    show Go _ _ _ _ (T316.setTop (mkF m 134 #[.val (.long pd), .second, .val (.long pa), .second, .val (.int px), .val (.long pb), .second, .val (.long pe), .second, .val (.int pg), .val (.long v7), .second, .val (.long v17), .second, .val (.long v29), .second, .val (.int (0 : Int32)), .val (.ref b1), .val (.ref b54), .val (.ref b113), .unset] [(.ref b54), (.ref a316), (.long v7), (.ref b268_fr)]))
    obtain ⟨cq368, kq368, q368a, q368b, q368c⟩ := isOf hZ316 e316 F355
    obtain ⟨_, _, ⟨T368, L368, k368, n368⟩, -, X368, ⟨Lc368, hQ368, l368, y368, z368⟩, st368⟩ := X316.virtualBack hx (y := (⟨"com/example/lapsed/lapsed/Timeout", "failed", "(JLjava/lang/String;Lcom/example/lapsed/lapsed/RetryPolicy;)Lcom/example/lapsed/lapsed/Timeout;"⟩ : MethodName)) (z := (⟨"com/example/lapsed/lapsed/Timeout", "failed", "(JLjava/lang/String;Lcom/example/lapsed/lapsed/RetryPolicy;)Lcom/example/lapsed/lapsed/Timeout;"⟩ : MethodName)) hown316 (mvT hZ316 (ow hw 284 rfl)) (mvT hZ316 (ow hw 285 rfl)) (notFace_of_selects (args := #[]) (mvT hZ316 (ow hw 287 rfl))) (mvT hZ316 (ow hw 287 rfl)) (mvT hZ316 (ow hw 286 rfl)) (by decide) (backOf (W := 0) (rm_fail0 l Z a0 hw [] b268_fr v7 a316 b54 a160 a199 pd sc ((0 : Int32) + (1 : Int32)) v7 (v7 + (px.toInt64)) (0 : Int64) (0 : Int64) sd el le kl oe h316 n0 Z317 F355 F356 F357 F358 F359 F360 F361 F362 F363 F364 F365 F366 F367 F335 F340 F341 F326 F327 F328 F329 F330 F331 F332) hZ316 (ow hw 288 rfl) (ow hw 225 rfl) (by decide) (by decide)) q368a q368c (g := (mkF m 134 #[.val (.long pd), .second, .val (.long pa), .second, .val (.int px), .val (.long pb), .second, .val (.long pe), .second, .val (.int pg), .val (.long v7), .second, .val (.long v17), .second, .val (.long v29), .second, .val (.int (0 : Int32)), .val (.ref b1), .val (.ref b54), .val (.ref b113), .unset] [(.ref b54), (.ref a316), (.long v7), (.ref b268_fr)])) rfl (by rw [hml]; rfl) (Steps.refl _) (argsL := [(.long v7), (.ref a316), (.ref b54)]) (rest := []) (lenOf pd_28 rfl) rfl (by show 2 * 0 + _ ≤ _; exact Nat.le_of_eq rfl) (hb hby at_134) (fun _ _ => ⟨rfl, e316, (by decide : 11 + 1 ≤ _), (by decide : 56 + 12 ≤ _)⟩)
    dsimp only [Pt.U, Pt.locs, Pt.cells, Pt.slots] at X368 l368 y368 z368 st368 hQ368
    rw [l368, y368, z368] at X368
    obtain ⟨b368_fr, rfl, N368q, K368q, g368_fr, s368_fr, Fq368_0, Fq368_1, Fq368_2, Fq368_3, Fq368_4, Fq368_5, Fq368_6, Fq368_7, Fq368_8, Fq368_9, Fq368_10, Fq368_11, Fq368_12⟩ := hQ368
    have N368 := Fr.app N268 N368q
    refine Go.st (fun _ k => st368.trans k) ?_
    have ne369 := om_ F320.lt s368_fr
    have ne370 := om_ F326.lt s368_fr
    have ne371 := om_ F328.lt s368_fr
    have ne372 := om_ F331.lt s368_fr
    have ne373 := om_ F336.lt s368_fr
    have ne374 := om_ F340.lt s368_fr
    have ne375 := om_ F342.lt s368_fr
    have ne376 := om_ F355.lt s368_fr
    have sz377 : h0.size ≤ b368_fr := Nat.le_trans K318.1 s368_fr
    have Z378 : n0 ≤ T368.heap.size := Nat.le_trans Z317 K368q.1
    have hk379 := Nat.le_trans hk316 K368q.1
    have K380 := K318.trans K368q (fun z hz => absurd hz nm_)
    have F381 := F319.keep K368q all0
    have F382 := F320.keep K368q nm_
    have F383 := F321.keep K368q
    have F384 := own_stakeep F322 K368q
    have F385 := own_stakeep F323 K368q
    have F386 := own_stakeep F324 K368q
    have F387 := own_stakeep F325 K368q
    have F388 := F326.keep K368q
    have F389 := F327.keep K368q nm_
    have F390 := F328.keep K368q nm_
    have F391 := F329.keep K368q
    have F392 := own_stakeep F330 K368q
    have F393 := F331.keep K368q
    have F394 := F332.keep K368q nm_
    have F395 := own_stakeep F333 K368q
    have F396 := own_stakeep F334 K368q
    have F397 := own_stakeep F335 K368q
    have F398 := F336.keep K368q
    have F399 := F337.keep K368q nm_
    have F400 := F338.keep K368q nm_
    have F401 := F339.keep K368q nm_
    have F402 := F340.keep K368q
    have F403 := F341.keep K368q nm_
    have F404 := F342.keep K368q
    have F405 := F343.keep K368q nm_
    have F406 := F344.keep K368q nm_
    have F407 := F345.keep K368q nm_
    have F408 := F346.keep K368q nm_
    have F409 := F347.keep K368q nm_
    have F410 := F348.keep K368q nm_
    have F411 := F349.keep K368q nm_
    have F412 := F350.keep K368q nm_
    have F413 := F351.keep K368q nm_
    have F414 := F352.keep K368q nm_
    have F415 := F353.keep K368q nm_
    have F416 := F354.keep K368q nm_
    have F417 := F355.keep K368q
    have F418 := F356.keep K368q nm_
    have F419 := F357.keep K368q nm_
    have F420 := F358.keep K368q nm_
    have F421 := F359.keep K368q nm_
    have F422 := F360.keep K368q nm_
    have F423 := F361.keep K368q nm_
    have F424 := F362.keep K368q nm_
    have F425 := F363.keep K368q nm_
    have F426 := F364.keep K368q nm_
    have F427 := F365.keep K368q nm_
    have F428 := F366.keep K368q nm_
    have F429 := F367.keep K368q nm_
    show Go _ _ _ _ (T368.setTop (mkF m 137 #[.val (.long pd), .second, .val (.long pa), .second, .val (.int px), .val (.long pb), .second, .val (.long pe), .second, .val (.int pg), .val (.long v7), .second, .val (.long v17), .second, .val (.long v29), .second, .val (.int (0 : Int32)), .val (.ref b1), .val (.ref b54), .val (.ref b113), .unset] [(.ref b368_fr)]))
    refine Go.st (fun _ k => XS.astore X368.here hx rfl (hb hby at_137) rfl rfl (l' := #[.val (.long pd), .second, .val (.long pa), .second, .val (.int px), .val (.long pb), .second, .val (.long pe), .second, .val (.int pg), .val (.long v7), .second, .val (.long v17), .second, .val (.long v29), .second, .val (.int (0 : Int32)), .val (.ref b1), .val (.ref b54), .val (.ref b113), .val (.ref b368_fr)]) rfl k) ?_
    show Go _ _ _ _ (T368.setTop (mkF m 139 #[.val (.long pd), .second, .val (.long pa), .second, .val (.int px), .val (.long pb), .second, .val (.long pe), .second, .val (.int pg), .val (.long v7), .second, .val (.long v17), .second, .val (.long v29), .second, .val (.int (0 : Int32)), .val (.ref b1), .val (.ref b54), .val (.ref b113), .val (.ref b368_fr)] []))
    refine Go.st (fun _ k => XS.iload X368.here hx rfl (hb hby at_139) rfl k) ?_
    show Go _ _ _ _ (T368.setTop (mkF m 141 #[.val (.long pd), .second, .val (.long pa), .second, .val (.int px), .val (.long pb), .second, .val (.long pe), .second, .val (.int pg), .val (.long v7), .second, .val (.long v17), .second, .val (.long v29), .second, .val (.int (0 : Int32)), .val (.ref b1), .val (.ref b54), .val (.ref b113), .val (.ref b368_fr)] [(.int (0 : Int32))]))
    have hl430 : (0 : Int32) = (0 : Int32) := by decide
    refine Go.st (fun _ k => XS.ifYes X368.here hx rfl (pc0 := 141) (pc' := 160) rfl (hb hby at_141) rfl (Jvm.Free.XT.i0_eq_t hl430) (by decide) (by decide) k) ?_
    show Go _ _ _ _ (T368.setTop (mkF m 160 #[.val (.long pd), .second, .val (.long pa), .second, .val (.int px), .val (.long pb), .second, .val (.long pe), .second, .val (.int pg), .val (.long v7), .second, .val (.long v17), .second, .val (.long v29), .second, .val (.int (0 : Int32)), .val (.ref b1), .val (.ref b54), .val (.ref b113), .val (.ref b368_fr)] []))
    refine Go.st (fun _ k => XS.aload X368.here hx rfl (hb hby at_160) rfl rfl k) ?_
    show Go _ _ _ _ (T368.setTop (mkF m 162 #[.val (.long pd), .second, .val (.long pa), .second, .val (.int px), .val (.long pb), .second, .val (.long pe), .second, .val (.int pg), .val (.long v7), .second, .val (.long v17), .second, .val (.long v29), .second, .val (.int (0 : Int32)), .val (.ref b1), .val (.ref b54), .val (.ref b113), .val (.ref b368_fr)] [(.ref b368_fr)]))
    refine Go.st (fun _ k => XS.lload X368.here hx rfl (hb hby at_162) rfl k) ?_
    show Go _ _ _ _ (T368.setTop (mkF m 164 #[.val (.long pd), .second, .val (.long pa), .second, .val (.int px), .val (.long pb), .second, .val (.long pe), .second, .val (.int pg), .val (.long v7), .second, .val (.long v17), .second, .val (.long v29), .second, .val (.int (0 : Int32)), .val (.ref b1), .val (.ref b54), .val (.ref b113), .val (.ref b368_fr)] [(.long v17), (.ref b368_fr)]))
    obtain ⟨cq431, kq431, q431a, q431b, q431c⟩ := isOf hZ316 (rfl : T368.heap = T368.heap) Fq368_0
    obtain ⟨_, _, ⟨T431, L431, k431, n431⟩, -, X431, ⟨Lc431, hQ431, l431, y431, z431⟩, st431⟩ := X368.virtualBack hx (y := (⟨"com/example/lapsed/lapsed/Timeout", "retried", "(J)Lcom/example/lapsed/lapsed/Timeout;"⟩ : MethodName)) (z := (⟨"com/example/lapsed/lapsed/Timeout", "retried", "(J)Lcom/example/lapsed/lapsed/Timeout;"⟩ : MethodName)) hown316 (mvT hZ316 (ow hw 341 rfl)) (mvT hZ316 (ow hw 342 rfl)) (notFace_of_selects (args := #[]) (mvT hZ316 (ow hw 344 rfl))) (mvT hZ316 (ow hw 344 rfl)) (mvT hZ316 (ow hw 343 rfl)) (by decide) (backOf (W := 0) (rm_retr l Z a0 hw [] b368_fr v17 a160 a199 pd sd ((0 : Int32) + (1 : Int32)) (1 : Int32) (0 : Int64) (0 : Int64) (0 : Int64) v7 a316 sp T368.heap n0 Z378 Fq368_0 Fq368_1 Fq368_2 Fq368_3 Fq368_4 Fq368_5 Fq368_6 Fq368_7 Fq368_8 Fq368_9 Fq368_10 Fq368_11 Fq368_12 F395) hZ316 (ow hw 345 rfl) (ow hw 225 rfl) (by decide) (by decide)) q431a q431c (g := (mkF m 164 #[.val (.long pd), .second, .val (.long pa), .second, .val (.int px), .val (.long pb), .second, .val (.long pe), .second, .val (.int pg), .val (.long v7), .second, .val (.long v17), .second, .val (.long v29), .second, .val (.int (0 : Int32)), .val (.ref b1), .val (.ref b54), .val (.ref b113), .val (.ref b368_fr)] [(.long v17), (.ref b368_fr)])) rfl (by rw [hml]; rfl) (Steps.refl _) (argsL := [(.long v17)]) (rest := []) (lenOf pd_29 rfl) rfl (by show 2 * 0 + _ ≤ _; exact Nat.le_of_eq rfl) (hb hby at_164) (fun _ _ => ⟨rfl, (rfl : T368.heap = T368.heap), (by decide : 12 + 1 ≤ _), (by decide : 68 + 12 ≤ _)⟩)
    dsimp only [Pt.U, Pt.locs, Pt.cells, Pt.slots] at X431 l431 y431 z431 st431 hQ431
    rw [l431, y431, z431] at X431
    obtain ⟨b431_fr, rfl, N431q, K431q, g431_fr, s431_fr, Fq431_0, Fq431_1, Fq431_2, Fq431_3, Fq431_4, Fq431_5, Fq431_6, Fq431_7, Fq431_8, Fq431_9, Fq431_10, Fq431_11, Fq431_12⟩ := hQ431
    have N431 := Fr.app N368 N431q
    refine Go.st (fun _ k => st431.trans k) ?_
    have ne432 := om_ F382.lt s431_fr
    have ne433 := om_ F388.lt s431_fr
    have ne434 := om_ F390.lt s431_fr
    have ne435 := om_ F393.lt s431_fr
    have ne436 := om_ F398.lt s431_fr
    have ne437 := om_ F402.lt s431_fr
    have ne438 := om_ F404.lt s431_fr
    have ne439 := om_ F417.lt s431_fr
    have ne440 := om_ Fq368_0.lt s431_fr
    have sz441 : h0.size ≤ b431_fr := Nat.le_trans K380.1 s431_fr
    have Z442 : n0 ≤ T431.heap.size := Nat.le_trans Z378 K431q.1
    have hk443 := Nat.le_trans hk379 K431q.1
    have K444 := K380.trans K431q (fun z hz => absurd hz nm_)
    have F445 := F381.keep K431q all0
    have F446 := F382.keep K431q nm_
    have F447 := F383.keep K431q
    have F448 := own_stakeep F384 K431q
    have F449 := own_stakeep F385 K431q
    have F450 := own_stakeep F386 K431q
    have F451 := own_stakeep F387 K431q
    have F452 := F388.keep K431q
    have F453 := F389.keep K431q nm_
    have F454 := F390.keep K431q nm_
    have F455 := F391.keep K431q
    have F456 := own_stakeep F392 K431q
    have F457 := F393.keep K431q
    have F458 := F394.keep K431q nm_
    have F459 := own_stakeep F395 K431q
    have F460 := own_stakeep F396 K431q
    have F461 := own_stakeep F397 K431q
    have F462 := F398.keep K431q
    have F463 := F399.keep K431q nm_
    have F464 := F400.keep K431q nm_
    have F465 := F401.keep K431q nm_
    have F466 := F402.keep K431q
    have F467 := F403.keep K431q nm_
    have F468 := F404.keep K431q
    have F469 := F405.keep K431q nm_
    have F470 := F406.keep K431q nm_
    have F471 := F407.keep K431q nm_
    have F472 := F408.keep K431q nm_
    have F473 := F409.keep K431q nm_
    have F474 := F410.keep K431q nm_
    have F475 := F411.keep K431q nm_
    have F476 := F412.keep K431q nm_
    have F477 := F413.keep K431q nm_
    have F478 := F414.keep K431q nm_
    have F479 := F415.keep K431q nm_
    have F480 := F416.keep K431q nm_
    have F481 := F417.keep K431q
    have F482 := F418.keep K431q nm_
    have F483 := F419.keep K431q nm_
    have F484 := F420.keep K431q nm_
    have F485 := F421.keep K431q nm_
    have F486 := F422.keep K431q nm_
    have F487 := F423.keep K431q nm_
    have F488 := F424.keep K431q nm_
    have F489 := F425.keep K431q nm_
    have F490 := F426.keep K431q nm_
    have F491 := F427.keep K431q nm_
    have F492 := F428.keep K431q nm_
    have F493 := F429.keep K431q nm_
    have F494 := Fq368_0.keep K431q
    have F495 := Fq368_1.keep K431q nm_
    have F496 := Fq368_2.keep K431q nm_
    have F497 := Fq368_3.keep K431q nm_
    have F498 := Fq368_4.keep K431q nm_
    have F499 := Fq368_5.keep K431q nm_
    have F500 := Fq368_6.keep K431q nm_
    have F501 := Fq368_7.keep K431q nm_
    have F502 := Fq368_8.keep K431q nm_
    have F503 := Fq368_9.keep K431q nm_
    have F504 := Fq368_10.keep K431q nm_
    have F505 := Fq368_11.keep K431q nm_
    have F506 := Fq368_12.keep K431q nm_
    show Go _ _ _ _ (T431.setTop (mkF m 167 #[.val (.long pd), .second, .val (.long pa), .second, .val (.int px), .val (.long pb), .second, .val (.long pe), .second, .val (.int pg), .val (.long v7), .second, .val (.long v17), .second, .val (.long v29), .second, .val (.int (0 : Int32)), .val (.ref b1), .val (.ref b54), .val (.ref b113), .val (.ref b368_fr)] [(.ref b431_fr)]))
    obtain ⟨cq507, kq507, q507a, q507b, q507c⟩ := isOf hZ316 (rfl : T431.heap = T431.heap) Fq431_0
    obtain ⟨_, _, ⟨T507, L507, k507, n507⟩, -, X507, ⟨Lc507, hQ507, l507, y507, z507⟩, st507⟩ := X431.virtualBack hx (y := (⟨"com/example/lapsed/lapsed/Timeout", "claimableAt", "()J"⟩ : MethodName)) (z := (⟨"com/example/lapsed/lapsed/Timeout", "claimableAt", "()J"⟩ : MethodName)) hown316 (mvT hZ316 (ow hw 266 rfl)) (mvT hZ316 (ow hw 267 rfl)) (notFace_of_selects (args := #[]) (mvT hZ316 (ow hw 269 rfl))) (mvT hZ316 (ow hw 269 rfl)) (mvT hZ316 (ow hw 268 rfl)) (by decide) (backOf (W := 0) (rm_clm l Z a0 hw [] b431_fr v17 pd T431.heap n0 Z442 Fq431_0 Fq431_10 Fq431_3) hZ316 (ow hw 270 rfl) (ow hw 225 rfl) (by decide) (by decide)) q507a q507c (g := (mkF m 167 #[.val (.long pd), .second, .val (.long pa), .second, .val (.int px), .val (.long pb), .second, .val (.long pe), .second, .val (.int pg), .val (.long v7), .second, .val (.long v17), .second, .val (.long v29), .second, .val (.int (0 : Int32)), .val (.ref b1), .val (.ref b54), .val (.ref b113), .val (.ref b368_fr)] [(.ref b431_fr)])) rfl (by rw [hml]; rfl) (Steps.refl _) (argsL := []) (rest := []) (lenOf pd_17 rfl) rfl (by show 2 * 0 + _ ≤ _; exact Nat.le_of_eq rfl) (hb hby at_167) (fun _ _ => ⟨rfl, (rfl : T431.heap = T431.heap), (by decide : 13 + 0 ≤ _), (by decide : 80 + 0 ≤ _)⟩)
    dsimp only [Pt.U, Pt.locs, Pt.cells, Pt.slots] at X507 l507 y507 z507 st507 hQ507
    rw [l507, y507, z507] at X507
    obtain ⟨rfl, N507q, e507⟩ := hQ507
    have N507 := Fr.app N431 N507q
    refine Go.st (fun _ k => st507.trans k) ?_
    show Go _ _ _ _ (T507.setTop (mkF m 170 #[.val (.long pd), .second, .val (.long pa), .second, .val (.int px), .val (.long pb), .second, .val (.long pe), .second, .val (.int pg), .val (.long v7), .second, .val (.long v17), .second, .val (.long v29), .second, .val (.int (0 : Int32)), .val (.ref b1), .val (.ref b54), .val (.ref b113), .val (.ref b368_fr)] [(.long (cbF v17 pd))]))
    refine Go.st (fun _ k => XS.lload X507.here hx rfl (hb hby at_170) rfl k) ?_
    show Go _ _ _ _ (T507.setTop (mkF m 172 #[.val (.long pd), .second, .val (.long pa), .second, .val (.int px), .val (.long pb), .second, .val (.long pe), .second, .val (.int pg), .val (.long v7), .second, .val (.long v17), .second, .val (.long v29), .second, .val (.int (0 : Int32)), .val (.ref b1), .val (.ref b54), .val (.ref b113), .val (.ref b368_fr)] [(.long v17), (.long (cbF v17 pd))]))
    refine Go.st (fun _ k => Jvm.Free.XT.lcmp X507.here hx rfl (hb hby at_172) rfl k) ?_
    show Go _ _ _ _ (T507.setTop (mkF m 173 #[.val (.long pd), .second, .val (.long pa), .second, .val (.int px), .val (.long pb), .second, .val (.long pe), .second, .val (.int pg), .val (.long v7), .second, .val (.long v17), .second, .val (.long v29), .second, .val (.int (0 : Int32)), .val (.ref b1), .val (.ref b54), .val (.ref b113), .val (.ref b368_fr)] [(.int (Jvm.Free.XT.cmpL (cbF v17 pd) v17))]))
    have hc173 : (cbF v17 pd) = v17 := own_cbn (by have q := own_at1 hqv17; omega)
    refine Go.st (fun _ k => XS.ifYes X507.here hx rfl (pc0 := 173) (pc' := 178) rfl (hb hby at_173) rfl (Jvm.Free.XT.ll_eq_t hc173) (by decide) (by decide) k) ?_
    show Go _ _ _ _ (T507.setTop (mkF m 178 #[.val (.long pd), .second, .val (.long pa), .second, .val (.int px), .val (.long pb), .second, .val (.long pe), .second, .val (.int pg), .val (.long v7), .second, .val (.long v17), .second, .val (.long v29), .second, .val (.int (0 : Int32)), .val (.ref b1), .val (.ref b54), .val (.ref b113), .val (.ref b368_fr)] []))
    refine Go.st (fun _ k => XS.aload X507.here hx rfl (hb hby at_178) rfl rfl k) ?_
    show Go _ _ _ _ (T507.setTop (mkF m 180 #[.val (.long pd), .second, .val (.long pa), .second, .val (.int px), .val (.long pb), .second, .val (.long pe), .second, .val (.int pg), .val (.long v7), .second, .val (.long v17), .second, .val (.long v29), .second, .val (.int (0 : Int32)), .val (.ref b1), .val (.ref b54), .val (.ref b113), .val (.ref b368_fr)] [(.ref b368_fr)]))
    refine Go.st (fun _ k => XS.lload X507.here hx rfl (hb hby at_180) rfl k) ?_
    show Go _ _ _ _ (T507.setTop (mkF m 182 #[.val (.long pd), .second, .val (.long pa), .second, .val (.int px), .val (.long pb), .second, .val (.long pe), .second, .val (.int pg), .val (.long v7), .second, .val (.long v17), .second, .val (.long v29), .second, .val (.int (0 : Int32)), .val (.ref b1), .val (.ref b54), .val (.ref b113), .val (.ref b368_fr)] [(.long pe), (.ref b368_fr)]))
    refine Go.st (fun _ k => XS.aconstNull X507.here hx rfl (hb hby at_182) k) ?_
    show Go _ _ _ _ (T507.setTop (mkF m 183 #[.val (.long pd), .second, .val (.long pa), .second, .val (.int px), .val (.long pb), .second, .val (.long pe), .second, .val (.int pg), .val (.long v7), .second, .val (.long v17), .second, .val (.long v29), .second, .val (.int (0 : Int32)), .val (.ref b1), .val (.ref b54), .val (.ref b113), .val (.ref b368_fr)] [.null, (.long pe), (.ref b368_fr)]))
    obtain ⟨cq508, kq508, q508a, q508b, q508c⟩ := isOf hZ316 e507 F494
    obtain ⟨_, _, ⟨T508, L508, k508, n508⟩, -, X508, ⟨Lc508, hQ508, l508, y508, z508⟩, st508⟩ := X507.virtualBack hx (y := (⟨"com/example/lapsed/lapsed/Timeout", "rescheduled", "(JLjava/lang/String;)Lcom/example/lapsed/lapsed/Timeout;"⟩ : MethodName)) (z := (⟨"com/example/lapsed/lapsed/Timeout", "rescheduled", "(JLjava/lang/String;)Lcom/example/lapsed/lapsed/Timeout;"⟩ : MethodName)) hown316 (mvT hZ316 (ow hw 346 rfl)) (mvT hZ316 (ow hw 347 rfl)) (notFace_of_selects (args := #[]) (mvT hZ316 (ow hw 349 rfl))) (mvT hZ316 (ow hw 349 rfl)) (mvT hZ316 (ow hw 348 rfl)) (by decide) (backOf (W := 0) (rm_resc l Z a0 hw [] b368_fr pe a160 a199 pd sd ((0 : Int32) + (1 : Int32)) (1 : Int32) (0 : Int64) (0 : Int64) (0 : Int64) v7 a316 sp T431.heap n0 Z442 F494 F495 F496 F497 F498 F499 F500 F501 F502 F503 F504 F505 F506 F459) hZ316 (ow hw 350 rfl) (ow hw 225 rfl) (by decide) (by decide)) q508a q508c (g := (mkF m 183 #[.val (.long pd), .second, .val (.long pa), .second, .val (.int px), .val (.long pb), .second, .val (.long pe), .second, .val (.int pg), .val (.long v7), .second, .val (.long v17), .second, .val (.long v29), .second, .val (.int (0 : Int32)), .val (.ref b1), .val (.ref b54), .val (.ref b113), .val (.ref b368_fr)] [.null, (.long pe), (.ref b368_fr)])) rfl (by rw [hml]; rfl) (Steps.refl _) (argsL := [(.long pe), .null]) (rest := []) (lenOf pd_30 rfl) rfl (by show 2 * 0 + _ ≤ _; exact Nat.le_of_eq rfl) (hb hby at_183) (fun _ _ => ⟨rfl, e507, (by decide : 13 + 1 ≤ _), (by decide : 80 + 12 ≤ _)⟩)
    dsimp only [Pt.U, Pt.locs, Pt.cells, Pt.slots] at X508 l508 y508 z508 st508 hQ508
    rw [l508, y508, z508] at X508
    obtain ⟨b508_fr, rfl, N508q, K508q, g508_fr, s508_fr, Fq508_0, Fq508_1, Fq508_2, Fq508_3, Fq508_4, Fq508_5, Fq508_6, Fq508_7, Fq508_8, Fq508_9, Fq508_10, Fq508_11, Fq508_12⟩ := hQ508
    have N508 := Fr.app N507 N508q
    refine Go.st (fun _ k => st508.trans k) ?_
    have ne509 := om_ F446.lt s508_fr
    have ne510 := om_ F452.lt s508_fr
    have ne511 := om_ F454.lt s508_fr
    have ne512 := om_ F457.lt s508_fr
    have ne513 := om_ F462.lt s508_fr
    have ne514 := om_ F466.lt s508_fr
    have ne515 := om_ F468.lt s508_fr
    have ne516 := om_ F481.lt s508_fr
    have ne517 := om_ F494.lt s508_fr
    have ne518 := om_ Fq431_0.lt s508_fr
    have sz519 : h0.size ≤ b508_fr := Nat.le_trans K444.1 s508_fr
    have Z520 : n0 ≤ T508.heap.size := Nat.le_trans Z442 K508q.1
    have hk521 := Nat.le_trans hk443 K508q.1
    have K522 := K444.trans K508q (fun z hz => absurd hz nm_)
    have F523 := F445.keep K508q all0
    have F524 := F446.keep K508q nm_
    have F525 := F447.keep K508q
    have F526 := own_stakeep F448 K508q
    have F527 := own_stakeep F449 K508q
    have F528 := own_stakeep F450 K508q
    have F529 := own_stakeep F451 K508q
    have F530 := F452.keep K508q
    have F531 := F453.keep K508q nm_
    have F532 := F454.keep K508q nm_
    have F533 := F455.keep K508q
    have F534 := own_stakeep F456 K508q
    have F535 := F457.keep K508q
    have F536 := F458.keep K508q nm_
    have F537 := own_stakeep F459 K508q
    have F538 := own_stakeep F460 K508q
    have F539 := own_stakeep F461 K508q
    have F540 := F462.keep K508q
    have F541 := F463.keep K508q nm_
    have F542 := F464.keep K508q nm_
    have F543 := F465.keep K508q nm_
    have F544 := F466.keep K508q
    have F545 := F467.keep K508q nm_
    have F546 := F468.keep K508q
    have F547 := F469.keep K508q nm_
    have F548 := F470.keep K508q nm_
    have F549 := F471.keep K508q nm_
    have F550 := F472.keep K508q nm_
    have F551 := F473.keep K508q nm_
    have F552 := F474.keep K508q nm_
    have F553 := F475.keep K508q nm_
    have F554 := F476.keep K508q nm_
    have F555 := F477.keep K508q nm_
    have F556 := F478.keep K508q nm_
    have F557 := F479.keep K508q nm_
    have F558 := F480.keep K508q nm_
    have F559 := F481.keep K508q
    have F560 := F482.keep K508q nm_
    have F561 := F483.keep K508q nm_
    have F562 := F484.keep K508q nm_
    have F563 := F485.keep K508q nm_
    have F564 := F486.keep K508q nm_
    have F565 := F487.keep K508q nm_
    have F566 := F488.keep K508q nm_
    have F567 := F489.keep K508q nm_
    have F568 := F490.keep K508q nm_
    have F569 := F491.keep K508q nm_
    have F570 := F492.keep K508q nm_
    have F571 := F493.keep K508q nm_
    have F572 := F494.keep K508q
    have F573 := F495.keep K508q nm_
    have F574 := F496.keep K508q nm_
    have F575 := F497.keep K508q nm_
    have F576 := F498.keep K508q nm_
    have F577 := F499.keep K508q nm_
    have F578 := F500.keep K508q nm_
    have F579 := F501.keep K508q nm_
    have F580 := F502.keep K508q nm_
    have F581 := F503.keep K508q nm_
    have F582 := F504.keep K508q nm_
    have F583 := F505.keep K508q nm_
    have F584 := F506.keep K508q nm_
    have F585 := Fq431_0.keep K508q
    have F586 := Fq431_1.keep K508q nm_
    have F587 := Fq431_2.keep K508q nm_
    have F588 := Fq431_3.keep K508q nm_
    have F589 := Fq431_4.keep K508q nm_
    have F590 := Fq431_5.keep K508q nm_
    have F591 := Fq431_6.keep K508q nm_
    have F592 := Fq431_7.keep K508q nm_
    have F593 := Fq431_8.keep K508q nm_
    have F594 := Fq431_9.keep K508q nm_
    have F595 := Fq431_10.keep K508q nm_
    have F596 := Fq431_11.keep K508q nm_
    have F597 := Fq431_12.keep K508q nm_
    show Go _ _ _ _ (T508.setTop (mkF m 186 #[.val (.long pd), .second, .val (.long pa), .second, .val (.int px), .val (.long pb), .second, .val (.long pe), .second, .val (.int pg), .val (.long v7), .second, .val (.long v17), .second, .val (.long v29), .second, .val (.int (0 : Int32)), .val (.ref b1), .val (.ref b54), .val (.ref b113), .val (.ref b368_fr)] [(.ref b508_fr)]))
    obtain ⟨cq598, kq598, q598a, q598b, q598c⟩ := isOf hZ316 (rfl : T508.heap = T508.heap) Fq508_0
    obtain ⟨_, _, ⟨T598, L598, k598, n598⟩, -, X598, ⟨Lc598, hQ598, l598, y598, z598⟩, st598⟩ := X508.virtualBack hx (y := (⟨"com/example/lapsed/lapsed/Timeout", "claimableAt", "()J"⟩ : MethodName)) (z := (⟨"com/example/lapsed/lapsed/Timeout", "claimableAt", "()J"⟩ : MethodName)) hown316 (mvT hZ316 (ow hw 266 rfl)) (mvT hZ316 (ow hw 267 rfl)) (notFace_of_selects (args := #[]) (mvT hZ316 (ow hw 269 rfl))) (mvT hZ316 (ow hw 269 rfl)) (mvT hZ316 (ow hw 268 rfl)) (by decide) (backOf (W := 0) (rm_clm l Z a0 hw [] b508_fr (0 : Int64) pe T508.heap n0 Z520 Fq508_0 Fq508_10 Fq508_3) hZ316 (ow hw 270 rfl) (ow hw 225 rfl) (by decide) (by decide)) q598a q598c (g := (mkF m 186 #[.val (.long pd), .second, .val (.long pa), .second, .val (.int px), .val (.long pb), .second, .val (.long pe), .second, .val (.int pg), .val (.long v7), .second, .val (.long v17), .second, .val (.long v29), .second, .val (.int (0 : Int32)), .val (.ref b1), .val (.ref b54), .val (.ref b113), .val (.ref b368_fr)] [(.ref b508_fr)])) rfl (by rw [hml]; rfl) (Steps.refl _) (argsL := []) (rest := []) (lenOf pd_17 rfl) rfl (by show 2 * 0 + _ ≤ _; exact Nat.le_of_eq rfl) (hb hby at_186) (fun _ _ => ⟨rfl, (rfl : T508.heap = T508.heap), (by decide : 14 + 0 ≤ _), (by decide : 92 + 0 ≤ _)⟩)
    dsimp only [Pt.U, Pt.locs, Pt.cells, Pt.slots] at X598 l598 y598 z598 st598 hQ598
    rw [l598, y598, z598] at X598
    obtain ⟨rfl, N598q, e598⟩ := hQ598
    have N598 := Fr.app N508 N598q
    refine Go.st (fun _ k => st598.trans k) ?_
    show Go _ _ _ _ (T598.setTop (mkF m 189 #[.val (.long pd), .second, .val (.long pa), .second, .val (.int px), .val (.long pb), .second, .val (.long pe), .second, .val (.int pg), .val (.long v7), .second, .val (.long v17), .second, .val (.long v29), .second, .val (.int (0 : Int32)), .val (.ref b1), .val (.ref b54), .val (.ref b113), .val (.ref b368_fr)] [(.long (cbF (0 : Int64) pe))]))
    refine Go.st (fun _ k => XS.lload X598.here hx rfl (hb hby at_189) rfl k) ?_
    show Go _ _ _ _ (T598.setTop (mkF m 191 #[.val (.long pd), .second, .val (.long pa), .second, .val (.int px), .val (.long pb), .second, .val (.long pe), .second, .val (.int pg), .val (.long v7), .second, .val (.long v17), .second, .val (.long v29), .second, .val (.int (0 : Int32)), .val (.ref b1), .val (.ref b54), .val (.ref b113), .val (.ref b368_fr)] [(.long pe), (.long (cbF (0 : Int64) pe))]))
    refine Go.st (fun _ k => Jvm.Free.XT.lcmp X598.here hx rfl (hb hby at_191) rfl k) ?_
    show Go _ _ _ _ (T598.setTop (mkF m 192 #[.val (.long pd), .second, .val (.long pa), .second, .val (.int px), .val (.long pb), .second, .val (.long pe), .second, .val (.int pg), .val (.long v7), .second, .val (.long v17), .second, .val (.long v29), .second, .val (.int (0 : Int32)), .val (.ref b1), .val (.ref b54), .val (.ref b113), .val (.ref b368_fr)] [(.int (Jvm.Free.XT.cmpL (cbF (0 : Int64) pe) pe))]))
    have hc192 : (cbF (0 : Int64) pe) = pe := own_cb0 _
    refine Go.st (fun _ k => XS.ifNo X598.here hx rfl (hb hby at_192) rfl (Jvm.Free.XT.ll_ne_f hc192) k) ?_
    show Go _ _ _ _ (T598.setTop (mkF m 195 #[.val (.long pd), .second, .val (.long pa), .second, .val (.int px), .val (.long pb), .second, .val (.long pe), .second, .val (.int pg), .val (.long v7), .second, .val (.long v17), .second, .val (.long v29), .second, .val (.int (0 : Int32)), .val (.ref b1), .val (.ref b54), .val (.ref b113), .val (.ref b368_fr)] []))
    refine Go.st (fun _ k => XS.iconst X598.here hx rfl (hb hby at_195) k) ?_
    show Go _ _ _ _ (T598.setTop (mkF m 196 #[.val (.long pd), .second, .val (.long pa), .second, .val (.int px), .val (.long pb), .second, .val (.long pe), .second, .val (.int pg), .val (.long v7), .second, .val (.long v17), .second, .val (.long v29), .second, .val (.int (0 : Int32)), .val (.ref b1), .val (.ref b54), .val (.ref b113), .val (.ref b368_fr)] [(.int (1 : Int32))]))
    refine Go.st (fun _ k => XS.goto X598.here hx rfl (pc0 := 196) (pc' := 200) rfl (hb hby at_196) (by decide) (by decide) k) ?_
    show Go _ _ _ _ (T598.setTop (mkF m 200 #[.val (.long pd), .second, .val (.long pa), .second, .val (.int px), .val (.long pb), .second, .val (.long pe), .second, .val (.int pg), .val (.long v7), .second, .val (.long v17), .second, .val (.long v29), .second, .val (.int (0 : Int32)), .val (.ref b1), .val (.ref b54), .val (.ref b113), .val (.ref b368_fr)] [(.int (1 : Int32))]))
    subst hG
    obtain ⟨fs, hr, hrun, hended, hend⟩ := X598.leaveW (s := s) hS316 (by rw [e598]; exact hk521) (v := some (.int (nar .boolean (1 : Int32)))) (fun h => by rw [Bd.returns] at h; cases h)
    refine ⟨_, _, ?_, hrun, hended, _, _, rfl, ?_, hend.1, hend.2.1, hend.2.2.1, hend.2.2.2.mono (by decide) (by decide)⟩
    · exact retN X598 hx (t := .boolean) Bd.returns (by simp) (hb hby at_200) hr
    · show Q_law Z pd pa px pb pe pg de kd ca cc em el le kl oe mr sp sc sd h0 n0 _ T598.heap _
      rw [e598]
      exact ⟨rfl, N598, K522⟩
  · skip
    refine Go.st (fun _ k => XS.ifNo X0.here hx rfl (hb hby at_35) rfl (Jvm.Free.XT.i0_eq_f hc35) k) ?_
    show Go _ _ _ _ (s₁.setTop (mkF m 38 #[.val (.long pd), .second, .val (.long pa), .second, .val (.int px), .val (.long pb), .second, .val (.long pe), .second, .val (.int pg), .val (.long v7), .second, .val (.long v17), .second, .val (.long v29), .second, .unset, .unset, .unset, .unset, .unset] []))
    refine Go.st (fun _ k => XS.iconst X0.here hx rfl (hb hby at_38) k) ?_
    show Go _ _ _ _ (s₁.setTop (mkF m 39 #[.val (.long pd), .second, .val (.long pa), .second, .val (.int px), .val (.long pb), .second, .val (.long pe), .second, .val (.int pg), .val (.long v7), .second, .val (.long v17), .second, .val (.long v29), .second, .unset, .unset, .unset, .unset, .unset] [(.int (1 : Int32))]))
    refine Go.st (fun _ k => XS.goto X0.here hx rfl (pc0 := 39) (pc' := 43) rfl (hb hby at_39) (by decide) (by decide) k) ?_
    show Go _ _ _ _ (s₁.setTop (mkF m 43 #[.val (.long pd), .second, .val (.long pa), .second, .val (.int px), .val (.long pb), .second, .val (.long pe), .second, .val (.int pg), .val (.long v7), .second, .val (.long v17), .second, .val (.long v29), .second, .unset, .unset, .unset, .unset, .unset] [(.int (1 : Int32))]))
    refine Go.st (fun _ k => XS.istore X0.here hx rfl (hb hby at_43) rfl (l' := #[.val (.long pd), .second, .val (.long pa), .second, .val (.int px), .val (.long pb), .second, .val (.long pe), .second, .val (.int pg), .val (.long v7), .second, .val (.long v17), .second, .val (.long v29), .second, .val (.int (1 : Int32)), .unset, .unset, .unset, .unset]) rfl k) ?_
    show Go _ _ _ _ (s₁.setTop (mkF m 45 #[.val (.long pd), .second, .val (.long pa), .second, .val (.int px), .val (.long pb), .second, .val (.long pe), .second, .val (.int pg), .val (.long v7), .second, .val (.long v17), .second, .val (.long v29), .second, .val (.int (1 : Int32)), .unset, .unset, .unset, .unset] []))
    obtain ⟨T599, h599, X599, e599, E599, A599, D599, -, st599⟩ := newO X0 hx hZ hown (ow hw 3 rfl) (ow hw 4 rfl) (ow hw 5 rfl) e0 (g := (mkF m 45 #[.val (.long pd), .second, .val (.long pa), .second, .val (.int px), .val (.long pb), .second, .val (.long pe), .second, .val (.int pg), .val (.long v7), .second, .val (.long v17), .second, .val (.long v29), .second, .val (.int (1 : Int32)), .unset, .unset, .unset, .unset] [])) rfl (hb hby at_45) (by decide) (by decide)
    obtain ⟨b599, g599⟩ : ∃ z, z = h0.size := ⟨_, rfl⟩
    rw [← g599] at A599 D599 st599
    refine Go.st st599 ?_
    have ne600 := on_ Pf1.lt g599
    have ne601 := on_ Pf8.lt g599
    have ne602 := on_ Pf10.lt g599
    have ne603 := on_ Pf13.lt g599
    have ge604 : n0 ≤ b599 := Nat.le_trans Z0 (Nat.le_of_eq g599.symm)
    have sz605 : h0.size ≤ b599 := Nat.le_trans K0.1 (Nat.le_of_eq g599.symm)
    have Z606 : n0 ≤ h599.size := Nat.le_trans Z0 E599.1
    have K607 := K0.ext E599
    have hk608 := Nat.le_trans hk0 E599.1
    have F609 := Pf0.ext E599
    have F610 := Pf1.ext E599
    have F611 := Pf2.ext E599
    have F612 := Pf3.ext E599
    have F613 := Pf4.ext E599
    have F614 := Pf6.ext E599
    have F615 := Pf7.ext E599
    have F616 := Pf8.ext E599
    have F617 := Pf9.ext E599
    have F618 := Pf10.ext E599
    have F619 := Pf11.ext E599
    have F620 := Pf12.ext E599
    have F621 := Pf13.ext E599
    have F622 := Pf14.ext E599
    have F623 := Pf16.ext E599
    have F624 := Pf17.ext E599
    have F625 := Pf18.ext E599
    have F626 : Fld Z h599 b599 "java/util/AbstractList" "modCount" "I" (.int (0 : Int32)) := D599 (Or.inl (ow hw 25 rfl)) (ty := .int) (by decide)
    have F627 : Fld Z h599 b599 "java/util/ArrayList" "elementData" "[Ljava/lang/Object;" .null := D599 (Or.inl (ow hw 28 rfl)) (ty := (.array (.object "java/lang/Object"))) (by decide)
    have F628 : Fld Z h599 b599 "java/util/ArrayList" "size" "I" (.int (0 : Int32)) := D599 (Or.inl (ow hw 45 rfl)) (ty := .int) (by decide)
    show Go _ _ _ _ (T599.setTop (mkF m 48 #[.val (.long pd), .second, .val (.long pa), .second, .val (.int px), .val (.long pb), .second, .val (.long pe), .second, .val (.int pg), .val (.long v7), .second, .val (.long v17), .second, .val (.long v29), .second, .val (.int (1 : Int32)), .unset, .unset, .unset, .unset] [(.ref b599)]))
    refine Go.st (fun _ k => XS.dup X599.here hx rfl (hb hby at_48) rfl rfl k) ?_
    show Go _ _ _ _ (T599.setTop (mkF m 49 #[.val (.long pd), .second, .val (.long pa), .second, .val (.int px), .val (.long pb), .second, .val (.long pe), .second, .val (.int pg), .val (.long v7), .second, .val (.long v17), .second, .val (.long v29), .second, .val (.int (1 : Int32)), .unset, .unset, .unset, .unset] [(.ref b599), (.ref b599)]))
    obtain ⟨_, _, ⟨T629, L629, k629, n629⟩, -, X629, ⟨Lc629, hQ629, l629, y629, z629⟩, st629⟩ := X599.specialBack hx (y := (⟨"java/util/ArrayList", "<init>", "()V"⟩ : MethodName)) rfl hown (mvT hZ (ow hw 6 rfl)) (mvT hZ (ow hw 7 rfl)) (mvT hZ (ow hw 8 rfl)) (by decide) (backOf (W := 1) (rm_alin l Z a0 hw [] b599 de h599 n0 Z606 A599 F626 F627 F628 ge604 F612) hZ (ow hw 8 rfl) (ow hw 5 rfl) (by decide) (by decide)) (g := (mkF m 49 #[.val (.long pd), .second, .val (.long pa), .second, .val (.int px), .val (.long pb), .second, .val (.long pe), .second, .val (.int pg), .val (.long v7), .second, .val (.long v17), .second, .val (.long v29), .second, .val (.int (1 : Int32)), .unset, .unset, .unset, .unset] [(.ref b599), (.ref b599)])) rfl (by rw [hml]; rfl) (Steps.refl _) (a := b599) (argsL := []) (rest := [(.ref b599)]) (lenOf pd_0 rfl) rfl (by show 2 * 0 + _ ≤ _; exact Nat.le_of_eq rfl) (hb hby at_49) (fun _ _ => ⟨rfl, e599, (by decide : 1 + 0 ≤ _), (by decide : 3 + 0 ≤ _)⟩)
    dsimp only [Pt.U, Pt.locs, Pt.cells, Pt.slots] at X629 l629 y629 z629 st629 hQ629
    rw [l629, y629, z629] at X629
    obtain ⟨rfl, N629q, K629q, Fq629_0, Fq629_1, Fq629_2, Fq629_3⟩ := hQ629
    have N629 := Fr.app N0 N629q
    refine Go.st (fun _ k => st629.trans k) ?_
    have Z630 : n0 ≤ T629.heap.size := Nat.le_trans Z606 K629q.1
    have hk631 := Nat.le_trans hk608 K629q.1
    have K632 := K607.trans K629q (fun z hz => (List.mem_cons.mp hz).elim (fun q => by rw [q]; exact Or.inr sz605) nn_)
    have F633 := F609.keep K629q (allS ge604 all0)
    have F634 := F610.keep K629q (fun z => (List.mem_cons.mp z).elim ne600 nn_)
    have F635 := F611.keep K629q
    have F636 := own_stakeepW F612 K629q (allS (P := fun x => ∀ c : Cell, h599[x]? = some c → c.vm.isStatics = false) (old_plain F628) all0)
    have F637 := own_stakeepW F613 K629q (allS (P := fun x => ∀ c : Cell, h599[x]? = some c → c.vm.isStatics = false) (old_plain F628) all0)
    have F638 := own_stakeepW F614 K629q (allS (P := fun x => ∀ c : Cell, h599[x]? = some c → c.vm.isStatics = false) (old_plain F628) all0)
    have F639 := own_stakeepW F615 K629q (allS (P := fun x => ∀ c : Cell, h599[x]? = some c → c.vm.isStatics = false) (old_plain F628) all0)
    have F640 := F616.keep K629q
    have F641 := F617.keep K629q (fun z => (List.mem_cons.mp z).elim ne601 nn_)
    have F642 := F618.keep K629q (fun z => (List.mem_cons.mp z).elim ne602 nn_)
    have F643 := F619.keep K629q
    have F644 := own_stakeepW F620 K629q (allS (P := fun x => ∀ c : Cell, h599[x]? = some c → c.vm.isStatics = false) (old_plain F628) all0)
    have F645 := F621.keep K629q
    have F646 := F622.keep K629q (fun z => (List.mem_cons.mp z).elim ne603 nn_)
    have F647 := own_stakeepW F623 K629q (allS (P := fun x => ∀ c : Cell, h599[x]? = some c → c.vm.isStatics = false) (old_plain F628) all0)
    have F648 := own_stakeepW F624 K629q (allS (P := fun x => ∀ c : Cell, h599[x]? = some c → c.vm.isStatics = false) (old_plain F628) all0)
    have F649 := own_stakeepW F625 K629q (allS (P := fun x => ∀ c : Cell, h599[x]? = some c → c.vm.isStatics = false) (old_plain F628) all0)
    have F650 := A599.keep K629q
    show Go _ _ _ _ (T629.setTop (mkF m 52 #[.val (.long pd), .second, .val (.long pa), .second, .val (.int px), .val (.long pb), .second, .val (.long pe), .second, .val (.int pg), .val (.long v7), .second, .val (.long v17), .second, .val (.long v29), .second, .val (.int (1 : Int32)), .unset, .unset, .unset, .unset] [(.ref b599)]))
    refine Go.st (fun _ k => XS.astore X629.here hx rfl (hb hby at_52) rfl rfl (l' := #[.val (.long pd), .second, .val (.long pa), .second, .val (.int px), .val (.long pb), .second, .val (.long pe), .second, .val (.int pg), .val (.long v7), .second, .val (.long v17), .second, .val (.long v29), .second, .val (.int (1 : Int32)), .val (.ref b599), .unset, .unset, .unset]) rfl k) ?_
    show Go _ _ _ _ (T629.setTop (mkF m 54 #[.val (.long pd), .second, .val (.long pa), .second, .val (.int px), .val (.long pb), .second, .val (.long pe), .second, .val (.int pg), .val (.long v7), .second, .val (.long v17), .second, .val (.long v29), .second, .val (.int (1 : Int32)), .val (.ref b599), .unset, .unset, .unset] []))
    refine Go.st (fun _ k => XS.iload X629.here hx rfl (hb hby at_54) rfl k) ?_
    show Go _ _ _ _ (T629.setTop (mkF m 56 #[.val (.long pd), .second, .val (.long pa), .second, .val (.int px), .val (.long pb), .second, .val (.long pe), .second, .val (.int pg), .val (.long v7), .second, .val (.long v17), .second, .val (.long v29), .second, .val (.int (1 : Int32)), .val (.ref b599), .unset, .unset, .unset] [(.int (1 : Int32))]))
    have hl651 : ¬ ((1 : Int32) = (0 : Int32)) := by decide
    refine Go.st (fun _ k => XS.ifNo X629.here hx rfl (hb hby at_56) rfl (Jvm.Free.XT.i0_eq_f hl651) k) ?_
    show Go _ _ _ _ (T629.setTop (mkF m 59 #[.val (.long pd), .second, .val (.long pa), .second, .val (.int px), .val (.long pb), .second, .val (.long pe), .second, .val (.int pg), .val (.long v7), .second, .val (.long v17), .second, .val (.long v29), .second, .val (.int (1 : Int32)), .val (.ref b599), .unset, .unset, .unset] []))
    refine Go.st (fun _ k => XS.aload X629.here hx rfl (hb hby at_59) rfl rfl k) ?_
    show Go _ _ _ _ (T629.setTop (mkF m 61 #[.val (.long pd), .second, .val (.long pa), .second, .val (.int px), .val (.long pb), .second, .val (.long pe), .second, .val (.int pg), .val (.long v7), .second, .val (.long v17), .second, .val (.long v29), .second, .val (.int (1 : Int32)), .val (.ref b599), .unset, .unset, .unset] [(.ref b599)]))
    refine Go.st (fun _ k => XS.lload X629.here hx rfl (hb hby at_61) rfl k) ?_
    show Go _ _ _ _ (T629.setTop (mkF m 63 #[.val (.long pd), .second, .val (.long pa), .second, .val (.int px), .val (.long pb), .second, .val (.long pe), .second, .val (.int pg), .val (.long v7), .second, .val (.long v17), .second, .val (.long v29), .second, .val (.int (1 : Int32)), .val (.ref b599), .unset, .unset, .unset] [(.long v29), (.ref b599)]))
    obtain ⟨_, _, ⟨T652, L652, k652, n652⟩, -, X652, ⟨Lc652, hQ652, l652, y652, z652⟩, st652⟩ := Jvm.LawKit.callS X629 hx (y := (⟨"java/lang/Long", "valueOf", "(J)Ljava/lang/Long;"⟩ : MethodName)) hown (mvT hZ (ow hw 29 rfl)) (mvT hZ (ow hw 30 rfl)) (mvT hZ (ow hw 31 rfl)) (mvT hZ (ow hw 32 rfl)) (by decide) (backOf (W := 1) (rm_lgval l Z a0 hw [] v29 ca cc T629.heap n0 Z630 F633 F637 (by show Bxs Z ca cc "java/lang/Long" "J" (256 : Int32) (fun j => .long (j - (128 : Int32)).toInt64); exact hbx) (by show 0 ≤ v29.toInt ∧ v29.toInt < 86400001; exact own_d hqv29)) hZ (ow hw 32 rfl) (ow hw 31 rfl) (by decide) (by decide)) (g := (mkF m 63 #[.val (.long pd), .second, .val (.long pa), .second, .val (.int px), .val (.long pb), .second, .val (.long pe), .second, .val (.int pg), .val (.long v7), .second, .val (.long v17), .second, .val (.long v29), .second, .val (.int (1 : Int32)), .val (.ref b599), .unset, .unset, .unset] [(.long v29), (.ref b599)])) rfl (by rw [hml]; rfl) (argsL := [(.long v29)]) (rest := [(.ref b599)]) (lenOf pd_31 rfl) rfl (by show 2 * 0 + _ ≤ _; exact Nat.le_of_eq rfl) (hb hby at_63) (fun _ _ => ⟨rfl, (rfl : T629.heap = T629.heap), (by decide : 1 + 1 ≤ _), (by decide : 3 + 1 ≤ _)⟩)
    dsimp only [Pt.U, Pt.locs, Pt.cells, Pt.slots] at X652 l652 y652 z652 st652 hQ652
    rw [l652, y652, z652] at X652
    obtain ⟨x652_fr, rfl, N652q, K652q, Fq652_0, Fq652_1⟩ := hQ652
    have N652 := Fr.app N629 N652q
    refine Go.st st652 ?_
    have Z653 : n0 ≤ T652.heap.size := Nat.le_trans Z630 K652q.1
    have hk654 := Nat.le_trans hk631 K652q.1
    have K655 := K632.trans K652q (fun z hz => absurd hz nm_)
    have F656 := F633.keep K652q all0
    have F657 := F634.keep K652q nm_
    have F658 := F635.keep K652q
    have F659 := own_stakeep F636 K652q
    have F660 := own_stakeep F637 K652q
    have F661 := own_stakeep F638 K652q
    have F662 := own_stakeep F639 K652q
    have F663 := F640.keep K652q
    have F664 := F641.keep K652q nm_
    have F665 := F642.keep K652q nm_
    have F666 := F643.keep K652q
    have F667 := own_stakeep F644 K652q
    have F668 := F645.keep K652q
    have F669 := F646.keep K652q nm_
    have F670 := own_stakeep F647 K652q
    have F671 := own_stakeep F648 K652q
    have F672 := own_stakeep F649 K652q
    have F673 := Fq629_0.keep K652q
    have F674 := Fq629_1.keep K652q nm_
    have F675 := Fq629_2.keep K652q nm_
    have F676 := Fq629_3.keep K652q nm_
    show Go _ _ _ _ (T652.setTop (mkF m 66 #[.val (.long pd), .second, .val (.long pa), .second, .val (.int px), .val (.long pb), .second, .val (.long pe), .second, .val (.int pg), .val (.long v7), .second, .val (.long v17), .second, .val (.long v29), .second, .val (.int (1 : Int32)), .val (.ref b599), .unset, .unset, .unset] [(.ref x652_fr), (.ref b599)]))
    obtain ⟨cq677, kq677, q677a, q677b, q677c⟩ := isOf hZ (rfl : T652.heap = T652.heap) F673
    obtain ⟨_, _, ⟨T677, L677, k677, n677⟩, -, X677, ⟨Lc677, hQ677, l677, y677, z677⟩, st677⟩ := X652.virtualBack hx (y := (⟨"java/util/ArrayList", "add", "(Ljava/lang/Object;)Z"⟩ : MethodName)) (z := (⟨"java/util/ArrayList", "add", "(Ljava/lang/Object;)Z"⟩ : MethodName)) hown (mvT hZ (ow hw 37 rfl)) (mvT hZ (ow hw 38 rfl)) (notFace_of_selects (args := #[]) (mvT hZ (ow hw 40 rfl))) (mvT hZ (ow hw 40 rfl)) (mvT hZ (ow hw 39 rfl)) (by decide) (backOf (W := 0) (rm_add1 l Z a0 hw [] b599 x652_fr de kd T652.heap n0 Z653 F673 F674 F675 F676 F657 F658 F659 Fq652_0 ge604) hZ (ow hw 41 rfl) (ow hw 5 rfl) (by decide) (by decide)) q677a q677c (g := (mkF m 66 #[.val (.long pd), .second, .val (.long pa), .second, .val (.int px), .val (.long pb), .second, .val (.long pe), .second, .val (.int pg), .val (.long v7), .second, .val (.long v17), .second, .val (.long v29), .second, .val (.int (1 : Int32)), .val (.ref b599), .unset, .unset, .unset] [(.ref x652_fr), (.ref b599)])) rfl (by rw [hml]; rfl) (Steps.refl _) (argsL := [(.ref x652_fr)]) (rest := []) (lenOf pd_32 rfl) rfl (by show 2 * 0 + _ ≤ _; exact Nat.le_of_eq rfl) (hb hby at_66) (fun _ _ => ⟨rfl, (rfl : T652.heap = T652.heap), (by decide : 2 + 1 ≤ _), (by decide : 4 + 10 ≤ _)⟩)
    dsimp only [Pt.U, Pt.locs, Pt.cells, Pt.slots] at X677 l677 y677 z677 st677 hQ677
    rw [l677, y677, z677] at X677
    obtain ⟨b677_fr, x677_kk, rfl, N677q, K677q, g677_fr, s677_fr, Fq677_0, Fq677_1, Fq677_2, Fq677_3, Fq677_4, Fq677_5, pr677_ov⟩ := hQ677
    have N677 := Fr.app N652 N677q
    refine Go.st (fun _ k => st677.trans k) ?_
    have ne678 := om_ F657.lt s677_fr
    have ne679 := om_ F663.lt s677_fr
    have ne680 := om_ F665.lt s677_fr
    have ne681 := om_ F668.lt s677_fr
    have ne682 := om_ F673.lt s677_fr
    have ne683 := om_ Fq652_0.lt s677_fr
    have sz684 : h0.size ≤ b677_fr := Nat.le_trans K655.1 s677_fr
    have Z685 : n0 ≤ T677.heap.size := Nat.le_trans Z653 K677q.1
    have hk686 := Nat.le_trans hk654 K677q.1
    have K687 := K655.trans K677q (fun z hz => (List.mem_cons.mp hz).elim (fun q => by rw [q]; exact Or.inr sz605) nn_)
    have F688 := F656.keep K677q (allS ge604 all0)
    have F689 := F657.keep K677q (fun z => (List.mem_cons.mp z).elim ne600 nn_)
    have F690 := F658.keep K677q
    have F691 := own_stakeepW F659 K677q (allS (P := fun x => ∀ c : Cell, T652.heap[x]? = some c → c.vm.isStatics = false) (old_plain F676) all0)
    have F692 := own_stakeepW F660 K677q (allS (P := fun x => ∀ c : Cell, T652.heap[x]? = some c → c.vm.isStatics = false) (old_plain F676) all0)
    have F693 := own_stakeepW F661 K677q (allS (P := fun x => ∀ c : Cell, T652.heap[x]? = some c → c.vm.isStatics = false) (old_plain F676) all0)
    have F694 := own_stakeepW F662 K677q (allS (P := fun x => ∀ c : Cell, T652.heap[x]? = some c → c.vm.isStatics = false) (old_plain F676) all0)
    have F695 := F663.keep K677q
    have F696 := F664.keep K677q (fun z => (List.mem_cons.mp z).elim ne601 nn_)
    have F697 := F665.keep K677q (fun z => (List.mem_cons.mp z).elim ne602 nn_)
    have F698 := F666.keep K677q
    have F699 := own_stakeepW F667 K677q (allS (P := fun x => ∀ c : Cell, T652.heap[x]? = some c → c.vm.isStatics = false) (old_plain F676) all0)
    have F700 := F668.keep K677q
    have F701 := F669.keep K677q (fun z => (List.mem_cons.mp z).elim ne603 nn_)
    have F702 := own_stakeepW F670 K677q (allS (P := fun x => ∀ c : Cell, T652.heap[x]? = some c → c.vm.isStatics = false) (old_plain F676) all0)
    have F703 := own_stakeepW F671 K677q (allS (P := fun x => ∀ c : Cell, T652.heap[x]? = some c → c.vm.isStatics = false) (old_plain F676) all0)
    have F704 := own_stakeepW F672 K677q (allS (P := fun x => ∀ c : Cell, T652.heap[x]? = some c → c.vm.isStatics = false) (old_plain F676) all0)
    have F705 := F673.keep K677q
    have F706 := Fq652_0.keep K677q
    have F707 := Fq652_1.keep K677q (fun z => (List.mem_cons.mp z).elim (Exa.ne Fq652_0 F673 (by decide)) nn_)
    show Go _ _ _ _ (T677.setTop (mkF m 69 #[.val (.long pd), .second, .val (.long pa), .second, .val (.int px), .val (.long pb), .second, .val (.long pe), .second, .val (.int pg), .val (.long v7), .second, .val (.long v17), .second, .val (.long v29), .second, .val (.int (1 : Int32)), .val (.ref b599), .unset, .unset, .unset] [(.int (1 : Int32))]))
    refine Go.st (fun _ k => XS.pop X677.here hx rfl (hb hby at_69) rfl rfl k) ?_
    show Go _ _ _ _ (T677.setTop (mkF m 70 #[.val (.long pd), .second, .val (.long pa), .second, .val (.int px), .val (.long pb), .second, .val (.long pe), .second, .val (.int pg), .val (.long v7), .second, .val (.long v17), .second, .val (.long v29), .second, .val (.int (1 : Int32)), .val (.ref b599), .unset, .unset, .unset] []))
    obtain ⟨T708, h708, X708, e708, E708, A708, D708, -, st708⟩ := newO X677 hx hZ hown (ow hw 68 rfl) (ow hw 69 rfl) (ow hw 70 rfl) (rfl : T677.heap = T677.heap) (g := (mkF m 70 #[.val (.long pd), .second, .val (.long pa), .second, .val (.int px), .val (.long pb), .second, .val (.long pe), .second, .val (.int pg), .val (.long v7), .second, .val (.long v17), .second, .val (.long v29), .second, .val (.int (1 : Int32)), .val (.ref b599), .unset, .unset, .unset] [])) rfl (hb hby at_70) (by decide) (by decide)
    obtain ⟨b708, g708⟩ : ∃ z, z = T677.heap.size := ⟨_, rfl⟩
    rw [← g708] at A708 D708 st708
    refine Go.st st708 ?_
    have ne709 := on_ F689.lt g708
    have ne710 := on_ F695.lt g708
    have ne711 := on_ F697.lt g708
    have ne712 := on_ F700.lt g708
    have ne713 := on_ F706.lt g708
    have ne714 := on_ Fq677_0.lt g708
    have ne715 := on_ Fq677_4.lt g708
    have ge716 : n0 ≤ b708 := Nat.le_trans Z685 (Nat.le_of_eq g708.symm)
    have sz717 : h0.size ≤ b708 := Nat.le_trans K687.1 (Nat.le_of_eq g708.symm)
    have Z718 : n0 ≤ h708.size := Nat.le_trans Z685 E708.1
    have K719 := K687.ext E708
    have hk720 := Nat.le_trans hk686 E708.1
    have F721 := F688.ext E708
    have F722 := F689.ext E708
    have F723 := F690.ext E708
    have F724 := F691.ext E708
    have F725 := F692.ext E708
    have F726 := F693.ext E708
    have F727 := F694.ext E708
    have F728 := F695.ext E708
    have F729 := F696.ext E708
    have F730 := F697.ext E708
    have F731 := F698.ext E708
    have F732 := F699.ext E708
    have F733 := F700.ext E708
    have F734 := F701.ext E708
    have F735 := F702.ext E708
    have F736 := F703.ext E708
    have F737 := F704.ext E708
    have F738 := F706.ext E708
    have F739 := F707.ext E708
    have F740 := Fq677_0.ext E708
    have F741 := Fq677_1.ext E708
    have F742 := Fq677_2.ext E708
    have F743 := Fq677_3.ext E708
    have F744 := Fq677_4.ext E708
    have F745 := Fq677_5.ext E708
    have F746 : Fld Z h708 b708 "com/example/lapsed/lapsed/RetryPolicy" "delaysMs" "Ljava/util/List;" .null := D708 (Or.inr (ow hw 222 rfl)) (ty := (.object "java/util/List")) (by decide)
    show Go _ _ _ _ (T708.setTop (mkF m 73 #[.val (.long pd), .second, .val (.long pa), .second, .val (.int px), .val (.long pb), .second, .val (.long pe), .second, .val (.int pg), .val (.long v7), .second, .val (.long v17), .second, .val (.long v29), .second, .val (.int (1 : Int32)), .val (.ref b599), .unset, .unset, .unset] [(.ref b708)]))
    refine Go.st (fun _ k => XS.dup X708.here hx rfl (hb hby at_73) rfl rfl k) ?_
    show Go _ _ _ _ (T708.setTop (mkF m 74 #[.val (.long pd), .second, .val (.long pa), .second, .val (.int px), .val (.long pb), .second, .val (.long pe), .second, .val (.int pg), .val (.long v7), .second, .val (.long v17), .second, .val (.long v29), .second, .val (.int (1 : Int32)), .val (.ref b599), .unset, .unset, .unset] [(.ref b708), (.ref b708)]))
    refine Go.st (fun _ k => XS.aload X708.here hx rfl (hb hby at_74) rfl rfl k) ?_
    show Go _ _ _ _ (T708.setTop (mkF m 76 #[.val (.long pd), .second, .val (.long pa), .second, .val (.int px), .val (.long pb), .second, .val (.long pe), .second, .val (.int pg), .val (.long v7), .second, .val (.long v17), .second, .val (.long v29), .second, .val (.int (1 : Int32)), .val (.ref b599), .unset, .unset, .unset] [(.ref b599), (.ref b708), (.ref b708)]))
    obtain ⟨_, _, ⟨T747, L747, k747, n747⟩, -, X747, ⟨Lc747, hQ747, l747, y747, z747⟩, st747⟩ := X708.specialBack hx (y := (⟨"com/example/lapsed/lapsed/RetryPolicy", "<init>", "(Ljava/util/List;)V"⟩ : MethodName)) rfl hown (mvT hZ (ow hw 71 rfl)) (mvT hZ (ow hw 72 rfl)) (mvT hZ (ow hw 73 rfl)) (by decide) (backOf (W := 1) (rm_rpi1 l Z a0 hw [] b708 b599 b677_fr x652_fr x677_kk (1 : Int32) mr em v29 h708 n0 Z718 A708 F746 F740 F741 F742 F743 F744 F745 F738 F739 (by show Mir Z "[Ljava/lang/Object;" mr; exact hmir) F726 ge716 (by show 0 ≤ v29.toInt ∧ v29.toInt < 86400001; exact own_d hqv29)) hZ (ow hw 73 rfl) (ow hw 70 rfl) (by decide) (by decide)) (g := (mkF m 76 #[.val (.long pd), .second, .val (.long pa), .second, .val (.int px), .val (.long pb), .second, .val (.long pe), .second, .val (.int pg), .val (.long v7), .second, .val (.long v17), .second, .val (.long v29), .second, .val (.int (1 : Int32)), .val (.ref b599), .unset, .unset, .unset] [(.ref b599), (.ref b708), (.ref b708)])) rfl (by rw [hml]; rfl) (Steps.refl _) (a := b708) (argsL := [(.ref b599)]) (rest := [(.ref b708)]) (lenOf pd_26 rfl) rfl (by show 2 * 0 + _ ≤ _; exact Nat.le_of_eq rfl) (hb hby at_76) (fun _ _ => ⟨rfl, e708, (by decide : 4 + 3 ≤ _), (by decide : 15 + 7 ≤ _)⟩)
    dsimp only [Pt.U, Pt.locs, Pt.cells, Pt.slots] at X747 l747 y747 z747 st747 hQ747
    rw [l747, y747, z747] at X747
    obtain ⟨b747_fl, rfl, N747q, K747q, g747_fl, s747_fl, Fq747_0, Fq747_1, Fq747_2, Fq747_3, Fq747_4⟩ := hQ747
    have N747 := Fr.app N677 N747q
    refine Go.st (fun _ k => st747.trans k) ?_
    have ne748 := om_ F722.lt s747_fl
    have ne749 := om_ F728.lt s747_fl
    have ne750 := om_ F730.lt s747_fl
    have ne751 := om_ F733.lt s747_fl
    have ne752 := om_ F738.lt s747_fl
    have ne753 := om_ F740.lt s747_fl
    have ne754 := om_ F744.lt s747_fl
    have ne755 := om_ A708.lt s747_fl
    have sz756 : h0.size ≤ b747_fl := Nat.le_trans K719.1 s747_fl
    have Z757 : n0 ≤ T747.heap.size := Nat.le_trans Z718 K747q.1
    have hk758 := Nat.le_trans hk720 K747q.1
    have K759 := K719.trans K747q (fun z hz => (List.mem_cons.mp hz).elim (fun q => by rw [q]; exact Or.inr sz717) nn_)
    have F760 := F721.keep K747q (allS ge716 all0)
    have F761 := F722.keep K747q (fun z => (List.mem_cons.mp z).elim ne709 nn_)
    have F762 := F723.keep K747q
    have F763 := own_stakeepW F724 K747q (allS (P := fun x => ∀ c : Cell, h708[x]? = some c → c.vm.isStatics = false) (old_plain F746) all0)
    have F764 := own_stakeepW F725 K747q (allS (P := fun x => ∀ c : Cell, h708[x]? = some c → c.vm.isStatics = false) (old_plain F746) all0)
    have F765 := own_stakeepW F726 K747q (allS (P := fun x => ∀ c : Cell, h708[x]? = some c → c.vm.isStatics = false) (old_plain F746) all0)
    have F766 := own_stakeepW F727 K747q (allS (P := fun x => ∀ c : Cell, h708[x]? = some c → c.vm.isStatics = false) (old_plain F746) all0)
    have F767 := F728.keep K747q
    have F768 := F729.keep K747q (fun z => (List.mem_cons.mp z).elim ne710 nn_)
    have F769 := F730.keep K747q (fun z => (List.mem_cons.mp z).elim ne711 nn_)
    have F770 := F731.keep K747q
    have F771 := own_stakeepW F732 K747q (allS (P := fun x => ∀ c : Cell, h708[x]? = some c → c.vm.isStatics = false) (old_plain F746) all0)
    have F772 := F733.keep K747q
    have F773 := F734.keep K747q (fun z => (List.mem_cons.mp z).elim ne712 nn_)
    have F774 := own_stakeepW F735 K747q (allS (P := fun x => ∀ c : Cell, h708[x]? = some c → c.vm.isStatics = false) (old_plain F746) all0)
    have F775 := own_stakeepW F736 K747q (allS (P := fun x => ∀ c : Cell, h708[x]? = some c → c.vm.isStatics = false) (old_plain F746) all0)
    have F776 := own_stakeepW F737 K747q (allS (P := fun x => ∀ c : Cell, h708[x]? = some c → c.vm.isStatics = false) (old_plain F746) all0)
    have F777 := F738.keep K747q
    have F778 := F739.keep K747q (fun z => (List.mem_cons.mp z).elim ne713 nn_)
    have F779 := F740.keep K747q
    have F780 := F741.keep K747q (fun z => (List.mem_cons.mp z).elim ne714 nn_)
    have F781 := F742.keep K747q (fun z => (List.mem_cons.mp z).elim ne714 nn_)
    have F782 := F743.keep K747q (fun z => (List.mem_cons.mp z).elim ne714 nn_)
    have F783 := F744.keep K747q (fun z => (List.mem_cons.mp z).elim ne715 nn_)
    have F784 := F745.keep K747q
    have F785 := A708.keep K747q
    show Go _ _ _ _ (T747.setTop (mkF m 79 #[.val (.long pd), .second, .val (.long pa), .second, .val (.int px), .val (.long pb), .second, .val (.long pe), .second, .val (.int pg), .val (.long v7), .second, .val (.long v17), .second, .val (.long v29), .second, .val (.int (1 : Int32)), .val (.ref b599), .unset, .unset, .unset] [(.ref b708)]))
    refine Go.st (fun _ k => XS.astore X747.here hx rfl (hb hby at_79) rfl rfl (l' := #[.val (.long pd), .second, .val (.long pa), .second, .val (.int px), .val (.long pb), .second, .val (.long pe), .second, .val (.int pg), .val (.long v7), .second, .val (.long v17), .second, .val (.long v29), .second, .val (.int (1 : Int32)), .val (.ref b599), .val (.ref b708), .unset, .unset]) rfl k) ?_
    show Go _ _ _ _ (T747.setTop (mkF m 81 #[.val (.long pd), .second, .val (.long pa), .second, .val (.int px), .val (.long pb), .second, .val (.long pe), .second, .val (.int pg), .val (.long v7), .second, .val (.long v17), .second, .val (.long v29), .second, .val (.int (1 : Int32)), .val (.ref b599), .val (.ref b708), .unset, .unset] []))
    obtain ⟨T786, h786, X786, e786, E786, A786, D786, -, st786⟩ := newO X747 hx hZ hown (ow hw 223 rfl) (ow hw 224 rfl) (ow hw 225 rfl) (rfl : T747.heap = T747.heap) (g := (mkF m 81 #[.val (.long pd), .second, .val (.long pa), .second, .val (.int px), .val (.long pb), .second, .val (.long pe), .second, .val (.int pg), .val (.long v7), .second, .val (.long v17), .second, .val (.long v29), .second, .val (.int (1 : Int32)), .val (.ref b599), .val (.ref b708), .unset, .unset] [])) rfl (hb hby at_81) (by decide) (by decide)
    obtain ⟨b786, g786⟩ : ∃ z, z = T747.heap.size := ⟨_, rfl⟩
    rw [← g786] at A786 D786 st786
    refine Go.st st786 ?_
    have ne787 := on_ F761.lt g786
    have ne788 := on_ F767.lt g786
    have ne789 := on_ F769.lt g786
    have ne790 := on_ F772.lt g786
    have ne791 := on_ F777.lt g786
    have ne792 := on_ F779.lt g786
    have ne793 := on_ F783.lt g786
    have ne794 := on_ Fq747_0.lt g786
    have ne795 := on_ Fq747_2.lt g786
    have ge796 : n0 ≤ b786 := Nat.le_trans Z757 (Nat.le_of_eq g786.symm)
    have sz797 : h0.size ≤ b786 := Nat.le_trans K759.1 (Nat.le_of_eq g786.symm)
    have Z798 : n0 ≤ h786.size := Nat.le_trans Z757 E786.1
    have K799 := K759.ext E786
    have hk800 := Nat.le_trans hk758 E786.1
    have F801 := F760.ext E786
    have F802 := F761.ext E786
    have F803 := F762.ext E786
    have F804 := F763.ext E786
    have F805 := F764.ext E786
    have F806 := F765.ext E786
    have F807 := F766.ext E786
    have F808 := F767.ext E786
    have F809 := F768.ext E786
    have F810 := F769.ext E786
    have F811 := F770.ext E786
    have F812 := F771.ext E786
    have F813 := F772.ext E786
    have F814 := F773.ext E786
    have F815 := F774.ext E786
    have F816 := F775.ext E786
    have F817 := F776.ext E786
    have F818 := F777.ext E786
    have F819 := F778.ext E786
    have F820 := F779.ext E786
    have F821 := F780.ext E786
    have F822 := F781.ext E786
    have F823 := F782.ext E786
    have F824 := F783.ext E786
    have F825 := F784.ext E786
    have F826 := Fq747_0.ext E786
    have F827 := Fq747_1.ext E786
    have F828 := Fq747_2.ext E786
    have F829 := Fq747_3.ext E786
    have F830 := Fq747_4.ext E786
    have F831 : Fld Z h786 b786 "com/example/lapsed/lapsed/Timeout" "queue" "Ljava/lang/String;" .null := D786 (Or.inr (ow hw 243 rfl)) (ty := (.object "java/lang/String")) (by decide)
    have F832 : Fld Z h786 b786 "com/example/lapsed/lapsed/Timeout" "id" "Ljava/lang/String;" .null := D786 (Or.inr (ow hw 245 rfl)) (ty := (.object "java/lang/String")) (by decide)
    have F833 : Fld Z h786 b786 "com/example/lapsed/lapsed/Timeout" "dueAt" "J" (.long (0 : Int64)) := D786 (Or.inr (ow hw 247 rfl)) (ty := .long) (by decide)
    have F834 : Fld Z h786 b786 "com/example/lapsed/lapsed/Timeout" "payload" "Ljava/lang/String;" .null := D786 (Or.inr (ow hw 249 rfl)) (ty := (.object "java/lang/String")) (by decide)
    have F835 : Fld Z h786 b786 "com/example/lapsed/lapsed/Timeout" "state" "Lcom/example/lapsed/lapsed/State;" .null := D786 (Or.inr (ow hw 251 rfl)) (ty := (.object "com/example/lapsed/lapsed/State")) (by decide)
    have F836 : Fld Z h786 b786 "com/example/lapsed/lapsed/Timeout" "attempt" "I" (.int (0 : Int32)) := D786 (Or.inr (ow hw 253 rfl)) (ty := .int) (by decide)
    have F837 : Fld Z h786 b786 "com/example/lapsed/lapsed/Timeout" "failures" "I" (.int (0 : Int32)) := D786 (Or.inr (ow hw 255 rfl)) (ty := .int) (by decide)
    have F838 : Fld Z h786 b786 "com/example/lapsed/lapsed/Timeout" "claimedAt" "J" (.long (0 : Int64)) := D786 (Or.inr (ow hw 257 rfl)) (ty := .long) (by decide)
    have F839 : Fld Z h786 b786 "com/example/lapsed/lapsed/Timeout" "leaseUntil" "J" (.long (0 : Int64)) := D786 (Or.inr (ow hw 259 rfl)) (ty := .long) (by decide)
    have F840 : Fld Z h786 b786 "com/example/lapsed/lapsed/Timeout" "retryAt" "J" (.long (0 : Int64)) := D786 (Or.inr (ow hw 261 rfl)) (ty := .long) (by decide)
    have F841 : Fld Z h786 b786 "com/example/lapsed/lapsed/Timeout" "deadAt" "J" (.long (0 : Int64)) := D786 (Or.inr (ow hw 263 rfl)) (ty := .long) (by decide)
    have F842 : Fld Z h786 b786 "com/example/lapsed/lapsed/Timeout" "lastError" "Ljava/lang/String;" .null := D786 (Or.inr (ow hw 265 rfl)) (ty := (.object "java/lang/String")) (by decide)
    show Go _ _ _ _ (T786.setTop (mkF m 84 #[.val (.long pd), .second, .val (.long pa), .second, .val (.int px), .val (.long pb), .second, .val (.long pe), .second, .val (.int pg), .val (.long v7), .second, .val (.long v17), .second, .val (.long v29), .second, .val (.int (1 : Int32)), .val (.ref b599), .val (.ref b708), .unset, .unset] [(.ref b786)]))
    refine Go.st (fun _ k => XS.dup X786.here hx rfl (hb hby at_84) rfl rfl k) ?_
    show Go _ _ _ _ (T786.setTop (mkF m 85 #[.val (.long pd), .second, .val (.long pa), .second, .val (.int px), .val (.long pb), .second, .val (.long pe), .second, .val (.int pg), .val (.long v7), .second, .val (.long v17), .second, .val (.long v29), .second, .val (.int (1 : Int32)), .val (.ref b599), .val (.ref b708), .unset, .unset] [(.ref b786), (.ref b786)]))
    obtain ⟨a843, T843, h843, k1843, X843, e843, E843, hS843, hk843, hZ843, hown843, st843⟩ := ldcS (s := s) X786 hx hZ hown (ow hw 226 rfl) (fun a ha => hw a (own_strAtoms a ha)) e786 hS0 hk800 (g := (mkF m 85 #[.val (.long pd), .second, .val (.long pa), .second, .val (.int px), .val (.long pb), .second, .val (.long pe), .second, .val (.int pg), .val (.long v7), .second, .val (.long v17), .second, .val (.long v29), .second, .val (.int (1 : Int32)), .val (.ref b599), .val (.ref b708), .unset, .unset] [(.ref b786), (.ref b786)])) rfl (hb hby at_85) (n := 4) (by decide) (by decide) (by decide) (by decide)
    refine Go.st st843 ?_
    have Z844 : n0 ≤ h843.size := Nat.le_trans Z798 E843.1
    have K845 := K799.ext E843
    have F846 := F801.ext E843
    have F847 := F802.ext E843
    have F848 := F803.ext E843
    have F849 := F804.ext E843
    have F850 := F805.ext E843
    have F851 := F806.ext E843
    have F852 := F807.ext E843
    have F853 := F808.ext E843
    have F854 := F809.ext E843
    have F855 := F810.ext E843
    have F856 := F811.ext E843
    have F857 := F812.ext E843
    have F858 := F813.ext E843
    have F859 := F814.ext E843
    have F860 := F815.ext E843
    have F861 := F816.ext E843
    have F862 := F817.ext E843
    have F863 := F818.ext E843
    have F864 := F819.ext E843
    have F865 := F820.ext E843
    have F866 := F821.ext E843
    have F867 := F822.ext E843
    have F868 := F823.ext E843
    have F869 := F824.ext E843
    have F870 := F825.ext E843
    have F871 := F826.ext E843
    have F872 := F827.ext E843
    have F873 := F828.ext E843
    have F874 := F829.ext E843
    have F875 := F830.ext E843
    have F876 := A786.ext E843
    have F877 := F831.ext E843
    have F878 := F832.ext E843
    have F879 := F833.ext E843
    have F880 := F834.ext E843
    have F881 := F835.ext E843
    have F882 := F836.ext E843
    have F883 := F837.ext E843
    have F884 := F838.ext E843
    have F885 := F839.ext E843
    have F886 := F840.ext E843
    have F887 := F841.ext E843
    have F888 := F842.ext E843
    show Go _ _ _ _ (T843.setTop (mkF m 87 #[.val (.long pd), .second, .val (.long pa), .second, .val (.int px), .val (.long pb), .second, .val (.long pe), .second, .val (.int pg), .val (.long v7), .second, .val (.long v17), .second, .val (.long v29), .second, .val (.int (1 : Int32)), .val (.ref b599), .val (.ref b708), .unset, .unset] [(.ref a843), (.ref b786), (.ref b786)]))
    obtain ⟨a889, T889, h889, k1889, X889, e889, E889, hS889, hk889, hZ889, hown889, st889⟩ := ldcS (s := s) X843 hx hZ843 hown843 (ow hw 234 rfl) (fun a ha => hw a (own_strAtoms a ha)) e843 hS843 hk843 (g := (mkF m 87 #[.val (.long pd), .second, .val (.long pa), .second, .val (.int px), .val (.long pb), .second, .val (.long pe), .second, .val (.int pg), .val (.long v7), .second, .val (.long v17), .second, .val (.long v29), .second, .val (.int (1 : Int32)), .val (.ref b599), .val (.ref b708), .unset, .unset] [(.ref a843), (.ref b786), (.ref b786)])) rfl (hb hby at_87) (n := 4) (by decide) (by decide) (by decide) (by decide)
    refine Go.st st889 ?_
    have Z890 : n0 ≤ h889.size := Nat.le_trans Z844 E889.1
    have K891 := K845.ext E889
    have F892 := F846.ext E889
    have F893 := F847.ext E889
    have F894 := F848.ext E889
    have F895 := F849.ext E889
    have F896 := F850.ext E889
    have F897 := F851.ext E889
    have F898 := F852.ext E889
    have F899 := F853.ext E889
    have F900 := F854.ext E889
    have F901 := F855.ext E889
    have F902 := F856.ext E889
    have F903 := F857.ext E889
    have F904 := F858.ext E889
    have F905 := F859.ext E889
    have F906 := F860.ext E889
    have F907 := F861.ext E889
    have F908 := F862.ext E889
    have F909 := F863.ext E889
    have F910 := F864.ext E889
    have F911 := F865.ext E889
    have F912 := F866.ext E889
    have F913 := F867.ext E889
    have F914 := F868.ext E889
    have F915 := F869.ext E889
    have F916 := F870.ext E889
    have F917 := F871.ext E889
    have F918 := F872.ext E889
    have F919 := F873.ext E889
    have F920 := F874.ext E889
    have F921 := F875.ext E889
    have F922 := F876.ext E889
    have F923 := F877.ext E889
    have F924 := F878.ext E889
    have F925 := F879.ext E889
    have F926 := F880.ext E889
    have F927 := F881.ext E889
    have F928 := F882.ext E889
    have F929 := F883.ext E889
    have F930 := F884.ext E889
    have F931 := F885.ext E889
    have F932 := F886.ext E889
    have F933 := F887.ext E889
    have F934 := F888.ext E889
    show Go _ _ _ _ (T889.setTop (mkF m 89 #[.val (.long pd), .second, .val (.long pa), .second, .val (.int px), .val (.long pb), .second, .val (.long pe), .second, .val (.int pg), .val (.long v7), .second, .val (.long v17), .second, .val (.long v29), .second, .val (.int (1 : Int32)), .val (.ref b599), .val (.ref b708), .unset, .unset] [(.ref a889), (.ref a843), (.ref b786), (.ref b786)]))
    refine Go.st (fun _ k => XS.lloadN X889.here hx rfl (hb hby at_89) rfl k) ?_
    show Go _ _ _ _ (T889.setTop (mkF m 90 #[.val (.long pd), .second, .val (.long pa), .second, .val (.int px), .val (.long pb), .second, .val (.long pe), .second, .val (.int pg), .val (.long v7), .second, .val (.long v17), .second, .val (.long v29), .second, .val (.int (1 : Int32)), .val (.ref b599), .val (.ref b708), .unset, .unset] [(.long pd), (.ref a889), (.ref a843), (.ref b786), (.ref b786)]))
    refine Go.st (fun _ k => XS.aconstNull X889.here hx rfl (hb hby at_90) k) ?_
    show Go _ _ _ _ (T889.setTop (mkF m 91 #[.val (.long pd), .second, .val (.long pa), .second, .val (.int px), .val (.long pb), .second, .val (.long pe), .second, .val (.int pg), .val (.long v7), .second, .val (.long v17), .second, .val (.long v29), .second, .val (.int (1 : Int32)), .val (.ref b599), .val (.ref b708), .unset, .unset] [.null, (.long pd), (.ref a889), (.ref a843), (.ref b786), (.ref b786)]))
    obtain ⟨T935, X935, e935, st935⟩ := getS2 X889 hx hZ889 hown889 (host := "") (Or.inl (ow hw 235 rfl)) Via.refl e889 F906 (g := (mkF m 91 #[.val (.long pd), .second, .val (.long pa), .second, .val (.int px), .val (.long pb), .second, .val (.long pe), .second, .val (.int pg), .val (.long v7), .second, .val (.long v17), .second, .val (.long v29), .second, .val (.int (1 : Int32)), .val (.ref b599), .val (.ref b708), .unset, .unset] [.null, (.long pd), (.ref a889), (.ref a843), (.ref b786), (.ref b786)])) rfl (hb hby at_91)
    refine Go.st st935 ?_
    show Go _ _ _ _ (T935.setTop (mkF m 94 #[.val (.long pd), .second, .val (.long pa), .second, .val (.int px), .val (.long pb), .second, .val (.long pe), .second, .val (.int pg), .val (.long v7), .second, .val (.long v17), .second, .val (.long v29), .second, .val (.int (1 : Int32)), .val (.ref b599), .val (.ref b708), .unset, .unset] [(.ref sp), .null, (.long pd), (.ref a889), (.ref a843), (.ref b786), (.ref b786)]))
    refine Go.st (fun _ k => XS.iconst X935.here hx rfl (hb hby at_94) k) ?_
    show Go _ _ _ _ (T935.setTop (mkF m 95 #[.val (.long pd), .second, .val (.long pa), .second, .val (.int px), .val (.long pb), .second, .val (.long pe), .second, .val (.int pg), .val (.long v7), .second, .val (.long v17), .second, .val (.long v29), .second, .val (.int (1 : Int32)), .val (.ref b599), .val (.ref b708), .unset, .unset] [(.int (0 : Int32)), (.ref sp), .null, (.long pd), (.ref a889), (.ref a843), (.ref b786), (.ref b786)]))
    refine Go.st (fun _ k => XS.iconst X935.here hx rfl (hb hby at_95) k) ?_
    show Go _ _ _ _ (T935.setTop (mkF m 96 #[.val (.long pd), .second, .val (.long pa), .second, .val (.int px), .val (.long pb), .second, .val (.long pe), .second, .val (.int pg), .val (.long v7), .second, .val (.long v17), .second, .val (.long v29), .second, .val (.int (1 : Int32)), .val (.ref b599), .val (.ref b708), .unset, .unset] [(.int (0 : Int32)), (.int (0 : Int32)), (.ref sp), .null, (.long pd), (.ref a889), (.ref a843), (.ref b786), (.ref b786)]))
    refine Go.st (fun _ k => XS.lconst X935.here hx rfl (hb hby at_96) k) ?_
    show Go _ _ _ _ (T935.setTop (mkF m 97 #[.val (.long pd), .second, .val (.long pa), .second, .val (.int px), .val (.long pb), .second, .val (.long pe), .second, .val (.int pg), .val (.long v7), .second, .val (.long v17), .second, .val (.long v29), .second, .val (.int (1 : Int32)), .val (.ref b599), .val (.ref b708), .unset, .unset] [(.long (0 : Int64)), (.int (0 : Int32)), (.int (0 : Int32)), (.ref sp), .null, (.long pd), (.ref a889), (.ref a843), (.ref b786), (.ref b786)]))
    refine Go.st (fun _ k => XS.lconst X935.here hx rfl (hb hby at_97) k) ?_
    show Go _ _ _ _ (T935.setTop (mkF m 98 #[.val (.long pd), .second, .val (.long pa), .second, .val (.int px), .val (.long pb), .second, .val (.long pe), .second, .val (.int pg), .val (.long v7), .second, .val (.long v17), .second, .val (.long v29), .second, .val (.int (1 : Int32)), .val (.ref b599), .val (.ref b708), .unset, .unset] [(.long (0 : Int64)), (.long (0 : Int64)), (.int (0 : Int32)), (.int (0 : Int32)), (.ref sp), .null, (.long pd), (.ref a889), (.ref a843), (.ref b786), (.ref b786)]))
    refine Go.st (fun _ k => XS.lconst X935.here hx rfl (hb hby at_98) k) ?_
    show Go _ _ _ _ (T935.setTop (mkF m 99 #[.val (.long pd), .second, .val (.long pa), .second, .val (.int px), .val (.long pb), .second, .val (.long pe), .second, .val (.int pg), .val (.long v7), .second, .val (.long v17), .second, .val (.long v29), .second, .val (.int (1 : Int32)), .val (.ref b599), .val (.ref b708), .unset, .unset] [(.long (0 : Int64)), (.long (0 : Int64)), (.long (0 : Int64)), (.int (0 : Int32)), (.int (0 : Int32)), (.ref sp), .null, (.long pd), (.ref a889), (.ref a843), (.ref b786), (.ref b786)]))
    refine Go.st (fun _ k => XS.lconst X935.here hx rfl (hb hby at_99) k) ?_
    show Go _ _ _ _ (T935.setTop (mkF m 100 #[.val (.long pd), .second, .val (.long pa), .second, .val (.int px), .val (.long pb), .second, .val (.long pe), .second, .val (.int pg), .val (.long v7), .second, .val (.long v17), .second, .val (.long v29), .second, .val (.int (1 : Int32)), .val (.ref b599), .val (.ref b708), .unset, .unset] [(.long (0 : Int64)), (.long (0 : Int64)), (.long (0 : Int64)), (.long (0 : Int64)), (.int (0 : Int32)), (.int (0 : Int32)), (.ref sp), .null, (.long pd), (.ref a889), (.ref a843), (.ref b786), (.ref b786)]))
    refine Go.st (fun _ k => XS.aconstNull X935.here hx rfl (hb hby at_100) k) ?_
    show Go _ _ _ _ (T935.setTop (mkF m 101 #[.val (.long pd), .second, .val (.long pa), .second, .val (.int px), .val (.long pb), .second, .val (.long pe), .second, .val (.int pg), .val (.long v7), .second, .val (.long v17), .second, .val (.long v29), .second, .val (.int (1 : Int32)), .val (.ref b599), .val (.ref b708), .unset, .unset] [.null, (.long (0 : Int64)), (.long (0 : Int64)), (.long (0 : Int64)), (.long (0 : Int64)), (.int (0 : Int32)), (.int (0 : Int32)), (.ref sp), .null, (.long pd), (.ref a889), (.ref a843), (.ref b786), (.ref b786)]))
    obtain ⟨_, _, ⟨T936, L936, k936, n936⟩, -, X936, ⟨Lc936, hQ936, l936, y936, z936⟩, st936⟩ := X935.specialBack hx (y := (⟨"com/example/lapsed/lapsed/Timeout", "<init>", "(Ljava/lang/String;Ljava/lang/String;JLjava/lang/String;Lcom/example/lapsed/lapsed/State;IIJJJJLjava/lang/String;)V"⟩ : MethodName)) rfl hown889 (mvT hZ889 (ow hw 238 rfl)) (mvT hZ889 (ow hw 239 rfl)) (mvT hZ889 (ow hw 240 rfl)) (by decide) (backOf (W := 1) (rm_tin0 l Z a0 hw [] b786 a843 a889 pd sp (0 : Int32) (0 : Int32) (0 : Int64) (0 : Int64) (0 : Int64) (0 : Int64) h889 n0 Z890 F922 F923 F924 F925 F926 F927 F928 F929 F930 F931 F932 F933 F934 ge796) hZ889 (ow hw 240 rfl) (ow hw 225 rfl) (by decide) (by decide)) (g := (mkF m 101 #[.val (.long pd), .second, .val (.long pa), .second, .val (.int px), .val (.long pb), .second, .val (.long pe), .second, .val (.int pg), .val (.long v7), .second, .val (.long v17), .second, .val (.long v29), .second, .val (.int (1 : Int32)), .val (.ref b599), .val (.ref b708), .unset, .unset] [.null, (.long (0 : Int64)), (.long (0 : Int64)), (.long (0 : Int64)), (.long (0 : Int64)), (.int (0 : Int32)), (.int (0 : Int32)), (.ref sp), .null, (.long pd), (.ref a889), (.ref a843), (.ref b786), (.ref b786)])) rfl (by rw [hml]; rfl) (Steps.refl _) (a := b786) (argsL := [(.ref a843), (.ref a889), (.long pd), .null, (.ref sp), (.int (0 : Int32)), (.int (0 : Int32)), (.long (0 : Int64)), (.long (0 : Int64)), (.long (0 : Int64)), (.long (0 : Int64)), .null]) (rest := [(.ref b786)]) (lenOf pd_22 rfl) rfl (by show 2 * 0 + _ ≤ _; exact Nat.le_of_eq rfl) (hb hby at_101) (fun _ _ => ⟨rfl, e935, (by decide : 12 + 0 ≤ _), (by decide : 50 + 0 ≤ _)⟩)
    dsimp only [Pt.U, Pt.locs, Pt.cells, Pt.slots] at X936 l936 y936 z936 st936 hQ936
    rw [l936, y936, z936] at X936
    obtain ⟨rfl, N936q, K936q, Fq936_0, Fq936_1, Fq936_2, Fq936_3, Fq936_4, Fq936_5, Fq936_6, Fq936_7, Fq936_8, Fq936_9, Fq936_10, Fq936_11, Fq936_12⟩ := hQ936
    have N936 := Fr.app N747 N936q
    refine Go.st (fun _ k => st936.trans k) ?_
    have Z937 : n0 ≤ T936.heap.size := Nat.le_trans Z890 K936q.1
    have hk938 := Nat.le_trans hk889 K936q.1
    have K939 := K891.trans K936q (fun z hz => (List.mem_cons.mp hz).elim (fun q => by rw [q]; exact Or.inr sz797) nn_)
    have F940 := F892.keep K936q (allS ge796 all0)
    have F941 := F893.keep K936q (fun z => (List.mem_cons.mp z).elim ne787 nn_)
    have F942 := F894.keep K936q
    have F943 := own_stakeepW F895 K936q (allS (P := fun x => ∀ c : Cell, h889[x]? = some c → c.vm.isStatics = false) (old_plain F934) all0)
    have F944 := own_stakeepW F896 K936q (allS (P := fun x => ∀ c : Cell, h889[x]? = some c → c.vm.isStatics = false) (old_plain F934) all0)
    have F945 := own_stakeepW F897 K936q (allS (P := fun x => ∀ c : Cell, h889[x]? = some c → c.vm.isStatics = false) (old_plain F934) all0)
    have F946 := own_stakeepW F898 K936q (allS (P := fun x => ∀ c : Cell, h889[x]? = some c → c.vm.isStatics = false) (old_plain F934) all0)
    have F947 := F899.keep K936q
    have F948 := F900.keep K936q (fun z => (List.mem_cons.mp z).elim ne788 nn_)
    have F949 := F901.keep K936q (fun z => (List.mem_cons.mp z).elim ne789 nn_)
    have F950 := F902.keep K936q
    have F951 := own_stakeepW F903 K936q (allS (P := fun x => ∀ c : Cell, h889[x]? = some c → c.vm.isStatics = false) (old_plain F934) all0)
    have F952 := F904.keep K936q
    have F953 := F905.keep K936q (fun z => (List.mem_cons.mp z).elim ne790 nn_)
    have F954 := own_stakeepW F906 K936q (allS (P := fun x => ∀ c : Cell, h889[x]? = some c → c.vm.isStatics = false) (old_plain F934) all0)
    have F955 := own_stakeepW F907 K936q (allS (P := fun x => ∀ c : Cell, h889[x]? = some c → c.vm.isStatics = false) (old_plain F934) all0)
    have F956 := own_stakeepW F908 K936q (allS (P := fun x => ∀ c : Cell, h889[x]? = some c → c.vm.isStatics = false) (old_plain F934) all0)
    have F957 := F909.keep K936q
    have F958 := F910.keep K936q (fun z => (List.mem_cons.mp z).elim ne791 nn_)
    have F959 := F911.keep K936q
    have F960 := F912.keep K936q (fun z => (List.mem_cons.mp z).elim ne792 nn_)
    have F961 := F913.keep K936q (fun z => (List.mem_cons.mp z).elim ne792 nn_)
    have F962 := F914.keep K936q (fun z => (List.mem_cons.mp z).elim ne792 nn_)
    have F963 := F915.keep K936q (fun z => (List.mem_cons.mp z).elim ne793 nn_)
    have F964 := F916.keep K936q
    have F965 := F917.keep K936q
    have F966 := F918.keep K936q (fun z => (List.mem_cons.mp z).elim ne794 nn_)
    have F967 := F919.keep K936q
    have F968 := F920.keep K936q (fun z => (List.mem_cons.mp z).elim ne795 nn_)
    have F969 := F921.keep K936q (fun z => (List.mem_cons.mp z).elim ne795 nn_)
    have F970 := F922.keep K936q
    show Go _ _ _ _ (T936.setTop (mkF m 104 #[.val (.long pd), .second, .val (.long pa), .second, .val (.int px), .val (.long pb), .second, .val (.long pe), .second, .val (.int pg), .val (.long v7), .second, .val (.long v17), .second, .val (.long v29), .second, .val (.int (1 : Int32)), .val (.ref b599), .val (.ref b708), .unset, .unset] [(.ref b786)]))
    refine Go.st (fun _ k => XS.astore X936.here hx rfl (hb hby at_104) rfl rfl (l' := #[.val (.long pd), .second, .val (.long pa), .second, .val (.int px), .val (.long pb), .second, .val (.long pe), .second, .val (.int pg), .val (.long v7), .second, .val (.long v17), .second, .val (.long v29), .second, .val (.int (1 : Int32)), .val (.ref b599), .val (.ref b708), .val (.ref b786), .unset]) rfl k) ?_
    show Go _ _ _ _ (T936.setTop (mkF m 106 #[.val (.long pd), .second, .val (.long pa), .second, .val (.int px), .val (.long pb), .second, .val (.long pe), .second, .val (.int pg), .val (.long v7), .second, .val (.long v17), .second, .val (.long v29), .second, .val (.int (1 : Int32)), .val (.ref b599), .val (.ref b708), .val (.ref b786), .unset] []))
    refine Go.st (fun _ k => XS.aload X936.here hx rfl (hb hby at_106) rfl rfl k) ?_
    show Go _ _ _ _ (T936.setTop (mkF m 108 #[.val (.long pd), .second, .val (.long pa), .second, .val (.int px), .val (.long pb), .second, .val (.long pe), .second, .val (.int pg), .val (.long v7), .second, .val (.long v17), .second, .val (.long v29), .second, .val (.int (1 : Int32)), .val (.ref b599), .val (.ref b708), .val (.ref b786), .unset] [(.ref b786)]))
    obtain ⟨cq971, kq971, q971a, q971b, q971c⟩ := isOf hZ889 (rfl : T936.heap = T936.heap) Fq936_0
    obtain ⟨_, _, ⟨T971, L971, k971, n971⟩, -, X971, ⟨Lc971, hQ971, l971, y971, z971⟩, st971⟩ := X936.virtualBack hx (y := (⟨"com/example/lapsed/lapsed/Timeout", "claimableAt", "()J"⟩ : MethodName)) (z := (⟨"com/example/lapsed/lapsed/Timeout", "claimableAt", "()J"⟩ : MethodName)) hown889 (mvT hZ889 (ow hw 266 rfl)) (mvT hZ889 (ow hw 267 rfl)) (notFace_of_selects (args := #[]) (mvT hZ889 (ow hw 269 rfl))) (mvT hZ889 (ow hw 269 rfl)) (mvT hZ889 (ow hw 268 rfl)) (by decide) (backOf (W := 0) (rm_clm l Z a0 hw [] b786 (0 : Int64) pd T936.heap n0 Z937 Fq936_0 Fq936_10 Fq936_3) hZ889 (ow hw 270 rfl) (ow hw 225 rfl) (by decide) (by decide)) q971a q971c (g := (mkF m 108 #[.val (.long pd), .second, .val (.long pa), .second, .val (.int px), .val (.long pb), .second, .val (.long pe), .second, .val (.int pg), .val (.long v7), .second, .val (.long v17), .second, .val (.long v29), .second, .val (.int (1 : Int32)), .val (.ref b599), .val (.ref b708), .val (.ref b786), .unset] [(.ref b786)])) rfl (by rw [hml]; rfl) (Steps.refl _) (argsL := []) (rest := []) (lenOf pd_17 rfl) rfl (by show 2 * 0 + _ ≤ _; exact Nat.le_of_eq rfl) (hb hby at_108) (fun _ _ => ⟨rfl, (rfl : T936.heap = T936.heap), (by decide : 12 + 0 ≤ _), (by decide : 50 + 0 ≤ _)⟩)
    dsimp only [Pt.U, Pt.locs, Pt.cells, Pt.slots] at X971 l971 y971 z971 st971 hQ971
    rw [l971, y971, z971] at X971
    obtain ⟨rfl, N971q, e971⟩ := hQ971
    have N971 := Fr.app N936 N971q
    refine Go.st (fun _ k => st971.trans k) ?_
    show Go _ _ _ _ (T971.setTop (mkF m 111 #[.val (.long pd), .second, .val (.long pa), .second, .val (.int px), .val (.long pb), .second, .val (.long pe), .second, .val (.int pg), .val (.long v7), .second, .val (.long v17), .second, .val (.long v29), .second, .val (.int (1 : Int32)), .val (.ref b599), .val (.ref b708), .val (.ref b786), .unset] [(.long (cbF (0 : Int64) pd))]))
    refine Go.st (fun _ k => XS.lloadN X971.here hx rfl (hb hby at_111) rfl k) ?_
    show Go _ _ _ _ (T971.setTop (mkF m 112 #[.val (.long pd), .second, .val (.long pa), .second, .val (.int px), .val (.long pb), .second, .val (.long pe), .second, .val (.int pg), .val (.long v7), .second, .val (.long v17), .second, .val (.long v29), .second, .val (.int (1 : Int32)), .val (.ref b599), .val (.ref b708), .val (.ref b786), .unset] [(.long pd), (.long (cbF (0 : Int64) pd))]))
    refine Go.st (fun _ k => Jvm.Free.XT.lcmp X971.here hx rfl (hb hby at_112) rfl k) ?_
    show Go _ _ _ _ (T971.setTop (mkF m 113 #[.val (.long pd), .second, .val (.long pa), .second, .val (.int px), .val (.long pb), .second, .val (.long pe), .second, .val (.int pg), .val (.long v7), .second, .val (.long v17), .second, .val (.long v29), .second, .val (.int (1 : Int32)), .val (.ref b599), .val (.ref b708), .val (.ref b786), .unset] [(.int (Jvm.Free.XT.cmpL (cbF (0 : Int64) pd) pd))]))
    have hc113 : (cbF (0 : Int64) pd) = pd := own_cb0 _
    refine Go.st (fun _ k => XS.ifYes X971.here hx rfl (pc0 := 113) (pc' := 118) rfl (hb hby at_113) rfl (Jvm.Free.XT.ll_eq_t hc113) (by decide) (by decide) k) ?_
    show Go _ _ _ _ (T971.setTop (mkF m 118 #[.val (.long pd), .second, .val (.long pa), .second, .val (.int px), .val (.long pb), .second, .val (.long pe), .second, .val (.int pg), .val (.long v7), .second, .val (.long v17), .second, .val (.long v29), .second, .val (.int (1 : Int32)), .val (.ref b599), .val (.ref b708), .val (.ref b786), .unset] []))
    refine Go.st (fun _ k => XS.aload X971.here hx rfl (hb hby at_118) rfl rfl k) ?_
    show Go _ _ _ _ (T971.setTop (mkF m 120 #[.val (.long pd), .second, .val (.long pa), .second, .val (.int px), .val (.long pb), .second, .val (.long pe), .second, .val (.int pg), .val (.long v7), .second, .val (.long v17), .second, .val (.long v29), .second, .val (.int (1 : Int32)), .val (.ref b599), .val (.ref b708), .val (.ref b786), .unset] [(.ref b786)]))
    refine Go.st (fun _ k => XS.lload X971.here hx rfl (hb hby at_120) rfl k) ?_
    show Go _ _ _ _ (T971.setTop (mkF m 122 #[.val (.long pd), .second, .val (.long pa), .second, .val (.int px), .val (.long pb), .second, .val (.long pe), .second, .val (.int pg), .val (.long v7), .second, .val (.long v17), .second, .val (.long v29), .second, .val (.int (1 : Int32)), .val (.ref b599), .val (.ref b708), .val (.ref b786), .unset] [(.long v7), (.ref b786)]))
    refine Go.st (fun _ k => XS.iload X971.here hx rfl (hb hby at_122) rfl k) ?_
    show Go _ _ _ _ (T971.setTop (mkF m 124 #[.val (.long pd), .second, .val (.long pa), .second, .val (.int px), .val (.long pb), .second, .val (.long pe), .second, .val (.int pg), .val (.long v7), .second, .val (.long v17), .second, .val (.long v29), .second, .val (.int (1 : Int32)), .val (.ref b599), .val (.ref b708), .val (.ref b786), .unset] [(.int px), (.long v7), (.ref b786)]))
    refine Go.st (fun _ k => XS.i2l X971.here hx rfl (hb hby at_124) rfl k) ?_
    show Go _ _ _ _ (T971.setTop (mkF m 125 #[.val (.long pd), .second, .val (.long pa), .second, .val (.int px), .val (.long pb), .second, .val (.long pe), .second, .val (.int pg), .val (.long v7), .second, .val (.long v17), .second, .val (.long v29), .second, .val (.int (1 : Int32)), .val (.ref b599), .val (.ref b708), .val (.ref b786), .unset] [(.long (px.toInt64)), (.long v7), (.ref b786)]))
    obtain ⟨cq972, kq972, q972a, q972b, q972c⟩ := isOf hZ889 e971 Fq936_0
    obtain ⟨_, _, ⟨T972, L972, k972, n972⟩, -, X972, ⟨Lc972, hQ972, l972, y972, z972⟩, st972⟩ := X971.virtualBack hx (y := (⟨"com/example/lapsed/lapsed/Timeout", "claimed", "(JJ)Lcom/example/lapsed/lapsed/Timeout;"⟩ : MethodName)) (z := (⟨"com/example/lapsed/lapsed/Timeout", "claimed", "(JJ)Lcom/example/lapsed/lapsed/Timeout;"⟩ : MethodName)) hown889 (mvT hZ889 (ow hw 271 rfl)) (mvT hZ889 (ow hw 272 rfl)) (notFace_of_selects (args := #[]) (mvT hZ889 (ow hw 274 rfl))) (mvT hZ889 (ow hw 274 rfl)) (mvT hZ889 (ow hw 273 rfl)) (by decide) (backOf (W := 0) (rm_clmd l Z a0 hw [] b786 v7 (px.toInt64) a843 a889 pd sp (0 : Int32) (0 : Int32) (0 : Int64) (0 : Int64) (0 : Int64) (0 : Int64) sc T936.heap n0 Z937 Fq936_0 Fq936_1 Fq936_2 Fq936_3 Fq936_4 Fq936_5 Fq936_6 Fq936_7 Fq936_8 Fq936_9 Fq936_10 Fq936_11 Fq936_12 F955) hZ889 (ow hw 275 rfl) (ow hw 225 rfl) (by decide) (by decide)) q972a q972c (g := (mkF m 125 #[.val (.long pd), .second, .val (.long pa), .second, .val (.int px), .val (.long pb), .second, .val (.long pe), .second, .val (.int pg), .val (.long v7), .second, .val (.long v17), .second, .val (.long v29), .second, .val (.int (1 : Int32)), .val (.ref b599), .val (.ref b708), .val (.ref b786), .unset] [(.long (px.toInt64)), (.long v7), (.ref b786)])) rfl (by rw [hml]; rfl) (Steps.refl _) (argsL := [(.long v7), (.long (px.toInt64))]) (rest := []) (lenOf pd_27 rfl) rfl (by show 2 * 0 + _ ≤ _; exact Nat.le_of_eq rfl) (hb hby at_125) (fun _ _ => ⟨rfl, e971, (by decide : 12 + 1 ≤ _), (by decide : 50 + 12 ≤ _)⟩)
    dsimp only [Pt.U, Pt.locs, Pt.cells, Pt.slots] at X972 l972 y972 z972 st972 hQ972
    rw [l972, y972, z972] at X972
    obtain ⟨b972_fr, rfl, N972q, K972q, g972_fr, s972_fr, Fq972_0, Fq972_1, Fq972_2, Fq972_3, Fq972_4, Fq972_5, Fq972_6, Fq972_7, Fq972_8, Fq972_9, Fq972_10, Fq972_11, Fq972_12⟩ := hQ972
    have N972 := Fr.app N971 N972q
    refine Go.st (fun _ k => st972.trans k) ?_
    have ne973 := om_ F941.lt s972_fr
    have ne974 := om_ F947.lt s972_fr
    have ne975 := om_ F949.lt s972_fr
    have ne976 := om_ F952.lt s972_fr
    have ne977 := om_ F957.lt s972_fr
    have ne978 := om_ F959.lt s972_fr
    have ne979 := om_ F963.lt s972_fr
    have ne980 := om_ F965.lt s972_fr
    have ne981 := om_ F967.lt s972_fr
    have ne982 := om_ Fq936_0.lt s972_fr
    have sz983 : h0.size ≤ b972_fr := Nat.le_trans K939.1 s972_fr
    have Z984 : n0 ≤ T972.heap.size := Nat.le_trans Z937 K972q.1
    have hk985 := Nat.le_trans hk938 K972q.1
    have K986 := K939.trans K972q (fun z hz => absurd hz nm_)
    have F987 := F940.keep K972q all0
    have F988 := F941.keep K972q nm_
    have F989 := F942.keep K972q
    have F990 := own_stakeep F943 K972q
    have F991 := own_stakeep F944 K972q
    have F992 := own_stakeep F945 K972q
    have F993 := own_stakeep F946 K972q
    have F994 := F947.keep K972q
    have F995 := F948.keep K972q nm_
    have F996 := F949.keep K972q nm_
    have F997 := F950.keep K972q
    have F998 := own_stakeep F951 K972q
    have F999 := F952.keep K972q
    have F1000 := F953.keep K972q nm_
    have F1001 := own_stakeep F954 K972q
    have F1002 := own_stakeep F955 K972q
    have F1003 := own_stakeep F956 K972q
    have F1004 := F957.keep K972q
    have F1005 := F958.keep K972q nm_
    have F1006 := F959.keep K972q
    have F1007 := F960.keep K972q nm_
    have F1008 := F961.keep K972q nm_
    have F1009 := F962.keep K972q nm_
    have F1010 := F963.keep K972q nm_
    have F1011 := F964.keep K972q
    have F1012 := F965.keep K972q
    have F1013 := F966.keep K972q nm_
    have F1014 := F967.keep K972q
    have F1015 := F968.keep K972q nm_
    have F1016 := F969.keep K972q nm_
    have F1017 := Fq936_0.keep K972q
    have F1018 := Fq936_1.keep K972q nm_
    have F1019 := Fq936_2.keep K972q nm_
    have F1020 := Fq936_3.keep K972q nm_
    have F1021 := Fq936_4.keep K972q nm_
    have F1022 := Fq936_5.keep K972q nm_
    have F1023 := Fq936_6.keep K972q nm_
    have F1024 := Fq936_7.keep K972q nm_
    have F1025 := Fq936_8.keep K972q nm_
    have F1026 := Fq936_9.keep K972q nm_
    have F1027 := Fq936_10.keep K972q nm_
    have F1028 := Fq936_11.keep K972q nm_
    have F1029 := Fq936_12.keep K972q nm_
    show Go _ _ _ _ (T972.setTop (mkF m 128 #[.val (.long pd), .second, .val (.long pa), .second, .val (.int px), .val (.long pb), .second, .val (.long pe), .second, .val (.int pg), .val (.long v7), .second, .val (.long v17), .second, .val (.long v29), .second, .val (.int (1 : Int32)), .val (.ref b599), .val (.ref b708), .val (.ref b786), .unset] [(.ref b972_fr)]))
    refine Go.st (fun _ k => XS.lload X972.here hx rfl (hb hby at_128) rfl k) ?_
    show Go _ _ _ _ (T972.setTop (mkF m 130 #[.val (.long pd), .second, .val (.long pa), .second, .val (.int px), .val (.long pb), .second, .val (.long pe), .second, .val (.int pg), .val (.long v7), .second, .val (.long v17), .second, .val (.long v29), .second, .val (.int (1 : Int32)), .val (.ref b599), .val (.ref b708), .val (.ref b786), .unset] [(.long v7), (.ref b972_fr)]))
    obtain ⟨a1030, T1030, h1030, k11030, X1030, e1030, E1030, hS1030, hk1030, hZ1030, hown1030, st1030⟩ := ldcS (s := s) X972 hx hZ889 hown889 (ow hw 283 rfl) (fun a ha => hw a (own_strAtoms a ha)) (rfl : T972.heap = T972.heap) hS889 hk985 (g := (mkF m 130 #[.val (.long pd), .second, .val (.long pa), .second, .val (.int px), .val (.long pb), .second, .val (.long pe), .second, .val (.int pg), .val (.long v7), .second, .val (.long v17), .second, .val (.long v29), .second, .val (.int (1 : Int32)), .val (.ref b599), .val (.ref b708), .val (.ref b786), .unset] [(.long v7), (.ref b972_fr)])) rfl (hb hby at_130) (n := 4) (by decide) (by decide) (by decide) (by decide)
    refine Go.st st1030 ?_
    have Z1031 : n0 ≤ h1030.size := Nat.le_trans Z984 E1030.1
    have K1032 := K986.ext E1030
    have F1033 := F987.ext E1030
    have F1034 := F988.ext E1030
    have F1035 := F989.ext E1030
    have F1036 := F990.ext E1030
    have F1037 := F991.ext E1030
    have F1038 := F992.ext E1030
    have F1039 := F993.ext E1030
    have F1040 := F994.ext E1030
    have F1041 := F995.ext E1030
    have F1042 := F996.ext E1030
    have F1043 := F997.ext E1030
    have F1044 := F998.ext E1030
    have F1045 := F999.ext E1030
    have F1046 := F1000.ext E1030
    have F1047 := F1001.ext E1030
    have F1048 := F1002.ext E1030
    have F1049 := F1003.ext E1030
    have F1050 := F1004.ext E1030
    have F1051 := F1005.ext E1030
    have F1052 := F1006.ext E1030
    have F1053 := F1007.ext E1030
    have F1054 := F1008.ext E1030
    have F1055 := F1009.ext E1030
    have F1056 := F1010.ext E1030
    have F1057 := F1011.ext E1030
    have F1058 := F1012.ext E1030
    have F1059 := F1013.ext E1030
    have F1060 := F1014.ext E1030
    have F1061 := F1015.ext E1030
    have F1062 := F1016.ext E1030
    have F1063 := F1017.ext E1030
    have F1064 := F1018.ext E1030
    have F1065 := F1019.ext E1030
    have F1066 := F1020.ext E1030
    have F1067 := F1021.ext E1030
    have F1068 := F1022.ext E1030
    have F1069 := F1023.ext E1030
    have F1070 := F1024.ext E1030
    have F1071 := F1025.ext E1030
    have F1072 := F1026.ext E1030
    have F1073 := F1027.ext E1030
    have F1074 := F1028.ext E1030
    have F1075 := F1029.ext E1030
    have F1076 := Fq972_0.ext E1030
    have F1077 := Fq972_1.ext E1030
    have F1078 := Fq972_2.ext E1030
    have F1079 := Fq972_3.ext E1030
    have F1080 := Fq972_4.ext E1030
    have F1081 := Fq972_5.ext E1030
    have F1082 := Fq972_6.ext E1030
    have F1083 := Fq972_7.ext E1030
    have F1084 := Fq972_8.ext E1030
    have F1085 := Fq972_9.ext E1030
    have F1086 := Fq972_10.ext E1030
    have F1087 := Fq972_11.ext E1030
    have F1088 := Fq972_12.ext E1030
    show Go _ _ _ _ (T1030.setTop (mkF m 132 #[.val (.long pd), .second, .val (.long pa), .second, .val (.int px), .val (.long pb), .second, .val (.long pe), .second, .val (.int pg), .val (.long v7), .second, .val (.long v17), .second, .val (.long v29), .second, .val (.int (1 : Int32)), .val (.ref b599), .val (.ref b708), .val (.ref b786), .unset] [(.ref a1030), (.long v7), (.ref b972_fr)]))
    refine Go.st (fun _ k => XS.aload X1030.here hx rfl (hb hby at_132) rfl rfl k) ?_
    show Go _ _ _ _ (T1030.setTop (mkF m 134 #[.val (.long pd), .second, .val (.long pa), .second, .val (.int px), .val (.long pb), .second, .val (.long pe), .second, .val (.int pg), .val (.long v7), .second, .val (.long v17), .second, .val (.long v29), .second, .val (.int (1 : Int32)), .val (.ref b599), .val (.ref b708), .val (.ref b786), .unset] [(.ref b708), (.ref a1030), (.long v7), (.ref b972_fr)]))
    obtain ⟨cq1089, kq1089, q1089a, q1089b, q1089c⟩ := isOf hZ1030 e1030 F1076
    obtain ⟨_, _, ⟨T1089, L1089, k1089, n1089⟩, -, X1089, ⟨Lc1089, hQ1089, l1089, y1089, z1089⟩, st1089⟩ := X1030.virtualBack hx (y := (⟨"com/example/lapsed/lapsed/Timeout", "failed", "(JLjava/lang/String;Lcom/example/lapsed/lapsed/RetryPolicy;)Lcom/example/lapsed/lapsed/Timeout;"⟩ : MethodName)) (z := (⟨"com/example/lapsed/lapsed/Timeout", "failed", "(JLjava/lang/String;Lcom/example/lapsed/lapsed/RetryPolicy;)Lcom/example/lapsed/lapsed/Timeout;"⟩ : MethodName)) hown1030 (mvT hZ1030 (ow hw 284 rfl)) (mvT hZ1030 (ow hw 285 rfl)) (notFace_of_selects (args := #[]) (mvT hZ1030 (ow hw 287 rfl))) (mvT hZ1030 (ow hw 287 rfl)) (mvT hZ1030 (ow hw 286 rfl)) (by decide) (backOf (W := 0) (rm_fail1 l Z a0 hw [] b972_fr v7 a1030 b708 a843 a889 pd sc ((0 : Int32) + (1 : Int32)) v7 (v7 + (px.toInt64)) (0 : Int64) (0 : Int64) sp b747_fl x652_fr em v29 h1030 n0 Z1031 F1076 F1077 F1078 F1079 F1080 F1081 F1082 F1083 F1084 F1085 F1086 F1087 F1088 F1047 F1058 F1059 F1060 F1061 F1062 F1050 F1051 F1038) hZ1030 (ow hw 288 rfl) (ow hw 225 rfl) (by decide) (by decide)) q1089a q1089c (g := (mkF m 134 #[.val (.long pd), .second, .val (.long pa), .second, .val (.int px), .val (.long pb), .second, .val (.long pe), .second, .val (.int pg), .val (.long v7), .second, .val (.long v17), .second, .val (.long v29), .second, .val (.int (1 : Int32)), .val (.ref b599), .val (.ref b708), .val (.ref b786), .unset] [(.ref b708), (.ref a1030), (.long v7), (.ref b972_fr)])) rfl (by rw [hml]; rfl) (Steps.refl _) (argsL := [(.long v7), (.ref a1030), (.ref b708)]) (rest := []) (lenOf pd_28 rfl) rfl (by show 2 * 0 + _ ≤ _; exact Nat.le_of_eq rfl) (hb hby at_134) (fun _ _ => ⟨rfl, e1030, (by decide : 15 + 2 ≤ _), (by decide : 70 + 14 ≤ _)⟩)
    dsimp only [Pt.U, Pt.locs, Pt.cells, Pt.slots] at X1089 l1089 y1089 z1089 st1089 hQ1089
    rw [l1089, y1089, z1089] at X1089
    obtain ⟨b1089_fr, rfl, N1089q, K1089q, g1089_fr, s1089_fr, Fq1089_0, Fq1089_1, Fq1089_2, Fq1089_3, Fq1089_4, Fq1089_5, Fq1089_6, Fq1089_7, Fq1089_8, Fq1089_9, Fq1089_10, Fq1089_11, Fq1089_12⟩ := hQ1089
    have N1089 := Fr.app N972 N1089q
    refine Go.st (fun _ k => st1089.trans k) ?_
    have ne1090 := om_ F1034.lt s1089_fr
    have ne1091 := om_ F1040.lt s1089_fr
    have ne1092 := om_ F1042.lt s1089_fr
    have ne1093 := om_ F1045.lt s1089_fr
    have ne1094 := om_ F1050.lt s1089_fr
    have ne1095 := om_ F1052.lt s1089_fr
    have ne1096 := om_ F1056.lt s1089_fr
    have ne1097 := om_ F1058.lt s1089_fr
    have ne1098 := om_ F1060.lt s1089_fr
    have ne1099 := om_ F1063.lt s1089_fr
    have ne1100 := om_ F1076.lt s1089_fr
    have sz1101 : h0.size ≤ b1089_fr := Nat.le_trans K1032.1 s1089_fr
    have Z1102 : n0 ≤ T1089.heap.size := Nat.le_trans Z1031 K1089q.1
    have hk1103 := Nat.le_trans hk1030 K1089q.1
    have K1104 := K1032.trans K1089q (fun z hz => absurd hz nm_)
    have F1105 := F1033.keep K1089q all0
    have F1106 := F1034.keep K1089q nm_
    have F1107 := F1035.keep K1089q
    have F1108 := own_stakeep F1036 K1089q
    have F1109 := own_stakeep F1037 K1089q
    have F1110 := own_stakeep F1038 K1089q
    have F1111 := own_stakeep F1039 K1089q
    have F1112 := F1040.keep K1089q
    have F1113 := F1041.keep K1089q nm_
    have F1114 := F1042.keep K1089q nm_
    have F1115 := F1043.keep K1089q
    have F1116 := own_stakeep F1044 K1089q
    have F1117 := F1045.keep K1089q
    have F1118 := F1046.keep K1089q nm_
    have F1119 := own_stakeep F1047 K1089q
    have F1120 := own_stakeep F1048 K1089q
    have F1121 := own_stakeep F1049 K1089q
    have F1122 := F1050.keep K1089q
    have F1123 := F1051.keep K1089q nm_
    have F1124 := F1052.keep K1089q
    have F1125 := F1053.keep K1089q nm_
    have F1126 := F1054.keep K1089q nm_
    have F1127 := F1055.keep K1089q nm_
    have F1128 := F1056.keep K1089q nm_
    have F1129 := F1057.keep K1089q
    have F1130 := F1058.keep K1089q
    have F1131 := F1059.keep K1089q nm_
    have F1132 := F1060.keep K1089q
    have F1133 := F1061.keep K1089q nm_
    have F1134 := F1062.keep K1089q nm_
    have F1135 := F1063.keep K1089q
    have F1136 := F1064.keep K1089q nm_
    have F1137 := F1065.keep K1089q nm_
    have F1138 := F1066.keep K1089q nm_
    have F1139 := F1067.keep K1089q nm_
    have F1140 := F1068.keep K1089q nm_
    have F1141 := F1069.keep K1089q nm_
    have F1142 := F1070.keep K1089q nm_
    have F1143 := F1071.keep K1089q nm_
    have F1144 := F1072.keep K1089q nm_
    have F1145 := F1073.keep K1089q nm_
    have F1146 := F1074.keep K1089q nm_
    have F1147 := F1075.keep K1089q nm_
    have F1148 := F1076.keep K1089q
    have F1149 := F1077.keep K1089q nm_
    have F1150 := F1078.keep K1089q nm_
    have F1151 := F1079.keep K1089q nm_
    have F1152 := F1080.keep K1089q nm_
    have F1153 := F1081.keep K1089q nm_
    have F1154 := F1082.keep K1089q nm_
    have F1155 := F1083.keep K1089q nm_
    have F1156 := F1084.keep K1089q nm_
    have F1157 := F1085.keep K1089q nm_
    have F1158 := F1086.keep K1089q nm_
    have F1159 := F1087.keep K1089q nm_
    have F1160 := F1088.keep K1089q nm_
    show Go _ _ _ _ (T1089.setTop (mkF m 137 #[.val (.long pd), .second, .val (.long pa), .second, .val (.int px), .val (.long pb), .second, .val (.long pe), .second, .val (.int pg), .val (.long v7), .second, .val (.long v17), .second, .val (.long v29), .second, .val (.int (1 : Int32)), .val (.ref b599), .val (.ref b708), .val (.ref b786), .unset] [(.ref b1089_fr)]))
    refine Go.st (fun _ k => XS.astore X1089.here hx rfl (hb hby at_137) rfl rfl (l' := #[.val (.long pd), .second, .val (.long pa), .second, .val (.int px), .val (.long pb), .second, .val (.long pe), .second, .val (.int pg), .val (.long v7), .second, .val (.long v17), .second, .val (.long v29), .second, .val (.int (1 : Int32)), .val (.ref b599), .val (.ref b708), .val (.ref b786), .val (.ref b1089_fr)]) rfl k) ?_
    show Go _ _ _ _ (T1089.setTop (mkF m 139 #[.val (.long pd), .second, .val (.long pa), .second, .val (.int px), .val (.long pb), .second, .val (.long pe), .second, .val (.int pg), .val (.long v7), .second, .val (.long v17), .second, .val (.long v29), .second, .val (.int (1 : Int32)), .val (.ref b599), .val (.ref b708), .val (.ref b786), .val (.ref b1089_fr)] []))
    refine Go.st (fun _ k => XS.iload X1089.here hx rfl (hb hby at_139) rfl k) ?_
    show Go _ _ _ _ (T1089.setTop (mkF m 141 #[.val (.long pd), .second, .val (.long pa), .second, .val (.int px), .val (.long pb), .second, .val (.long pe), .second, .val (.int pg), .val (.long v7), .second, .val (.long v17), .second, .val (.long v29), .second, .val (.int (1 : Int32)), .val (.ref b599), .val (.ref b708), .val (.ref b786), .val (.ref b1089_fr)] [(.int (1 : Int32))]))
    have hl1161 : ¬ ((1 : Int32) = (0 : Int32)) := by decide
    refine Go.st (fun _ k => XS.ifNo X1089.here hx rfl (hb hby at_141) rfl (Jvm.Free.XT.i0_eq_f hl1161) k) ?_
    show Go _ _ _ _ (T1089.setTop (mkF m 144 #[.val (.long pd), .second, .val (.long pa), .second, .val (.int px), .val (.long pb), .second, .val (.long pe), .second, .val (.int pg), .val (.long v7), .second, .val (.long v17), .second, .val (.long v29), .second, .val (.int (1 : Int32)), .val (.ref b599), .val (.ref b708), .val (.ref b786), .val (.ref b1089_fr)] []))
    refine Go.st (fun _ k => XS.aload X1089.here hx rfl (hb hby at_144) rfl rfl k) ?_
    show Go _ _ _ _ (T1089.setTop (mkF m 146 #[.val (.long pd), .second, .val (.long pa), .second, .val (.int px), .val (.long pb), .second, .val (.long pe), .second, .val (.int pg), .val (.long v7), .second, .val (.long v17), .second, .val (.long v29), .second, .val (.int (1 : Int32)), .val (.ref b599), .val (.ref b708), .val (.ref b786), .val (.ref b1089_fr)] [(.ref b1089_fr)]))
    obtain ⟨cq1162, kq1162, q1162a, q1162b, q1162c⟩ := isOf hZ1030 (rfl : T1089.heap = T1089.heap) Fq1089_0
    obtain ⟨_, _, ⟨T1162, L1162, k1162, n1162⟩, -, X1162, ⟨Lc1162, hQ1162, l1162, y1162, z1162⟩, st1162⟩ := X1089.virtualBack hx (y := (⟨"com/example/lapsed/lapsed/Timeout", "claimableAt", "()J"⟩ : MethodName)) (z := (⟨"com/example/lapsed/lapsed/Timeout", "claimableAt", "()J"⟩ : MethodName)) hown1030 (mvT hZ1030 (ow hw 266 rfl)) (mvT hZ1030 (ow hw 267 rfl)) (notFace_of_selects (args := #[]) (mvT hZ1030 (ow hw 269 rfl))) (mvT hZ1030 (ow hw 269 rfl)) (mvT hZ1030 (ow hw 268 rfl)) (by decide) (backOf (W := 0) (rm_clm l Z a0 hw [] b1089_fr (v7 + v29) pd T1089.heap n0 Z1102 Fq1089_0 Fq1089_10 Fq1089_3) hZ1030 (ow hw 270 rfl) (ow hw 225 rfl) (by decide) (by decide)) q1162a q1162c (g := (mkF m 146 #[.val (.long pd), .second, .val (.long pa), .second, .val (.int px), .val (.long pb), .second, .val (.long pe), .second, .val (.int pg), .val (.long v7), .second, .val (.long v17), .second, .val (.long v29), .second, .val (.int (1 : Int32)), .val (.ref b599), .val (.ref b708), .val (.ref b786), .val (.ref b1089_fr)] [(.ref b1089_fr)])) rfl (by rw [hml]; rfl) (Steps.refl _) (argsL := []) (rest := []) (lenOf pd_17 rfl) rfl (by show 2 * 0 + _ ≤ _; exact Nat.le_of_eq rfl) (hb hby at_146) (fun _ _ => ⟨rfl, (rfl : T1089.heap = T1089.heap), (by decide : 17 + 0 ≤ _), (by decide : 84 + 0 ≤ _)⟩)
    dsimp only [Pt.U, Pt.locs, Pt.cells, Pt.slots] at X1162 l1162 y1162 z1162 st1162 hQ1162
    rw [l1162, y1162, z1162] at X1162
    obtain ⟨rfl, N1162q, e1162⟩ := hQ1162
    have N1162 := Fr.app N1089 N1162q
    refine Go.st (fun _ k => st1162.trans k) ?_
    show Go _ _ _ _ (T1162.setTop (mkF m 149 #[.val (.long pd), .second, .val (.long pa), .second, .val (.int px), .val (.long pb), .second, .val (.long pe), .second, .val (.int pg), .val (.long v7), .second, .val (.long v17), .second, .val (.long v29), .second, .val (.int (1 : Int32)), .val (.ref b599), .val (.ref b708), .val (.ref b786), .val (.ref b1089_fr)] [(.long (cbF (v7 + v29) pd))]))
    refine Go.st (fun _ k => XS.lload X1162.here hx rfl (hb hby at_149) rfl k) ?_
    show Go _ _ _ _ (T1162.setTop (mkF m 151 #[.val (.long pd), .second, .val (.long pa), .second, .val (.int px), .val (.long pb), .second, .val (.long pe), .second, .val (.int pg), .val (.long v7), .second, .val (.long v17), .second, .val (.long v29), .second, .val (.int (1 : Int32)), .val (.ref b599), .val (.ref b708), .val (.ref b786), .val (.ref b1089_fr)] [(.long v7), (.long (cbF (v7 + v29) pd))]))
    refine Go.st (fun _ k => XS.lload X1162.here hx rfl (hb hby at_151) rfl k) ?_
    show Go _ _ _ _ (T1162.setTop (mkF m 153 #[.val (.long pd), .second, .val (.long pa), .second, .val (.int px), .val (.long pb), .second, .val (.long pe), .second, .val (.int pg), .val (.long v7), .second, .val (.long v17), .second, .val (.long v29), .second, .val (.int (1 : Int32)), .val (.ref b599), .val (.ref b708), .val (.ref b786), .val (.ref b1089_fr)] [(.long v29), (.long v7), (.long (cbF (v7 + v29) pd))]))
    refine Go.st (fun _ k => XS.ladd X1162.here hx rfl (hb hby at_153) rfl k) ?_
    show Go _ _ _ _ (T1162.setTop (mkF m 154 #[.val (.long pd), .second, .val (.long pa), .second, .val (.int px), .val (.long pb), .second, .val (.long pe), .second, .val (.int pg), .val (.long v7), .second, .val (.long v17), .second, .val (.long v29), .second, .val (.int (1 : Int32)), .val (.ref b599), .val (.ref b708), .val (.ref b786), .val (.ref b1089_fr)] [(.long (v7 + v29)), (.long (cbF (v7 + v29) pd))]))
    refine Go.st (fun _ k => Jvm.Free.XT.lcmp X1162.here hx rfl (hb hby at_154) rfl k) ?_
    show Go _ _ _ _ (T1162.setTop (mkF m 155 #[.val (.long pd), .second, .val (.long pa), .second, .val (.int px), .val (.long pb), .second, .val (.long pe), .second, .val (.int pg), .val (.long v7), .second, .val (.long v17), .second, .val (.long v29), .second, .val (.int (1 : Int32)), .val (.ref b599), .val (.ref b708), .val (.ref b786), .val (.ref b1089_fr)] [(.int (Jvm.Free.XT.cmpL (cbF (v7 + v29) pd) (v7 + v29)))]))
    have hc155 : (cbF (v7 + v29) pd) = (v7 + v29) := own_cbn (own_sum (own_at1 hqv7) (own_d hqv29))
    refine Go.st (fun _ k => XS.ifYes X1162.here hx rfl (pc0 := 155) (pc' := 160) rfl (hb hby at_155) rfl (Jvm.Free.XT.ll_eq_t hc155) (by decide) (by decide) k) ?_
    show Go _ _ _ _ (T1162.setTop (mkF m 160 #[.val (.long pd), .second, .val (.long pa), .second, .val (.int px), .val (.long pb), .second, .val (.long pe), .second, .val (.int pg), .val (.long v7), .second, .val (.long v17), .second, .val (.long v29), .second, .val (.int (1 : Int32)), .val (.ref b599), .val (.ref b708), .val (.ref b786), .val (.ref b1089_fr)] []))
    refine Go.st (fun _ k => XS.aload X1162.here hx rfl (hb hby at_160) rfl rfl k) ?_
    show Go _ _ _ _ (T1162.setTop (mkF m 162 #[.val (.long pd), .second, .val (.long pa), .second, .val (.int px), .val (.long pb), .second, .val (.long pe), .second, .val (.int pg), .val (.long v7), .second, .val (.long v17), .second, .val (.long v29), .second, .val (.int (1 : Int32)), .val (.ref b599), .val (.ref b708), .val (.ref b786), .val (.ref b1089_fr)] [(.ref b1089_fr)]))
    refine Go.st (fun _ k => XS.lload X1162.here hx rfl (hb hby at_162) rfl k) ?_
    show Go _ _ _ _ (T1162.setTop (mkF m 164 #[.val (.long pd), .second, .val (.long pa), .second, .val (.int px), .val (.long pb), .second, .val (.long pe), .second, .val (.int pg), .val (.long v7), .second, .val (.long v17), .second, .val (.long v29), .second, .val (.int (1 : Int32)), .val (.ref b599), .val (.ref b708), .val (.ref b786), .val (.ref b1089_fr)] [(.long v17), (.ref b1089_fr)]))
    obtain ⟨cq1163, kq1163, q1163a, q1163b, q1163c⟩ := isOf hZ1030 e1162 Fq1089_0
    obtain ⟨_, _, ⟨T1163, L1163, k1163, n1163⟩, -, X1163, ⟨Lc1163, hQ1163, l1163, y1163, z1163⟩, st1163⟩ := X1162.virtualBack hx (y := (⟨"com/example/lapsed/lapsed/Timeout", "retried", "(J)Lcom/example/lapsed/lapsed/Timeout;"⟩ : MethodName)) (z := (⟨"com/example/lapsed/lapsed/Timeout", "retried", "(J)Lcom/example/lapsed/lapsed/Timeout;"⟩ : MethodName)) hown1030 (mvT hZ1030 (ow hw 341 rfl)) (mvT hZ1030 (ow hw 342 rfl)) (notFace_of_selects (args := #[]) (mvT hZ1030 (ow hw 344 rfl))) (mvT hZ1030 (ow hw 344 rfl)) (mvT hZ1030 (ow hw 343 rfl)) (by decide) (backOf (W := 0) (rm_retr l Z a0 hw [] b1089_fr v17 a843 a889 pd sp ((0 : Int32) + (1 : Int32)) (1 : Int32) (0 : Int64) (0 : Int64) (v7 + v29) (0 : Int64) a1030 sp T1089.heap n0 Z1102 Fq1089_0 Fq1089_1 Fq1089_2 Fq1089_3 Fq1089_4 Fq1089_5 Fq1089_6 Fq1089_7 Fq1089_8 Fq1089_9 Fq1089_10 Fq1089_11 Fq1089_12 F1119) hZ1030 (ow hw 345 rfl) (ow hw 225 rfl) (by decide) (by decide)) q1163a q1163c (g := (mkF m 164 #[.val (.long pd), .second, .val (.long pa), .second, .val (.int px), .val (.long pb), .second, .val (.long pe), .second, .val (.int pg), .val (.long v7), .second, .val (.long v17), .second, .val (.long v29), .second, .val (.int (1 : Int32)), .val (.ref b599), .val (.ref b708), .val (.ref b786), .val (.ref b1089_fr)] [(.long v17), (.ref b1089_fr)])) rfl (by rw [hml]; rfl) (Steps.refl _) (argsL := [(.long v17)]) (rest := []) (lenOf pd_29 rfl) rfl (by show 2 * 0 + _ ≤ _; exact Nat.le_of_eq rfl) (hb hby at_164) (fun _ _ => ⟨rfl, e1162, (by decide : 17 + 1 ≤ _), (by decide : 84 + 12 ≤ _)⟩)
    dsimp only [Pt.U, Pt.locs, Pt.cells, Pt.slots] at X1163 l1163 y1163 z1163 st1163 hQ1163
    rw [l1163, y1163, z1163] at X1163
    obtain ⟨b1163_fr, rfl, N1163q, K1163q, g1163_fr, s1163_fr, Fq1163_0, Fq1163_1, Fq1163_2, Fq1163_3, Fq1163_4, Fq1163_5, Fq1163_6, Fq1163_7, Fq1163_8, Fq1163_9, Fq1163_10, Fq1163_11, Fq1163_12⟩ := hQ1163
    have N1163 := Fr.app N1162 N1163q
    refine Go.st (fun _ k => st1163.trans k) ?_
    have ne1164 := om_ F1106.lt s1163_fr
    have ne1165 := om_ F1112.lt s1163_fr
    have ne1166 := om_ F1114.lt s1163_fr
    have ne1167 := om_ F1117.lt s1163_fr
    have ne1168 := om_ F1122.lt s1163_fr
    have ne1169 := om_ F1124.lt s1163_fr
    have ne1170 := om_ F1128.lt s1163_fr
    have ne1171 := om_ F1130.lt s1163_fr
    have ne1172 := om_ F1132.lt s1163_fr
    have ne1173 := om_ F1135.lt s1163_fr
    have ne1174 := om_ F1148.lt s1163_fr
    have ne1175 := om_ Fq1089_0.lt s1163_fr
    have sz1176 : h0.size ≤ b1163_fr := Nat.le_trans K1104.1 s1163_fr
    have Z1177 : n0 ≤ T1163.heap.size := Nat.le_trans Z1102 K1163q.1
    have hk1178 := Nat.le_trans hk1103 K1163q.1
    have K1179 := K1104.trans K1163q (fun z hz => absurd hz nm_)
    have F1180 := F1105.keep K1163q all0
    have F1181 := F1106.keep K1163q nm_
    have F1182 := F1107.keep K1163q
    have F1183 := own_stakeep F1108 K1163q
    have F1184 := own_stakeep F1109 K1163q
    have F1185 := own_stakeep F1110 K1163q
    have F1186 := own_stakeep F1111 K1163q
    have F1187 := F1112.keep K1163q
    have F1188 := F1113.keep K1163q nm_
    have F1189 := F1114.keep K1163q nm_
    have F1190 := F1115.keep K1163q
    have F1191 := own_stakeep F1116 K1163q
    have F1192 := F1117.keep K1163q
    have F1193 := F1118.keep K1163q nm_
    have F1194 := own_stakeep F1119 K1163q
    have F1195 := own_stakeep F1120 K1163q
    have F1196 := own_stakeep F1121 K1163q
    have F1197 := F1122.keep K1163q
    have F1198 := F1123.keep K1163q nm_
    have F1199 := F1124.keep K1163q
    have F1200 := F1125.keep K1163q nm_
    have F1201 := F1126.keep K1163q nm_
    have F1202 := F1127.keep K1163q nm_
    have F1203 := F1128.keep K1163q nm_
    have F1204 := F1129.keep K1163q
    have F1205 := F1130.keep K1163q
    have F1206 := F1131.keep K1163q nm_
    have F1207 := F1132.keep K1163q
    have F1208 := F1133.keep K1163q nm_
    have F1209 := F1134.keep K1163q nm_
    have F1210 := F1135.keep K1163q
    have F1211 := F1136.keep K1163q nm_
    have F1212 := F1137.keep K1163q nm_
    have F1213 := F1138.keep K1163q nm_
    have F1214 := F1139.keep K1163q nm_
    have F1215 := F1140.keep K1163q nm_
    have F1216 := F1141.keep K1163q nm_
    have F1217 := F1142.keep K1163q nm_
    have F1218 := F1143.keep K1163q nm_
    have F1219 := F1144.keep K1163q nm_
    have F1220 := F1145.keep K1163q nm_
    have F1221 := F1146.keep K1163q nm_
    have F1222 := F1147.keep K1163q nm_
    have F1223 := F1148.keep K1163q
    have F1224 := F1149.keep K1163q nm_
    have F1225 := F1150.keep K1163q nm_
    have F1226 := F1151.keep K1163q nm_
    have F1227 := F1152.keep K1163q nm_
    have F1228 := F1153.keep K1163q nm_
    have F1229 := F1154.keep K1163q nm_
    have F1230 := F1155.keep K1163q nm_
    have F1231 := F1156.keep K1163q nm_
    have F1232 := F1157.keep K1163q nm_
    have F1233 := F1158.keep K1163q nm_
    have F1234 := F1159.keep K1163q nm_
    have F1235 := F1160.keep K1163q nm_
    have F1236 := Fq1089_0.keep K1163q
    have F1237 := Fq1089_1.keep K1163q nm_
    have F1238 := Fq1089_2.keep K1163q nm_
    have F1239 := Fq1089_3.keep K1163q nm_
    have F1240 := Fq1089_4.keep K1163q nm_
    have F1241 := Fq1089_5.keep K1163q nm_
    have F1242 := Fq1089_6.keep K1163q nm_
    have F1243 := Fq1089_7.keep K1163q nm_
    have F1244 := Fq1089_8.keep K1163q nm_
    have F1245 := Fq1089_9.keep K1163q nm_
    have F1246 := Fq1089_10.keep K1163q nm_
    have F1247 := Fq1089_11.keep K1163q nm_
    have F1248 := Fq1089_12.keep K1163q nm_
    show Go _ _ _ _ (T1163.setTop (mkF m 167 #[.val (.long pd), .second, .val (.long pa), .second, .val (.int px), .val (.long pb), .second, .val (.long pe), .second, .val (.int pg), .val (.long v7), .second, .val (.long v17), .second, .val (.long v29), .second, .val (.int (1 : Int32)), .val (.ref b599), .val (.ref b708), .val (.ref b786), .val (.ref b1089_fr)] [(.ref b1163_fr)]))
    obtain ⟨cq1249, kq1249, q1249a, q1249b, q1249c⟩ := isOf hZ1030 (rfl : T1163.heap = T1163.heap) Fq1163_0
    obtain ⟨_, _, ⟨T1249, L1249, k1249, n1249⟩, -, X1249, ⟨Lc1249, hQ1249, l1249, y1249, z1249⟩, st1249⟩ := X1163.virtualBack hx (y := (⟨"com/example/lapsed/lapsed/Timeout", "claimableAt", "()J"⟩ : MethodName)) (z := (⟨"com/example/lapsed/lapsed/Timeout", "claimableAt", "()J"⟩ : MethodName)) hown1030 (mvT hZ1030 (ow hw 266 rfl)) (mvT hZ1030 (ow hw 267 rfl)) (notFace_of_selects (args := #[]) (mvT hZ1030 (ow hw 269 rfl))) (mvT hZ1030 (ow hw 269 rfl)) (mvT hZ1030 (ow hw 268 rfl)) (by decide) (backOf (W := 0) (rm_clm l Z a0 hw [] b1163_fr v17 pd T1163.heap n0 Z1177 Fq1163_0 Fq1163_10 Fq1163_3) hZ1030 (ow hw 270 rfl) (ow hw 225 rfl) (by decide) (by decide)) q1249a q1249c (g := (mkF m 167 #[.val (.long pd), .second, .val (.long pa), .second, .val (.int px), .val (.long pb), .second, .val (.long pe), .second, .val (.int pg), .val (.long v7), .second, .val (.long v17), .second, .val (.long v29), .second, .val (.int (1 : Int32)), .val (.ref b599), .val (.ref b708), .val (.ref b786), .val (.ref b1089_fr)] [(.ref b1163_fr)])) rfl (by rw [hml]; rfl) (Steps.refl _) (argsL := []) (rest := []) (lenOf pd_17 rfl) rfl (by show 2 * 0 + _ ≤ _; exact Nat.le_of_eq rfl) (hb hby at_167) (fun _ _ => ⟨rfl, (rfl : T1163.heap = T1163.heap), (by decide : 18 + 0 ≤ _), (by decide : 96 + 0 ≤ _)⟩)
    dsimp only [Pt.U, Pt.locs, Pt.cells, Pt.slots] at X1249 l1249 y1249 z1249 st1249 hQ1249
    rw [l1249, y1249, z1249] at X1249
    obtain ⟨rfl, N1249q, e1249⟩ := hQ1249
    have N1249 := Fr.app N1163 N1249q
    refine Go.st (fun _ k => st1249.trans k) ?_
    show Go _ _ _ _ (T1249.setTop (mkF m 170 #[.val (.long pd), .second, .val (.long pa), .second, .val (.int px), .val (.long pb), .second, .val (.long pe), .second, .val (.int pg), .val (.long v7), .second, .val (.long v17), .second, .val (.long v29), .second, .val (.int (1 : Int32)), .val (.ref b599), .val (.ref b708), .val (.ref b786), .val (.ref b1089_fr)] [(.long (cbF v17 pd))]))
    refine Go.st (fun _ k => XS.lload X1249.here hx rfl (hb hby at_170) rfl k) ?_
    show Go _ _ _ _ (T1249.setTop (mkF m 172 #[.val (.long pd), .second, .val (.long pa), .second, .val (.int px), .val (.long pb), .second, .val (.long pe), .second, .val (.int pg), .val (.long v7), .second, .val (.long v17), .second, .val (.long v29), .second, .val (.int (1 : Int32)), .val (.ref b599), .val (.ref b708), .val (.ref b786), .val (.ref b1089_fr)] [(.long v17), (.long (cbF v17 pd))]))
    refine Go.st (fun _ k => Jvm.Free.XT.lcmp X1249.here hx rfl (hb hby at_172) rfl k) ?_
    show Go _ _ _ _ (T1249.setTop (mkF m 173 #[.val (.long pd), .second, .val (.long pa), .second, .val (.int px), .val (.long pb), .second, .val (.long pe), .second, .val (.int pg), .val (.long v7), .second, .val (.long v17), .second, .val (.long v29), .second, .val (.int (1 : Int32)), .val (.ref b599), .val (.ref b708), .val (.ref b786), .val (.ref b1089_fr)] [(.int (Jvm.Free.XT.cmpL (cbF v17 pd) v17))]))
    have hc173 : (cbF v17 pd) = v17 := own_cbn (by have q := own_at1 hqv17; omega)
    refine Go.st (fun _ k => XS.ifYes X1249.here hx rfl (pc0 := 173) (pc' := 178) rfl (hb hby at_173) rfl (Jvm.Free.XT.ll_eq_t hc173) (by decide) (by decide) k) ?_
    show Go _ _ _ _ (T1249.setTop (mkF m 178 #[.val (.long pd), .second, .val (.long pa), .second, .val (.int px), .val (.long pb), .second, .val (.long pe), .second, .val (.int pg), .val (.long v7), .second, .val (.long v17), .second, .val (.long v29), .second, .val (.int (1 : Int32)), .val (.ref b599), .val (.ref b708), .val (.ref b786), .val (.ref b1089_fr)] []))
    refine Go.st (fun _ k => XS.aload X1249.here hx rfl (hb hby at_178) rfl rfl k) ?_
    show Go _ _ _ _ (T1249.setTop (mkF m 180 #[.val (.long pd), .second, .val (.long pa), .second, .val (.int px), .val (.long pb), .second, .val (.long pe), .second, .val (.int pg), .val (.long v7), .second, .val (.long v17), .second, .val (.long v29), .second, .val (.int (1 : Int32)), .val (.ref b599), .val (.ref b708), .val (.ref b786), .val (.ref b1089_fr)] [(.ref b1089_fr)]))
    refine Go.st (fun _ k => XS.lload X1249.here hx rfl (hb hby at_180) rfl k) ?_
    show Go _ _ _ _ (T1249.setTop (mkF m 182 #[.val (.long pd), .second, .val (.long pa), .second, .val (.int px), .val (.long pb), .second, .val (.long pe), .second, .val (.int pg), .val (.long v7), .second, .val (.long v17), .second, .val (.long v29), .second, .val (.int (1 : Int32)), .val (.ref b599), .val (.ref b708), .val (.ref b786), .val (.ref b1089_fr)] [(.long pe), (.ref b1089_fr)]))
    refine Go.st (fun _ k => XS.aconstNull X1249.here hx rfl (hb hby at_182) k) ?_
    show Go _ _ _ _ (T1249.setTop (mkF m 183 #[.val (.long pd), .second, .val (.long pa), .second, .val (.int px), .val (.long pb), .second, .val (.long pe), .second, .val (.int pg), .val (.long v7), .second, .val (.long v17), .second, .val (.long v29), .second, .val (.int (1 : Int32)), .val (.ref b599), .val (.ref b708), .val (.ref b786), .val (.ref b1089_fr)] [.null, (.long pe), (.ref b1089_fr)]))
    obtain ⟨cq1250, kq1250, q1250a, q1250b, q1250c⟩ := isOf hZ1030 e1249 F1236
    obtain ⟨_, _, ⟨T1250, L1250, k1250, n1250⟩, -, X1250, ⟨Lc1250, hQ1250, l1250, y1250, z1250⟩, st1250⟩ := X1249.virtualBack hx (y := (⟨"com/example/lapsed/lapsed/Timeout", "rescheduled", "(JLjava/lang/String;)Lcom/example/lapsed/lapsed/Timeout;"⟩ : MethodName)) (z := (⟨"com/example/lapsed/lapsed/Timeout", "rescheduled", "(JLjava/lang/String;)Lcom/example/lapsed/lapsed/Timeout;"⟩ : MethodName)) hown1030 (mvT hZ1030 (ow hw 346 rfl)) (mvT hZ1030 (ow hw 347 rfl)) (notFace_of_selects (args := #[]) (mvT hZ1030 (ow hw 349 rfl))) (mvT hZ1030 (ow hw 349 rfl)) (mvT hZ1030 (ow hw 348 rfl)) (by decide) (backOf (W := 0) (rm_resc l Z a0 hw [] b1089_fr pe a843 a889 pd sp ((0 : Int32) + (1 : Int32)) (1 : Int32) (0 : Int64) (0 : Int64) (v7 + v29) (0 : Int64) a1030 sp T1163.heap n0 Z1177 F1236 F1237 F1238 F1239 F1240 F1241 F1242 F1243 F1244 F1245 F1246 F1247 F1248 F1194) hZ1030 (ow hw 350 rfl) (ow hw 225 rfl) (by decide) (by decide)) q1250a q1250c (g := (mkF m 183 #[.val (.long pd), .second, .val (.long pa), .second, .val (.int px), .val (.long pb), .second, .val (.long pe), .second, .val (.int pg), .val (.long v7), .second, .val (.long v17), .second, .val (.long v29), .second, .val (.int (1 : Int32)), .val (.ref b599), .val (.ref b708), .val (.ref b786), .val (.ref b1089_fr)] [.null, (.long pe), (.ref b1089_fr)])) rfl (by rw [hml]; rfl) (Steps.refl _) (argsL := [(.long pe), .null]) (rest := []) (lenOf pd_30 rfl) rfl (by show 2 * 0 + _ ≤ _; exact Nat.le_of_eq rfl) (hb hby at_183) (fun _ _ => ⟨rfl, e1249, (by decide : 18 + 1 ≤ _), (by decide : 96 + 12 ≤ _)⟩)
    dsimp only [Pt.U, Pt.locs, Pt.cells, Pt.slots] at X1250 l1250 y1250 z1250 st1250 hQ1250
    rw [l1250, y1250, z1250] at X1250
    obtain ⟨b1250_fr, rfl, N1250q, K1250q, g1250_fr, s1250_fr, Fq1250_0, Fq1250_1, Fq1250_2, Fq1250_3, Fq1250_4, Fq1250_5, Fq1250_6, Fq1250_7, Fq1250_8, Fq1250_9, Fq1250_10, Fq1250_11, Fq1250_12⟩ := hQ1250
    have N1250 := Fr.app N1249 N1250q
    refine Go.st (fun _ k => st1250.trans k) ?_
    have ne1251 := om_ F1181.lt s1250_fr
    have ne1252 := om_ F1187.lt s1250_fr
    have ne1253 := om_ F1189.lt s1250_fr
    have ne1254 := om_ F1192.lt s1250_fr
    have ne1255 := om_ F1197.lt s1250_fr
    have ne1256 := om_ F1199.lt s1250_fr
    have ne1257 := om_ F1203.lt s1250_fr
    have ne1258 := om_ F1205.lt s1250_fr
    have ne1259 := om_ F1207.lt s1250_fr
    have ne1260 := om_ F1210.lt s1250_fr
    have ne1261 := om_ F1223.lt s1250_fr
    have ne1262 := om_ F1236.lt s1250_fr
    have ne1263 := om_ Fq1163_0.lt s1250_fr
    have sz1264 : h0.size ≤ b1250_fr := Nat.le_trans K1179.1 s1250_fr
    have Z1265 : n0 ≤ T1250.heap.size := Nat.le_trans Z1177 K1250q.1
    have hk1266 := Nat.le_trans hk1178 K1250q.1
    have K1267 := K1179.trans K1250q (fun z hz => absurd hz nm_)
    have F1268 := F1180.keep K1250q all0
    have F1269 := F1181.keep K1250q nm_
    have F1270 := F1182.keep K1250q
    have F1271 := own_stakeep F1183 K1250q
    have F1272 := own_stakeep F1184 K1250q
    have F1273 := own_stakeep F1185 K1250q
    have F1274 := own_stakeep F1186 K1250q
    have F1275 := F1187.keep K1250q
    have F1276 := F1188.keep K1250q nm_
    have F1277 := F1189.keep K1250q nm_
    have F1278 := F1190.keep K1250q
    have F1279 := own_stakeep F1191 K1250q
    have F1280 := F1192.keep K1250q
    have F1281 := F1193.keep K1250q nm_
    have F1282 := own_stakeep F1194 K1250q
    have F1283 := own_stakeep F1195 K1250q
    have F1284 := own_stakeep F1196 K1250q
    have F1285 := F1197.keep K1250q
    have F1286 := F1198.keep K1250q nm_
    have F1287 := F1199.keep K1250q
    have F1288 := F1200.keep K1250q nm_
    have F1289 := F1201.keep K1250q nm_
    have F1290 := F1202.keep K1250q nm_
    have F1291 := F1203.keep K1250q nm_
    have F1292 := F1204.keep K1250q
    have F1293 := F1205.keep K1250q
    have F1294 := F1206.keep K1250q nm_
    have F1295 := F1207.keep K1250q
    have F1296 := F1208.keep K1250q nm_
    have F1297 := F1209.keep K1250q nm_
    have F1298 := F1210.keep K1250q
    have F1299 := F1211.keep K1250q nm_
    have F1300 := F1212.keep K1250q nm_
    have F1301 := F1213.keep K1250q nm_
    have F1302 := F1214.keep K1250q nm_
    have F1303 := F1215.keep K1250q nm_
    have F1304 := F1216.keep K1250q nm_
    have F1305 := F1217.keep K1250q nm_
    have F1306 := F1218.keep K1250q nm_
    have F1307 := F1219.keep K1250q nm_
    have F1308 := F1220.keep K1250q nm_
    have F1309 := F1221.keep K1250q nm_
    have F1310 := F1222.keep K1250q nm_
    have F1311 := F1223.keep K1250q
    have F1312 := F1224.keep K1250q nm_
    have F1313 := F1225.keep K1250q nm_
    have F1314 := F1226.keep K1250q nm_
    have F1315 := F1227.keep K1250q nm_
    have F1316 := F1228.keep K1250q nm_
    have F1317 := F1229.keep K1250q nm_
    have F1318 := F1230.keep K1250q nm_
    have F1319 := F1231.keep K1250q nm_
    have F1320 := F1232.keep K1250q nm_
    have F1321 := F1233.keep K1250q nm_
    have F1322 := F1234.keep K1250q nm_
    have F1323 := F1235.keep K1250q nm_
    have F1324 := F1236.keep K1250q
    have F1325 := F1237.keep K1250q nm_
    have F1326 := F1238.keep K1250q nm_
    have F1327 := F1239.keep K1250q nm_
    have F1328 := F1240.keep K1250q nm_
    have F1329 := F1241.keep K1250q nm_
    have F1330 := F1242.keep K1250q nm_
    have F1331 := F1243.keep K1250q nm_
    have F1332 := F1244.keep K1250q nm_
    have F1333 := F1245.keep K1250q nm_
    have F1334 := F1246.keep K1250q nm_
    have F1335 := F1247.keep K1250q nm_
    have F1336 := F1248.keep K1250q nm_
    have F1337 := Fq1163_0.keep K1250q
    have F1338 := Fq1163_1.keep K1250q nm_
    have F1339 := Fq1163_2.keep K1250q nm_
    have F1340 := Fq1163_3.keep K1250q nm_
    have F1341 := Fq1163_4.keep K1250q nm_
    have F1342 := Fq1163_5.keep K1250q nm_
    have F1343 := Fq1163_6.keep K1250q nm_
    have F1344 := Fq1163_7.keep K1250q nm_
    have F1345 := Fq1163_8.keep K1250q nm_
    have F1346 := Fq1163_9.keep K1250q nm_
    have F1347 := Fq1163_10.keep K1250q nm_
    have F1348 := Fq1163_11.keep K1250q nm_
    have F1349 := Fq1163_12.keep K1250q nm_
    show Go _ _ _ _ (T1250.setTop (mkF m 186 #[.val (.long pd), .second, .val (.long pa), .second, .val (.int px), .val (.long pb), .second, .val (.long pe), .second, .val (.int pg), .val (.long v7), .second, .val (.long v17), .second, .val (.long v29), .second, .val (.int (1 : Int32)), .val (.ref b599), .val (.ref b708), .val (.ref b786), .val (.ref b1089_fr)] [(.ref b1250_fr)]))
    obtain ⟨cq1350, kq1350, q1350a, q1350b, q1350c⟩ := isOf hZ1030 (rfl : T1250.heap = T1250.heap) Fq1250_0
    obtain ⟨_, _, ⟨T1350, L1350, k1350, n1350⟩, -, X1350, ⟨Lc1350, hQ1350, l1350, y1350, z1350⟩, st1350⟩ := X1250.virtualBack hx (y := (⟨"com/example/lapsed/lapsed/Timeout", "claimableAt", "()J"⟩ : MethodName)) (z := (⟨"com/example/lapsed/lapsed/Timeout", "claimableAt", "()J"⟩ : MethodName)) hown1030 (mvT hZ1030 (ow hw 266 rfl)) (mvT hZ1030 (ow hw 267 rfl)) (notFace_of_selects (args := #[]) (mvT hZ1030 (ow hw 269 rfl))) (mvT hZ1030 (ow hw 269 rfl)) (mvT hZ1030 (ow hw 268 rfl)) (by decide) (backOf (W := 0) (rm_clm l Z a0 hw [] b1250_fr (0 : Int64) pe T1250.heap n0 Z1265 Fq1250_0 Fq1250_10 Fq1250_3) hZ1030 (ow hw 270 rfl) (ow hw 225 rfl) (by decide) (by decide)) q1350a q1350c (g := (mkF m 186 #[.val (.long pd), .second, .val (.long pa), .second, .val (.int px), .val (.long pb), .second, .val (.long pe), .second, .val (.int pg), .val (.long v7), .second, .val (.long v17), .second, .val (.long v29), .second, .val (.int (1 : Int32)), .val (.ref b599), .val (.ref b708), .val (.ref b786), .val (.ref b1089_fr)] [(.ref b1250_fr)])) rfl (by rw [hml]; rfl) (Steps.refl _) (argsL := []) (rest := []) (lenOf pd_17 rfl) rfl (by show 2 * 0 + _ ≤ _; exact Nat.le_of_eq rfl) (hb hby at_186) (fun _ _ => ⟨rfl, (rfl : T1250.heap = T1250.heap), (by decide : 19 + 0 ≤ _), (by decide : 108 + 0 ≤ _)⟩)
    dsimp only [Pt.U, Pt.locs, Pt.cells, Pt.slots] at X1350 l1350 y1350 z1350 st1350 hQ1350
    rw [l1350, y1350, z1350] at X1350
    obtain ⟨rfl, N1350q, e1350⟩ := hQ1350
    have N1350 := Fr.app N1250 N1350q
    refine Go.st (fun _ k => st1350.trans k) ?_
    show Go _ _ _ _ (T1350.setTop (mkF m 189 #[.val (.long pd), .second, .val (.long pa), .second, .val (.int px), .val (.long pb), .second, .val (.long pe), .second, .val (.int pg), .val (.long v7), .second, .val (.long v17), .second, .val (.long v29), .second, .val (.int (1 : Int32)), .val (.ref b599), .val (.ref b708), .val (.ref b786), .val (.ref b1089_fr)] [(.long (cbF (0 : Int64) pe))]))
    refine Go.st (fun _ k => XS.lload X1350.here hx rfl (hb hby at_189) rfl k) ?_
    show Go _ _ _ _ (T1350.setTop (mkF m 191 #[.val (.long pd), .second, .val (.long pa), .second, .val (.int px), .val (.long pb), .second, .val (.long pe), .second, .val (.int pg), .val (.long v7), .second, .val (.long v17), .second, .val (.long v29), .second, .val (.int (1 : Int32)), .val (.ref b599), .val (.ref b708), .val (.ref b786), .val (.ref b1089_fr)] [(.long pe), (.long (cbF (0 : Int64) pe))]))
    refine Go.st (fun _ k => Jvm.Free.XT.lcmp X1350.here hx rfl (hb hby at_191) rfl k) ?_
    show Go _ _ _ _ (T1350.setTop (mkF m 192 #[.val (.long pd), .second, .val (.long pa), .second, .val (.int px), .val (.long pb), .second, .val (.long pe), .second, .val (.int pg), .val (.long v7), .second, .val (.long v17), .second, .val (.long v29), .second, .val (.int (1 : Int32)), .val (.ref b599), .val (.ref b708), .val (.ref b786), .val (.ref b1089_fr)] [(.int (Jvm.Free.XT.cmpL (cbF (0 : Int64) pe) pe))]))
    have hc192 : (cbF (0 : Int64) pe) = pe := own_cb0 _
    refine Go.st (fun _ k => XS.ifNo X1350.here hx rfl (hb hby at_192) rfl (Jvm.Free.XT.ll_ne_f hc192) k) ?_
    show Go _ _ _ _ (T1350.setTop (mkF m 195 #[.val (.long pd), .second, .val (.long pa), .second, .val (.int px), .val (.long pb), .second, .val (.long pe), .second, .val (.int pg), .val (.long v7), .second, .val (.long v17), .second, .val (.long v29), .second, .val (.int (1 : Int32)), .val (.ref b599), .val (.ref b708), .val (.ref b786), .val (.ref b1089_fr)] []))
    refine Go.st (fun _ k => XS.iconst X1350.here hx rfl (hb hby at_195) k) ?_
    show Go _ _ _ _ (T1350.setTop (mkF m 196 #[.val (.long pd), .second, .val (.long pa), .second, .val (.int px), .val (.long pb), .second, .val (.long pe), .second, .val (.int pg), .val (.long v7), .second, .val (.long v17), .second, .val (.long v29), .second, .val (.int (1 : Int32)), .val (.ref b599), .val (.ref b708), .val (.ref b786), .val (.ref b1089_fr)] [(.int (1 : Int32))]))
    refine Go.st (fun _ k => XS.goto X1350.here hx rfl (pc0 := 196) (pc' := 200) rfl (hb hby at_196) (by decide) (by decide) k) ?_
    show Go _ _ _ _ (T1350.setTop (mkF m 200 #[.val (.long pd), .second, .val (.long pa), .second, .val (.int px), .val (.long pb), .second, .val (.long pe), .second, .val (.int pg), .val (.long v7), .second, .val (.long v17), .second, .val (.long v29), .second, .val (.int (1 : Int32)), .val (.ref b599), .val (.ref b708), .val (.ref b786), .val (.ref b1089_fr)] [(.int (1 : Int32))]))
    subst hG
    obtain ⟨fs, hr, hrun, hended, hend⟩ := X1350.leaveW (s := s) hS1030 (by rw [e1350]; exact hk1266) (v := some (.int (nar .boolean (1 : Int32)))) (fun h => by rw [Bd.returns] at h; cases h)
    refine ⟨_, _, ?_, hrun, hended, _, _, rfl, ?_, hend.1, hend.2.1, hend.2.2.1, hend.2.2.2.mono (by decide) (by decide)⟩
    · exact retN X1350 hx (t := .boolean) Bd.returns (by simp) (hb hby at_200) hr
    · show Q_law Z pd pa px pb pe pg de kd ca cc em el le kl oe mr sp sc sd h0 n0 _ T1350.heap _
      rw [e1350]
      exact ⟨rfl, N1350, K1267⟩
theorem own_len {s : State} {args : Array Value} {t : Jvm.Term} {x : Addr} {c : Cell} {y : Int32} (et : t.eval args s none [] s = some (.ref x)) (ha : s.arrayAt? x = some c) (h : (Jvm.Cond.eq (Jvm.Term.length t) (Jvm.Term.int y)).value args s none s [] = some true) : c.slots.size < 2 ^ 31 ∧ c.slots.size.toInt32 = y := by
  have L := eqv_i (Term.int_eval y) h
  have e1 : (Jvm.Term.length t).eval args s none [] s = (do
      let .ref a ← t.eval args s none [] s | none
      let n := (← s.arrayAt? a).slots.size
      if n < 2 ^ 31 then pure (.int n.toInt32) else none) := rfl
  have L' : (if c.slots.size < 2 ^ 31 then some (Value.int c.slots.size.toInt32) else none) = some (.int y) := by
    rw [← L, e1, et]
    show _ = (s.arrayAt? x).bind fun z => if z.slots.size < 2 ^ 31 then some (Value.int z.slots.size.toInt32) else none
    rw [ha]
    rfl
  by_cases hlt : c.slots.size < 2 ^ 31
  · rw [if_pos hlt] at L'
    exact ⟨hlt, Value.int.inj (Option.some.inj L')⟩
  · rw [if_neg hlt] at L'
    cases L'
theorem own_arr0 {s : State} {args : Array Value} {t : Jvm.Term} {a : Addr} {ty : FieldType} {dv : Value} (hfit : Fit s) (ev : t.eval args s none [] s = some (.ref a)) (h1 : (Jvm.Cond.arrayOf t ty).value args s none s [] = some true) (h2 : (Jvm.Cond.eq (Jvm.Term.length t) (Jvm.Term.int (0 : Int32))).value args s none s [] = some true) : ∃ k, Arv s s.heap a k ty (0 : Int32) [] dv := by
  obtain ⟨c, A⟩ := Arr.start ev h1
  obtain ⟨z1, z2⟩ := own_len ev (A.fin (Vm.Alike.refl _)) h2
  exact ⟨c.cls, Arv.start hfit A z1 z2 (by decide) rfl trivial⟩
theorem own_box {s : State} {args : Array Value} {t : Jvm.Term} {a : Addr} (et : ∀ idx, t.eval args s none idx s = some (.ref a)) (h1 : (Jvm.Cond.arrayOf t (.object "java/lang/Long")).value args s none s [] = some true) (h2 : (Jvm.Cond.eq (Jvm.Term.length t) (Jvm.Term.int (256 : Int32))).value args s none s [] = some true)
    (h3 : (Jvm.Cond.all t (Jvm.Cond.and (Jvm.Cond.exactly (Jvm.Term.elem t (Jvm.Term.index 0)) "java/lang/Long") (Jvm.Cond.eq (Jvm.Term.field (Jvm.Term.elem t (Jvm.Term.index 0)) "java/lang/Long" "value" "J") (Jvm.Term.op1 Jvm.Unary.i2l (Jvm.Term.sub (Jvm.Term.index 0) (Jvm.Term.int (128 : Int32))))))).value args s none s [] = some true) :
    ∃ cc, Bxs s a cc "java/lang/Long" "J" (256 : Int32) (fun j => .long (j - (128 : Int32)).toInt64) := by
  obtain ⟨c, A⟩ := Arr.start (et []) h1
  obtain ⟨z1, z2⟩ := own_len (et []) (A.fin (Vm.Alike.refl _)) h2
  refine ⟨c, Bxs.start et A z1 z2 (by decide) h3 fun X j hj h => ?_⟩
  refine eqv_l (i2l_at ?_) h
  have e1 : (Jvm.Term.index 0).eval args s none [j.toNatClampNeg] s = some (.int j) := idx_at hj
  have e2 : (Jvm.Term.int (128 : Int32)).eval args s none [j.toNatClampNeg] s = some (.int 128) := Term.int_eval 128
  simp [Term.eval, e1, e2] <;> first | done | (simp [Term.eval] at e1; simp [e1])

set_option maxRecDepth 65536 in
set_option maxHeartbeats 40000000 in
theorem comes_1 {Post : Tables → Env → Array Value → State → Outcome → State → Prop} (hpost : ∀ tb e args s v u, (limb_1_1.after args s (.returned v) u = true ∧ limb_1_2.after args s (.returned v) u = true ∧ True) → ReturnedEndW s (.returned v) u (Jvm.fieldLocs frame_1_writes args s ++ Jvm.arrayLocs frame_1_arrays args s ++ Jvm.staticLocs frame_1_statics s) 40 3328 → Post tb e args s (.returned v) u) :
    ArmFor flags0 classFile x code maxLocals ret World_1 tables_1 room_1 Calls_1 rest_1 Pre_1 Post := by
  intro l hfl _ _ p e ha hc hk s m args below hf hA hF happ hP
  obtain ⟨hcalls, hrest, hpre⟩ := hP
  obtain ⟨-, -, -, hnamed, -, -, -, hat⟩ := (Spec.applies_iff hf).mp happ
  obtain ⟨hg, hn⟩ := and_e (Cond.before_iff.mp (show (Jvm.Cond.and given_1 narrow_1).before args s = true from hpre))
  obtain ⟨hcount, hg0⟩ := and_e hg
  obtain ⟨hv0, hg1⟩ := and_e hg0
  obtain ⟨hv1, hg2⟩ := and_e hg1
  obtain ⟨hv2, hg3⟩ := and_e hg2
  obtain ⟨hv3, hg4⟩ := and_e hg3
  obtain ⟨hv4, hg5⟩ := and_e hg4
  obtain ⟨w0, w1, w2, w3, w4, w5, rfl⟩ : ∃ w0 w1 w2 w3 w4 w5 : Value, args = #[w0, w1, w2, w3, w4, w5] := by
    have hs : args.size = 6 := by simpa [Cond.value, given_1] using hcount
    obtain ⟨L⟩ := args
    match L, hs with
    | [w0, w1, w2, w3, w4, w5], _ => exact ⟨w0, w1, w2, w3, w4, w5, rfl⟩
  have hw := fun d (hd : d ∈ tables_1) => atoms_spec (ws := Jvm.Cond.code x code maxLocals ret :: tables_1) hat d (List.mem_cons_of_mem _ hd)
  have hfit : Fit s := fun {y c} hc i hi => by
    obtain ⟨ha, rfl⟩ := Array.getElem?_eq_some_iff.mp hc
    have q := List.all_eq_true.mp ((Array.all_eq_true_iff_forall_mem.mp hF) _ (Array.getElem_mem ha)) i (List.mem_range.mpr hi)
    simpa [Array.getElem?_eq_getElem hi] using q
  obtain ⟨i0, ei0⟩ := isL_v hv0
  obtain rfl : w0 = (.long i0) := Option.some.inj ei0
  obtain ⟨i1, ei1⟩ := isL_v hv1
  obtain rfl : w1 = (.long i1) := Option.some.inj ei1
  obtain ⟨i2, ei2⟩ := is_v hv2
  obtain rfl : w2 = (.int i2) := Option.some.inj ei2
  obtain ⟨i3, ei3⟩ := isL_v hv3
  obtain rfl : w3 = (.long i3) := Option.some.inj ei3
  obtain ⟨i4, ei4⟩ := isL_v hv4
  obtain rfl : w4 = (.long i4) := Option.some.inj ei4
  obtain ⟨i5, ei5⟩ := is_v hg5
  obtain rfl : w5 = (.int i5) := Option.some.inj ei5
  obtain ⟨hsets, hown0⟩ := atoms_of _ (rest_1_c_eq ▸ (show rest_1_c.before _ s = true from hrest))
  obtain ⟨de, ede⟩ := exa_v (Cond.before_iff.mp (hsets _ (List.mem_of_getElem? (i := 7) rfl)))
  have Ede := Exa.start ede (Cond.before_iff.mp (hsets _ (List.mem_of_getElem? (i := 7) rfl)))
  obtain ⟨kd, Ade⟩ := own_arr0 (dv := .null) hfit ede (Cond.before_iff.mp (hsets _ (List.mem_of_getElem? (i := 6) rfl))) (Cond.before_iff.mp (hsets _ (List.mem_of_getElem? (i := 8) rfl)))
  have Sde : Sta s s.heap "java/util/ArrayList" "DEFAULTCAPACITY_EMPTY_ELEMENTDATA" "[Ljava/lang/Object;" (.ref de) := Sta.start ede (Or.inr ⟨(ow hw 5 rfl), (hsets _ (List.mem_of_getElem? (i := 2) rfl))⟩)
  obtain ⟨ca, eca⟩ := exa_v (Cond.before_iff.mp (hsets _ (List.mem_of_getElem? (i := 12) rfl)))
  have Sca : Sta s s.heap "java/lang/Long$LongCache" "cache" "[Ljava/lang/Long;" (.ref ca) := Sta.start eca (Or.inl (hsets _ (List.mem_of_getElem? (i := 10) rfl)))
  obtain ⟨cc, hbx⟩ := own_box (fun _ => eca) (Cond.before_iff.mp (hsets _ (List.mem_of_getElem? (i := 11) rfl))) (Cond.before_iff.mp (hsets _ (List.mem_of_getElem? (i := 13) rfl))) (Cond.before_iff.mp (hsets _ (List.mem_of_getElem? (i := 14) rfl)))
  obtain ⟨em, eem⟩ := exa_v (Cond.before_iff.mp (hsets _ (List.mem_of_getElem? (i := 17) rfl)))
  have Sem : Sta s s.heap "java/util/ImmutableCollections" "EMPTY" "Ljava/lang/Object;" (.ref em) := Sta.start eem (Or.inl (hsets _ (List.mem_of_getElem? (i := 16) rfl)))
  obtain ⟨el, eel⟩ := exa_v (Cond.before_iff.mp (hsets _ (List.mem_of_getElem? (i := 23) rfl)))
  have Eel := Exa.start eel (Cond.before_iff.mp (hsets _ (List.mem_of_getElem? (i := 23) rfl)))
  have Sel : Sta s s.heap "java/util/ImmutableCollections" "EMPTY_LIST" "Ljava/util/ImmutableCollections$ListN;" (.ref el) := Sta.start eel (Or.inl (hsets _ (List.mem_of_getElem? (i := 22) rfl)))
  obtain ⟨le, ele⟩ := exa_v (Cond.before_iff.mp (hsets _ (List.mem_of_getElem? (i := 28) rfl)))
  have Ele := Exa.start ele (Cond.before_iff.mp (hsets _ (List.mem_of_getElem? (i := 28) rfl)))
  obtain ⟨kl, Ale⟩ := own_arr0 (dv := .null) hfit ele (Cond.before_iff.mp (hsets _ (List.mem_of_getElem? (i := 27) rfl))) (Cond.before_iff.mp (hsets _ (List.mem_of_getElem? (i := 29) rfl)))
  have Vle := ele
  rw [fld_at eel] at Vle
  have Fle := Fld.start Vle
  obtain ⟨oe, eoe⟩ := exa_v (Cond.before_iff.mp (hsets _ (List.mem_of_getElem? (i := 33) rfl)))
  have Eoe := Exa.start eoe (Cond.before_iff.mp (hsets _ (List.mem_of_getElem? (i := 33) rfl)))
  have Soe : Sta s s.heap "java/util/OptionalLong" "EMPTY" "Ljava/util/OptionalLong;" (.ref oe) := Sta.start eoe (Or.inl (hsets _ (List.mem_of_getElem? (i := 32) rfl)))
  have Voe := eqv_i (Term.int_eval 0) (Cond.before_iff.mp (hsets _ (List.mem_of_getElem? (i := 34) rfl)))
  rw [fld_at eoe] at Voe
  have Foe := Fld.start Voe
  obtain ⟨mr, hmir⟩ := own_mir (show Jvm.D.MirrorMade s "[Ljava/lang/Object;" from hcalls.1)
  obtain ⟨n1, nr⟩ := and_e hn
  obtain ⟨n2, n3⟩ := and_e nr
  obtain ⟨sp, esp⟩ := exa_v n1
  have Ssp : Sta s s.heap "com/example/lapsed/lapsed/State" "PENDING" "Lcom/example/lapsed/lapsed/State;" (.ref sp) := Sta.start esp (Or.inr ⟨(ow hw 236 rfl), (ow hw 237 rfl)⟩)
  obtain ⟨sc, esc⟩ := exa_v n2
  have Ssc : Sta s s.heap "com/example/lapsed/lapsed/State" "CLAIMED" "Lcom/example/lapsed/lapsed/State;" (.ref sc) := Sta.start esc (Or.inr ⟨(ow hw 236 rfl), (ow hw 278 rfl)⟩)
  obtain ⟨sd, esd⟩ := exa_v n3
  have Ssd : Sta s s.heap "com/example/lapsed/lapsed/State" "DEAD" "Lcom/example/lapsed/lapsed/State;" (.ref sd) := Sta.start esd (Or.inr ⟨(ow hw 236 rfl), (ow hw 381 rfl)⟩)
  obtain ⟨n, o, h1, h2, h3, _, L, rfl, ⟨rfl, N, -⟩, hq⟩ := rm_law l s _ hw tables_1 i0 i1 i2 i3 i4 i5 _ _ _ _ _ _ _ _ _ _ _ _ _ s.heap s.heap.size (Nat.le_refl _) (Old.start s) Ade Ede Sde Sca hbx Sem Sel Eel Fle Ale Ele Soe Eoe Foe hmir Ssp Ssc Ssd p e ha hc hk s m _ below hf ((Spec.applies_iff_loose hf).mp happ).1 ⟨rfl, State.Warmed39.refl s, rfl⟩ trivial
  refine ⟨n, _, h1, h2, h3, hpost _ _ _ _ _ _ ⟨Cond.after_iff.mpr rfl, Cond.after_iff.mpr (eq_i res_at (Term.int_eval (1)) rfl), trivial⟩ ⟨hq.1, hq.2.1, hq.2.2.1, (hq.2.2.2.sift fun y hy => Or.inr (N y hy)).mono (by decide) (by decide)⟩⟩
theorem main_1_1 : Claimed_1_1 := comes_1 fun _ _ _ _ _ _ h hF => ⟨h.1, hF⟩
theorem main_1_2 : Claimed_1_2 := comes_1 fun _ _ _ _ _ _ h hF => ⟨h.2.1, hF⟩
end Jvm.Pilot.@@N@@
namespace Jvm.Pilot.@@N@@
open Jvm Jvm.ClassFile Sem Op Lib Jvm.Free Jvm.Stand Jvm.Pilot.@@N@@.Jvm.D
/-! MADE BY PROGRAM (witnessworld.py) out of the Statement's table words and the real class files: 41 classes; the members and pool entries that the words name. The judged class is class 1, her method 1. -/
namespace start1
open Jvm.ClassFile
def u (s : String) : CpInfo := .utf8 (stringToUtf16 s)
/-- a pool by its gaps: so many unusable entries, then the entry; so many at the end -/
def gap : Nat → List CpInfo → List CpInfo
  | 0, r => r
  | n + 1, r => .unusable :: gap n r
def poolList (es : List (Nat × CpInfo)) (last : Nat) : List CpInfo := es.foldr (fun e r => gap e.1 (e.2 :: r)) (gap last [])
def pool (es : List (Nat × CpInfo)) (last : Nat) : Array CpInfo := ⟨poolList es last⟩
def fileOf (pool : Array CpInfo) (this : Nat) (attrs : Array Attribute := #[]) (ms : Array MethodInfo := #[]) (fl : Nat := 33) (sup : Nat := 0) (ifs : Array Nat := #[]) (fds : Array FieldInfo := #[]) : ClassFile where
  minorVersion := 0
  majorVersion := 65
  constantPool := pool
  accessFlags := fl
  thisClass := this
  superClass := sup
  interfaces := ifs
  fields := fds
  methods := ms
  attributes := attrs
def plain (name : String) (sup : Option ClassId) : Class where
  name := name
  kind := .ordinary
  loader := none
  accessFlags := 33
  super := sup
  interfaces := #[]
  cf := none
  fields := #[]
  methods := #[]
  instanceTypes := #[]
  staticTypes := #[]
  resolved := #[]
  callSites := []
  init := .initialized
  statics := none
  mirror := none

def pool0 : Array CpInfo := pool [(5, u "<init>"), (0, u "()V"), (1, .class_ 10), (1, u "java/lang/Object"), (0, u "getClass"), (0, u "()Ljava/lang/Class;")] 111

def k0c0 : Code := { maxStack := 0, maxLocals := 1, code := object_method_1_code, exceptionTable := #[], attributes := #[] }
def k0m0 : Method := { name := "<init>", desc := "()V", sig := { parameters := [], returnType := none }, accessFlags := 1, code := some k0c0 }
def k0m1 : Method := { name := "getClass", desc := "()Ljava/lang/Class;", sig := { parameters := [], returnType := some (.object "java/lang/Class") }, accessFlags := 273, code := none }
/-- java/lang/Object -/
def k0 : Class := { plain "java/lang/Object" none with
  accessFlags := 33
  interfaces := #[]
  cf := some (fileOf pool0 8 #[] #[{ accessFlags := 1, nameIndex := 5, descriptorIndex := 6, attributes := #[] }, { accessFlags := 273, nameIndex := 11, descriptorIndex := 12, attributes := #[] }] 33 0 #[] #[])
  fields := #[]
  methods := #[k0m0, k0m1]
  instanceTypes := #[]
  staticTypes := #[]
  resolved := Array.replicate 124 none
  statics := none }

def pool1 : Array CpInfo := pool [(2, .class_ 4), (0, .nameAndType 5 6), (0, u "java/lang/Object"), (0, u "<init>"), (0, u "()V"), (0, .long 4611686018427387903), (1, .integer 2147483647), (0, .long 86400001), (1, .class_ 13), (0, u "java/util/ArrayList"), (0, .methodref 12 3), (0, .methodref 16 17), (0, .class_ 18), (0, .nameAndType 19 20), (0, u "java/lang/Long"), (0, u "valueOf"), (0, u "(J)Ljava/lang/Long;"), (0, .methodref 12 22), (0, .nameAndType 23 24), (0, u "add"), (0, u "(Ljava/lang/Object;)Z"), (0, .class_ 26), (0, u "com/example/lapsed/lapsed/RetryPolicy"), (0, .methodref 25 28), (0, .nameAndType 5 29), (0, u "(Ljava/util/List;)V"), (0, .class_ 31), (0, u "com/example/lapsed/lapsed/Timeout"), (0, .string 33), (0, u "q"), (0, .string 35), (0, u "i"), (0, .fieldref 37 38), (0, .class_ 39), (0, .nameAndType 40 41), (0, u "com/example/lapsed/lapsed/State"), (0, u "PENDING"), (0, u "Lcom/example/lapsed/lapsed/State;"), (0, .methodref 30 43), (0, .nameAndType 5 44), (0, u "(Ljava/lang/String;Ljava/lang/String;JLjava/lang/String;Lcom/example/lapsed/lapsed/State;IIJJJJLjava/lang/String;)V"), (0, .methodref 30 46), (0, .nameAndType 47 48), (0, u "claimableAt"), (0, u "()J"), (0, .methodref 30 50), (0, .nameAndType 51 52), (0, u "claimed"), (0, u "(JJ)Lcom/example/lapsed/lapsed/Timeout;"), (0, .string 54), (0, u "e"), (0, .methodref 30 56), (0, .nameAndType 57 58), (0, u "failed"), (0, u "(JLjava/lang/String;Lcom/example/lapsed/lapsed/RetryPolicy;)Lcom/example/lapsed/lapsed/Timeout;"), (0, .methodref 30 60), (0, .nameAndType 61 62), (0, u "retried"), (0, u "(J)Lcom/example/lapsed/lapsed/Timeout;"), (0, .methodref 30 64), (0, .nameAndType 65 66), (0, u "rescheduled"), (0, u "(JLjava/lang/String;)Lcom/example/lapsed/lapsed/Timeout;"), (0, .class_ 68), (0, u "com/example/lapsed/lapsed/TimeoutClaimableAtPinLaw"), (2, u "law"), (0, u "(JJIJJI)Z")] 3

def k1m0 : Method := { name := "<init>", desc := "()V", sig := { parameters := [], returnType := none }, accessFlags := 1, code := none }
def k1c1 : Code := { maxStack := 19, maxLocals := 21, code := code, exceptionTable := #[], attributes := #[] }
def k1m1 : Method := { name := "law", desc := "(JJIJJI)Z", sig := { parameters := [.long, .long, .int, .long, .long, .int], returnType := some .boolean }, accessFlags := 9, code := some k1c1 }
/-- com/example/lapsed/lapsed/TimeoutClaimableAtPinLaw -/
def k1 : Class := { plain "com/example/lapsed/lapsed/TimeoutClaimableAtPinLaw" (some 0) with
  accessFlags := 49
  interfaces := #[]
  cf := some (fileOf pool1 67 #[] #[{ accessFlags := 1, nameIndex := 5, descriptorIndex := 6, attributes := #[] }, { accessFlags := 9, nameIndex := 71, descriptorIndex := 72, attributes := #[] }] 49 2 #[] #[])
  fields := #[]
  methods := #[k1m0, k1m1]
  instanceTypes := #[]
  staticTypes := #[]
  resolved := Array.replicate 76 none
  statics := none }

def pool2 : Array CpInfo := pool [(8, .class_ 10), (1, u "java/lang/Iterable"), (24, .class_ 36), (0, u "java/lang/Object")] 25

/-- java/lang/Iterable -/
def k2 : Class := { plain "java/lang/Iterable" (some 0) with
  accessFlags := 1537
  interfaces := #[]
  cf := some (fileOf pool2 8 #[] #[] 1537 35 #[] #[])
  fields := #[]
  methods := #[]
  instanceTypes := #[]
  staticTypes := #[]
  resolved := Array.replicate 62 none
  statics := none }

def pool3 : Array CpInfo := pool [(10, .class_ 12), (1, u "java/util/Collection"), (0, u "toArray"), (16, u "()Z"), (29, .class_ 61), (0, u "java/lang/Object"), (0, .class_ 63), (0, u "java/lang/Iterable"), (2, u "isEmpty"), (3, u "()[Ljava/lang/Object;")] 44

def k3m0 : Method := { name := "isEmpty", desc := "()Z", sig := { parameters := [], returnType := some .boolean }, accessFlags := 1025, code := none }
def k3m1 : Method := { name := "toArray", desc := "()[Ljava/lang/Object;", sig := { parameters := [], returnType := some (.array (.object "java/lang/Object")) }, accessFlags := 1025, code := none }
/-- java/util/Collection -/
def k3 : Class := { plain "java/util/Collection" (some 0) with
  accessFlags := 1537
  interfaces := #[2]
  cf := some (fileOf pool3 10 #[] #[{ accessFlags := 1025, nameIndex := 66, descriptorIndex := 30, attributes := #[] }, { accessFlags := 1025, nameIndex := 13, descriptorIndex := 70, attributes := #[] }] 1537 60 #[62] #[])
  fields := #[]
  methods := #[k3m0, k3m1]
  instanceTypes := #[]
  staticTypes := #[]
  resolved := Array.replicate 115 none
  statics := none }

def pool4 : Array CpInfo := pool [(1, .methodref 2 3), (0, .class_ 4), (0, .nameAndType 5 6), (0, u "java/lang/Object"), (0, u "<init>"), (0, u "()V"), (1, .class_ 10), (1, u "java/util/AbstractCollection"), (66, .class_ 78), (0, u "java/util/Collection")] 81

def k4c0 : Code := { maxStack := 1, maxLocals := 1, code := jdk_22_method_1_code, exceptionTable := #[], attributes := #[] }
def k4m0 : Method := { name := "<init>", desc := "()V", sig := { parameters := [], returnType := none }, accessFlags := 4, code := some k4c0 }
/-- java/util/AbstractCollection -/
def k4 : Class := { plain "java/util/AbstractCollection" (some 0) with
  accessFlags := 1057
  interfaces := #[3]
  cf := some (fileOf pool4 8 #[] #[{ accessFlags := 4, nameIndex := 5, descriptorIndex := 6, attributes := #[] }] 1057 2 #[77] #[])
  fields := #[]
  methods := #[k4m0]
  instanceTypes := #[]
  staticTypes := #[]
  resolved := Array.replicate 160 none
  statics := none }

def pool5 : Array CpInfo := pool [(8, .class_ 10), (1, u "java/util/SequencedCollection"), (15, .class_ 27), (0, u "java/lang/Object"), (0, .class_ 29), (0, u "java/util/Collection")] 27

/-- java/util/SequencedCollection -/
def k5 : Class := { plain "java/util/SequencedCollection" (some 0) with
  accessFlags := 1537
  interfaces := #[3]
  cf := some (fileOf pool5 8 #[] #[] 1537 26 #[28] #[])
  fields := #[]
  methods := #[]
  instanceTypes := #[]
  staticTypes := #[]
  resolved := Array.replicate 57 none
  statics := none }

def pool6 : Array CpInfo := pool [(8, .class_ 10), (1, u "java/util/List"), (20, u "(Ljava/lang/Object;)V"), (16, u "<init>"), (26, u "get"), (0, u "(I)Ljava/lang/Object;"), (2, u "size"), (0, u "()I"), (7, u "of"), (1, .fieldref 91 92), (0, .class_ 93), (0, .nameAndType 94 95), (0, u "java/util/ImmutableCollections"), (0, u "EMPTY_LIST"), (0, u "Ljava/util/ImmutableCollections$ListN;"), (0, .class_ 97), (0, u "java/util/ImmutableCollections$List12"), (0, .methodref 96 99), (0, .nameAndType 48 31), (3, .class_ 104), (0, u "java/lang/Object"), (3, u "([Ljava/lang/Object;)Ljava/util/List;"), (3, .methodref 91 113), (0, .nameAndType 114 115), (0, u "listCopy"), (0, u "(Ljava/util/Collection;)Ljava/util/List;"), (3, u "()Ljava/util/List;"), (0, .class_ 121), (0, u "java/util/SequencedCollection"), (1, u "iterator"), (0, u "()Ljava/util/Iterator;"), (109, u "copyOf")] 16

def k6m0 : Method := { name := "size", desc := "()I", sig := { parameters := [], returnType := some .int }, accessFlags := 1025, code := none }
def k6m1 : Method := { name := "iterator", desc := "()Ljava/util/Iterator;", sig := { parameters := [], returnType := some (.object "java/util/Iterator") }, accessFlags := 1025, code := none }
def k6m2 : Method := { name := "get", desc := "(I)Ljava/lang/Object;", sig := { parameters := [.int], returnType := some (.object "java/lang/Object") }, accessFlags := 1025, code := none }
def k6c3 : Code := { maxStack := 1, maxLocals := 0, code := jdk_40_method_36_code, exceptionTable := #[], attributes := #[] }
def k6m3 : Method := { name := "of", desc := "()Ljava/util/List;", sig := { parameters := [], returnType := some (.object "java/util/List") }, accessFlags := 9, code := some k6c3 }
def k6c4 : Code := { maxStack := 5, maxLocals := 2, code := jdk_40_method_47_code, exceptionTable := #[], attributes := #[] }
def k6m4 : Method := { name := "of", desc := "([Ljava/lang/Object;)Ljava/util/List;", sig := { parameters := [(.array (.object "java/lang/Object"))], returnType := some (.object "java/util/List") }, accessFlags := 137, code := some k6c4 }
def k6c5 : Code := { maxStack := 1, maxLocals := 1, code := jdk_40_method_48_code, exceptionTable := #[], attributes := #[] }
def k6m5 : Method := { name := "copyOf", desc := "(Ljava/util/Collection;)Ljava/util/List;", sig := { parameters := [(.object "java/util/Collection")], returnType := some (.object "java/util/List") }, accessFlags := 9, code := some k6c5 }
/-- java/util/List -/
def k6 : Class := { plain "java/util/List" (some 0) with
  accessFlags := 1537
  interfaces := #[5]
  cf := some (fileOf pool6 8 #[] #[{ accessFlags := 1025, nameIndex := 79, descriptorIndex := 80, attributes := #[] }, { accessFlags := 1025, nameIndex := 123, descriptorIndex := 124, attributes := #[] }, { accessFlags := 1025, nameIndex := 75, descriptorIndex := 76, attributes := #[] }, { accessFlags := 9, nameIndex := 88, descriptorIndex := 119, attributes := #[] }, { accessFlags := 137, nameIndex := 88, descriptorIndex := 108, attributes := #[] }, { accessFlags := 9, nameIndex := 234, descriptorIndex := 115, attributes := #[] }] 1537 103 #[120] #[])
  fields := #[]
  methods := #[k6m0, k6m1, k6m2, k6m3, k6m4, k6m5]
  instanceTypes := #[]
  staticTypes := #[]
  resolved := Array.replicate 251 none
  statics := none }

def pool7 : Array CpInfo := pool [(1, .methodref 2 3), (0, .class_ 4), (0, .nameAndType 5 6), (0, u "java/util/AbstractCollection"), (0, u "<init>"), (0, u "()V"), (0, .fieldref 8 9), (0, .class_ 10), (0, .nameAndType 11 12), (0, u "java/util/AbstractList"), (0, u "modCount"), (0, u "I"), (64, .class_ 78), (0, u "java/util/AbstractList$Itr"), (3, .class_ 83), (0, u "java/util/AbstractList$ListItr"), (9, .class_ 94), (0, u "java/util/AbstractList$RandomAccessSubList"), (3, .class_ 99), (0, u "java/util/AbstractList$SubList"), (33, .class_ 134), (0, u "java/util/List"), (73, .class_ 209), (0, u "java/util/AbstractList$SubList$1"), (0, .class_ 211), (0, u "java/util/AbstractList$RandomAccessSpliterator")] 6

def k7c0 : Code := { maxStack := 2, maxLocals := 1, code := jdk_39_method_1_code, exceptionTable := #[], attributes := #[] }
def k7m0 : Method := { name := "<init>", desc := "()V", sig := { parameters := [], returnType := none }, accessFlags := 4, code := some k7c0 }
/-- java/util/AbstractList -/
def k7 : Class := { plain "java/util/AbstractList" (some 4) with
  accessFlags := 1057
  interfaces := #[6]
  cf := some (fileOf pool7 8 #[.nestMembers #[93, 98, 208, 210, 82, 77]] #[{ accessFlags := 4, nameIndex := 5, descriptorIndex := 6, attributes := #[] }] 1057 2 #[133] #[{ accessFlags := 132, nameIndex := 11, descriptorIndex := 12, attributes := #[] }])
  fields := #[{ name := "modCount", type := .int, accessFlags := 132, slot := 0, constantValue := 0 }]
  methods := #[k7m0]
  instanceTypes := #[.int]
  staticTypes := #[]
  resolved := Array.replicate 218 none
  statics := none }

def pool8 : Array CpInfo := pool [(1, .class_ 2), (0, u "java/util/RandomAccess"), (0, .class_ 4), (0, u "java/lang/Object")] 2

/-- java/util/RandomAccess -/
def k8 : Class := { plain "java/util/RandomAccess" (some 0) with
  accessFlags := 1537
  interfaces := #[]
  cf := some (fileOf pool8 1 #[] #[] 1537 3 #[] #[])
  fields := #[]
  methods := #[]
  instanceTypes := #[]
  staticTypes := #[]
  resolved := Array.replicate 7 none
  statics := none }

def pool9 : Array CpInfo := pool [(1, .class_ 2), (0, u "java/lang/Cloneable"), (0, .class_ 4), (0, u "java/lang/Object")] 2

/-- java/lang/Cloneable -/
def k9 : Class := { plain "java/lang/Cloneable" (some 0) with
  accessFlags := 1537
  interfaces := #[]
  cf := some (fileOf pool9 1 #[] #[] 1537 3 #[] #[])
  fields := #[]
  methods := #[]
  instanceTypes := #[]
  staticTypes := #[]
  resolved := Array.replicate 7 none
  statics := none }

def pool10 : Array CpInfo := pool [(1, .class_ 2), (0, u "java/io/Serializable"), (0, .class_ 4), (0, u "java/lang/Object")] 2

/-- java/io/Serializable -/
def k10 : Class := { plain "java/io/Serializable" (some 0) with
  accessFlags := 1537
  interfaces := #[]
  cf := some (fileOf pool10 1 #[] #[] 1537 3 #[] #[])
  fields := #[]
  methods := #[]
  instanceTypes := #[]
  staticTypes := #[]
  resolved := Array.replicate 7 none
  statics := none }

def pool11 : Array CpInfo := pool [(1, .methodref 2 3), (0, .class_ 4), (0, .nameAndType 5 6), (0, u "java/util/AbstractList"), (0, u "<init>"), (0, u "()V"), (0, .class_ 8), (0, u "java/lang/Object"), (0, .fieldref 10 11), (0, .class_ 12), (0, .nameAndType 13 14), (0, u "java/util/ArrayList"), (0, u "elementData"), (0, u "[Ljava/lang/Object;"), (2, u "EMPTY_ELEMENTDATA"), (21, .fieldref 10 40), (0, .nameAndType 41 14), (0, u "DEFAULTCAPACITY_EMPTY_ELEMENTDATA"), (4, u "toArray"), (0, u "()[Ljava/lang/Object;"), (0, .fieldref 10 49), (0, .nameAndType 50 51), (0, u "size"), (0, u "I"), (6, .class_ 60), (1, u "java/util/Arrays"), (0, u "copyOf"), (1, .fieldref 10 64), (0, .nameAndType 65 51), (0, u "modCount"), (0, .methodref 58 67), (0, .nameAndType 61 68), (0, u "([Ljava/lang/Object;I)[Ljava/lang/Object;"), (0, .methodref 10 70), (0, .nameAndType 71 72), (0, u "grow"), (0, u "(I)[Ljava/lang/Object;"), (6, .methodref 80 81), (0, .class_ 82), (0, .nameAndType 83 84), (0, u "java/lang/Math"), (0, u "max"), (0, u "(II)I"), (11, u "(Ljava/lang/Object;)Z"), (32, .methodref 10 130), (0, .nameAndType 71 47), (0, .methodref 10 132), (0, .nameAndType 133 134), (0, u "add"), (0, u "(Ljava/lang/Object;[Ljava/lang/Object;I)V"), (13, .class_ 149), (0, u "java/util/List"), (16, u "iterator"), (0, u "()Ljava/util/Iterator;"), (5, u "()Z"), (88, .class_ 263), (0, u "java/util/ArrayList$ListItr"), (3, .class_ 268), (0, u "java/util/ArrayList$Itr"), (0, .methodref 267 270), (0, .nameAndType 5 271), (0, u "(Ljava/util/ArrayList;)V"), (4, .class_ 277), (0, u "java/util/ArrayList$SubList"), (12, .class_ 291), (0, u "java/util/ArrayList$ArrayListSpliterator"), (37, .class_ 330), (0, u "java/util/RandomAccess"), (0, .class_ 332), (0, u "java/lang/Cloneable"), (0, .class_ 334), (0, u "java/io/Serializable"), (0, u "serialVersionUID"), (0, u "J"), (3, u "DEFAULT_CAPACITY"), (22, u "isEmpty"), (136, .class_ 501), (0, u "java/util/ArrayList$SubList$2"), (0, .class_ 503), (0, u "java/util/ArrayList$SubList$1")] 5

def k11c0 : Code := { maxStack := 2, maxLocals := 1, code := jdk_38_method_2_code, exceptionTable := #[], attributes := #[] }
def k11m0 : Method := { name := "<init>", desc := "()V", sig := { parameters := [], returnType := none }, accessFlags := 1, code := some k11c0 }
def k11c1 : Code := { maxStack := 4, maxLocals := 4, code := jdk_38_method_6_code, exceptionTable := #[], attributes := #[] }
def k11m1 : Method := { name := "grow", desc := "(I)[Ljava/lang/Object;", sig := { parameters := [.int], returnType := some (.array (.object "java/lang/Object")) }, accessFlags := 2, code := some k11c1 }
def k11c2 : Code := { maxStack := 3, maxLocals := 1, code := jdk_38_method_7_code, exceptionTable := #[], attributes := #[] }
def k11m2 : Method := { name := "grow", desc := "()[Ljava/lang/Object;", sig := { parameters := [], returnType := some (.array (.object "java/lang/Object")) }, accessFlags := 2, code := some k11c2 }
def k11c3 : Code := { maxStack := 1, maxLocals := 1, code := jdk_38_method_9_code, exceptionTable := #[], attributes := #[] }
def k11m3 : Method := { name := "isEmpty", desc := "()Z", sig := { parameters := [], returnType := some .boolean }, accessFlags := 1, code := some k11c3 }
def k11c4 : Code := { maxStack := 2, maxLocals := 1, code := jdk_38_method_16_code, exceptionTable := #[], attributes := #[] }
def k11m4 : Method := { name := "toArray", desc := "()[Ljava/lang/Object;", sig := { parameters := [], returnType := some (.array (.object "java/lang/Object")) }, accessFlags := 1, code := some k11c4 }
def k11c5 : Code := { maxStack := 3, maxLocals := 4, code := jdk_38_method_24_code, exceptionTable := #[], attributes := #[] }
def k11m5 : Method := { name := "add", desc := "(Ljava/lang/Object;[Ljava/lang/Object;I)V", sig := { parameters := [(.object "java/lang/Object"), (.array (.object "java/lang/Object")), .int], returnType := none }, accessFlags := 2, code := some k11c5 }
def k11c6 : Code := { maxStack := 4, maxLocals := 2, code := jdk_38_method_25_code, exceptionTable := #[], attributes := #[] }
def k11m6 : Method := { name := "add", desc := "(Ljava/lang/Object;)Z", sig := { parameters := [(.object "java/lang/Object")], returnType := some .boolean }, accessFlags := 1, code := some k11c6 }
def k11c7 : Code := { maxStack := 3, maxLocals := 1, code := jdk_38_method_55_code, exceptionTable := #[], attributes := #[] }
def k11m7 : Method := { name := "iterator", desc := "()Ljava/util/Iterator;", sig := { parameters := [], returnType := some (.object "java/util/Iterator") }, accessFlags := 1, code := some k11c7 }
/-- java/util/ArrayList -/
def k11 : Class := { plain "java/util/ArrayList" (some 7) with
  accessFlags := 33
  interfaces := #[6, 8, 9, 10]
  cf := some (fileOf pool11 10 #[.nestMembers #[290, 276, 500, 502, 262, 267]] #[{ accessFlags := 1, nameIndex := 5, descriptorIndex := 6, attributes := #[] }, { accessFlags := 2, nameIndex := 71, descriptorIndex := 72, attributes := #[] }, { accessFlags := 2, nameIndex := 71, descriptorIndex := 47, attributes := #[] }, { accessFlags := 1, nameIndex := 363, descriptorIndex := 173, attributes := #[] }, { accessFlags := 1, nameIndex := 46, descriptorIndex := 47, attributes := #[] }, { accessFlags := 2, nameIndex := 133, descriptorIndex := 134, attributes := #[] }, { accessFlags := 1, nameIndex := 133, descriptorIndex := 96, attributes := #[] }, { accessFlags := 1, nameIndex := 166, descriptorIndex := 167, attributes := #[] }] 33 2 #[148, 329, 331, 333] #[{ accessFlags := 26, nameIndex := 335, descriptorIndex := 336, attributes := #[] }, { accessFlags := 26, nameIndex := 340, descriptorIndex := 51, attributes := #[] }, { accessFlags := 26, nameIndex := 17, descriptorIndex := 14, attributes := #[] }, { accessFlags := 26, nameIndex := 41, descriptorIndex := 14, attributes := #[] }, { accessFlags := 128, nameIndex := 13, descriptorIndex := 14, attributes := #[] }, { accessFlags := 2, nameIndex := 50, descriptorIndex := 51, attributes := #[] }])
  fields := #[{ name := "serialVersionUID", type := .long, accessFlags := 26, slot := 0, constantValue := 0 }, { name := "DEFAULT_CAPACITY", type := .int, accessFlags := 26, slot := 1, constantValue := 0 }, { name := "EMPTY_ELEMENTDATA", type := (.array (.object "java/lang/Object")), accessFlags := 26, slot := 2, constantValue := 0 }, { name := "DEFAULTCAPACITY_EMPTY_ELEMENTDATA", type := (.array (.object "java/lang/Object")), accessFlags := 26, slot := 3, constantValue := 0 }, { name := "elementData", type := (.array (.object "java/lang/Object")), accessFlags := 128, slot := 1, constantValue := 0 }, { name := "size", type := .int, accessFlags := 2, slot := 2, constantValue := 0 }]
  methods := #[k11m0, k11m1, k11m2, k11m3, k11m4, k11m5, k11m6, k11m7]
  instanceTypes := #[.int, (.array (.object "java/lang/Object")), .int]
  staticTypes := #[.long, .int, (.array (.object "java/lang/Object")), (.array (.object "java/lang/Object"))]
  resolved := Array.replicate 509 none
  statics := some 0 }

def pool12 : Array CpInfo := pool [(1, .methodref 2 3), (0, .class_ 4), (0, .nameAndType 5 6), (0, u "java/lang/Object"), (0, u "<init>"), (0, u "()V"), (1, .class_ 10), (1, u "java/lang/Number"), (2, .class_ 14), (0, u "java/io/Serializable"), (0, u "serialVersionUID"), (0, u "J")] 20

def k12c0 : Code := { maxStack := 1, maxLocals := 1, code := jdk_18_method_1_code, exceptionTable := #[], attributes := #[] }
def k12m0 : Method := { name := "<init>", desc := "()V", sig := { parameters := [], returnType := none }, accessFlags := 1, code := some k12c0 }
/-- java/lang/Number -/
def k12 : Class := { plain "java/lang/Number" (some 0) with
  accessFlags := 1057
  interfaces := #[10]
  cf := some (fileOf pool12 8 #[] #[{ accessFlags := 1, nameIndex := 5, descriptorIndex := 6, attributes := #[] }] 1057 2 #[13] #[{ accessFlags := 26, nameIndex := 15, descriptorIndex := 16, attributes := #[] }])
  fields := #[{ name := "serialVersionUID", type := .long, accessFlags := 26, slot := 0, constantValue := 0 }]
  methods := #[k12m0]
  instanceTypes := #[]
  staticTypes := #[.long]
  resolved := Array.replicate 37 none
  statics := none }

def pool13 : Array CpInfo := pool [(1, .class_ 2), (0, u "java/lang/Comparable"), (0, .class_ 4), (0, u "java/lang/Object")] 7

/-- java/lang/Comparable -/
def k13 : Class := { plain "java/lang/Comparable" (some 0) with
  accessFlags := 1537
  interfaces := #[]
  cf := some (fileOf pool13 1 #[] #[] 1537 3 #[] #[])
  fields := #[]
  methods := #[]
  instanceTypes := #[]
  staticTypes := #[]
  resolved := Array.replicate 12 none
  statics := none }

def pool14 : Array CpInfo := pool [(1, .class_ 2), (0, u "java/lang/constant/Constable"), (0, .class_ 4), (0, u "java/lang/Object")] 6

/-- java/lang/constant/Constable -/
def k14 : Class := { plain "java/lang/constant/Constable" (some 0) with
  accessFlags := 1537
  interfaces := #[]
  cf := some (fileOf pool14 1 #[] #[] 1537 3 #[] #[])
  fields := #[]
  methods := #[]
  instanceTypes := #[]
  staticTypes := #[]
  resolved := Array.replicate 11 none
  statics := none }

def pool15 : Array CpInfo := pool [(1, .class_ 2), (0, u "java/lang/constant/ConstantDesc"), (0, .class_ 4), (0, u "java/lang/Object")] 32

/-- java/lang/constant/ConstantDesc -/
def k15 : Class := { plain "java/lang/constant/ConstantDesc" (some 0) with
  accessFlags := 1537
  interfaces := #[]
  cf := some (fileOf pool15 1 #[] #[] 1537 3 #[] #[])
  fields := #[]
  methods := #[]
  instanceTypes := #[]
  staticTypes := #[]
  resolved := Array.replicate 37 none
  statics := none }

def pool16 : Array CpInfo := pool [(1, .class_ 2), (0, u "java/lang/Long"), (55, .nameAndType 59 60), (0, u "<init>"), (0, u "()V"), (24, u "valueOf"), (143, u "(J)Ljava/lang/Long;"), (0, .long 18446744073709551488), (1, .long 127), (1, .fieldref 235 236), (0, .class_ 237), (0, .nameAndType 238 239), (0, u "java/lang/Long$LongCache"), (0, u "cache"), (0, u "[Ljava/lang/Long;"), (0, .methodref 1 241), (0, .nameAndType 59 242), (0, u "(J)V"), (27, .methodref 271 58), (0, .class_ 272), (0, u "java/lang/Number"), (0, .fieldref 1 274), (0, .nameAndType 275 276), (0, u "value"), (0, u "J"), (5, u "longValue"), (0, u "()J"), (77, u "TYPE"), (0, u "Ljava/lang/Class;"), (0, .class_ 364), (0, u "java/lang/Comparable"), (0, .class_ 366), (0, u "java/lang/constant/Constable"), (0, .class_ 368), (0, u "java/lang/constant/ConstantDesc"), (0, u "MIN_VALUE"), (1, u "MAX_VALUE"), (4, u "SIZE"), (0, u "I"), (1, u "BYTES"), (1, u "serialVersionUID")] 142

def k16c0 : Code := { maxStack := 4, maxLocals := 3, code := jdk_35_method_24_code, exceptionTable := #[], attributes := #[] }
def k16m0 : Method := { name := "valueOf", desc := "(J)Ljava/lang/Long;", sig := { parameters := [.long], returnType := some (.object "java/lang/Long") }, accessFlags := 9, code := some k16c0 }
def k16c1 : Code := { maxStack := 3, maxLocals := 3, code := jdk_35_method_26_code, exceptionTable := #[], attributes := #[] }
def k16m1 : Method := { name := "<init>", desc := "(J)V", sig := { parameters := [.long], returnType := none }, accessFlags := 1, code := some k16c1 }
def k16c2 : Code := { maxStack := 2, maxLocals := 1, code := jdk_35_method_31_code, exceptionTable := #[], attributes := #[] }
def k16m2 : Method := { name := "longValue", desc := "()J", sig := { parameters := [], returnType := some .long }, accessFlags := 1, code := some k16c2 }
/-- java/lang/Long -/
def k16 : Class := { plain "java/lang/Long" (some 12) with
  accessFlags := 49
  interfaces := #[13, 14, 15]
  cf := some (fileOf pool16 1 #[.nestMembers #[235]] #[{ accessFlags := 9, nameIndex := 85, descriptorIndex := 229, attributes := #[] }, { accessFlags := 1, nameIndex := 59, descriptorIndex := 242, attributes := #[] }, { accessFlags := 1, nameIndex := 282, descriptorIndex := 283, attributes := #[] }] 49 271 #[363, 365, 367] #[{ accessFlags := 25, nameIndex := 369, descriptorIndex := 276, attributes := #[] }, { accessFlags := 25, nameIndex := 371, descriptorIndex := 276, attributes := #[] }, { accessFlags := 25, nameIndex := 361, descriptorIndex := 362, attributes := #[] }, { accessFlags := 18, nameIndex := 275, descriptorIndex := 276, attributes := #[] }, { accessFlags := 25, nameIndex := 376, descriptorIndex := 377, attributes := #[] }, { accessFlags := 25, nameIndex := 379, descriptorIndex := 377, attributes := #[] }, { accessFlags := 26, nameIndex := 381, descriptorIndex := 276, attributes := #[] }])
  fields := #[{ name := "MIN_VALUE", type := .long, accessFlags := 25, slot := 0, constantValue := 0 }, { name := "MAX_VALUE", type := .long, accessFlags := 25, slot := 1, constantValue := 0 }, { name := "TYPE", type := (.object "java/lang/Class"), accessFlags := 25, slot := 2, constantValue := 0 }, { name := "value", type := .long, accessFlags := 18, slot := 0, constantValue := 0 }, { name := "SIZE", type := .int, accessFlags := 25, slot := 3, constantValue := 0 }, { name := "BYTES", type := .int, accessFlags := 25, slot := 4, constantValue := 0 }, { name := "serialVersionUID", type := .long, accessFlags := 26, slot := 5, constantValue := 0 }]
  methods := #[k16m0, k16m1, k16m2]
  instanceTypes := #[.long]
  staticTypes := #[.long, .long, (.object "java/lang/Class"), .int, .int, .long]
  resolved := Array.replicate 524 none
  statics := none }

def pool17 : Array CpInfo := pool [(2, .class_ 4), (1, u "java/lang/Object"), (0, u "<init>"), (0, u "()V"), (0, .class_ 8), (0, u "java/lang/Long"), (7, .class_ 18), (1, u "java/lang/Long$LongCache"), (0, u "$assertionsDisabled"), (0, u "Z"), (8, u "archivedCache"), (0, u "[Ljava/lang/Long;"), (7, u "cache")] 24

def k17m0 : Method := { name := "<init>", desc := "()V", sig := { parameters := [], returnType := none }, accessFlags := 2, code := none }
/-- java/lang/Long$LongCache -/
def k17 : Class := { plain "java/lang/Long$LongCache" (some 0) with
  accessFlags := 48
  interfaces := #[]
  cf := some (fileOf pool17 16 #[.nestHost 7] #[{ accessFlags := 2, nameIndex := 5, descriptorIndex := 6, attributes := #[] }] 48 2 #[] #[{ accessFlags := 24, nameIndex := 38, descriptorIndex := 30, attributes := #[] }, { accessFlags := 8, nameIndex := 29, descriptorIndex := 30, attributes := #[] }, { accessFlags := 4120, nameIndex := 19, descriptorIndex := 20, attributes := #[] }])
  fields := #[{ name := "cache", type := (.array (.object "java/lang/Long")), accessFlags := 24, slot := 0, constantValue := 0 }, { name := "archivedCache", type := (.array (.object "java/lang/Long")), accessFlags := 8, slot := 1, constantValue := 0 }, { name := "$assertionsDisabled", type := .boolean, accessFlags := 4120, slot := 2, constantValue := 0 }]
  methods := #[k17m0]
  instanceTypes := #[]
  staticTypes := #[(.array (.object "java/lang/Long")), (.array (.object "java/lang/Long")), .boolean]
  resolved := Array.replicate 63 none
  statics := some 1 }

def pool18 : Array CpInfo := pool [(1, .class_ 2), (0, u "java/lang/Math"), (1, .class_ 6), (1, u "java/lang/Object"), (0, u "<init>"), (0, u "()V"), (89, .class_ 100), (1, u "java/lang/Math$RandomNumberGeneratorHolder"), (71, u "negativeZeroFloatBits"), (0, u "J"), (2, u "negativeZeroDoubleBits"), (21, u "max"), (2, u "min"), (43, u "$assertionsDisabled"), (0, u "Z"), (88, u "(II)I"), (2, u "twoToTheDoubleScaleDown"), (0, u "D"), (4, u "twoToTheDoubleScaleUp"), (9, u "E"), (3, u "PI"), (2, u "TAU"), (2, u "DEGREES_TO_RADIANS"), (0, u "RADIANS_TO_DEGREES")] 94

def k18m0 : Method := { name := "<init>", desc := "()V", sig := { parameters := [], returnType := none }, accessFlags := 2, code := none }
def k18c1 : Code := { maxStack := 2, maxLocals := 2, code := jdk_29_method_65_code, exceptionTable := #[], attributes := #[] }
def k18m1 : Method := { name := "max", desc := "(II)I", sig := { parameters := [.int, .int], returnType := some .int }, accessFlags := 9, code := some k18c1 }
def k18c2 : Code := { maxStack := 2, maxLocals := 2, code := jdk_29_method_69_code, exceptionTable := #[], attributes := #[] }
def k18m2 : Method := { name := "min", desc := "(II)I", sig := { parameters := [.int, .int], returnType := some .int }, accessFlags := 9, code := some k18c2 }
/-- java/lang/Math -/
def k18 : Class := { plain "java/lang/Math" (some 0) with
  accessFlags := 49
  interfaces := #[]
  cf := some (fileOf pool18 1 #[.nestMembers #[98]] #[{ accessFlags := 2, nameIndex := 7, descriptorIndex := 8, attributes := #[] }, { accessFlags := 9, nameIndex := 198, descriptorIndex := 335, attributes := #[] }, { accessFlags := 9, nameIndex := 201, descriptorIndex := 335, attributes := #[] }] 49 4 #[] #[{ accessFlags := 25, nameIndex := 354, descriptorIndex := 339, attributes := #[] }, { accessFlags := 25, nameIndex := 358, descriptorIndex := 339, attributes := #[] }, { accessFlags := 25, nameIndex := 361, descriptorIndex := 339, attributes := #[] }, { accessFlags := 26, nameIndex := 364, descriptorIndex := 339, attributes := #[] }, { accessFlags := 26, nameIndex := 365, descriptorIndex := 339, attributes := #[] }, { accessFlags := 26, nameIndex := 172, descriptorIndex := 173, attributes := #[] }, { accessFlags := 26, nameIndex := 176, descriptorIndex := 173, attributes := #[] }, { accessFlags := 8, nameIndex := 344, descriptorIndex := 339, attributes := #[] }, { accessFlags := 8, nameIndex := 338, descriptorIndex := 339, attributes := #[] }, { accessFlags := 4120, nameIndex := 245, descriptorIndex := 246, attributes := #[] }])
  fields := #[{ name := "E", type := .double, accessFlags := 25, slot := 0, constantValue := 0 }, { name := "PI", type := .double, accessFlags := 25, slot := 1, constantValue := 0 }, { name := "TAU", type := .double, accessFlags := 25, slot := 2, constantValue := 0 }, { name := "DEGREES_TO_RADIANS", type := .double, accessFlags := 26, slot := 3, constantValue := 0 }, { name := "RADIANS_TO_DEGREES", type := .double, accessFlags := 26, slot := 4, constantValue := 0 }, { name := "negativeZeroFloatBits", type := .long, accessFlags := 26, slot := 5, constantValue := 0 }, { name := "negativeZeroDoubleBits", type := .long, accessFlags := 26, slot := 6, constantValue := 0 }, { name := "twoToTheDoubleScaleUp", type := .double, accessFlags := 8, slot := 7, constantValue := 0 }, { name := "twoToTheDoubleScaleDown", type := .double, accessFlags := 8, slot := 8, constantValue := 0 }, { name := "$assertionsDisabled", type := .boolean, accessFlags := 4120, slot := 9, constantValue := 0 }]
  methods := #[k18m0, k18m1, k18m2]
  instanceTypes := #[]
  staticTypes := #[.double, .double, .double, .double, .double, .long, .long, .double, .double, .boolean]
  resolved := Array.replicate 460 none
  statics := none }

def pool19 : Array CpInfo := pool [(1, .methodref 2 3), (0, .class_ 4), (0, .nameAndType 5 6), (0, u "java/lang/Object"), (0, u "<init>"), (0, u "()V"), (0, .interfaceMethodref 8 9), (0, .class_ 10), (0, .nameAndType 11 12), (0, u "java/util/List"), (0, u "iterator"), (0, u "()Ljava/util/Iterator;"), (0, .interfaceMethodref 14 15), (0, .class_ 16), (0, .nameAndType 17 18), (0, u "java/util/Iterator"), (0, u "hasNext"), (0, u "()Z"), (0, .interfaceMethodref 14 20), (0, .nameAndType 21 22), (0, u "next"), (0, u "()Ljava/lang/Object;"), (0, .class_ 24), (0, u "java/lang/Long"), (0, .methodref 23 26), (0, .nameAndType 27 28), (0, u "longValue"), (0, u "()J"), (0, .class_ 30), (0, u "com/example/lapsed/lapsed/RetryPolicy"), (0, .long 86400000), (10, .interfaceMethodref 8 43), (0, .nameAndType 44 45), (0, u "copyOf"), (0, u "(Ljava/util/Collection;)Ljava/util/List;"), (0, .fieldref 29 47), (0, .nameAndType 48 49), (0, u "delaysMs"), (0, u "Ljava/util/List;"), (0, .interfaceMethodref 8 51), (0, .nameAndType 52 53), (0, u "size"), (0, u "()I"), (0, .interfaceMethodref 8 55), (0, .nameAndType 56 57), (0, u "get"), (0, u "(I)Ljava/lang/Object;"), (0, .methodref 59 60), (0, .class_ 61), (0, .nameAndType 62 63), (0, u "java/util/OptionalLong"), (0, u "of"), (0, u "(J)Ljava/util/OptionalLong;"), (0, .methodref 59 65), (0, .nameAndType 66 67), (0, u "empty"), (0, u "()Ljava/util/OptionalLong;"), (15, u "(Ljava/util/List;)V"), (2, u "DEFAULT"), (0, u "Lcom/example/lapsed/lapsed/RetryPolicy;"), (5, u "NONE"), (0, u "MAX_DELAY_MS"), (0, u "J"), (7, u "delayAfter"), (0, u "(I)Ljava/util/OptionalLong;")] 18

def k19c0 : Code := { maxStack := 4, maxLocals := 5, code := prog_8_method_1_code, exceptionTable := #[], attributes := #[] }
def k19m0 : Method := { name := "<init>", desc := "(Ljava/util/List;)V", sig := { parameters := [(.object "java/util/List")], returnType := none }, accessFlags := 1, code := some k19c0 }
def k19c1 : Code := { maxStack := 3, maxLocals := 2, code := prog_8_method_2_code, exceptionTable := #[], attributes := #[] }
def k19m1 : Method := { name := "delayAfter", desc := "(I)Ljava/util/OptionalLong;", sig := { parameters := [.int], returnType := some (.object "java/util/OptionalLong") }, accessFlags := 0, code := some k19c1 }
/-- com/example/lapsed/lapsed/RetryPolicy -/
def k19 : Class := { plain "com/example/lapsed/lapsed/RetryPolicy" (some 0) with
  accessFlags := 33
  interfaces := #[]
  cf := some (fileOf pool19 29 #[] #[{ accessFlags := 1, nameIndex := 5, descriptorIndex := 83, attributes := #[] }, { accessFlags := 0, nameIndex := 103, descriptorIndex := 104, attributes := #[] }] 33 2 #[] #[{ accessFlags := 25, nameIndex := 94, descriptorIndex := 95, attributes := #[] }, { accessFlags := 25, nameIndex := 86, descriptorIndex := 87, attributes := #[] }, { accessFlags := 25, nameIndex := 93, descriptorIndex := 87, attributes := #[] }, { accessFlags := 18, nameIndex := 48, descriptorIndex := 49, attributes := #[] }])
  fields := #[{ name := "MAX_DELAY_MS", type := .long, accessFlags := 25, slot := 0, constantValue := 0 }, { name := "DEFAULT", type := (.object "com/example/lapsed/lapsed/RetryPolicy"), accessFlags := 25, slot := 1, constantValue := 0 }, { name := "NONE", type := (.object "com/example/lapsed/lapsed/RetryPolicy"), accessFlags := 25, slot := 2, constantValue := 0 }, { name := "delaysMs", type := (.object "java/util/List"), accessFlags := 18, slot := 0, constantValue := 0 }]
  methods := #[k19m0, k19m1]
  instanceTypes := #[(.object "java/util/List")]
  staticTypes := #[.long, (.object "com/example/lapsed/lapsed/RetryPolicy"), (.object "com/example/lapsed/lapsed/RetryPolicy")]
  resolved := Array.replicate 123 none
  statics := none }

def pool20 : Array CpInfo := pool [(16, .class_ 18), (1, u "java/util/Iterator"), (0, u "hasNext"), (0, u "()Z"), (2, u "next"), (0, u "()Ljava/lang/Object;"), (6, .class_ 32), (0, u "java/lang/Object")] 20

def k20m0 : Method := { name := "hasNext", desc := "()Z", sig := { parameters := [], returnType := some .boolean }, accessFlags := 1025, code := none }
def k20m1 : Method := { name := "next", desc := "()Ljava/lang/Object;", sig := { parameters := [], returnType := some (.object "java/lang/Object") }, accessFlags := 1025, code := none }
/-- java/util/Iterator -/
def k20 : Class := { plain "java/util/Iterator" (some 0) with
  accessFlags := 1537
  interfaces := #[]
  cf := some (fileOf pool20 16 #[] #[{ accessFlags := 1025, nameIndex := 19, descriptorIndex := 20, attributes := #[] }, { accessFlags := 1025, nameIndex := 23, descriptorIndex := 24, attributes := #[] }] 1537 31 #[] #[])
  fields := #[]
  methods := #[k20m0, k20m1]
  instanceTypes := #[]
  staticTypes := #[]
  resolved := Array.replicate 53 none
  statics := none }

def pool21 : Array CpInfo := pool [(1, .fieldref 2 3), (0, .class_ 4), (0, .nameAndType 5 6), (0, u "java/util/ArrayList$Itr"), (0, u "this$0"), (0, u "Ljava/util/ArrayList;"), (0, .methodref 8 9), (0, .class_ 10), (0, .nameAndType 11 12), (0, u "java/lang/Object"), (0, u "<init>"), (0, u "()V"), (0, .fieldref 2 14), (0, .nameAndType 15 16), (0, u "lastRet"), (0, u "I"), (0, .fieldref 18 19), (0, .class_ 20), (0, .nameAndType 21 16), (0, u "java/util/ArrayList"), (0, u "modCount"), (0, .fieldref 2 23), (0, .nameAndType 24 16), (0, u "expectedModCount"), (0, .fieldref 2 26), (0, .nameAndType 27 16), (0, u "cursor"), (0, .fieldref 18 29), (0, .nameAndType 30 16), (0, u "size"), (0, .methodref 2 32), (0, .nameAndType 33 12), (0, u "checkForComodification"), (3, .fieldref 18 38), (0, .nameAndType 39 40), (0, u "elementData"), (0, u "[Ljava/lang/Object;"), (28, .class_ 70), (0, u "java/util/Iterator"), (0, u "(Ljava/util/ArrayList;)V"), (8, u "hasNext"), (0, u "()Z"), (1, u "next"), (0, u "()Ljava/lang/Object;")] 19

def k21c0 : Code := { maxStack := 2, maxLocals := 2, code := jdk_49_method_1_code, exceptionTable := #[], attributes := #[] }
def k21m0 : Method := { name := "<init>", desc := "(Ljava/util/ArrayList;)V", sig := { parameters := [(.object "java/util/ArrayList")], returnType := none }, accessFlags := 0, code := some k21c0 }
def k21c1 : Code := { maxStack := 2, maxLocals := 1, code := jdk_49_method_2_code, exceptionTable := #[], attributes := #[] }
def k21m1 : Method := { name := "hasNext", desc := "()Z", sig := { parameters := [], returnType := some .boolean }, accessFlags := 1, code := some k21c1 }
def k21c2 : Code := { maxStack := 4, maxLocals := 3, code := jdk_49_method_3_code, exceptionTable := #[], attributes := #[] }
def k21m2 : Method := { name := "next", desc := "()Ljava/lang/Object;", sig := { parameters := [], returnType := some (.object "java/lang/Object") }, accessFlags := 1, code := some k21c2 }
def k21c3 : Code := { maxStack := 2, maxLocals := 1, code := jdk_49_method_6_code, exceptionTable := #[], attributes := #[] }
def k21m3 : Method := { name := "checkForComodification", desc := "()V", sig := { parameters := [], returnType := none }, accessFlags := 16, code := some k21c3 }
/-- java/util/ArrayList$Itr -/
def k21 : Class := { plain "java/util/ArrayList$Itr" (some 0) with
  accessFlags := 32
  interfaces := #[20]
  cf := some (fileOf pool21 2 #[.nestHost 18] #[{ accessFlags := 0, nameIndex := 11, descriptorIndex := 71, attributes := #[] }, { accessFlags := 1, nameIndex := 80, descriptorIndex := 81, attributes := #[] }, { accessFlags := 1, nameIndex := 83, descriptorIndex := 84, attributes := #[] }, { accessFlags := 16, nameIndex := 33, descriptorIndex := 12, attributes := #[] }] 32 8 #[69] #[{ accessFlags := 0, nameIndex := 27, descriptorIndex := 16, attributes := #[] }, { accessFlags := 0, nameIndex := 15, descriptorIndex := 16, attributes := #[] }, { accessFlags := 0, nameIndex := 24, descriptorIndex := 16, attributes := #[] }, { accessFlags := 4112, nameIndex := 5, descriptorIndex := 6, attributes := #[] }])
  fields := #[{ name := "cursor", type := .int, accessFlags := 0, slot := 0, constantValue := 0 }, { name := "lastRet", type := .int, accessFlags := 0, slot := 1, constantValue := 0 }, { name := "expectedModCount", type := .int, accessFlags := 0, slot := 2, constantValue := 0 }, { name := "this$0", type := (.object "java/util/ArrayList"), accessFlags := 4112, slot := 3, constantValue := 0 }]
  methods := #[k21m0, k21m1, k21m2, k21m3]
  instanceTypes := #[.int, .int, .int, (.object "java/util/ArrayList")]
  staticTypes := #[]
  resolved := Array.replicate 104 none
  statics := none }

def pool22 : Array CpInfo := pool [(2, .class_ 4), (1, u "java/lang/Object"), (0, u "<init>"), (0, u "()V"), (3, .class_ 11), (0, u "java/util/ImmutableCollections$List12"), (0, .class_ 13), (0, u "java/util/ImmutableCollections$ListN"), (3, u "Z"), (0, .class_ 19), (0, u "java/util/List"), (0, .interfaceMethodref 21 22), (0, .class_ 23), (0, .nameAndType 24 25), (0, u "java/util/Collection"), (0, u "isEmpty"), (0, u "()Z"), (0, .interfaceMethodref 18 27), (0, .nameAndType 28 29), (0, u "of"), (0, u "()Ljava/util/List;"), (0, .interfaceMethodref 21 31), (0, .nameAndType 32 33), (0, u "toArray"), (0, u "()[Ljava/lang/Object;"), (0, .interfaceMethodref 18 35), (0, .nameAndType 28 36), (0, u "([Ljava/lang/Object;)Ljava/util/List;"), (10, .class_ 49), (1, u "java/util/ImmutableCollections"), (0, u "$assertionsDisabled"), (5, u "[Ljava/lang/Object;"), (5, u "EMPTY_LIST"), (0, u "Ljava/util/ImmutableCollections$ListN;"), (8, u "EMPTY_LIST_NULLS"), (22, u "SALT32L"), (0, u "J"), (2, u "REVERSE"), (6, u "archivedObjects"), (2, u "EMPTY"), (0, u "Ljava/lang/Object;"), (0, .class_ 112), (0, u "java/util/ImmutableCollections$SetN"), (5, u "EMPTY_SET"), (0, u "Ljava/util/ImmutableCollections$SetN;"), (0, .class_ 121), (0, u "java/util/ImmutableCollections$MapN"), (3, u "EMPTY_MAP"), (0, u "Ljava/util/ImmutableCollections$MapN;"), (4, u "EXPAND_FACTOR"), (0, u "I"), (9, u "listCopy"), (0, u "(Ljava/util/Collection;)Ljava/util/List;"), (25, .class_ 170), (0, u "java/util/ImmutableCollections$MapN$MapNIterator"), (0, .class_ 172), (0, u "java/util/ImmutableCollections$MapN$1"), (0, .class_ 174), (0, u "java/util/ImmutableCollections$Map1"), (0, .class_ 176), (0, u "java/util/ImmutableCollections$AbstractImmutableMap"), (0, .class_ 178), (0, u "java/util/ImmutableCollections$SetN$SetNIterator"), (0, .class_ 180), (0, u "java/util/ImmutableCollections$Set12"), (0, .class_ 182), (0, u "java/util/ImmutableCollections$Set12$1"), (0, .class_ 184), (0, u "java/util/ImmutableCollections$AbstractImmutableSet"), (0, .class_ 186), (0, u "java/util/ImmutableCollections$SubList"), (0, .class_ 188), (0, u "java/util/ImmutableCollections$ListItr"), (0, .class_ 190), (0, u "java/util/ImmutableCollections$AbstractImmutableList"), (0, .class_ 192), (0, u "java/util/ImmutableCollections$AbstractImmutableCollection"), (0, .class_ 194), (0, u "java/util/ImmutableCollections$Access"), (0, .class_ 196), (0, u "java/util/ImmutableCollections$Access$1")] 16

def k22m0 : Method := { name := "<init>", desc := "()V", sig := { parameters := [], returnType := none }, accessFlags := 2, code := none }
def k22c1 : Code := { maxStack := 1, maxLocals := 2, code := jdk_56_method_3_code, exceptionTable := #[], attributes := #[] }
def k22m1 : Method := { name := "listCopy", desc := "(Ljava/util/Collection;)Ljava/util/List;", sig := { parameters := [(.object "java/util/Collection")], returnType := some (.object "java/util/List") }, accessFlags := 8, code := some k22c1 }
/-- java/util/ImmutableCollections -/
def k22 : Class := { plain "java/util/ImmutableCollections" (some 0) with
  accessFlags := 32
  interfaces := #[]
  cf := some (fileOf pool22 47 #[.nestMembers #[120, 169, 171, 173, 175, 111, 177, 179, 181, 183, 12, 10, 185, 187, 189, 191, 193, 195]] #[{ accessFlags := 2, nameIndex := 5, descriptorIndex := 6, attributes := #[] }, { accessFlags := 8, nameIndex := 142, descriptorIndex := 143, attributes := #[] }] 32 2 #[] #[{ accessFlags := 26, nameIndex := 95, descriptorIndex := 96, attributes := #[] }, { accessFlags := 26, nameIndex := 99, descriptorIndex := 17, attributes := #[] }, { accessFlags := 10, nameIndex := 106, descriptorIndex := 56, attributes := #[] }, { accessFlags := 26, nameIndex := 109, descriptorIndex := 110, attributes := #[] }, { accessFlags := 24, nameIndex := 62, descriptorIndex := 63, attributes := #[] }, { accessFlags := 24, nameIndex := 72, descriptorIndex := 63, attributes := #[] }, { accessFlags := 24, nameIndex := 118, descriptorIndex := 119, attributes := #[] }, { accessFlags := 24, nameIndex := 125, descriptorIndex := 126, attributes := #[] }, { accessFlags := 24, nameIndex := 131, descriptorIndex := 132, attributes := #[] }, { accessFlags := 4120, nameIndex := 50, descriptorIndex := 17, attributes := #[] }])
  fields := #[{ name := "SALT32L", type := .long, accessFlags := 26, slot := 0, constantValue := 0 }, { name := "REVERSE", type := .boolean, accessFlags := 26, slot := 1, constantValue := 0 }, { name := "archivedObjects", type := (.array (.object "java/lang/Object")), accessFlags := 10, slot := 2, constantValue := 0 }, { name := "EMPTY", type := (.object "java/lang/Object"), accessFlags := 26, slot := 3, constantValue := 0 }, { name := "EMPTY_LIST", type := (.object "java/util/ImmutableCollections$ListN"), accessFlags := 24, slot := 4, constantValue := 0 }, { name := "EMPTY_LIST_NULLS", type := (.object "java/util/ImmutableCollections$ListN"), accessFlags := 24, slot := 5, constantValue := 0 }, { name := "EMPTY_SET", type := (.object "java/util/ImmutableCollections$SetN"), accessFlags := 24, slot := 6, constantValue := 0 }, { name := "EMPTY_MAP", type := (.object "java/util/ImmutableCollections$MapN"), accessFlags := 24, slot := 7, constantValue := 0 }, { name := "EXPAND_FACTOR", type := .int, accessFlags := 24, slot := 8, constantValue := 0 }, { name := "$assertionsDisabled", type := .boolean, accessFlags := 4120, slot := 9, constantValue := 0 }]
  methods := #[k22m0, k22m1]
  instanceTypes := #[]
  staticTypes := #[.long, .boolean, (.array (.object "java/lang/Object")), (.object "java/lang/Object"), (.object "java/util/ImmutableCollections$ListN"), (.object "java/util/ImmutableCollections$ListN"), (.object "java/util/ImmutableCollections$SetN"), (.object "java/util/ImmutableCollections$MapN"), .int, .boolean]
  resolved := Array.replicate 213 none
  statics := some 2 }

def pool23 : Array CpInfo := pool [(1, .methodref 2 3), (0, .class_ 4), (0, .nameAndType 5 6), (0, u "java/util/AbstractCollection"), (0, u "<init>"), (0, u "()V"), (1, .class_ 10), (1, u "java/util/ImmutableCollections"), (2, .class_ 14), (0, u "java/util/ImmutableCollections$AbstractImmutableCollection")] 41

def k23c0 : Code := { maxStack := 1, maxLocals := 1, code := jdk_47_method_1_code, exceptionTable := #[], attributes := #[] }
def k23m0 : Method := { name := "<init>", desc := "()V", sig := { parameters := [], returnType := none }, accessFlags := 0, code := some k23c0 }
/-- java/util/ImmutableCollections$AbstractImmutableCollection -/
def k23 : Class := { plain "java/util/ImmutableCollections$AbstractImmutableCollection" (some 4) with
  accessFlags := 1056
  interfaces := #[]
  cf := some (fileOf pool23 13 #[.nestHost 8] #[{ accessFlags := 0, nameIndex := 5, descriptorIndex := 6, attributes := #[] }] 1056 2 #[] #[])
  fields := #[]
  methods := #[k23m0]
  instanceTypes := #[]
  staticTypes := #[]
  resolved := Array.replicate 56 none
  statics := none }

def pool24 : Array CpInfo := pool [(1, .methodref 2 3), (0, .class_ 4), (0, .nameAndType 5 6), (0, u "java/util/ImmutableCollections$AbstractImmutableCollection"), (0, u "<init>"), (0, u "()V"), (1, .class_ 10), (1, u "java/util/ImmutableCollections"), (3, .class_ 16), (1, u "java/util/ImmutableCollections$AbstractImmutableList"), (60, .class_ 78), (0, u "java/util/List"), (45, .class_ 125), (0, u "java/util/RandomAccess")] 70

def k24c0 : Code := { maxStack := 1, maxLocals := 1, code := jdk_46_method_1_code, exceptionTable := #[], attributes := #[] }
def k24m0 : Method := { name := "<init>", desc := "()V", sig := { parameters := [], returnType := none }, accessFlags := 0, code := some k24c0 }
/-- java/util/ImmutableCollections$AbstractImmutableList -/
def k24 : Class := { plain "java/util/ImmutableCollections$AbstractImmutableList" (some 23) with
  accessFlags := 1056
  interfaces := #[6, 8]
  cf := some (fileOf pool24 14 #[.nestHost 8] #[{ accessFlags := 0, nameIndex := 5, descriptorIndex := 6, attributes := #[] }] 1056 2 #[77, 124] #[])
  fields := #[]
  methods := #[k24m0]
  instanceTypes := #[]
  staticTypes := #[]
  resolved := Array.replicate 196 none
  statics := none }

def pool25 : Array CpInfo := pool [(1, .methodref 2 3), (0, .class_ 4), (0, .nameAndType 5 6), (0, u "java/util/ImmutableCollections$AbstractImmutableList"), (0, u "<init>"), (0, u "()V"), (0, .methodref 8 9), (0, .class_ 10), (0, .nameAndType 11 12), (0, u "java/util/Objects"), (0, u "requireNonNull"), (0, u "(Ljava/lang/Object;)Ljava/lang/Object;"), (0, .fieldref 14 15), (0, .class_ 16), (0, .nameAndType 17 18), (0, u "java/util/ImmutableCollections$List12"), (0, u "e0"), (0, u "Ljava/lang/Object;"), (0, .fieldref 20 21), (0, .class_ 22), (0, .nameAndType 23 18), (0, u "java/util/ImmutableCollections"), (0, u "EMPTY"), (0, .fieldref 14 25), (0, .nameAndType 26 18), (0, u "e1"), (24, u "size"), (0, u "()I"), (17, .class_ 71), (0, u "java/io/Serializable"), (4, u "(Ljava/lang/Object;)V"), (13, u "get"), (0, u "(I)Ljava/lang/Object;")] 33

def k25c0 : Code := { maxStack := 2, maxLocals := 2, code := jdk_44_method_1_code, exceptionTable := #[], attributes := #[] }
def k25m0 : Method := { name := "<init>", desc := "(Ljava/lang/Object;)V", sig := { parameters := [(.object "java/lang/Object")], returnType := none }, accessFlags := 0, code := some k25c0 }
def k25c1 : Code := { maxStack := 2, maxLocals := 1, code := jdk_44_method_3_code, exceptionTable := #[], attributes := #[] }
def k25m1 : Method := { name := "size", desc := "()I", sig := { parameters := [], returnType := some .int }, accessFlags := 1, code := some k25c1 }
def k25c2 : Code := { maxStack := 2, maxLocals := 2, code := jdk_44_method_5_code, exceptionTable := #[], attributes := #[] }
def k25m2 : Method := { name := "get", desc := "(I)Ljava/lang/Object;", sig := { parameters := [.int], returnType := some (.object "java/lang/Object") }, accessFlags := 1, code := some k25c2 }
/-- java/util/ImmutableCollections$List12 -/
def k25 : Class := { plain "java/util/ImmutableCollections$List12" (some 24) with
  accessFlags := 48
  interfaces := #[10]
  cf := some (fileOf pool25 14 #[.nestHost 20] #[{ accessFlags := 0, nameIndex := 5, descriptorIndex := 76, attributes := #[] }, { accessFlags := 1, nameIndex := 51, descriptorIndex := 52, attributes := #[] }, { accessFlags := 1, nameIndex := 90, descriptorIndex := 91, attributes := #[] }] 48 2 #[70] #[{ accessFlags := 18, nameIndex := 17, descriptorIndex := 18, attributes := #[] }, { accessFlags := 18, nameIndex := 26, descriptorIndex := 18, attributes := #[] }])
  fields := #[{ name := "e0", type := (.object "java/lang/Object"), accessFlags := 18, slot := 0, constantValue := 0 }, { name := "e1", type := (.object "java/lang/Object"), accessFlags := 18, slot := 1, constantValue := 0 }]
  methods := #[k25m0, k25m1, k25m2]
  instanceTypes := #[(.object "java/lang/Object"), (.object "java/lang/Object")]
  staticTypes := #[]
  resolved := Array.replicate 125 none
  statics := none }

def pool26 : Array CpInfo := pool [(2, .class_ 4), (1, u "java/util/ImmutableCollections$AbstractImmutableList"), (2, .fieldref 8 9), (0, .class_ 10), (0, .nameAndType 11 12), (0, u "java/util/ImmutableCollections$ListN"), (0, u "elements"), (0, u "[Ljava/lang/Object;"), (2, u "allowNulls"), (0, u "Z"), (42, .class_ 60), (0, u "java/io/Serializable"), (16, u "size"), (0, u "()I"), (35, .class_ 115), (0, u "java/util/ImmutableCollections")] 3

def k26c0 : Code := { maxStack := 1, maxLocals := 1, code := jdk_45_method_3_code, exceptionTable := #[], attributes := #[] }
def k26m0 : Method := { name := "size", desc := "()I", sig := { parameters := [], returnType := some .int }, accessFlags := 1, code := some k26c0 }
/-- java/util/ImmutableCollections$ListN -/
def k26 : Class := { plain "java/util/ImmutableCollections$ListN" (some 24) with
  accessFlags := 48
  interfaces := #[10]
  cf := some (fileOf pool26 8 #[.nestHost 114] #[{ accessFlags := 1, nameIndex := 77, descriptorIndex := 78, attributes := #[] }] 48 2 #[59] #[{ accessFlags := 18, nameIndex := 11, descriptorIndex := 12, attributes := #[] }, { accessFlags := 18, nameIndex := 15, descriptorIndex := 16, attributes := #[] }])
  fields := #[{ name := "elements", type := (.array (.object "java/lang/Object")), accessFlags := 18, slot := 0, constantValue := 0 }, { name := "allowNulls", type := .boolean, accessFlags := 18, slot := 1, constantValue := 0 }]
  methods := #[k26m0]
  instanceTypes := #[(.array (.object "java/lang/Object")), .boolean]
  staticTypes := #[]
  resolved := Array.replicate 119 none
  statics := none }

def pool27 : Array CpInfo := pool [(2, .class_ 4), (1, u "java/lang/Object"), (0, u "<init>"), (0, u "()V"), (7, .class_ 16), (1, u "java/util/Arrays"), (57, .class_ 76), (1, u "java/util/Arrays$NaturalOrder"), (9, .methodref 2 87), (0, .nameAndType 88 89), (0, u "getClass"), (0, u "()Ljava/lang/Class;"), (20, .class_ 111), (0, u "[Ljava/lang/Object;"), (1, .class_ 115), (1, u "java/util/Arrays$LegacyMergeSort"), (1, u "Z"), (32, .methodref 151 152), (0, .class_ 153), (0, .nameAndType 154 155), (0, u "java/lang/System"), (0, u "arraycopy"), (0, u "(Ljava/lang/Object;ILjava/lang/Object;II)V"), (144, .methodref 14 301), (0, .nameAndType 302 303), (0, u "copyOf"), (0, u "([Ljava/lang/Object;ILjava/lang/Class;)[Ljava/lang/Object;"), (0, .methodref 305 306), (0, .class_ 307), (0, .nameAndType 308 309), (0, u "java/lang/Math"), (0, u "min"), (0, u "(II)I"), (65, .class_ 376), (0, u "java/util/Arrays$ArrayList"), (68, u "$assertionsDisabled"), (269, u "MIN_ARRAY_SORT_GRAN"), (0, u "I"), (2, u "INSERTIONSORT_THRESHOLD"), (140, u "([Ljava/lang/Object;I)[Ljava/lang/Object;"), (114, .class_ 976), (0, u "java/util/Arrays$ArrayItr")] 52

def k27m0 : Method := { name := "<init>", desc := "()V", sig := { parameters := [], returnType := none }, accessFlags := 2, code := none }
def k27c1 : Code := { maxStack := 3, maxLocals := 2, code := jdk_65_method_119_code, exceptionTable := #[], attributes := #[] }
def k27m1 : Method := { name := "copyOf", desc := "([Ljava/lang/Object;I)[Ljava/lang/Object;", sig := { parameters := [(.array (.object "java/lang/Object")), .int], returnType := some (.array (.object "java/lang/Object")) }, accessFlags := 9, code := some k27c1 }
def k27c2 : Code := { maxStack := 6, maxLocals := 4, code := jdk_65_method_120_code, exceptionTable := #[], attributes := #[] }
def k27m2 : Method := { name := "copyOf", desc := "([Ljava/lang/Object;ILjava/lang/Class;)[Ljava/lang/Object;", sig := { parameters := [(.array (.object "java/lang/Object")), .int, (.object "java/lang/Class")], returnType := some (.array (.object "java/lang/Object")) }, accessFlags := 9, code := some k27c2 }
/-- java/util/Arrays -/
def k27 : Class := { plain "java/util/Arrays" (some 0) with
  accessFlags := 49
  interfaces := #[]
  cf := some (fileOf pool27 14 #[.nestMembers #[975, 375, 113, 74]] #[{ accessFlags := 2, nameIndex := 5, descriptorIndex := 6, attributes := #[] }, { accessFlags := 9, nameIndex := 302, descriptorIndex := 860, attributes := #[] }, { accessFlags := 9, nameIndex := 302, descriptorIndex := 303, attributes := #[] }] 49 2 #[] #[{ accessFlags := 26, nameIndex := 715, descriptorIndex := 716, attributes := #[] }, { accessFlags := 26, nameIndex := 719, descriptorIndex := 716, attributes := #[] }, { accessFlags := 4120, nameIndex := 445, descriptorIndex := 117, attributes := #[] }])
  fields := #[{ name := "MIN_ARRAY_SORT_GRAN", type := .int, accessFlags := 26, slot := 0, constantValue := 0 }, { name := "INSERTIONSORT_THRESHOLD", type := .int, accessFlags := 26, slot := 1, constantValue := 0 }, { name := "$assertionsDisabled", type := .boolean, accessFlags := 4120, slot := 2, constantValue := 0 }]
  methods := #[k27m0, k27m1, k27m2]
  instanceTypes := #[]
  staticTypes := #[.int, .int, .boolean]
  resolved := Array.replicate 1029 none
  statics := none }

def pool28 : Array CpInfo := pool [(2, .class_ 4), (1, u "java/lang/Object"), (0, u "<init>"), (0, u "()V"), (1, .class_ 10), (1, u "java/lang/System"), (0, u "allowSecurityManager"), (0, u "I"), (16, u "cons"), (0, u "Ljava/io/Console;"), (77, .class_ 110), (1, u "java/lang/System$CallersHolder"), (43, u "initialErrStream"), (0, u "Ljava/io/PrintStream;"), (19, u "security"), (0, u "Ljava/lang/SecurityManager;"), (31, .class_ 209), (0, u "java/lang/System$1"), (7, u "props"), (0, u "Ljava/util/Properties;"), (2, u "lineSeparator"), (0, u "Ljava/lang/String;"), (96, .class_ 321), (1, u "java/lang/System$LoggerFinder"), (5, .class_ 328), (0, u "java/lang/System$Logger"), (67, u "err"), (2, u "out"), (91, u "notSupportedJnuEncoding"), (15, u "in"), (17, u "initialIn"), (0, u "Ljava/io/InputStream;"), (35, u "bootLayer"), (0, u "Ljava/lang/ModuleLayer;"), (99, .class_ 664), (0, u "java/lang/System$2"), (9, u "NEVER"), (2, u "MAYBE"), (49, u "arraycopy"), (0, u "(Ljava/lang/Object;ILjava/lang/Object;II)V"), (72, .class_ 802), (0, u "java/lang/System$Logger$Level")] 31

def k28m0 : Method := { name := "<init>", desc := "()V", sig := { parameters := [], returnType := none }, accessFlags := 2, code := none }
def k28m1 : Method := { name := "arraycopy", desc := "(Ljava/lang/Object;ILjava/lang/Object;II)V", sig := { parameters := [(.object "java/lang/Object"), .int, (.object "java/lang/Object"), .int, .int], returnType := none }, accessFlags := 265, code := none }
/-- java/lang/System -/
def k28 : Class := { plain "java/lang/System" (some 0) with
  accessFlags := 49
  interfaces := #[]
  cf := some (fileOf pool28 8 #[.nestMembers #[319, 327, 801, 108, 663, 208]] #[{ accessFlags := 2, nameIndex := 5, descriptorIndex := 6, attributes := #[] }, { accessFlags := 265, nameIndex := 727, descriptorIndex := 728, attributes := #[] }] 49 2 #[] #[{ accessFlags := 25, nameIndex := 507, descriptorIndex := 526, attributes := #[] }, { accessFlags := 25, nameIndex := 399, descriptorIndex := 155, attributes := #[] }, { accessFlags := 25, nameIndex := 396, descriptorIndex := 155, attributes := #[] }, { accessFlags := 10, nameIndex := 525, descriptorIndex := 526, attributes := #[] }, { accessFlags := 26, nameIndex := 674, descriptorIndex := 12, attributes := #[] }, { accessFlags := 26, nameIndex := 677, descriptorIndex := 12, attributes := #[] }, { accessFlags := 10, nameIndex := 11, descriptorIndex := 12, attributes := #[] }, { accessFlags := 74, nameIndex := 175, descriptorIndex := 176, attributes := #[] }, { accessFlags := 10, nameIndex := 491, descriptorIndex := 222, attributes := #[] }, { accessFlags := 74, nameIndex := 29, descriptorIndex := 30, attributes := #[] }, { accessFlags := 74, nameIndex := 154, descriptorIndex := 155, attributes := #[] }, { accessFlags := 10, nameIndex := 217, descriptorIndex := 218, attributes := #[] }, { accessFlags := 10, nameIndex := 221, descriptorIndex := 222, attributes := #[] }, { accessFlags := 8, nameIndex := 562, descriptorIndex := 563, attributes := #[] }])
  fields := #[{ name := "in", type := (.object "java/io/InputStream"), accessFlags := 25, slot := 0, constantValue := 0 }, { name := "out", type := (.object "java/io/PrintStream"), accessFlags := 25, slot := 1, constantValue := 0 }, { name := "err", type := (.object "java/io/PrintStream"), accessFlags := 25, slot := 2, constantValue := 0 }, { name := "initialIn", type := (.object "java/io/InputStream"), accessFlags := 10, slot := 3, constantValue := 0 }, { name := "NEVER", type := .int, accessFlags := 26, slot := 4, constantValue := 0 }, { name := "MAYBE", type := .int, accessFlags := 26, slot := 5, constantValue := 0 }, { name := "allowSecurityManager", type := .int, accessFlags := 10, slot := 6, constantValue := 0 }, { name := "security", type := (.object "java/lang/SecurityManager"), accessFlags := 74, slot := 7, constantValue := 0 }, { name := "notSupportedJnuEncoding", type := (.object "java/lang/String"), accessFlags := 10, slot := 8, constantValue := 0 }, { name := "cons", type := (.object "java/io/Console"), accessFlags := 74, slot := 9, constantValue := 0 }, { name := "initialErrStream", type := (.object "java/io/PrintStream"), accessFlags := 74, slot := 10, constantValue := 0 }, { name := "props", type := (.object "java/util/Properties"), accessFlags := 10, slot := 11, constantValue := 0 }, { name := "lineSeparator", type := (.object "java/lang/String"), accessFlags := 10, slot := 12, constantValue := 0 }, { name := "bootLayer", type := (.object "java/lang/ModuleLayer"), accessFlags := 8, slot := 13, constantValue := 0 }]
  methods := #[k28m0, k28m1]
  instanceTypes := #[]
  staticTypes := #[(.object "java/io/InputStream"), (.object "java/io/PrintStream"), (.object "java/io/PrintStream"), (.object "java/io/InputStream"), .int, .int, .int, (.object "java/lang/SecurityManager"), (.object "java/lang/String"), (.object "java/io/Console"), (.object "java/io/PrintStream"), (.object "java/util/Properties"), (.object "java/lang/String"), (.object "java/lang/ModuleLayer")]
  resolved := Array.replicate 834 none
  statics := none }

def pool29 : Array CpInfo := pool [(2, .class_ 4), (1, u "java/lang/Object"), (0, u "<init>"), (0, u "()V"), (35, .class_ 44), (1, u "java/util/Objects"), (0, u "requireNonNull"), (0, u "(Ljava/lang/Object;)Ljava/lang/Object;")] 137

def k29m0 : Method := { name := "<init>", desc := "()V", sig := { parameters := [], returnType := none }, accessFlags := 2, code := none }
def k29c1 : Code := { maxStack := 2, maxLocals := 1, code := jdk_31_method_10_code, exceptionTable := #[], attributes := #[] }
def k29m1 : Method := { name := "requireNonNull", desc := "(Ljava/lang/Object;)Ljava/lang/Object;", sig := { parameters := [(.object "java/lang/Object")], returnType := some (.object "java/lang/Object") }, accessFlags := 9, code := some k29c1 }
/-- java/util/Objects -/
def k29 : Class := { plain "java/util/Objects" (some 0) with
  accessFlags := 49
  interfaces := #[]
  cf := some (fileOf pool29 42 #[] #[{ accessFlags := 2, nameIndex := 5, descriptorIndex := 6, attributes := #[] }, { accessFlags := 9, nameIndex := 45, descriptorIndex := 46, attributes := #[] }] 49 2 #[] #[])
  fields := #[]
  methods := #[k29m0, k29m1]
  instanceTypes := #[]
  staticTypes := #[]
  resolved := Array.replicate 184 none
  statics := none }

def pool30 : Array CpInfo := pool [(1, .methodref 2 3), (0, .class_ 4), (0, .nameAndType 5 6), (0, u "java/lang/Object"), (0, u "<init>"), (0, u "()V"), (0, .fieldref 8 9), (0, .class_ 10), (0, .nameAndType 11 12), (0, u "com/example/lapsed/lapsed/Timeout"), (0, u "queue"), (0, u "Ljava/lang/String;"), (0, .fieldref 8 14), (0, .nameAndType 15 12), (0, u "id"), (0, .fieldref 8 17), (0, .nameAndType 18 19), (0, u "dueAt"), (0, u "J"), (0, .fieldref 8 21), (0, .nameAndType 22 12), (0, u "payload"), (0, .fieldref 8 24), (0, .nameAndType 25 26), (0, u "state"), (0, u "Lcom/example/lapsed/lapsed/State;"), (0, .fieldref 8 28), (0, .nameAndType 29 30), (0, u "attempt"), (0, u "I"), (0, .fieldref 8 32), (0, .nameAndType 33 30), (0, u "failures"), (0, .fieldref 8 35), (0, .nameAndType 36 19), (0, u "claimedAt"), (0, .fieldref 8 38), (0, .nameAndType 39 19), (0, u "leaseUntil"), (0, .fieldref 8 41), (0, .nameAndType 42 19), (0, u "retryAt"), (0, .fieldref 8 44), (0, .nameAndType 45 19), (0, u "deadAt"), (0, .fieldref 8 47), (0, .nameAndType 48 12), (0, u "lastError"), (0, .methodref 8 50), (0, .nameAndType 5 51), (0, u "(Ljava/lang/String;Ljava/lang/String;JLjava/lang/String;Lcom/example/lapsed/lapsed/State;IIJJJJLjava/lang/String;)V"), (0, .fieldref 53 54), (0, .class_ 55), (0, .nameAndType 56 26), (0, u "com/example/lapsed/lapsed/State"), (0, u "PENDING"), (0, .fieldref 53 58), (0, .nameAndType 59 26), (0, u "CLAIMED"), (0, .methodref 8 61), (0, .nameAndType 5 62), (0, u "(Lcom/example/lapsed/lapsed/Timeout;Lcom/example/lapsed/lapsed/State;IJJ)V"), (0, .methodref 64 65), (0, .class_ 66), (0, .nameAndType 67 68), (0, u "com/example/lapsed/lapsed/RetryPolicy"), (0, u "delayAfter"), (0, u "(I)Ljava/util/OptionalLong;"), (0, .methodref 70 71), (0, .class_ 72), (0, .nameAndType 73 74), (0, u "java/util/OptionalLong"), (0, u "isPresent"), (0, u "()Z"), (0, .methodref 70 76), (0, .nameAndType 77 78), (0, u "getAsLong"), (0, u "()J"), (0, .methodref 8 80), (0, .nameAndType 81 82), (0, u "inRound"), (0, u "(Lcom/example/lapsed/lapsed/State;IJJLjava/lang/String;)Lcom/example/lapsed/lapsed/Timeout;"), (0, .fieldref 53 84), (0, .nameAndType 85 26), (0, u "DEAD"), (4, u "rescheduled"), (0, u "(JLjava/lang/String;)Lcom/example/lapsed/lapsed/Timeout;"), (0, u "claimed"), (0, u "(JJ)Lcom/example/lapsed/lapsed/Timeout;"), (3, u "failed"), (0, u "(JLjava/lang/String;Lcom/example/lapsed/lapsed/RetryPolicy;)Lcom/example/lapsed/lapsed/Timeout;"), (1, u "retried"), (0, u "(J)Lcom/example/lapsed/lapsed/Timeout;"), (0, u "claimableAt")] 5

def k30c0 : Code := { maxStack := 3, maxLocals := 18, code := prog_14_method_1_code, exceptionTable := #[], attributes := #[] }
def k30m0 : Method := { name := "<init>", desc := "(Ljava/lang/String;Ljava/lang/String;JLjava/lang/String;Lcom/example/lapsed/lapsed/State;IIJJJJLjava/lang/String;)V", sig := { parameters := [(.object "java/lang/String"), (.object "java/lang/String"), .long, (.object "java/lang/String"), (.object "com/example/lapsed/lapsed/State"), .int, .int, .long, .long, .long, .long, (.object "java/lang/String")], returnType := none }, accessFlags := 0, code := some k30c0 }
def k30c1 : Code := { maxStack := 18, maxLocals := 8, code := prog_14_method_2_code, exceptionTable := #[], attributes := #[] }
def k30m1 : Method := { name := "<init>", desc := "(Lcom/example/lapsed/lapsed/Timeout;Lcom/example/lapsed/lapsed/State;IJJ)V", sig := { parameters := [(.object "com/example/lapsed/lapsed/Timeout"), (.object "com/example/lapsed/lapsed/State"), .int, .long, .long], returnType := none }, accessFlags := 2, code := some k30c1 }
def k30c2 : Code := { maxStack := 19, maxLocals := 4, code := prog_14_method_4_code, exceptionTable := #[], attributes := #[] }
def k30m2 : Method := { name := "rescheduled", desc := "(JLjava/lang/String;)Lcom/example/lapsed/lapsed/Timeout;", sig := { parameters := [.long, (.object "java/lang/String")], returnType := some (.object "com/example/lapsed/lapsed/Timeout") }, accessFlags := 0, code := some k30c2 }
def k30c3 : Code := { maxStack := 11, maxLocals := 5, code := prog_14_method_5_code, exceptionTable := #[], attributes := #[] }
def k30m3 : Method := { name := "claimed", desc := "(JJ)Lcom/example/lapsed/lapsed/Timeout;", sig := { parameters := [.long, .long], returnType := some (.object "com/example/lapsed/lapsed/Timeout") }, accessFlags := 0, code := some k30c3 }
def k30c4 : Code := { maxStack := 8, maxLocals := 7, code := prog_14_method_8_code, exceptionTable := #[], attributes := #[] }
def k30m4 : Method := { name := "failed", desc := "(JLjava/lang/String;Lcom/example/lapsed/lapsed/RetryPolicy;)Lcom/example/lapsed/lapsed/Timeout;", sig := { parameters := [.long, (.object "java/lang/String"), (.object "com/example/lapsed/lapsed/RetryPolicy")], returnType := some (.object "com/example/lapsed/lapsed/Timeout") }, accessFlags := 0, code := some k30c4 }
def k30c5 : Code := { maxStack := 8, maxLocals := 3, code := prog_14_method_9_code, exceptionTable := #[], attributes := #[] }
def k30m5 : Method := { name := "retried", desc := "(J)Lcom/example/lapsed/lapsed/Timeout;", sig := { parameters := [.long], returnType := some (.object "com/example/lapsed/lapsed/Timeout") }, accessFlags := 0, code := some k30c5 }
def k30c6 : Code := { maxStack := 19, maxLocals := 8, code := prog_14_method_10_code, exceptionTable := #[], attributes := #[] }
def k30m6 : Method := { name := "inRound", desc := "(Lcom/example/lapsed/lapsed/State;IJJLjava/lang/String;)Lcom/example/lapsed/lapsed/Timeout;", sig := { parameters := [(.object "com/example/lapsed/lapsed/State"), .int, .long, .long, (.object "java/lang/String")], returnType := some (.object "com/example/lapsed/lapsed/Timeout") }, accessFlags := 2, code := some k30c6 }
def k30c7 : Code := { maxStack := 4, maxLocals := 1, code := prog_14_method_11_code, exceptionTable := #[], attributes := #[] }
def k30m7 : Method := { name := "claimableAt", desc := "()J", sig := { parameters := [], returnType := some .long }, accessFlags := 0, code := some k30c7 }
/-- com/example/lapsed/lapsed/Timeout -/
def k30 : Class := { plain "com/example/lapsed/lapsed/Timeout" (some 0) with
  accessFlags := 33
  interfaces := #[]
  cf := some (fileOf pool30 8 #[] #[{ accessFlags := 0, nameIndex := 5, descriptorIndex := 51, attributes := #[] }, { accessFlags := 2, nameIndex := 5, descriptorIndex := 62, attributes := #[] }, { accessFlags := 0, nameIndex := 90, descriptorIndex := 91, attributes := #[] }, { accessFlags := 0, nameIndex := 92, descriptorIndex := 93, attributes := #[] }, { accessFlags := 0, nameIndex := 97, descriptorIndex := 98, attributes := #[] }, { accessFlags := 0, nameIndex := 100, descriptorIndex := 101, attributes := #[] }, { accessFlags := 2, nameIndex := 81, descriptorIndex := 82, attributes := #[] }, { accessFlags := 0, nameIndex := 102, descriptorIndex := 78, attributes := #[] }] 33 2 #[] #[{ accessFlags := 18, nameIndex := 11, descriptorIndex := 12, attributes := #[] }, { accessFlags := 18, nameIndex := 15, descriptorIndex := 12, attributes := #[] }, { accessFlags := 18, nameIndex := 18, descriptorIndex := 19, attributes := #[] }, { accessFlags := 18, nameIndex := 22, descriptorIndex := 12, attributes := #[] }, { accessFlags := 18, nameIndex := 25, descriptorIndex := 26, attributes := #[] }, { accessFlags := 18, nameIndex := 29, descriptorIndex := 30, attributes := #[] }, { accessFlags := 18, nameIndex := 33, descriptorIndex := 30, attributes := #[] }, { accessFlags := 18, nameIndex := 36, descriptorIndex := 19, attributes := #[] }, { accessFlags := 18, nameIndex := 39, descriptorIndex := 19, attributes := #[] }, { accessFlags := 18, nameIndex := 42, descriptorIndex := 19, attributes := #[] }, { accessFlags := 18, nameIndex := 45, descriptorIndex := 19, attributes := #[] }, { accessFlags := 18, nameIndex := 48, descriptorIndex := 12, attributes := #[] }])
  fields := #[{ name := "queue", type := (.object "java/lang/String"), accessFlags := 18, slot := 0, constantValue := 0 }, { name := "id", type := (.object "java/lang/String"), accessFlags := 18, slot := 1, constantValue := 0 }, { name := "dueAt", type := .long, accessFlags := 18, slot := 2, constantValue := 0 }, { name := "payload", type := (.object "java/lang/String"), accessFlags := 18, slot := 3, constantValue := 0 }, { name := "state", type := (.object "com/example/lapsed/lapsed/State"), accessFlags := 18, slot := 4, constantValue := 0 }, { name := "attempt", type := .int, accessFlags := 18, slot := 5, constantValue := 0 }, { name := "failures", type := .int, accessFlags := 18, slot := 6, constantValue := 0 }, { name := "claimedAt", type := .long, accessFlags := 18, slot := 7, constantValue := 0 }, { name := "leaseUntil", type := .long, accessFlags := 18, slot := 8, constantValue := 0 }, { name := "retryAt", type := .long, accessFlags := 18, slot := 9, constantValue := 0 }, { name := "deadAt", type := .long, accessFlags := 18, slot := 10, constantValue := 0 }, { name := "lastError", type := (.object "java/lang/String"), accessFlags := 18, slot := 11, constantValue := 0 }]
  methods := #[k30m0, k30m1, k30m2, k30m3, k30m4, k30m5, k30m6, k30m7]
  instanceTypes := #[(.object "java/lang/String"), (.object "java/lang/String"), .long, (.object "java/lang/String"), (.object "com/example/lapsed/lapsed/State"), .int, .int, .long, .long, .long, .long, (.object "java/lang/String")]
  staticTypes := #[]
  resolved := Array.replicate 108 none
  statics := none }

def pool31 : Array CpInfo := pool [(2, .class_ 4), (1, u "java/lang/CharSequence"), (42, .class_ 48), (0, u "java/lang/CharSequence$1CodePointIterator"), (10, .class_ 60), (0, u "java/lang/CharSequence$1CharIterator"), (5, .class_ 67), (0, u "java/lang/Object")] 63

/-- java/lang/CharSequence -/
def k31 : Class := { plain "java/lang/CharSequence" (some 0) with
  accessFlags := 1537
  interfaces := #[]
  cf := some (fileOf pool31 2 #[.nestMembers #[47, 59]] #[] 1537 66 #[] #[])
  fields := #[]
  methods := #[]
  instanceTypes := #[]
  staticTypes := #[]
  resolved := Array.replicate 131 none
  statics := none }

def pool32 : Array CpInfo := pool [(2, .class_ 4), (1, u "java/lang/Object"), (0, u "<init>"), (0, u "()V"), (3, .class_ 12), (1, u "java/lang/String"), (0, u "value"), (0, u "[B"), (2, u "coder"), (0, u "B"), (2, u "hash"), (0, u "I"), (2, u "hashIsZero"), (0, u "Z"), (13, u "COMPACT_STRINGS"), (534, .class_ 576), (0, u "java/lang/CharSequence"), (22, u "CASE_INSENSITIVE_ORDER"), (0, u "Ljava/util/Comparator;"), (500, u "serialPersistentFields"), (0, u "[Ljava/io/ObjectStreamField;"), (0, .class_ 1104), (0, u "java/lang/String$CaseInsensitiveComparator"), (1, .class_ 1107), (0, u "java/io/Serializable"), (0, .class_ 1109), (0, u "java/lang/Comparable"), (0, .class_ 1111), (0, u "java/lang/constant/Constable"), (0, .class_ 1113), (0, u "java/lang/constant/ConstantDesc"), (2, u "serialVersionUID"), (0, u "J"), (3, u "REPL"), (0, u "C"), (2, u "LATIN1"), (1, u "UTF16")] 323

def k32m0 : Method := { name := "<init>", desc := "()V", sig := { parameters := [], returnType := none }, accessFlags := 1, code := none }
/-- java/lang/String -/
def k32 : Class := { plain "java/lang/String" (some 0) with
  accessFlags := 49
  interfaces := #[10, 13, 31, 14, 15]
  cf := some (fileOf pool32 10 #[.nestMembers #[1103]] #[{ accessFlags := 1, nameIndex := 5, descriptorIndex := 6, attributes := #[] }] 49 2 #[1106, 1108, 575, 1110, 1112] #[{ accessFlags := 18, nameIndex := 13, descriptorIndex := 14, attributes := #[] }, { accessFlags := 18, nameIndex := 17, descriptorIndex := 18, attributes := #[] }, { accessFlags := 2, nameIndex := 21, descriptorIndex := 22, attributes := #[] }, { accessFlags := 2, nameIndex := 25, descriptorIndex := 26, attributes := #[] }, { accessFlags := 26, nameIndex := 1116, descriptorIndex := 1117, attributes := #[] }, { accessFlags := 24, nameIndex := 40, descriptorIndex := 26, attributes := #[] }, { accessFlags := 26, nameIndex := 1101, descriptorIndex := 1102, attributes := #[] }, { accessFlags := 26, nameIndex := 1121, descriptorIndex := 1122, attributes := #[] }, { accessFlags := 25, nameIndex := 599, descriptorIndex := 600, attributes := #[] }, { accessFlags := 24, nameIndex := 1125, descriptorIndex := 18, attributes := #[] }, { accessFlags := 24, nameIndex := 1127, descriptorIndex := 18, attributes := #[] }])
  fields := #[{ name := "value", type := (.array .byte), accessFlags := 18, slot := 0, constantValue := 0 }, { name := "coder", type := .byte, accessFlags := 18, slot := 1, constantValue := 0 }, { name := "hash", type := .int, accessFlags := 2, slot := 2, constantValue := 0 }, { name := "hashIsZero", type := .boolean, accessFlags := 2, slot := 3, constantValue := 0 }, { name := "serialVersionUID", type := .long, accessFlags := 26, slot := 0, constantValue := 0 }, { name := "COMPACT_STRINGS", type := .boolean, accessFlags := 24, slot := 1, constantValue := 0 }, { name := "serialPersistentFields", type := (.array (.object "java/io/ObjectStreamField")), accessFlags := 26, slot := 2, constantValue := 0 }, { name := "REPL", type := .char, accessFlags := 26, slot := 3, constantValue := 0 }, { name := "CASE_INSENSITIVE_ORDER", type := (.object "java/util/Comparator"), accessFlags := 25, slot := 4, constantValue := 0 }, { name := "LATIN1", type := .byte, accessFlags := 24, slot := 5, constantValue := 0 }, { name := "UTF16", type := .byte, accessFlags := 24, slot := 6, constantValue := 0 }]
  methods := #[k32m0]
  instanceTypes := #[(.array .byte), .byte, .int, .boolean]
  staticTypes := #[.long, .boolean, (.array (.object "java/io/ObjectStreamField")), .char, (.object "java/util/Comparator"), .byte, .byte]
  resolved := Array.replicate 1451 none
  statics := none }

def pool33 : Array CpInfo := pool [(2, .class_ 4), (1, u "java/lang/Enum"), (0, u "name"), (0, u "Ljava/lang/String;"), (2, u "ordinal"), (0, u "I"), (1, .class_ 14), (1, u "java/lang/Object"), (4, u "hash"), (86, .class_ 108), (1, u "java/lang/Enum$EnumDesc"), (2, .class_ 112), (0, u "java/lang/constant/Constable"), (0, .class_ 114), (0, u "java/lang/Comparable"), (0, .class_ 116), (0, u "java/io/Serializable")] 87

/-- java/lang/Enum -/
def k33 : Class := { plain "java/lang/Enum" (some 0) with
  accessFlags := 1057
  interfaces := #[14, 13, 10]
  cf := some (fileOf pool33 2 #[.nestMembers #[106]] #[] 1057 12 #[111, 113, 115] #[{ accessFlags := 18, nameIndex := 5, descriptorIndex := 6, attributes := #[] }, { accessFlags := 18, nameIndex := 9, descriptorIndex := 10, attributes := #[] }, { accessFlags := 2, nameIndex := 19, descriptorIndex := 10, attributes := #[] }])
  fields := #[{ name := "name", type := (.object "java/lang/String"), accessFlags := 18, slot := 0, constantValue := 0 }, { name := "ordinal", type := .int, accessFlags := 18, slot := 1, constantValue := 0 }, { name := "hash", type := .int, accessFlags := 2, slot := 2, constantValue := 0 }]
  methods := #[]
  instanceTypes := #[(.object "java/lang/String"), .int, .int]
  staticTypes := #[]
  resolved := Array.replicate 204 none
  statics := none }

def pool34 : Array CpInfo := pool [(1, .class_ 2), (0, u "com/example/lapsed/lapsed/State"), (2, u "PENDING"), (0, u "Lcom/example/lapsed/lapsed/State;"), (2, u "CLAIMED"), (2, u "DEAD"), (2, u "$VALUES"), (0, u "[Lcom/example/lapsed/lapsed/State;"), (6, .class_ 25), (1, u "java/lang/Enum")] 42

/-- com/example/lapsed/lapsed/State -/
def k34 : Class := { plain "com/example/lapsed/lapsed/State" (some 33) with
  accessFlags := 16433
  interfaces := #[]
  cf := some (fileOf pool34 1 #[] #[] 16433 23 #[] #[{ accessFlags := 16409, nameIndex := 5, descriptorIndex := 6, attributes := #[] }, { accessFlags := 16409, nameIndex := 9, descriptorIndex := 6, attributes := #[] }, { accessFlags := 16409, nameIndex := 12, descriptorIndex := 6, attributes := #[] }, { accessFlags := 4122, nameIndex := 15, descriptorIndex := 16, attributes := #[] }])
  fields := #[{ name := "PENDING", type := (.object "com/example/lapsed/lapsed/State"), accessFlags := 16409, slot := 0, constantValue := 0 }, { name := "CLAIMED", type := (.object "com/example/lapsed/lapsed/State"), accessFlags := 16409, slot := 1, constantValue := 0 }, { name := "DEAD", type := (.object "com/example/lapsed/lapsed/State"), accessFlags := 16409, slot := 2, constantValue := 0 }, { name := "$VALUES", type := (.array (.object "com/example/lapsed/lapsed/State")), accessFlags := 4122, slot := 3, constantValue := 0 }]
  methods := #[]
  instanceTypes := #[(.object "java/lang/String"), .int, .int]
  staticTypes := #[(.object "com/example/lapsed/lapsed/State"), (.object "com/example/lapsed/lapsed/State"), (.object "com/example/lapsed/lapsed/State"), (.array (.object "com/example/lapsed/lapsed/State"))]
  resolved := Array.replicate 68 none
  statics := some 3 }

def pool35 : Array CpInfo := pool [(1, .methodref 2 3), (0, .class_ 4), (0, .nameAndType 5 6), (0, u "java/lang/Object"), (0, u "<init>"), (0, u "()V"), (0, .fieldref 8 9), (0, .class_ 10), (0, .nameAndType 11 12), (0, u "java/util/OptionalLong"), (0, u "isPresent"), (0, u "Z"), (0, .fieldref 8 14), (0, .nameAndType 15 16), (0, u "value"), (0, u "J"), (0, .fieldref 8 18), (0, .nameAndType 19 20), (0, u "EMPTY"), (0, u "Ljava/util/OptionalLong;"), (0, .methodref 8 22), (0, .nameAndType 5 23), (0, u "(J)V"), (21, u "of"), (3, u "empty"), (5, u "getAsLong"), (0, u "()J"), (39, u "()Ljava/util/OptionalLong;"), (0, u "(J)Ljava/util/OptionalLong;"), (1, u "()Z")] 38

def k35m0 : Method := { name := "<init>", desc := "()V", sig := { parameters := [], returnType := none }, accessFlags := 2, code := none }
def k35c1 : Code := { maxStack := 1, maxLocals := 0, code := jdk_2650_method_2_code, exceptionTable := #[], attributes := #[] }
def k35m1 : Method := { name := "empty", desc := "()Ljava/util/OptionalLong;", sig := { parameters := [], returnType := some (.object "java/util/OptionalLong") }, accessFlags := 9, code := some k35c1 }
def k35c2 : Code := { maxStack := 3, maxLocals := 3, code := jdk_2650_method_3_code, exceptionTable := #[], attributes := #[] }
def k35m2 : Method := { name := "<init>", desc := "(J)V", sig := { parameters := [.long], returnType := none }, accessFlags := 2, code := some k35c2 }
def k35c3 : Code := { maxStack := 4, maxLocals := 2, code := jdk_2650_method_4_code, exceptionTable := #[], attributes := #[] }
def k35m3 : Method := { name := "of", desc := "(J)Ljava/util/OptionalLong;", sig := { parameters := [.long], returnType := some (.object "java/util/OptionalLong") }, accessFlags := 9, code := some k35c3 }
def k35c4 : Code := { maxStack := 3, maxLocals := 1, code := jdk_2650_method_5_code, exceptionTable := #[], attributes := #[] }
def k35m4 : Method := { name := "getAsLong", desc := "()J", sig := { parameters := [], returnType := some .long }, accessFlags := 1, code := some k35c4 }
def k35c5 : Code := { maxStack := 1, maxLocals := 1, code := jdk_2650_method_6_code, exceptionTable := #[], attributes := #[] }
def k35m5 : Method := { name := "isPresent", desc := "()Z", sig := { parameters := [], returnType := some .boolean }, accessFlags := 1, code := some k35c5 }
/-- java/util/OptionalLong -/
def k35 : Class := { plain "java/util/OptionalLong" (some 0) with
  accessFlags := 49
  interfaces := #[]
  cf := some (fileOf pool35 8 #[] #[{ accessFlags := 2, nameIndex := 5, descriptorIndex := 6, attributes := #[] }, { accessFlags := 9, nameIndex := 49, descriptorIndex := 96, attributes := #[] }, { accessFlags := 2, nameIndex := 5, descriptorIndex := 23, attributes := #[] }, { accessFlags := 9, nameIndex := 45, descriptorIndex := 97, attributes := #[] }, { accessFlags := 1, nameIndex := 55, descriptorIndex := 56, attributes := #[] }, { accessFlags := 1, nameIndex := 11, descriptorIndex := 99, attributes := #[] }] 49 2 #[] #[{ accessFlags := 26, nameIndex := 19, descriptorIndex := 20, attributes := #[] }, { accessFlags := 18, nameIndex := 11, descriptorIndex := 12, attributes := #[] }, { accessFlags := 18, nameIndex := 15, descriptorIndex := 16, attributes := #[] }])
  fields := #[{ name := "EMPTY", type := (.object "java/util/OptionalLong"), accessFlags := 26, slot := 0, constantValue := 0 }, { name := "isPresent", type := .boolean, accessFlags := 18, slot := 0, constantValue := 0 }, { name := "value", type := .long, accessFlags := 18, slot := 1, constantValue := 0 }]
  methods := #[k35m0, k35m1, k35m2, k35m3, k35m4, k35m5]
  instanceTypes := #[.boolean, .long]
  staticTypes := #[(.object "java/util/OptionalLong")]
  resolved := Array.replicate 138 none
  statics := some 4 }

def pool36 : Array CpInfo := pool [(1, u "java/lang/Class"), (0, .class_ 1), (0, u "java/lang/Object"), (0, .class_ 3)] 0

/-- java/lang/Class -/
def k36 : Class := { plain "java/lang/Class" (some 0) with
  accessFlags := 49
  interfaces := #[]
  cf := some (fileOf pool36 2 #[] #[] 49 4 #[] #[])
  fields := #[]
  methods := #[]
  instanceTypes := #[]
  staticTypes := #[]
  resolved := Array.replicate 5 none
  statics := none }

/-- the primitive byte -/
def k37 : Class := { plain "byte" none with kind := .primitive 'B', accessFlags := 0x411 }
/-- [B -/
def k38 : Class := { plain "[B" (some 0) with kind := .array 37 .byte, interfaces := #[9, 10], accessFlags := 1041 }

/-- [Ljava/lang/Long; -/
def k39 : Class := { plain "[Ljava/lang/Long;" (some 0) with kind := .array 16 (.object "java/lang/Long"), interfaces := #[9, 10], accessFlags := 1041 }

/-- [Ljava/lang/Object; -/
def k40 : Class := { plain "[Ljava/lang/Object;" (some 0) with kind := .array 0 (.object "java/lang/Object"), interfaces := #[9, 10], accessFlags := 1041, mirror := some 5 }

def heap : Heap := #[{ cls := 11, slots := #[.long 0, .int 0, .ref 268, .ref 269], vm := .statics 11 },
  { cls := 17, slots := #[.ref 6, .null, .int 0], vm := .statics 17 },
  { cls := 22, slots := #[.long 0, .int 0, .null, .ref 270, .ref 267, .null, .null, .null, .int 0, .int 1], vm := .statics 22 },
  { cls := 34, slots := #[.ref 264, .ref 265, .ref 266, .null], vm := .statics 34 },
  { cls := 35, slots := #[.ref 271], vm := .statics 35 },
  { cls := 36, slots := #[], vm := .mirror 40 },
  { cls := 39, slots := #[.ref 8, .ref 9, .ref 10, .ref 11, .ref 12, .ref 13, .ref 14, .ref 15, .ref 16, .ref 17, .ref 18, .ref 19, .ref 20, .ref 21, .ref 22, .ref 23, .ref 24, .ref 25, .ref 26, .ref 27, .ref 28, .ref 29, .ref 30, .ref 31, .ref 32, .ref 33, .ref 34, .ref 35, .ref 36, .ref 37, .ref 38, .ref 39, .ref 40, .ref 41, .ref 42, .ref 43, .ref 44, .ref 45, .ref 46, .ref 47, .ref 48, .ref 49, .ref 50, .ref 51, .ref 52, .ref 53, .ref 54, .ref 55, .ref 56, .ref 57, .ref 58, .ref 59, .ref 60, .ref 61, .ref 62, .ref 63, .ref 64, .ref 65, .ref 66, .ref 67, .ref 68, .ref 69, .ref 70, .ref 71, .ref 72, .ref 73, .ref 74, .ref 75, .ref 76, .ref 77, .ref 78, .ref 79, .ref 80, .ref 81, .ref 82, .ref 83, .ref 84, .ref 85, .ref 86, .ref 87, .ref 88, .ref 89, .ref 90, .ref 91, .ref 92, .ref 93, .ref 94, .ref 95, .ref 96, .ref 97, .ref 98, .ref 99, .ref 100, .ref 101, .ref 102, .ref 103, .ref 104, .ref 105, .ref 106, .ref 107, .ref 108, .ref 109, .ref 110, .ref 111, .ref 112, .ref 113, .ref 114, .ref 115, .ref 116, .ref 117, .ref 118, .ref 119, .ref 120, .ref 121, .ref 122, .ref 123, .ref 124, .ref 125, .ref 126, .ref 127, .ref 128, .ref 129, .ref 130, .ref 131, .ref 132, .ref 133, .ref 134, .ref 135, .ref 136, .ref 137, .ref 138, .ref 139, .ref 140, .ref 141, .ref 142, .ref 143, .ref 144, .ref 145, .ref 146, .ref 147, .ref 148, .ref 149, .ref 150, .ref 151, .ref 152, .ref 153, .ref 154, .ref 155, .ref 156, .ref 157, .ref 158, .ref 159, .ref 160, .ref 161, .ref 162, .ref 163, .ref 164, .ref 165, .ref 166, .ref 167, .ref 168, .ref 169, .ref 170, .ref 171, .ref 172, .ref 173, .ref 174, .ref 175, .ref 176, .ref 177, .ref 178, .ref 179, .ref 180, .ref 181, .ref 182, .ref 183, .ref 184, .ref 185, .ref 186, .ref 187, .ref 188, .ref 189, .ref 190, .ref 191, .ref 192, .ref 193, .ref 194, .ref 195, .ref 196, .ref 197, .ref 198, .ref 199, .ref 200, .ref 201, .ref 202, .ref 203, .ref 204, .ref 205, .ref 206, .ref 207, .ref 208, .ref 209, .ref 210, .ref 211, .ref 212, .ref 213, .ref 214, .ref 215, .ref 216, .ref 217, .ref 218, .ref 219, .ref 220, .ref 221, .ref 222, .ref 223, .ref 224, .ref 225, .ref 226, .ref 227, .ref 228, .ref 229, .ref 230, .ref 231, .ref 232, .ref 233, .ref 234, .ref 235, .ref 236, .ref 237, .ref 238, .ref 239, .ref 240, .ref 241, .ref 242, .ref 243, .ref 244, .ref 245, .ref 246, .ref 247, .ref 248, .ref 249, .ref 250, .ref 251, .ref 252, .ref 253, .ref 254, .ref 255, .ref 256, .ref 257, .ref 258, .ref 259, .ref 260, .ref 261, .ref 262, .ref 263], vm := .none },
  { cls := 40, slots := #[], vm := .none },
  { cls := 16, slots := #[.long (-128)], vm := .none },
  { cls := 16, slots := #[.long (-127)], vm := .none },
  { cls := 16, slots := #[.long (-126)], vm := .none },
  { cls := 16, slots := #[.long (-125)], vm := .none },
  { cls := 16, slots := #[.long (-124)], vm := .none },
  { cls := 16, slots := #[.long (-123)], vm := .none },
  { cls := 16, slots := #[.long (-122)], vm := .none },
  { cls := 16, slots := #[.long (-121)], vm := .none },
  { cls := 16, slots := #[.long (-120)], vm := .none },
  { cls := 16, slots := #[.long (-119)], vm := .none },
  { cls := 16, slots := #[.long (-118)], vm := .none },
  { cls := 16, slots := #[.long (-117)], vm := .none },
  { cls := 16, slots := #[.long (-116)], vm := .none },
  { cls := 16, slots := #[.long (-115)], vm := .none },
  { cls := 16, slots := #[.long (-114)], vm := .none },
  { cls := 16, slots := #[.long (-113)], vm := .none },
  { cls := 16, slots := #[.long (-112)], vm := .none },
  { cls := 16, slots := #[.long (-111)], vm := .none },
  { cls := 16, slots := #[.long (-110)], vm := .none },
  { cls := 16, slots := #[.long (-109)], vm := .none },
  { cls := 16, slots := #[.long (-108)], vm := .none },
  { cls := 16, slots := #[.long (-107)], vm := .none },
  { cls := 16, slots := #[.long (-106)], vm := .none },
  { cls := 16, slots := #[.long (-105)], vm := .none },
  { cls := 16, slots := #[.long (-104)], vm := .none },
  { cls := 16, slots := #[.long (-103)], vm := .none },
  { cls := 16, slots := #[.long (-102)], vm := .none },
  { cls := 16, slots := #[.long (-101)], vm := .none },
  { cls := 16, slots := #[.long (-100)], vm := .none },
  { cls := 16, slots := #[.long (-99)], vm := .none },
  { cls := 16, slots := #[.long (-98)], vm := .none },
  { cls := 16, slots := #[.long (-97)], vm := .none },
  { cls := 16, slots := #[.long (-96)], vm := .none },
  { cls := 16, slots := #[.long (-95)], vm := .none },
  { cls := 16, slots := #[.long (-94)], vm := .none },
  { cls := 16, slots := #[.long (-93)], vm := .none },
  { cls := 16, slots := #[.long (-92)], vm := .none },
  { cls := 16, slots := #[.long (-91)], vm := .none },
  { cls := 16, slots := #[.long (-90)], vm := .none },
  { cls := 16, slots := #[.long (-89)], vm := .none },
  { cls := 16, slots := #[.long (-88)], vm := .none },
  { cls := 16, slots := #[.long (-87)], vm := .none },
  { cls := 16, slots := #[.long (-86)], vm := .none },
  { cls := 16, slots := #[.long (-85)], vm := .none },
  { cls := 16, slots := #[.long (-84)], vm := .none },
  { cls := 16, slots := #[.long (-83)], vm := .none },
  { cls := 16, slots := #[.long (-82)], vm := .none },
  { cls := 16, slots := #[.long (-81)], vm := .none },
  { cls := 16, slots := #[.long (-80)], vm := .none },
  { cls := 16, slots := #[.long (-79)], vm := .none },
  { cls := 16, slots := #[.long (-78)], vm := .none },
  { cls := 16, slots := #[.long (-77)], vm := .none },
  { cls := 16, slots := #[.long (-76)], vm := .none },
  { cls := 16, slots := #[.long (-75)], vm := .none },
  { cls := 16, slots := #[.long (-74)], vm := .none },
  { cls := 16, slots := #[.long (-73)], vm := .none },
  { cls := 16, slots := #[.long (-72)], vm := .none },
  { cls := 16, slots := #[.long (-71)], vm := .none },
  { cls := 16, slots := #[.long (-70)], vm := .none },
  { cls := 16, slots := #[.long (-69)], vm := .none },
  { cls := 16, slots := #[.long (-68)], vm := .none },
  { cls := 16, slots := #[.long (-67)], vm := .none },
  { cls := 16, slots := #[.long (-66)], vm := .none },
  { cls := 16, slots := #[.long (-65)], vm := .none },
  { cls := 16, slots := #[.long (-64)], vm := .none },
  { cls := 16, slots := #[.long (-63)], vm := .none },
  { cls := 16, slots := #[.long (-62)], vm := .none },
  { cls := 16, slots := #[.long (-61)], vm := .none },
  { cls := 16, slots := #[.long (-60)], vm := .none },
  { cls := 16, slots := #[.long (-59)], vm := .none },
  { cls := 16, slots := #[.long (-58)], vm := .none },
  { cls := 16, slots := #[.long (-57)], vm := .none },
  { cls := 16, slots := #[.long (-56)], vm := .none },
  { cls := 16, slots := #[.long (-55)], vm := .none },
  { cls := 16, slots := #[.long (-54)], vm := .none },
  { cls := 16, slots := #[.long (-53)], vm := .none },
  { cls := 16, slots := #[.long (-52)], vm := .none },
  { cls := 16, slots := #[.long (-51)], vm := .none },
  { cls := 16, slots := #[.long (-50)], vm := .none },
  { cls := 16, slots := #[.long (-49)], vm := .none },
  { cls := 16, slots := #[.long (-48)], vm := .none },
  { cls := 16, slots := #[.long (-47)], vm := .none },
  { cls := 16, slots := #[.long (-46)], vm := .none },
  { cls := 16, slots := #[.long (-45)], vm := .none },
  { cls := 16, slots := #[.long (-44)], vm := .none },
  { cls := 16, slots := #[.long (-43)], vm := .none },
  { cls := 16, slots := #[.long (-42)], vm := .none },
  { cls := 16, slots := #[.long (-41)], vm := .none },
  { cls := 16, slots := #[.long (-40)], vm := .none },
  { cls := 16, slots := #[.long (-39)], vm := .none },
  { cls := 16, slots := #[.long (-38)], vm := .none },
  { cls := 16, slots := #[.long (-37)], vm := .none },
  { cls := 16, slots := #[.long (-36)], vm := .none },
  { cls := 16, slots := #[.long (-35)], vm := .none },
  { cls := 16, slots := #[.long (-34)], vm := .none },
  { cls := 16, slots := #[.long (-33)], vm := .none },
  { cls := 16, slots := #[.long (-32)], vm := .none },
  { cls := 16, slots := #[.long (-31)], vm := .none },
  { cls := 16, slots := #[.long (-30)], vm := .none },
  { cls := 16, slots := #[.long (-29)], vm := .none },
  { cls := 16, slots := #[.long (-28)], vm := .none },
  { cls := 16, slots := #[.long (-27)], vm := .none },
  { cls := 16, slots := #[.long (-26)], vm := .none },
  { cls := 16, slots := #[.long (-25)], vm := .none },
  { cls := 16, slots := #[.long (-24)], vm := .none },
  { cls := 16, slots := #[.long (-23)], vm := .none },
  { cls := 16, slots := #[.long (-22)], vm := .none },
  { cls := 16, slots := #[.long (-21)], vm := .none },
  { cls := 16, slots := #[.long (-20)], vm := .none },
  { cls := 16, slots := #[.long (-19)], vm := .none },
  { cls := 16, slots := #[.long (-18)], vm := .none },
  { cls := 16, slots := #[.long (-17)], vm := .none },
  { cls := 16, slots := #[.long (-16)], vm := .none },
  { cls := 16, slots := #[.long (-15)], vm := .none },
  { cls := 16, slots := #[.long (-14)], vm := .none },
  { cls := 16, slots := #[.long (-13)], vm := .none },
  { cls := 16, slots := #[.long (-12)], vm := .none },
  { cls := 16, slots := #[.long (-11)], vm := .none },
  { cls := 16, slots := #[.long (-10)], vm := .none },
  { cls := 16, slots := #[.long (-9)], vm := .none },
  { cls := 16, slots := #[.long (-8)], vm := .none },
  { cls := 16, slots := #[.long (-7)], vm := .none },
  { cls := 16, slots := #[.long (-6)], vm := .none },
  { cls := 16, slots := #[.long (-5)], vm := .none },
  { cls := 16, slots := #[.long (-4)], vm := .none },
  { cls := 16, slots := #[.long (-3)], vm := .none },
  { cls := 16, slots := #[.long (-2)], vm := .none },
  { cls := 16, slots := #[.long (-1)], vm := .none },
  { cls := 16, slots := #[.long 0], vm := .none },
  { cls := 16, slots := #[.long 1], vm := .none },
  { cls := 16, slots := #[.long 2], vm := .none },
  { cls := 16, slots := #[.long 3], vm := .none },
  { cls := 16, slots := #[.long 4], vm := .none },
  { cls := 16, slots := #[.long 5], vm := .none },
  { cls := 16, slots := #[.long 6], vm := .none },
  { cls := 16, slots := #[.long 7], vm := .none },
  { cls := 16, slots := #[.long 8], vm := .none },
  { cls := 16, slots := #[.long 9], vm := .none },
  { cls := 16, slots := #[.long 10], vm := .none },
  { cls := 16, slots := #[.long 11], vm := .none },
  { cls := 16, slots := #[.long 12], vm := .none },
  { cls := 16, slots := #[.long 13], vm := .none },
  { cls := 16, slots := #[.long 14], vm := .none },
  { cls := 16, slots := #[.long 15], vm := .none },
  { cls := 16, slots := #[.long 16], vm := .none },
  { cls := 16, slots := #[.long 17], vm := .none },
  { cls := 16, slots := #[.long 18], vm := .none },
  { cls := 16, slots := #[.long 19], vm := .none },
  { cls := 16, slots := #[.long 20], vm := .none },
  { cls := 16, slots := #[.long 21], vm := .none },
  { cls := 16, slots := #[.long 22], vm := .none },
  { cls := 16, slots := #[.long 23], vm := .none },
  { cls := 16, slots := #[.long 24], vm := .none },
  { cls := 16, slots := #[.long 25], vm := .none },
  { cls := 16, slots := #[.long 26], vm := .none },
  { cls := 16, slots := #[.long 27], vm := .none },
  { cls := 16, slots := #[.long 28], vm := .none },
  { cls := 16, slots := #[.long 29], vm := .none },
  { cls := 16, slots := #[.long 30], vm := .none },
  { cls := 16, slots := #[.long 31], vm := .none },
  { cls := 16, slots := #[.long 32], vm := .none },
  { cls := 16, slots := #[.long 33], vm := .none },
  { cls := 16, slots := #[.long 34], vm := .none },
  { cls := 16, slots := #[.long 35], vm := .none },
  { cls := 16, slots := #[.long 36], vm := .none },
  { cls := 16, slots := #[.long 37], vm := .none },
  { cls := 16, slots := #[.long 38], vm := .none },
  { cls := 16, slots := #[.long 39], vm := .none },
  { cls := 16, slots := #[.long 40], vm := .none },
  { cls := 16, slots := #[.long 41], vm := .none },
  { cls := 16, slots := #[.long 42], vm := .none },
  { cls := 16, slots := #[.long 43], vm := .none },
  { cls := 16, slots := #[.long 44], vm := .none },
  { cls := 16, slots := #[.long 45], vm := .none },
  { cls := 16, slots := #[.long 46], vm := .none },
  { cls := 16, slots := #[.long 47], vm := .none },
  { cls := 16, slots := #[.long 48], vm := .none },
  { cls := 16, slots := #[.long 49], vm := .none },
  { cls := 16, slots := #[.long 50], vm := .none },
  { cls := 16, slots := #[.long 51], vm := .none },
  { cls := 16, slots := #[.long 52], vm := .none },
  { cls := 16, slots := #[.long 53], vm := .none },
  { cls := 16, slots := #[.long 54], vm := .none },
  { cls := 16, slots := #[.long 55], vm := .none },
  { cls := 16, slots := #[.long 56], vm := .none },
  { cls := 16, slots := #[.long 57], vm := .none },
  { cls := 16, slots := #[.long 58], vm := .none },
  { cls := 16, slots := #[.long 59], vm := .none },
  { cls := 16, slots := #[.long 60], vm := .none },
  { cls := 16, slots := #[.long 61], vm := .none },
  { cls := 16, slots := #[.long 62], vm := .none },
  { cls := 16, slots := #[.long 63], vm := .none },
  { cls := 16, slots := #[.long 64], vm := .none },
  { cls := 16, slots := #[.long 65], vm := .none },
  { cls := 16, slots := #[.long 66], vm := .none },
  { cls := 16, slots := #[.long 67], vm := .none },
  { cls := 16, slots := #[.long 68], vm := .none },
  { cls := 16, slots := #[.long 69], vm := .none },
  { cls := 16, slots := #[.long 70], vm := .none },
  { cls := 16, slots := #[.long 71], vm := .none },
  { cls := 16, slots := #[.long 72], vm := .none },
  { cls := 16, slots := #[.long 73], vm := .none },
  { cls := 16, slots := #[.long 74], vm := .none },
  { cls := 16, slots := #[.long 75], vm := .none },
  { cls := 16, slots := #[.long 76], vm := .none },
  { cls := 16, slots := #[.long 77], vm := .none },
  { cls := 16, slots := #[.long 78], vm := .none },
  { cls := 16, slots := #[.long 79], vm := .none },
  { cls := 16, slots := #[.long 80], vm := .none },
  { cls := 16, slots := #[.long 81], vm := .none },
  { cls := 16, slots := #[.long 82], vm := .none },
  { cls := 16, slots := #[.long 83], vm := .none },
  { cls := 16, slots := #[.long 84], vm := .none },
  { cls := 16, slots := #[.long 85], vm := .none },
  { cls := 16, slots := #[.long 86], vm := .none },
  { cls := 16, slots := #[.long 87], vm := .none },
  { cls := 16, slots := #[.long 88], vm := .none },
  { cls := 16, slots := #[.long 89], vm := .none },
  { cls := 16, slots := #[.long 90], vm := .none },
  { cls := 16, slots := #[.long 91], vm := .none },
  { cls := 16, slots := #[.long 92], vm := .none },
  { cls := 16, slots := #[.long 93], vm := .none },
  { cls := 16, slots := #[.long 94], vm := .none },
  { cls := 16, slots := #[.long 95], vm := .none },
  { cls := 16, slots := #[.long 96], vm := .none },
  { cls := 16, slots := #[.long 97], vm := .none },
  { cls := 16, slots := #[.long 98], vm := .none },
  { cls := 16, slots := #[.long 99], vm := .none },
  { cls := 16, slots := #[.long 100], vm := .none },
  { cls := 16, slots := #[.long 101], vm := .none },
  { cls := 16, slots := #[.long 102], vm := .none },
  { cls := 16, slots := #[.long 103], vm := .none },
  { cls := 16, slots := #[.long 104], vm := .none },
  { cls := 16, slots := #[.long 105], vm := .none },
  { cls := 16, slots := #[.long 106], vm := .none },
  { cls := 16, slots := #[.long 107], vm := .none },
  { cls := 16, slots := #[.long 108], vm := .none },
  { cls := 16, slots := #[.long 109], vm := .none },
  { cls := 16, slots := #[.long 110], vm := .none },
  { cls := 16, slots := #[.long 111], vm := .none },
  { cls := 16, slots := #[.long 112], vm := .none },
  { cls := 16, slots := #[.long 113], vm := .none },
  { cls := 16, slots := #[.long 114], vm := .none },
  { cls := 16, slots := #[.long 115], vm := .none },
  { cls := 16, slots := #[.long 116], vm := .none },
  { cls := 16, slots := #[.long 117], vm := .none },
  { cls := 16, slots := #[.long 118], vm := .none },
  { cls := 16, slots := #[.long 119], vm := .none },
  { cls := 16, slots := #[.long 120], vm := .none },
  { cls := 16, slots := #[.long 121], vm := .none },
  { cls := 16, slots := #[.long 122], vm := .none },
  { cls := 16, slots := #[.long 123], vm := .none },
  { cls := 16, slots := #[.long 124], vm := .none },
  { cls := 16, slots := #[.long 125], vm := .none },
  { cls := 16, slots := #[.long 126], vm := .none },
  { cls := 16, slots := #[.long 127], vm := .none },
  { cls := 34, slots := #[.null, .int 0, .int 0], vm := .none },
  { cls := 34, slots := #[.null, .int 1, .int 0], vm := .none },
  { cls := 34, slots := #[.null, .int 2, .int 0], vm := .none },
  { cls := 26, slots := #[.ref 7, .int 0], vm := .none },
  { cls := 40, slots := #[], vm := .none },
  { cls := 40, slots := #[], vm := .none },
  { cls := 0, slots := #[], vm := .none },
  { cls := 35, slots := #[.int 0, .long 0], vm := .none }]
def classes : Array Class := #[k0, k1, k2, k3, k4, k5, k6, k7, k8, k9, k10, k11, k12, k13, k14, k15, k16, k17, k18, k19, k20, k21, k22, k23, k24, k25, k26, k27, k28, k29, k30, k31, k32, k33, k34, k35, k36, k37, k38, k39, k40]
def interned : List (Array UInt16 × Addr) := []
def slotsUsed : Nat := 547
def theMethod : MethodId := ⟨1, 1⟩
def args0 : Array Value := #[.long 5, .long 7, .int 9, .long 11, .long 13, .int 1]
def aboutOver (below : List Frame) : State where
  vm := { classes := classes, interned := interned.toArray }
  heap := heap
  slotsUsed := slotsUsed
  threads := #[{ frames := .invoking theMethod args0 :: below }]
def below0 : List Frame := [.native { method := ⟨0, 0⟩, args := #[] }]
def about1 : State := aboutOver below0
def p0 : Program := .bare "" "" ""
def e0 : Env := launch0.env 0 0 0
theorem w_frames : about1.frames = Frame.invoking theMethod args0 :: below0 := rfl
set_option maxRecDepth 65536 in
theorem w_args : argsFit about1.vm theMethod args0 = true := by decide +kernel
set_option maxRecDepth 65536 in
theorem w_heap : heapFits about1 = true := by decide +kernel
set_option maxRecDepth 65536 in
theorem w_runnable : about1.curStatus? = some .runnable := by decide +kernel
set_option maxRecDepth 65536 in
theorem w_alone : about1.alone = true := by decide +kernel
set_option maxRecDepth 65536 in
theorem w_named : about1.methodNamed? x = some theMethod := by decide +kernel
set_option maxRecDepth 65536 in
theorem w_hears : about1.hears theMethod below0 = true := by decide +kernel
set_option maxRecDepth 65536 in
theorem w_ripe : about1.ripe theMethod args0 below0 = true := by decide +kernel
theorem w_running : about1.status = .running := rfl
set_option maxRecDepth 65536 in
theorem w_room : about1.hasRoom e0.platform room_1 = true :=
  launch0.hasRoom_least _ room_1 (by decide +kernel) (by decide +kernel) (by decide +kernel) (by decide +kernel) (by decide +kernel) (by decide +kernel)
theorem allAtoms_all (ts : List Jvm.Cond) (a : Array Jvm.Value) (st : Jvm.State) : (allAtoms ts).before a st = ts.all (fun c => c.before a st) := by
  induction ts with
  | nil => rfl
  | cons c t ih =>
    show (Jvm.Cond.and c (allAtoms t)).before a st = _
    rw [Jvm.Cond.before_and, ih, List.all_cons]
def words1 : List Jvm.Cond := Jvm.Cond.code x code maxLocals ret :: tables_1
/-- a 'code' word, met by the world's own term for the bytes: nothing is compared byte by byte -/
theorem code_word {y : MethodName} {bytes : ByteArray} {mx : Nat} {rt : Option FieldType} {a : Array Value} {s : State} {m : MethodId} {meth : Method} {c : Code} (h1 : s.methodNamed? y = some m) (h2 : s.vm.method? m = some meth) (h3 : meth.code = some c) (h4 : c.code = bytes)
    (h5 : (c.maxLocals == mx && c.exceptionTable.isEmpty && decide (c.maxStack ≤ mostOperands) && decide (meth.sig.returnType = rt) && !meth.locks && decide (parseMethodDescriptor y.desc = some meth.sig)) = true) : (Jvm.Cond.code y bytes mx rt).before a s = true := by
  simp only [Bool.and_eq_true, beq_iff_eq, Bool.not_eq_true', decide_eq_true_eq] at h5
  obtain ⟨⟨⟨⟨⟨g1, g2⟩, g3⟩, g4⟩, g5⟩, g6⟩ := h5
  simp [Cond.before, Cond.holds, Cond.value, h1, h2, h3, h4, g1, g2, g3, g4, g5, g6]
def isCode : Jvm.Cond → Bool
  | .code _ _ _ _ => true
  | _ => false
theorem all_split {L : List Jvm.Cond} {P : Jvm.Cond → Bool} (h1 : L.all (fun c => isCode c || P c) = true) (h2 : ∀ c ∈ L.filter isCode, P c = true) : L.all P = true := by
  refine List.all_eq_true.mpr fun c hc => ?_
  have h := List.all_eq_true.mp h1 c hc
  rcases Bool.eq_false_or_eq_true (isCode c) with hi | hi
  · exact h2 c (List.mem_filter.mpr ⟨hc, hi⟩)
  · simpa [hi] using h
set_option maxRecDepth 65536 in
theorem w_c0 : (Jvm.Cond.code x code maxLocals ret).before args0 about1 = true := code_word (m := ⟨1, 1⟩) (meth := k1m1) (c := k1c1) (by decide +kernel) rfl rfl rfl (by decide +kernel)
set_option maxRecDepth 65536 in
theorem w_c1 : (Jvm.Cond.code ({ cls := "java/util/ArrayList", name := "<init>", desc := "()V" } : Jvm.MethodName) jdk_38_method_2_code (1 : Nat) (Option.none : Option Jvm.ClassFile.FieldType)).before args0 about1 = true := code_word (m := ⟨11, 0⟩) (meth := k11m0) (c := k11c0) (by decide +kernel) rfl rfl rfl (by decide +kernel)
set_option maxRecDepth 65536 in
theorem w_c2 : (Jvm.Cond.code ({ cls := "java/util/AbstractList", name := "<init>", desc := "()V" } : Jvm.MethodName) jdk_39_method_1_code (1 : Nat) (Option.none : Option Jvm.ClassFile.FieldType)).before args0 about1 = true := code_word (m := ⟨7, 0⟩) (meth := k7m0) (c := k7c0) (by decide +kernel) rfl rfl rfl (by decide +kernel)
set_option maxRecDepth 65536 in
theorem w_c3 : (Jvm.Cond.code ({ cls := "java/util/AbstractCollection", name := "<init>", desc := "()V" } : Jvm.MethodName) jdk_22_method_1_code (1 : Nat) (Option.none : Option Jvm.ClassFile.FieldType)).before args0 about1 = true := code_word (m := ⟨4, 0⟩) (meth := k4m0) (c := k4c0) (by decide +kernel) rfl rfl rfl (by decide +kernel)
set_option maxRecDepth 65536 in
theorem w_c4 : (Jvm.Cond.code ({ cls := "java/lang/Object", name := "<init>", desc := "()V" } : Jvm.MethodName) object_method_1_code (1 : Nat) (Option.none : Option Jvm.ClassFile.FieldType)).before args0 about1 = true := code_word (m := ⟨0, 0⟩) (meth := k0m0) (c := k0c0) (by decide +kernel) rfl rfl rfl (by decide +kernel)
set_option maxRecDepth 65536 in
theorem w_c5 : (Jvm.Cond.code ({ cls := "java/lang/Long", name := "valueOf", desc := "(J)Ljava/lang/Long;" } : Jvm.MethodName) jdk_35_method_24_code (3 : Nat) (Option.some (Jvm.ClassFile.FieldType.object "java/lang/Long"))).before args0 about1 = true := code_word (m := ⟨16, 0⟩) (meth := k16m0) (c := k16c0) (by decide +kernel) rfl rfl rfl (by decide +kernel)
set_option maxRecDepth 65536 in
theorem w_c6 : (Jvm.Cond.code ({ cls := "java/util/ArrayList", name := "add", desc := "(Ljava/lang/Object;)Z" } : Jvm.MethodName) jdk_38_method_25_code (2 : Nat) (Option.some Jvm.ClassFile.FieldType.boolean)).before args0 about1 = true := code_word (m := ⟨11, 6⟩) (meth := k11m6) (c := k11c6) (by decide +kernel) rfl rfl rfl (by decide +kernel)
set_option maxRecDepth 65536 in
theorem w_c7 : (Jvm.Cond.code ({ cls := "java/util/ArrayList", name := "add", desc := "(Ljava/lang/Object;[Ljava/lang/Object;I)V" } : Jvm.MethodName) jdk_38_method_24_code (4 : Nat) (Option.none : Option Jvm.ClassFile.FieldType)).before args0 about1 = true := code_word (m := ⟨11, 5⟩) (meth := k11m5) (c := k11c5) (by decide +kernel) rfl rfl rfl (by decide +kernel)
set_option maxRecDepth 65536 in
theorem w_c8 : (Jvm.Cond.code ({ cls := "java/util/ArrayList", name := "grow", desc := "()[Ljava/lang/Object;" } : Jvm.MethodName) jdk_38_method_7_code (1 : Nat) (Option.some (Jvm.ClassFile.FieldType.array (Jvm.ClassFile.FieldType.object "java/lang/Object")))).before args0 about1 = true := code_word (m := ⟨11, 2⟩) (meth := k11m2) (c := k11c2) (by decide +kernel) rfl rfl rfl (by decide +kernel)
set_option maxRecDepth 65536 in
theorem w_c9 : (Jvm.Cond.code ({ cls := "java/util/ArrayList", name := "grow", desc := "(I)[Ljava/lang/Object;" } : Jvm.MethodName) jdk_38_method_6_code (4 : Nat) (Option.some (Jvm.ClassFile.FieldType.array (Jvm.ClassFile.FieldType.object "java/lang/Object")))).before args0 about1 = true := code_word (m := ⟨11, 1⟩) (meth := k11m1) (c := k11c1) (by decide +kernel) rfl rfl rfl (by decide +kernel)
set_option maxRecDepth 65536 in
theorem w_c10 : (Jvm.Cond.code ({ cls := "java/lang/Math", name := "max", desc := "(II)I" } : Jvm.MethodName) jdk_29_method_65_code (2 : Nat) (Option.some Jvm.ClassFile.FieldType.int)).before args0 about1 = true := code_word (m := ⟨18, 1⟩) (meth := k18m1) (c := k18c1) (by decide +kernel) rfl rfl rfl (by decide +kernel)
set_option maxRecDepth 65536 in
theorem w_c11 : (Jvm.Cond.code ({ cls := "com/example/lapsed/lapsed/RetryPolicy", name := "<init>", desc := "(Ljava/util/List;)V" } : Jvm.MethodName) prog_8_method_1_code (5 : Nat) (Option.none : Option Jvm.ClassFile.FieldType)).before args0 about1 = true := code_word (m := ⟨19, 0⟩) (meth := k19m0) (c := k19c0) (by decide +kernel) rfl rfl rfl (by decide +kernel)
set_option maxRecDepth 65536 in
theorem w_c12 : (Jvm.Cond.code ({ cls := "java/util/ArrayList", name := "iterator", desc := "()Ljava/util/Iterator;" } : Jvm.MethodName) jdk_38_method_55_code (1 : Nat) (Option.some (Jvm.ClassFile.FieldType.object "java/util/Iterator"))).before args0 about1 = true := code_word (m := ⟨11, 7⟩) (meth := k11m7) (c := k11c7) (by decide +kernel) rfl rfl rfl (by decide +kernel)
set_option maxRecDepth 65536 in
theorem w_c13 : (Jvm.Cond.code ({ cls := "java/util/ArrayList$Itr", name := "<init>", desc := "(Ljava/util/ArrayList;)V" } : Jvm.MethodName) jdk_49_method_1_code (2 : Nat) (Option.none : Option Jvm.ClassFile.FieldType)).before args0 about1 = true := code_word (m := ⟨21, 0⟩) (meth := k21m0) (c := k21c0) (by decide +kernel) rfl rfl rfl (by decide +kernel)
set_option maxRecDepth 65536 in
theorem w_c14 : (Jvm.Cond.code ({ cls := "java/util/ArrayList$Itr", name := "hasNext", desc := "()Z" } : Jvm.MethodName) jdk_49_method_2_code (1 : Nat) (Option.some Jvm.ClassFile.FieldType.boolean)).before args0 about1 = true := code_word (m := ⟨21, 1⟩) (meth := k21m1) (c := k21c1) (by decide +kernel) rfl rfl rfl (by decide +kernel)
set_option maxRecDepth 65536 in
theorem w_c15 : (Jvm.Cond.code ({ cls := "java/util/ArrayList$Itr", name := "next", desc := "()Ljava/lang/Object;" } : Jvm.MethodName) jdk_49_method_3_code (3 : Nat) (Option.some (Jvm.ClassFile.FieldType.object "java/lang/Object"))).before args0 about1 = true := code_word (m := ⟨21, 2⟩) (meth := k21m2) (c := k21c2) (by decide +kernel) rfl rfl rfl (by decide +kernel)
set_option maxRecDepth 65536 in
theorem w_c16 : (Jvm.Cond.code ({ cls := "java/util/ArrayList$Itr", name := "checkForComodification", desc := "()V" } : Jvm.MethodName) jdk_49_method_6_code (1 : Nat) (Option.none : Option Jvm.ClassFile.FieldType)).before args0 about1 = true := code_word (m := ⟨21, 3⟩) (meth := k21m3) (c := k21c3) (by decide +kernel) rfl rfl rfl (by decide +kernel)
set_option maxRecDepth 65536 in
theorem w_c17 : (Jvm.Cond.code ({ cls := "java/lang/Long", name := "longValue", desc := "()J" } : Jvm.MethodName) jdk_35_method_31_code (1 : Nat) (Option.some Jvm.ClassFile.FieldType.long)).before args0 about1 = true := code_word (m := ⟨16, 2⟩) (meth := k16m2) (c := k16c2) (by decide +kernel) rfl rfl rfl (by decide +kernel)
set_option maxRecDepth 65536 in
theorem w_c18 : (Jvm.Cond.code ({ cls := "java/util/List", name := "copyOf", desc := "(Ljava/util/Collection;)Ljava/util/List;" } : Jvm.MethodName) jdk_40_method_48_code (1 : Nat) (Option.some (Jvm.ClassFile.FieldType.object "java/util/List"))).before args0 about1 = true := code_word (m := ⟨6, 5⟩) (meth := k6m5) (c := k6c5) (by decide +kernel) rfl rfl rfl (by decide +kernel)
set_option maxRecDepth 65536 in
theorem w_c19 : (Jvm.Cond.code ({ cls := "java/util/ImmutableCollections", name := "listCopy", desc := "(Ljava/util/Collection;)Ljava/util/List;" } : Jvm.MethodName) jdk_56_method_3_code (2 : Nat) (Option.some (Jvm.ClassFile.FieldType.object "java/util/List"))).before args0 about1 = true := code_word (m := ⟨22, 1⟩) (meth := k22m1) (c := k22c1) (by decide +kernel) rfl rfl rfl (by decide +kernel)
set_option maxRecDepth 65536 in
theorem w_c20 : (Jvm.Cond.code ({ cls := "java/util/ArrayList", name := "isEmpty", desc := "()Z" } : Jvm.MethodName) jdk_38_method_9_code (1 : Nat) (Option.some Jvm.ClassFile.FieldType.boolean)).before args0 about1 = true := code_word (m := ⟨11, 3⟩) (meth := k11m3) (c := k11c3) (by decide +kernel) rfl rfl rfl (by decide +kernel)
set_option maxRecDepth 65536 in
theorem w_c21 : (Jvm.Cond.code ({ cls := "java/util/ArrayList", name := "toArray", desc := "()[Ljava/lang/Object;" } : Jvm.MethodName) jdk_38_method_16_code (1 : Nat) (Option.some (Jvm.ClassFile.FieldType.array (Jvm.ClassFile.FieldType.object "java/lang/Object")))).before args0 about1 = true := code_word (m := ⟨11, 4⟩) (meth := k11m4) (c := k11c4) (by decide +kernel) rfl rfl rfl (by decide +kernel)
set_option maxRecDepth 65536 in
theorem w_c22 : (Jvm.Cond.code ({ cls := "java/util/Arrays", name := "copyOf", desc := "([Ljava/lang/Object;I)[Ljava/lang/Object;" } : Jvm.MethodName) jdk_65_method_119_code (2 : Nat) (Option.some (Jvm.ClassFile.FieldType.array (Jvm.ClassFile.FieldType.object "java/lang/Object")))).before args0 about1 = true := code_word (m := ⟨27, 1⟩) (meth := k27m1) (c := k27c1) (by decide +kernel) rfl rfl rfl (by decide +kernel)
set_option maxRecDepth 65536 in
theorem w_c23 : (Jvm.Cond.code ({ cls := "java/util/Arrays", name := "copyOf", desc := "([Ljava/lang/Object;ILjava/lang/Class;)[Ljava/lang/Object;" } : Jvm.MethodName) jdk_65_method_120_code (4 : Nat) (Option.some (Jvm.ClassFile.FieldType.array (Jvm.ClassFile.FieldType.object "java/lang/Object")))).before args0 about1 = true := code_word (m := ⟨27, 2⟩) (meth := k27m2) (c := k27c2) (by decide +kernel) rfl rfl rfl (by decide +kernel)
set_option maxRecDepth 65536 in
theorem w_c24 : (Jvm.Cond.code ({ cls := "java/lang/Math", name := "min", desc := "(II)I" } : Jvm.MethodName) jdk_29_method_69_code (2 : Nat) (Option.some Jvm.ClassFile.FieldType.int)).before args0 about1 = true := code_word (m := ⟨18, 2⟩) (meth := k18m2) (c := k18c2) (by decide +kernel) rfl rfl rfl (by decide +kernel)
set_option maxRecDepth 65536 in
theorem w_c25 : (Jvm.Cond.code ({ cls := "java/util/List", name := "of", desc := "([Ljava/lang/Object;)Ljava/util/List;" } : Jvm.MethodName) jdk_40_method_47_code (2 : Nat) (Option.some (Jvm.ClassFile.FieldType.object "java/util/List"))).before args0 about1 = true := code_word (m := ⟨6, 4⟩) (meth := k6m4) (c := k6c4) (by decide +kernel) rfl rfl rfl (by decide +kernel)
set_option maxRecDepth 65536 in
theorem w_c26 : (Jvm.Cond.code ({ cls := "java/util/ImmutableCollections$List12", name := "<init>", desc := "(Ljava/lang/Object;)V" } : Jvm.MethodName) jdk_44_method_1_code (2 : Nat) (Option.none : Option Jvm.ClassFile.FieldType)).before args0 about1 = true := code_word (m := ⟨25, 0⟩) (meth := k25m0) (c := k25c0) (by decide +kernel) rfl rfl rfl (by decide +kernel)
set_option maxRecDepth 65536 in
theorem w_c27 : (Jvm.Cond.code ({ cls := "java/util/ImmutableCollections$AbstractImmutableList", name := "<init>", desc := "()V" } : Jvm.MethodName) jdk_46_method_1_code (1 : Nat) (Option.none : Option Jvm.ClassFile.FieldType)).before args0 about1 = true := code_word (m := ⟨24, 0⟩) (meth := k24m0) (c := k24c0) (by decide +kernel) rfl rfl rfl (by decide +kernel)
set_option maxRecDepth 65536 in
theorem w_c28 : (Jvm.Cond.code ({ cls := "java/util/ImmutableCollections$AbstractImmutableCollection", name := "<init>", desc := "()V" } : Jvm.MethodName) jdk_47_method_1_code (1 : Nat) (Option.none : Option Jvm.ClassFile.FieldType)).before args0 about1 = true := code_word (m := ⟨23, 0⟩) (meth := k23m0) (c := k23c0) (by decide +kernel) rfl rfl rfl (by decide +kernel)
set_option maxRecDepth 65536 in
theorem w_c29 : (Jvm.Cond.code ({ cls := "java/util/Objects", name := "requireNonNull", desc := "(Ljava/lang/Object;)Ljava/lang/Object;" } : Jvm.MethodName) jdk_31_method_10_code (1 : Nat) (Option.some (Jvm.ClassFile.FieldType.object "java/lang/Object"))).before args0 about1 = true := code_word (m := ⟨29, 1⟩) (meth := k29m1) (c := k29c1) (by decide +kernel) rfl rfl rfl (by decide +kernel)
set_option maxRecDepth 65536 in
theorem w_c30 : (Jvm.Cond.code ({ cls := "com/example/lapsed/lapsed/Timeout", name := "<init>", desc := "(Ljava/lang/String;Ljava/lang/String;JLjava/lang/String;Lcom/example/lapsed/lapsed/State;IIJJJJLjava/lang/String;)V" } : Jvm.MethodName) prog_14_method_1_code (18 : Nat) (Option.none : Option Jvm.ClassFile.FieldType)).before args0 about1 = true := code_word (m := ⟨30, 0⟩) (meth := k30m0) (c := k30c0) (by decide +kernel) rfl rfl rfl (by decide +kernel)
set_option maxRecDepth 65536 in
theorem w_c31 : (Jvm.Cond.code ({ cls := "com/example/lapsed/lapsed/Timeout", name := "claimableAt", desc := "()J" } : Jvm.MethodName) prog_14_method_11_code (1 : Nat) (Option.some Jvm.ClassFile.FieldType.long)).before args0 about1 = true := code_word (m := ⟨30, 7⟩) (meth := k30m7) (c := k30c7) (by decide +kernel) rfl rfl rfl (by decide +kernel)
set_option maxRecDepth 65536 in
theorem w_c32 : (Jvm.Cond.code ({ cls := "com/example/lapsed/lapsed/Timeout", name := "claimed", desc := "(JJ)Lcom/example/lapsed/lapsed/Timeout;" } : Jvm.MethodName) prog_14_method_5_code (5 : Nat) (Option.some (Jvm.ClassFile.FieldType.object "com/example/lapsed/lapsed/Timeout"))).before args0 about1 = true := code_word (m := ⟨30, 3⟩) (meth := k30m3) (c := k30c3) (by decide +kernel) rfl rfl rfl (by decide +kernel)
set_option maxRecDepth 65536 in
theorem w_c33 : (Jvm.Cond.code ({ cls := "com/example/lapsed/lapsed/Timeout", name := "<init>", desc := "(Lcom/example/lapsed/lapsed/Timeout;Lcom/example/lapsed/lapsed/State;IJJ)V" } : Jvm.MethodName) prog_14_method_2_code (8 : Nat) (Option.none : Option Jvm.ClassFile.FieldType)).before args0 about1 = true := code_word (m := ⟨30, 1⟩) (meth := k30m1) (c := k30c1) (by decide +kernel) rfl rfl rfl (by decide +kernel)
set_option maxRecDepth 65536 in
theorem w_c34 : (Jvm.Cond.code ({ cls := "com/example/lapsed/lapsed/Timeout", name := "failed", desc := "(JLjava/lang/String;Lcom/example/lapsed/lapsed/RetryPolicy;)Lcom/example/lapsed/lapsed/Timeout;" } : Jvm.MethodName) prog_14_method_8_code (7 : Nat) (Option.some (Jvm.ClassFile.FieldType.object "com/example/lapsed/lapsed/Timeout"))).before args0 about1 = true := code_word (m := ⟨30, 4⟩) (meth := k30m4) (c := k30c4) (by decide +kernel) rfl rfl rfl (by decide +kernel)
set_option maxRecDepth 65536 in
theorem w_c35 : (Jvm.Cond.code ({ cls := "com/example/lapsed/lapsed/RetryPolicy", name := "delayAfter", desc := "(I)Ljava/util/OptionalLong;" } : Jvm.MethodName) prog_8_method_2_code (2 : Nat) (Option.some (Jvm.ClassFile.FieldType.object "java/util/OptionalLong"))).before args0 about1 = true := code_word (m := ⟨19, 1⟩) (meth := k19m1) (c := k19c1) (by decide +kernel) rfl rfl rfl (by decide +kernel)
set_option maxRecDepth 65536 in
theorem w_c36 : (Jvm.Cond.code ({ cls := "java/util/ImmutableCollections$List12", name := "size", desc := "()I" } : Jvm.MethodName) jdk_44_method_3_code (1 : Nat) (Option.some Jvm.ClassFile.FieldType.int)).before args0 about1 = true := code_word (m := ⟨25, 1⟩) (meth := k25m1) (c := k25c1) (by decide +kernel) rfl rfl rfl (by decide +kernel)
set_option maxRecDepth 65536 in
theorem w_c37 : (Jvm.Cond.code ({ cls := "java/util/ImmutableCollections$List12", name := "get", desc := "(I)Ljava/lang/Object;" } : Jvm.MethodName) jdk_44_method_5_code (2 : Nat) (Option.some (Jvm.ClassFile.FieldType.object "java/lang/Object"))).before args0 about1 = true := code_word (m := ⟨25, 2⟩) (meth := k25m2) (c := k25c2) (by decide +kernel) rfl rfl rfl (by decide +kernel)
set_option maxRecDepth 65536 in
theorem w_c38 : (Jvm.Cond.code ({ cls := "java/util/OptionalLong", name := "of", desc := "(J)Ljava/util/OptionalLong;" } : Jvm.MethodName) jdk_2650_method_4_code (2 : Nat) (Option.some (Jvm.ClassFile.FieldType.object "java/util/OptionalLong"))).before args0 about1 = true := code_word (m := ⟨35, 3⟩) (meth := k35m3) (c := k35c3) (by decide +kernel) rfl rfl rfl (by decide +kernel)
set_option maxRecDepth 65536 in
theorem w_c39 : (Jvm.Cond.code ({ cls := "java/util/OptionalLong", name := "<init>", desc := "(J)V" } : Jvm.MethodName) jdk_2650_method_3_code (3 : Nat) (Option.none : Option Jvm.ClassFile.FieldType)).before args0 about1 = true := code_word (m := ⟨35, 2⟩) (meth := k35m2) (c := k35c2) (by decide +kernel) rfl rfl rfl (by decide +kernel)
set_option maxRecDepth 65536 in
theorem w_c40 : (Jvm.Cond.code ({ cls := "java/util/OptionalLong", name := "isPresent", desc := "()Z" } : Jvm.MethodName) jdk_2650_method_6_code (1 : Nat) (Option.some Jvm.ClassFile.FieldType.boolean)).before args0 about1 = true := code_word (m := ⟨35, 5⟩) (meth := k35m5) (c := k35c5) (by decide +kernel) rfl rfl rfl (by decide +kernel)
set_option maxRecDepth 65536 in
theorem w_c41 : (Jvm.Cond.code ({ cls := "java/util/OptionalLong", name := "getAsLong", desc := "()J" } : Jvm.MethodName) jdk_2650_method_5_code (1 : Nat) (Option.some Jvm.ClassFile.FieldType.long)).before args0 about1 = true := code_word (m := ⟨35, 4⟩) (meth := k35m4) (c := k35c4) (by decide +kernel) rfl rfl rfl (by decide +kernel)
set_option maxRecDepth 65536 in
theorem w_c42 : (Jvm.Cond.code ({ cls := "com/example/lapsed/lapsed/Timeout", name := "inRound", desc := "(Lcom/example/lapsed/lapsed/State;IJJLjava/lang/String;)Lcom/example/lapsed/lapsed/Timeout;" } : Jvm.MethodName) prog_14_method_10_code (8 : Nat) (Option.some (Jvm.ClassFile.FieldType.object "com/example/lapsed/lapsed/Timeout"))).before args0 about1 = true := code_word (m := ⟨30, 6⟩) (meth := k30m6) (c := k30c6) (by decide +kernel) rfl rfl rfl (by decide +kernel)
set_option maxRecDepth 65536 in
theorem w_c43 : (Jvm.Cond.code ({ cls := "com/example/lapsed/lapsed/Timeout", name := "retried", desc := "(J)Lcom/example/lapsed/lapsed/Timeout;" } : Jvm.MethodName) prog_14_method_9_code (3 : Nat) (Option.some (Jvm.ClassFile.FieldType.object "com/example/lapsed/lapsed/Timeout"))).before args0 about1 = true := code_word (m := ⟨30, 5⟩) (meth := k30m5) (c := k30c5) (by decide +kernel) rfl rfl rfl (by decide +kernel)
set_option maxRecDepth 65536 in
theorem w_c44 : (Jvm.Cond.code ({ cls := "com/example/lapsed/lapsed/Timeout", name := "rescheduled", desc := "(JLjava/lang/String;)Lcom/example/lapsed/lapsed/Timeout;" } : Jvm.MethodName) prog_14_method_4_code (4 : Nat) (Option.some (Jvm.ClassFile.FieldType.object "com/example/lapsed/lapsed/Timeout"))).before args0 about1 = true := code_word (m := ⟨30, 2⟩) (meth := k30m2) (c := k30c2) (by decide +kernel) rfl rfl rfl (by decide +kernel)
set_option maxRecDepth 65536 in
theorem w_c45 : (Jvm.Cond.code ({ cls := "java/lang/Long", name := "<init>", desc := "(J)V" } : Jvm.MethodName) jdk_35_method_26_code (3 : Nat) (Option.none : Option Jvm.ClassFile.FieldType)).before args0 about1 = true := code_word (m := ⟨16, 1⟩) (meth := k16m1) (c := k16c1) (by decide +kernel) rfl rfl rfl (by decide +kernel)
set_option maxRecDepth 65536 in
theorem w_c46 : (Jvm.Cond.code ({ cls := "java/lang/Number", name := "<init>", desc := "()V" } : Jvm.MethodName) jdk_18_method_1_code (1 : Nat) (Option.none : Option Jvm.ClassFile.FieldType)).before args0 about1 = true := code_word (m := ⟨12, 0⟩) (meth := k12m0) (c := k12c0) (by decide +kernel) rfl rfl rfl (by decide +kernel)
set_option maxRecDepth 65536 in
theorem w_c47 : (Jvm.Cond.code ({ cls := "java/util/List", name := "of", desc := "()Ljava/util/List;" } : Jvm.MethodName) jdk_40_method_36_code (0 : Nat) (Option.some (Jvm.ClassFile.FieldType.object "java/util/List"))).before args0 about1 = true := code_word (m := ⟨6, 3⟩) (meth := k6m3) (c := k6c3) (by decide +kernel) rfl rfl rfl (by decide +kernel)
set_option maxRecDepth 65536 in
theorem w_c48 : (Jvm.Cond.code ({ cls := "java/util/ImmutableCollections$ListN", name := "size", desc := "()I" } : Jvm.MethodName) jdk_45_method_3_code (1 : Nat) (Option.some Jvm.ClassFile.FieldType.int)).before args0 about1 = true := code_word (m := ⟨26, 0⟩) (meth := k26m0) (c := k26c0) (by decide +kernel) rfl rfl rfl (by decide +kernel)
set_option maxRecDepth 65536 in
theorem w_c49 : (Jvm.Cond.code ({ cls := "java/util/OptionalLong", name := "empty", desc := "()Ljava/util/OptionalLong;" } : Jvm.MethodName) jdk_2650_method_2_code (0 : Nat) (Option.some (Jvm.ClassFile.FieldType.object "java/util/OptionalLong"))).before args0 about1 = true := code_word (m := ⟨35, 1⟩) (meth := k35m1) (c := k35c1) (by decide +kernel) rfl rfl rfl (by decide +kernel)
def codes1 : List Jvm.Cond := [Jvm.Cond.code x code maxLocals ret, Jvm.Cond.code ({ cls := "java/util/ArrayList", name := "<init>", desc := "()V" } : Jvm.MethodName) jdk_38_method_2_code (1 : Nat) (Option.none : Option Jvm.ClassFile.FieldType), Jvm.Cond.code ({ cls := "java/util/AbstractList", name := "<init>", desc := "()V" } : Jvm.MethodName) jdk_39_method_1_code (1 : Nat) (Option.none : Option Jvm.ClassFile.FieldType), Jvm.Cond.code ({ cls := "java/util/AbstractCollection", name := "<init>", desc := "()V" } : Jvm.MethodName) jdk_22_method_1_code (1 : Nat) (Option.none : Option Jvm.ClassFile.FieldType), Jvm.Cond.code ({ cls := "java/lang/Object", name := "<init>", desc := "()V" } : Jvm.MethodName) object_method_1_code (1 : Nat) (Option.none : Option Jvm.ClassFile.FieldType), Jvm.Cond.code ({ cls := "java/lang/Long", name := "valueOf", desc := "(J)Ljava/lang/Long;" } : Jvm.MethodName) jdk_35_method_24_code (3 : Nat) (Option.some (Jvm.ClassFile.FieldType.object "java/lang/Long")), Jvm.Cond.code ({ cls := "java/util/ArrayList", name := "add", desc := "(Ljava/lang/Object;)Z" } : Jvm.MethodName) jdk_38_method_25_code (2 : Nat) (Option.some Jvm.ClassFile.FieldType.boolean), Jvm.Cond.code ({ cls := "java/util/ArrayList", name := "add", desc := "(Ljava/lang/Object;[Ljava/lang/Object;I)V" } : Jvm.MethodName) jdk_38_method_24_code (4 : Nat) (Option.none : Option Jvm.ClassFile.FieldType), Jvm.Cond.code ({ cls := "java/util/ArrayList", name := "grow", desc := "()[Ljava/lang/Object;" } : Jvm.MethodName) jdk_38_method_7_code (1 : Nat) (Option.some (Jvm.ClassFile.FieldType.array (Jvm.ClassFile.FieldType.object "java/lang/Object"))), Jvm.Cond.code ({ cls := "java/util/ArrayList", name := "grow", desc := "(I)[Ljava/lang/Object;" } : Jvm.MethodName) jdk_38_method_6_code (4 : Nat) (Option.some (Jvm.ClassFile.FieldType.array (Jvm.ClassFile.FieldType.object "java/lang/Object"))), Jvm.Cond.code ({ cls := "java/lang/Math", name := "max", desc := "(II)I" } : Jvm.MethodName) jdk_29_method_65_code (2 : Nat) (Option.some Jvm.ClassFile.FieldType.int), Jvm.Cond.code ({ cls := "com/example/lapsed/lapsed/RetryPolicy", name := "<init>", desc := "(Ljava/util/List;)V" } : Jvm.MethodName) prog_8_method_1_code (5 : Nat) (Option.none : Option Jvm.ClassFile.FieldType), Jvm.Cond.code ({ cls := "java/util/ArrayList", name := "iterator", desc := "()Ljava/util/Iterator;" } : Jvm.MethodName) jdk_38_method_55_code (1 : Nat) (Option.some (Jvm.ClassFile.FieldType.object "java/util/Iterator")), Jvm.Cond.code ({ cls := "java/util/ArrayList$Itr", name := "<init>", desc := "(Ljava/util/ArrayList;)V" } : Jvm.MethodName) jdk_49_method_1_code (2 : Nat) (Option.none : Option Jvm.ClassFile.FieldType), Jvm.Cond.code ({ cls := "java/util/ArrayList$Itr", name := "hasNext", desc := "()Z" } : Jvm.MethodName) jdk_49_method_2_code (1 : Nat) (Option.some Jvm.ClassFile.FieldType.boolean), Jvm.Cond.code ({ cls := "java/util/ArrayList$Itr", name := "next", desc := "()Ljava/lang/Object;" } : Jvm.MethodName) jdk_49_method_3_code (3 : Nat) (Option.some (Jvm.ClassFile.FieldType.object "java/lang/Object")), Jvm.Cond.code ({ cls := "java/util/ArrayList$Itr", name := "checkForComodification", desc := "()V" } : Jvm.MethodName) jdk_49_method_6_code (1 : Nat) (Option.none : Option Jvm.ClassFile.FieldType), Jvm.Cond.code ({ cls := "java/lang/Long", name := "longValue", desc := "()J" } : Jvm.MethodName) jdk_35_method_31_code (1 : Nat) (Option.some Jvm.ClassFile.FieldType.long), Jvm.Cond.code ({ cls := "java/util/List", name := "copyOf", desc := "(Ljava/util/Collection;)Ljava/util/List;" } : Jvm.MethodName) jdk_40_method_48_code (1 : Nat) (Option.some (Jvm.ClassFile.FieldType.object "java/util/List")), Jvm.Cond.code ({ cls := "java/util/ImmutableCollections", name := "listCopy", desc := "(Ljava/util/Collection;)Ljava/util/List;" } : Jvm.MethodName) jdk_56_method_3_code (2 : Nat) (Option.some (Jvm.ClassFile.FieldType.object "java/util/List")), Jvm.Cond.code ({ cls := "java/util/ArrayList", name := "isEmpty", desc := "()Z" } : Jvm.MethodName) jdk_38_method_9_code (1 : Nat) (Option.some Jvm.ClassFile.FieldType.boolean), Jvm.Cond.code ({ cls := "java/util/ArrayList", name := "toArray", desc := "()[Ljava/lang/Object;" } : Jvm.MethodName) jdk_38_method_16_code (1 : Nat) (Option.some (Jvm.ClassFile.FieldType.array (Jvm.ClassFile.FieldType.object "java/lang/Object"))), Jvm.Cond.code ({ cls := "java/util/Arrays", name := "copyOf", desc := "([Ljava/lang/Object;I)[Ljava/lang/Object;" } : Jvm.MethodName) jdk_65_method_119_code (2 : Nat) (Option.some (Jvm.ClassFile.FieldType.array (Jvm.ClassFile.FieldType.object "java/lang/Object"))), Jvm.Cond.code ({ cls := "java/util/Arrays", name := "copyOf", desc := "([Ljava/lang/Object;ILjava/lang/Class;)[Ljava/lang/Object;" } : Jvm.MethodName) jdk_65_method_120_code (4 : Nat) (Option.some (Jvm.ClassFile.FieldType.array (Jvm.ClassFile.FieldType.object "java/lang/Object"))), Jvm.Cond.code ({ cls := "java/lang/Math", name := "min", desc := "(II)I" } : Jvm.MethodName) jdk_29_method_69_code (2 : Nat) (Option.some Jvm.ClassFile.FieldType.int), Jvm.Cond.code ({ cls := "java/util/List", name := "of", desc := "([Ljava/lang/Object;)Ljava/util/List;" } : Jvm.MethodName) jdk_40_method_47_code (2 : Nat) (Option.some (Jvm.ClassFile.FieldType.object "java/util/List")), Jvm.Cond.code ({ cls := "java/util/ImmutableCollections$List12", name := "<init>", desc := "(Ljava/lang/Object;)V" } : Jvm.MethodName) jdk_44_method_1_code (2 : Nat) (Option.none : Option Jvm.ClassFile.FieldType), Jvm.Cond.code ({ cls := "java/util/ImmutableCollections$AbstractImmutableList", name := "<init>", desc := "()V" } : Jvm.MethodName) jdk_46_method_1_code (1 : Nat) (Option.none : Option Jvm.ClassFile.FieldType), Jvm.Cond.code ({ cls := "java/util/ImmutableCollections$AbstractImmutableCollection", name := "<init>", desc := "()V" } : Jvm.MethodName) jdk_47_method_1_code (1 : Nat) (Option.none : Option Jvm.ClassFile.FieldType), Jvm.Cond.code ({ cls := "java/util/Objects", name := "requireNonNull", desc := "(Ljava/lang/Object;)Ljava/lang/Object;" } : Jvm.MethodName) jdk_31_method_10_code (1 : Nat) (Option.some (Jvm.ClassFile.FieldType.object "java/lang/Object")), Jvm.Cond.code ({ cls := "com/example/lapsed/lapsed/Timeout", name := "<init>", desc := "(Ljava/lang/String;Ljava/lang/String;JLjava/lang/String;Lcom/example/lapsed/lapsed/State;IIJJJJLjava/lang/String;)V" } : Jvm.MethodName) prog_14_method_1_code (18 : Nat) (Option.none : Option Jvm.ClassFile.FieldType), Jvm.Cond.code ({ cls := "com/example/lapsed/lapsed/Timeout", name := "claimableAt", desc := "()J" } : Jvm.MethodName) prog_14_method_11_code (1 : Nat) (Option.some Jvm.ClassFile.FieldType.long), Jvm.Cond.code ({ cls := "com/example/lapsed/lapsed/Timeout", name := "claimed", desc := "(JJ)Lcom/example/lapsed/lapsed/Timeout;" } : Jvm.MethodName) prog_14_method_5_code (5 : Nat) (Option.some (Jvm.ClassFile.FieldType.object "com/example/lapsed/lapsed/Timeout")), Jvm.Cond.code ({ cls := "com/example/lapsed/lapsed/Timeout", name := "<init>", desc := "(Lcom/example/lapsed/lapsed/Timeout;Lcom/example/lapsed/lapsed/State;IJJ)V" } : Jvm.MethodName) prog_14_method_2_code (8 : Nat) (Option.none : Option Jvm.ClassFile.FieldType), Jvm.Cond.code ({ cls := "com/example/lapsed/lapsed/Timeout", name := "failed", desc := "(JLjava/lang/String;Lcom/example/lapsed/lapsed/RetryPolicy;)Lcom/example/lapsed/lapsed/Timeout;" } : Jvm.MethodName) prog_14_method_8_code (7 : Nat) (Option.some (Jvm.ClassFile.FieldType.object "com/example/lapsed/lapsed/Timeout")), Jvm.Cond.code ({ cls := "com/example/lapsed/lapsed/RetryPolicy", name := "delayAfter", desc := "(I)Ljava/util/OptionalLong;" } : Jvm.MethodName) prog_8_method_2_code (2 : Nat) (Option.some (Jvm.ClassFile.FieldType.object "java/util/OptionalLong")), Jvm.Cond.code ({ cls := "java/util/ImmutableCollections$List12", name := "size", desc := "()I" } : Jvm.MethodName) jdk_44_method_3_code (1 : Nat) (Option.some Jvm.ClassFile.FieldType.int), Jvm.Cond.code ({ cls := "java/util/ImmutableCollections$List12", name := "get", desc := "(I)Ljava/lang/Object;" } : Jvm.MethodName) jdk_44_method_5_code (2 : Nat) (Option.some (Jvm.ClassFile.FieldType.object "java/lang/Object")), Jvm.Cond.code ({ cls := "java/util/OptionalLong", name := "of", desc := "(J)Ljava/util/OptionalLong;" } : Jvm.MethodName) jdk_2650_method_4_code (2 : Nat) (Option.some (Jvm.ClassFile.FieldType.object "java/util/OptionalLong")), Jvm.Cond.code ({ cls := "java/util/OptionalLong", name := "<init>", desc := "(J)V" } : Jvm.MethodName) jdk_2650_method_3_code (3 : Nat) (Option.none : Option Jvm.ClassFile.FieldType), Jvm.Cond.code ({ cls := "java/util/OptionalLong", name := "isPresent", desc := "()Z" } : Jvm.MethodName) jdk_2650_method_6_code (1 : Nat) (Option.some Jvm.ClassFile.FieldType.boolean), Jvm.Cond.code ({ cls := "java/util/OptionalLong", name := "getAsLong", desc := "()J" } : Jvm.MethodName) jdk_2650_method_5_code (1 : Nat) (Option.some Jvm.ClassFile.FieldType.long), Jvm.Cond.code ({ cls := "com/example/lapsed/lapsed/Timeout", name := "inRound", desc := "(Lcom/example/lapsed/lapsed/State;IJJLjava/lang/String;)Lcom/example/lapsed/lapsed/Timeout;" } : Jvm.MethodName) prog_14_method_10_code (8 : Nat) (Option.some (Jvm.ClassFile.FieldType.object "com/example/lapsed/lapsed/Timeout")), Jvm.Cond.code ({ cls := "com/example/lapsed/lapsed/Timeout", name := "retried", desc := "(J)Lcom/example/lapsed/lapsed/Timeout;" } : Jvm.MethodName) prog_14_method_9_code (3 : Nat) (Option.some (Jvm.ClassFile.FieldType.object "com/example/lapsed/lapsed/Timeout")), Jvm.Cond.code ({ cls := "com/example/lapsed/lapsed/Timeout", name := "rescheduled", desc := "(JLjava/lang/String;)Lcom/example/lapsed/lapsed/Timeout;" } : Jvm.MethodName) prog_14_method_4_code (4 : Nat) (Option.some (Jvm.ClassFile.FieldType.object "com/example/lapsed/lapsed/Timeout")), Jvm.Cond.code ({ cls := "java/lang/Long", name := "<init>", desc := "(J)V" } : Jvm.MethodName) jdk_35_method_26_code (3 : Nat) (Option.none : Option Jvm.ClassFile.FieldType), Jvm.Cond.code ({ cls := "java/lang/Number", name := "<init>", desc := "()V" } : Jvm.MethodName) jdk_18_method_1_code (1 : Nat) (Option.none : Option Jvm.ClassFile.FieldType), Jvm.Cond.code ({ cls := "java/util/List", name := "of", desc := "()Ljava/util/List;" } : Jvm.MethodName) jdk_40_method_36_code (0 : Nat) (Option.some (Jvm.ClassFile.FieldType.object "java/util/List")), Jvm.Cond.code ({ cls := "java/util/ImmutableCollections$ListN", name := "size", desc := "()I" } : Jvm.MethodName) jdk_45_method_3_code (1 : Nat) (Option.some Jvm.ClassFile.FieldType.int), Jvm.Cond.code ({ cls := "java/util/OptionalLong", name := "empty", desc := "()Ljava/util/OptionalLong;" } : Jvm.MethodName) jdk_2650_method_2_code (0 : Nat) (Option.some (Jvm.ClassFile.FieldType.object "java/util/OptionalLong"))]
set_option maxRecDepth 65536 in
theorem codes_eq : words1.filter isCode = codes1 := rfl
theorem w_codes : ∀ c ∈ words1.filter isCode, c.before args0 about1 = true := by
  rw [codes_eq]
  intro c hc
  simp only [codes1, List.mem_cons, List.not_mem_nil, or_false] at hc
  rcases hc with rfl | rfl | rfl | rfl | rfl | rfl | rfl | rfl | rfl | rfl | rfl | rfl | rfl | rfl | rfl | rfl | rfl | rfl | rfl | rfl | rfl | rfl | rfl | rfl | rfl | rfl | rfl | rfl | rfl | rfl | rfl | rfl | rfl | rfl | rfl | rfl | rfl | rfl | rfl | rfl | rfl | rfl | rfl | rfl | rfl | rfl | rfl | rfl | rfl | rfl
  · exact w_c0
  · exact w_c1
  · exact w_c2
  · exact w_c3
  · exact w_c4
  · exact w_c5
  · exact w_c6
  · exact w_c7
  · exact w_c8
  · exact w_c9
  · exact w_c10
  · exact w_c11
  · exact w_c12
  · exact w_c13
  · exact w_c14
  · exact w_c15
  · exact w_c16
  · exact w_c17
  · exact w_c18
  · exact w_c19
  · exact w_c20
  · exact w_c21
  · exact w_c22
  · exact w_c23
  · exact w_c24
  · exact w_c25
  · exact w_c26
  · exact w_c27
  · exact w_c28
  · exact w_c29
  · exact w_c30
  · exact w_c31
  · exact w_c32
  · exact w_c33
  · exact w_c34
  · exact w_c35
  · exact w_c36
  · exact w_c37
  · exact w_c38
  · exact w_c39
  · exact w_c40
  · exact w_c41
  · exact w_c42
  · exact w_c43
  · exact w_c44
  · exact w_c45
  · exact w_c46
  · exact w_c47
  · exact w_c48
  · exact w_c49
set_option maxRecDepth 65536 in
theorem w_t1 : (words1.take 24).all (fun c => isCode c || c.before args0 about1) = true := by decide +kernel
set_option maxRecDepth 65536 in
theorem w_t2 : ((words1.drop 24).take 24).all (fun c => isCode c || c.before args0 about1) = true := by decide +kernel
set_option maxRecDepth 65536 in
theorem w_t3 : (((words1.drop 24).drop 24).take 24).all (fun c => isCode c || c.before args0 about1) = true := by decide +kernel
set_option maxRecDepth 65536 in
theorem w_t4 : ((((words1.drop 24).drop 24).drop 24).take 24).all (fun c => isCode c || c.before args0 about1) = true := by decide +kernel
set_option maxRecDepth 65536 in
theorem w_t5 : (((((words1.drop 24).drop 24).drop 24).drop 24).take 24).all (fun c => isCode c || c.before args0 about1) = true := by decide +kernel
set_option maxRecDepth 65536 in
theorem w_t6 : ((((((words1.drop 24).drop 24).drop 24).drop 24).drop 24).take 24).all (fun c => isCode c || c.before args0 about1) = true := by decide +kernel
set_option maxRecDepth 65536 in
theorem w_t7 : (((((((words1.drop 24).drop 24).drop 24).drop 24).drop 24).drop 24).take 24).all (fun c => isCode c || c.before args0 about1) = true := by decide +kernel
set_option maxRecDepth 65536 in
theorem w_t8 : ((((((((words1.drop 24).drop 24).drop 24).drop 24).drop 24).drop 24).drop 24).take 24).all (fun c => isCode c || c.before args0 about1) = true := by decide +kernel
set_option maxRecDepth 65536 in
theorem w_t9 : (((((((((words1.drop 24).drop 24).drop 24).drop 24).drop 24).drop 24).drop 24).drop 24).take 24).all (fun c => isCode c || c.before args0 about1) = true := by decide +kernel
set_option maxRecDepth 65536 in
theorem w_t10 : ((((((((((words1.drop 24).drop 24).drop 24).drop 24).drop 24).drop 24).drop 24).drop 24).drop 24).take 24).all (fun c => isCode c || c.before args0 about1) = true := by decide +kernel
set_option maxRecDepth 65536 in
theorem w_t11 : (((((((((((words1.drop 24).drop 24).drop 24).drop 24).drop 24).drop 24).drop 24).drop 24).drop 24).drop 24).take 24).all (fun c => isCode c || c.before args0 about1) = true := by decide +kernel
set_option maxRecDepth 65536 in
theorem w_t12 : ((((((((((((words1.drop 24).drop 24).drop 24).drop 24).drop 24).drop 24).drop 24).drop 24).drop 24).drop 24).drop 24).take 24).all (fun c => isCode c || c.before args0 about1) = true := by decide +kernel
set_option maxRecDepth 65536 in
theorem w_t13 : (((((((((((((words1.drop 24).drop 24).drop 24).drop 24).drop 24).drop 24).drop 24).drop 24).drop 24).drop 24).drop 24).drop 24).take 24).all (fun c => isCode c || c.before args0 about1) = true := by decide +kernel
set_option maxRecDepth 65536 in
theorem w_t14 : ((((((((((((((words1.drop 24).drop 24).drop 24).drop 24).drop 24).drop 24).drop 24).drop 24).drop 24).drop 24).drop 24).drop 24).drop 24).take 24).all (fun c => isCode c || c.before args0 about1) = true := by decide +kernel
set_option maxRecDepth 65536 in
theorem w_t15 : (((((((((((((((words1.drop 24).drop 24).drop 24).drop 24).drop 24).drop 24).drop 24).drop 24).drop 24).drop 24).drop 24).drop 24).drop 24).drop 24).take 24).all (fun c => isCode c || c.before args0 about1) = true := by decide +kernel
set_option maxRecDepth 65536 in
theorem w_t16 : (((((((((((((((words1.drop 24).drop 24).drop 24).drop 24).drop 24).drop 24).drop 24).drop 24).drop 24).drop 24).drop 24).drop 24).drop 24).drop 24).drop 24).all (fun c => isCode c || c.before args0 about1) = true := by decide +kernel
theorem w_tables : (allAtoms (Jvm.Cond.code x code maxLocals ret :: tables_1)).before args0 about1 = true := by
  rw [allAtoms_all]
  show words1.all (fun c => c.before args0 about1) = true
  refine all_split ?_ w_codes
  rw [← List.take_append_drop 24 words1, List.all_append, w_t1, ← List.take_append_drop 24 (words1.drop 24), List.all_append, w_t2, ← List.take_append_drop 24 ((words1.drop 24).drop 24), List.all_append, w_t3, ← List.take_append_drop 24 (((words1.drop 24).drop 24).drop 24), List.all_append, w_t4, ← List.take_append_drop 24 ((((words1.drop 24).drop 24).drop 24).drop 24), List.all_append, w_t5, ← List.take_append_drop 24 (((((words1.drop 24).drop 24).drop 24).drop 24).drop 24), List.all_append, w_t6, ← List.take_append_drop 24 ((((((words1.drop 24).drop 24).drop 24).drop 24).drop 24).drop 24), List.all_append, w_t7, ← List.take_append_drop 24 (((((((words1.drop 24).drop 24).drop 24).drop 24).drop 24).drop 24).drop 24), List.all_append, w_t8, ← List.take_append_drop 24 ((((((((words1.drop 24).drop 24).drop 24).drop 24).drop 24).drop 24).drop 24).drop 24), List.all_append, w_t9, ← List.take_append_drop 24 (((((((((words1.drop 24).drop 24).drop 24).drop 24).drop 24).drop 24).drop 24).drop 24).drop 24), List.all_append, w_t10, ← List.take_append_drop 24 ((((((((((words1.drop 24).drop 24).drop 24).drop 24).drop 24).drop 24).drop 24).drop 24).drop 24).drop 24), List.all_append, w_t11, ← List.take_append_drop 24 (((((((((((words1.drop 24).drop 24).drop 24).drop 24).drop 24).drop 24).drop 24).drop 24).drop 24).drop 24).drop 24), List.all_append, w_t12, ← List.take_append_drop 24 ((((((((((((words1.drop 24).drop 24).drop 24).drop 24).drop 24).drop 24).drop 24).drop 24).drop 24).drop 24).drop 24).drop 24), List.all_append, w_t13, ← List.take_append_drop 24 (((((((((((((words1.drop 24).drop 24).drop 24).drop 24).drop 24).drop 24).drop 24).drop 24).drop 24).drop 24).drop 24).drop 24).drop 24), List.all_append, w_t14, ← List.take_append_drop 24 ((((((((((((((words1.drop 24).drop 24).drop 24).drop 24).drop 24).drop 24).drop 24).drop 24).drop 24).drop 24).drop 24).drop 24).drop 24).drop 24), List.all_append, w_t15, w_t16]
  rfl
set_option maxRecDepth 65536 in
theorem w_rest : rest_1_c.before args0 about1 = true := by decide +kernel
set_option maxRecDepth 65536 in
theorem w_case : (Jvm.Cond.and given_1 narrow_1).before args0 about1 = true := by decide +kernel
theorem w_applies : (headSpec (Jvm.Cond.code x code maxLocals ret :: tables_1) room_1).applies x e0.platform about1 = true :=
  (Spec.applies_iff w_frames).mpr ⟨w_running, w_runnable, w_alone, w_named, w_hears, w_ripe, w_room, w_tables⟩
set_option maxRecDepth 65536 in
theorem atStart : AtStart classFile x code maxLocals ret World_1 tables_1 room_1 Calls_1 rest_1 Pre_1 launch0 p0 e0 about1 theMethod args0 below0 :=
  ⟨lists_1, trivial, launch0.admits_env _ _ _, launch0.least_env, fairChoices_fair.cas, fairChoices_fair.clock, w_frames, w_args, w_heap, w_applies, ⟨⟨40, k40, 5, by decide +kernel, rfl, rfl, _, rfl, rfl⟩, trivial⟩, w_rest, w_case⟩
end start1
theorem witness_1 : WitnessClaimed_1 := ⟨start1.p0, start1.e0, start1.about1, start1.theMethod, start1.args0, start1.below0, start1.atStart⟩
end Jvm.Pilot.@@N@@
