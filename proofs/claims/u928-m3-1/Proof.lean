import JvmDerived
import JvmDerived.Pilot.@@N@@Statement
import JvmDerived.Pilot.@@N@@Code
set_option linter.unusedVariables false
set_option linter.unusedSimpArgs false
namespace Jvm.RoadKit
open Sem ClassFile Op Lib Jvm.Stand Jvm.Free Jvm.LawKit
section New
variable {p : Program} {l : Launch} {e : Env} {R : Room} {s : State} {m : MethodId} {args : Array Value} {below : List Frame} {meth : Method} {c : Code} {T : State} {locs : List Loc} {cells slots : Nat}
theorem retI (X : Stand p l e R s m args below meth c T locs cells slots) (hx : p.tables.exec = Jvm.exec) {pc : Nat} {Ls : Array Slot} {z : Int32} {rest : List Value} (hret : meth.sig.returnType = some .int) (hd : decode c.code pc = .ok (.ireturn, 1)) {fs : List Frame}
    (hl : ∀ (f : JFrame) (acts : List Action), f.method = m → f.locked = none → f.entered = [] → (doReturn e (T.setTop f) acts (some (.int z))).1 = T.setFrames fs) : Steps p.tables e below (T.setTop (mkF m pc Ls (.int z :: rest))) (T.setFrames fs) := by
  have hm' : T.vm.method? m = some meth := X.method'
  have hn : narrow .int (.int z) = .int z := rfl
  show Steps p.tables e below (T.setTop { method := m, pc := pc, locals := Ls, stack := _ :: rest, locked := none }) _
  jvm_step X.here [X.here.top, hx, hd, hm', hret, hn]
  first | (intro acts; rw [hl _ acts rfl rfl rfl]) | rw [hl _ _ rfl rfl rfl]
  exact Steps.refl _
end New
end Jvm.RoadKit
namespace Jvm.Pilot.@@N@@
open Jvm Jvm.ClassFile Sem Op Lib Jvm.Free Jvm.Stand Jvm.LawKit Jvm.RoadKit Bundle Jvm.Pilot.@@N@@.Jvm.D

theorem own_kp {h h' : Heap} (g : h' = h) : Keep h h' [] := by subst g; exact Keep.refl _ _
theorem own_kq {h h' : Heap} (ws : List Addr) (g : h' = h) : Keep h h' ws := by subst g; exact Keep.refl _ _
theorem own_fk {Z : State} {h h' : Heap} {a : Addr} {C n d : String} {v : Value} (F : Fld Z h a C n d v) (g : h' = h) : Fld Z h' a C n d v := by subst g; exact F
theorem own_ek {Z : State} {h h' : Heap} {a : Addr} {C : String} (F : Exa Z h a C) (g : h' = h) : Exa Z h' a C := by subst g; exact F
theorem own_zk {n : Nat} {h h' : Heap} (F : n ≤ h.size) (g : h' = h) : n ≤ h'.size := by subst g; exact F

def own_rem (x y : Int32) : Int32 := x - (x / y) * y
def own_div (x y : Int32) : Int32 := x / y
theorem own_and7 (x : Int32) : 0 ≤ (x &&& (2147483647 : Int32)).toInt := by
  have e : (x &&& (2147483647 : Int32)).toBitVec = x.toBitVec &&& 2147483647#32 := rfl
  have k : (x.toBitVec &&& 2147483647#32).toNat = x.toBitVec.toNat % 2147483648 := by rw [BitVec.toNat_and]; exact Nat.and_two_pow_sub_one_eq_mod _ 31
  show 0 ≤ (x &&& (2147483647 : Int32)).toBitVec.toInt
  rw [e, BitVec.toInt_eq_toNat_of_lt (by rw [k]; omega)]
  omega
theorem own_rem_toInt {x y : Int32} (hx : 0 ≤ x.toInt) (hy : 0 < y.toInt) : (own_rem x y).toInt = x.toInt % y.toInt := by
  unfold own_rem
  have h1 : (x / y).toInt = x.toInt / y.toInt := by
    rw [Int32.toInt_div, Int.tdiv_eq_ediv_of_nonneg hx]
    have a1 := Int.ediv_nonneg hx (Int.le_of_lt hy)
    have a2 : x.toInt / y.toInt ≤ x.toInt := Int.ediv_le_self _ hx
    have a3 := x.toInt_lt
    have := x.le_toInt
    exact Int.bmod_eq_of_le (by omega) (by omega)
  have h2 : (x / y * y).toInt = x.toInt / y.toInt * y.toInt := by
    rw [Int32.toInt_mul, h1]
    have b1 := Int.ediv_mul_le x.toInt (Int.ne_of_gt hy)
    have b2 := Int.mul_nonneg (Int.ediv_nonneg hx (Int.le_of_lt hy)) (Int.le_of_lt hy)
    have a3 := x.toInt_lt
    exact Int.bmod_eq_of_le (by omega) (by omega)
  rw [Int32.toInt_sub, h2]
  have b1 := Int.ediv_mul_le x.toInt (Int.ne_of_gt hy)
  have b2 := Int.mul_nonneg (Int.ediv_nonneg hx (Int.le_of_lt hy)) (Int.le_of_lt hy)
  have a3 := x.toInt_lt
  rw [Int.bmod_eq_of_le (by omega) (by omega), Int.emod_def, Int.mul_comm y.toInt]
theorem own_rem_in (x : Int32) {y : Int32} (hy : 0 < y.toInt) : 0 ≤ (own_rem (x &&& (2147483647 : Int32)) y).toInt ∧ (own_rem (x &&& (2147483647 : Int32)) y).toInt < y.toInt := by
  rw [own_rem_toInt (own_and7 x) hy]
  exact ⟨Int.emod_nonneg _ (Int.ne_of_gt hy), Int.emod_lt_of_pos _ hy⟩

def own_max (a b : Int32) : Int32 := if a < b then b else a
def own_succ (n s p : Int32) : Int32 := if p = n - (1 : Int32) then s else p + (1 : Int32)
/-- what the law expects -/
def own_exp (n s p : Int32) : Int64 := if p < n - (1 : Int32) then p.toInt64 + (1 : Int64) else s.toInt64
theorem own_max1 (b : Int32) : 1 ≤ (own_max (1 : Int32) b).toInt := by
  unfold own_max
  by_cases h : (1 : Int32) < b
  · rw [if_pos h]; rw [Int32.lt_iff_toInt_lt] at h; have e : (1 : Int32).toInt = 1 := rfl; omega
  · rw [if_neg h]; decide
theorem own_nz {n : Int32} (h : 1 ≤ n.toInt) : n ≠ 0 := fun e => by subst e; exact absurd h (by decide)
theorem own_sub1 {n : Int32} (h : 1 ≤ n.toInt) : (n - (1 : Int32)).toInt = n.toInt - 1 := by
  have e : (1 : Int32).toInt = 1 := rfl
  have a := n.toInt_lt
  rw [Int32.toInt_sub, e]
  exact Int.bmod_eq_of_le (by omega) (by omega)
theorem own_add1 {p n : Int32} (h : 0 ≤ p.toInt) (k : p.toInt < n.toInt) : (p + (1 : Int32)).toInt = p.toInt + 1 := by
  have e : (1 : Int32).toInt = 1 := rfl
  have a := n.toInt_lt
  rw [Int32.toInt_add, e]
  exact Int.bmod_eq_of_le (by omega) (by omega)
theorem own_all {n s p : Int32} (hn : 1 ≤ n.toInt) (hs : 0 ≤ s.toInt ∧ s.toInt < n.toInt) (hp : 0 ≤ p.toInt ∧ p.toInt < n.toInt) : ¬ own_succ n s p < 0 ∧ own_succ n s p < n ∧ (own_succ n s p).toInt64 = own_exp n s p := by
  have e0 : (0 : Int32).toInt = 0 := rfl
  have s1 := own_sub1 hn
  unfold own_succ own_exp
  by_cases h : p = n - (1 : Int32)
  · have k : ¬ p < n - (1 : Int32) := by rw [Int32.lt_iff_toInt_lt, h]; omega
    rw [if_pos h, if_neg k]
    refine ⟨by rw [Int32.lt_iff_toInt_lt, e0]; omega, by rw [Int32.lt_iff_toInt_lt]; omega, rfl⟩
  · have ne : p.toInt ≠ n.toInt - 1 := fun q => h (Int32.toInt.inj (by rw [s1]; exact q))
    have k : p < n - (1 : Int32) := by rw [Int32.lt_iff_toInt_lt, s1]; omega
    have a1 := own_add1 hp.1 hp.2
    rw [if_neg h, if_pos k]
    refine ⟨by rw [Int32.lt_iff_toInt_lt, e0, a1]; omega, by rw [Int32.lt_iff_toInt_lt, a1]; omega, Int64.toInt.inj ?_⟩
    have e1 : (1 : Int64).toInt = 1 := rfl
    have a := p.toInt_lt
    have b := n.toInt_lt
    rw [Int64.toInt_add, Int32.toInt_toInt64, Int32.toInt_toInt64, a1, e1]
    exact (Int.bmod_eq_of_le (by omega) (by omega)).symm
theorem own_last {n : Int32} (hn : 1 ≤ n.toInt) : 0 ≤ (n - (1 : Int32)).toInt ∧ (n - (1 : Int32)).toInt < n.toInt := by rw [own_sub1 hn]; omega
theorem d3_0 : decode jdk_30_method_1_code 0 = .ok (.aload_n 0, 1) := by decide +kernel
theorem d3_1 : decode jdk_30_method_1_code 1 = .ok (.invokespecial 1, 3) := by decide +kernel
theorem d3_4 : decode jdk_30_method_1_code 4 = .ok (.return_, 1) := by decide +kernel
theorem pn_3 : plainName "java/lang/Record" = true := by first | (simp [plainName, overriddenIn]; done) | decide +kernel
theorem ef_3 (m : MethodId) (x0 : Addr) : entryFrame m #[(.ref x0)] 1 = mkF m 0 #[.val (.ref x0)] [] := by first | (simp [entryFrame, mkF, argsToLocals, Value.category]; done) | rfl
def Q3 (Z : State) (a1 : Addr) (h0 : Heap) (n0 : Nat) (v : Option Value) (h : Heap) (L : List Loc) : Prop := v = none ∧ Fr n0 L ∧ h = h0
set_option maxRecDepth 65536 in
set_option maxHeartbeats 40000000 in
theorem rm3 (l : Launch) (Z : State) (a0 : Array Value) (hw : ∀ d ∈ tables_1, d.before a0 Z = true) (ws : List Jvm.Cond) (a1 : Addr) (h0 : Heap) (n0 : Nat) (Z0 : n0 ≤ h0.size) :
    MetFree l (⟨"java/lang/Record", "<init>", "()V"⟩ : MethodName) (head1 (Jvm.Cond.code (⟨"java/lang/Record", "<init>", "()V"⟩ : MethodName) jdk_30_method_1_code 1 none :: ws) ({ frames := 1, cells := 0, slots := 0, locals := 12 } : Room)) (fun a U => a = #[(.ref a1)] ∧ Z.Warmed39 U.vm ∧ U.heap = h0) (fun _ _ _ _ _ => True) (fun _ U o U' => ∃ v L, o = .returned v ∧ Q3 Z a1 h0 n0 v U'.heap L ∧ FrameEnd U o U' L ({ frames := 1, cells := 0, slots := 0, locals := 12 } : Room).cells ({ frames := 1, cells := 0, slots := 0, locals := 12 } : Room).slots) := by
  refine MetFree.of_bodySF (plainFor_of_name pn_3) hisR ?_
  intro p e s m args below meth c s₁ Bd hml0 hP hK
  obtain ⟨rfl, hZ, hh⟩ := hP
  have hx := Bd.exec
  have hby := Bd.bytes
  have hml : c.maxLocals = 1 := hml0
  have hown : s.vm.findClass "java/lang/Record" = some m.cls := findClass_of_methodNamed Bd.named
  have hnm := (name_of_methodNamed Bd.named Bd.method).1
  have X0 : Stand p l e ({ frames := 1, cells := 0, slots := 0, locals := 12 } : Room) s m #[(.ref a1)] below meth c s₁ [] 0 0 := Stand.of_body Bd
  have e0 : s₁.heap = h0 := by rw [← hh, Bd.state]; rfl
  have N0 := Fr.nil n0
  have pre0 : ∀ t, Steps p.tables e below (s₁.setTop (mkF m 0 #[.val (.ref a1)] [])) t → Steps p.tables e below (s₁.setTop (entryFrame m #[(.ref a1)] 1)) t := fun t k => castTop (ef_3 m a1) k
  obtain ⟨T2, X2, e2, st2⟩ := initO X0 hx hZ hown (hw _ (List.mem_of_getElem? (i := 16) rfl)) (hw _ (List.mem_of_getElem? (i := 17) rfl)) (hw _ (List.mem_of_getElem? (i := 18) rfl)) e0 (g := (mkF m 1 #[.val (.ref a1)] [(.ref a1)])) rfl (by rw [hml]; rfl) rfl (hb hby d3_1) (by decide) (W := 0) (by show 2 * 0 + _ ≤ _; exact Nat.le_of_eq rfl) (by decide)
  obtain ⟨fs, hr, hrun, hended, hW, hsame⟩ := X2.leave (v := none) (fun _ => rfl)
  refine ⟨_, _, pre0 _ ?_, hrun, hended, _, _, rfl, ?_, ⟨_, rfl⟩, hW, hsame.mono (by decide) (by decide)⟩
  · show Steps p.tables e below (s₁.setTop (mkF m 0 #[.val (.ref a1)] [])) _
    refine XS.aloadN X0.here hx rfl (hb hby d3_0) rfl rfl ?_
    show Steps p.tables e below (s₁.setTop (mkF m 1 #[.val (.ref a1)] [(.ref a1)])) _
    refine st2 _ ?_
    show Steps p.tables e below (T2.setTop (mkF m 4 #[.val (.ref a1)] [])) _
    exact X2.returnOut hx Bd.returns (hb hby d3_4) hr
  · show Q3 Z a1 h0 n0 _ T2.heap _
    rw [e2]
    exact ⟨rfl, N0, rfl⟩
theorem d2_0 : decode prog_15_method_1_code 0 = .ok (.aload_n 0, 1) := by decide +kernel
theorem d2_1 : decode prog_15_method_1_code 1 = .ok (.invokespecial 1, 3) := by decide +kernel
theorem d2_4 : decode prog_15_method_1_code 4 = .ok (.aload_n 0, 1) := by decide +kernel
theorem d2_5 : decode prog_15_method_1_code 5 = .ok (.iload_n 1, 1) := by decide +kernel
theorem d2_6 : decode prog_15_method_1_code 6 = .ok (.putfield 7, 3) := by decide +kernel
theorem d2_9 : decode prog_15_method_1_code 9 = .ok (.aload_n 0, 1) := by decide +kernel
theorem d2_10 : decode prog_15_method_1_code 10 = .ok (.iload_n 2, 1) := by decide +kernel
theorem d2_11 : decode prog_15_method_1_code 11 = .ok (.putfield 13, 3) := by decide +kernel
theorem d2_14 : decode prog_15_method_1_code 14 = .ok (.aload_n 0, 1) := by decide +kernel
theorem d2_15 : decode prog_15_method_1_code 15 = .ok (.iload_n 3, 1) := by decide +kernel
theorem d2_16 : decode prog_15_method_1_code 16 = .ok (.putfield 16, 3) := by decide +kernel
theorem d2_19 : decode prog_15_method_1_code 19 = .ok (.return_, 1) := by decide +kernel
theorem pn_2 : plainName "com/example/merry_until/merryuntil/check/LassoPositions" = true := by first | (simp [plainName, overriddenIn]; done) | decide +kernel
theorem pd_0 : parseMethodDescriptor "()V" = some ⟨[], none⟩ := by decide +kernel
theorem ef_2 (m : MethodId) (x0 : Addr) (x1 : Int32) (x2 : Int32) (x3 : Int32) : entryFrame m #[(.ref x0), (.int x1), (.int x2), (.int x3)] 4 = mkF m 0 #[.val (.ref x0), .val (.int x1), .val (.int x2), .val (.int x3)] [] := by first | (simp [entryFrame, mkF, argsToLocals, Value.category]; done) | rfl
def Q2 (Z : State) (a1 : Addr) (p2 : Int32) (p3 : Int32) (p4 : Int32) (u_positions_a1 : Value) (u_loopStart_a1 : Value) (u_mostPositions_a1 : Value) (h0 : Heap) (n0 : Nat) (v : Option Value) (h : Heap) (L : List Loc) : Prop := v = none ∧ Fr n0 L ∧ Keep h0 h [a1] ∧ Exa Z h a1 "com/example/merry_until/merryuntil/check/LassoPositions" ∧ Fld Z h a1 "com/example/merry_until/merryuntil/check/LassoPositions" "positions" "I" (.int p2) ∧ Fld Z h a1 "com/example/merry_until/merryuntil/check/LassoPositions" "loopStart" "I" (.int p3) ∧ Fld Z h a1 "com/example/merry_until/merryuntil/check/LassoPositions" "mostPositions" "I" (.int p4)
set_option maxRecDepth 65536 in
set_option maxHeartbeats 40000000 in
theorem rm2 (l : Launch) (Z : State) (a0 : Array Value) (hw : ∀ d ∈ tables_1, d.before a0 Z = true) (ws : List Jvm.Cond) (a1 : Addr) (p2 : Int32) (p3 : Int32) (p4 : Int32) (u_positions_a1 : Value) (u_loopStart_a1 : Value) (u_mostPositions_a1 : Value) (h0 : Heap) (n0 : Nat) (Z0 : n0 ≤ h0.size) (E_a1 : Exa Z h0 a1 "com/example/merry_until/merryuntil/check/LassoPositions") (F_positions_a1 : Fld Z h0 a1 "com/example/merry_until/merryuntil/check/LassoPositions" "positions" "I" u_positions_a1) (g_a1 : n0 ≤ a1) (F_loopStart_a1 : Fld Z h0 a1 "com/example/merry_until/merryuntil/check/LassoPositions" "loopStart" "I" u_loopStart_a1) (F_mostPositions_a1 : Fld Z h0 a1 "com/example/merry_until/merryuntil/check/LassoPositions" "mostPositions" "I" u_mostPositions_a1) :
    MetFree l (⟨"com/example/merry_until/merryuntil/check/LassoPositions", "<init>", "(III)V"⟩ : MethodName) (head1 (Jvm.Cond.code (⟨"com/example/merry_until/merryuntil/check/LassoPositions", "<init>", "(III)V"⟩ : MethodName) prog_15_method_1_code 4 none :: ws) ({ frames := 2, cells := 0, slots := 0, locals := 24 } : Room)) (fun a U => a = #[(.ref a1), (.int p2), (.int p3), (.int p4)] ∧ Z.Warmed39 U.vm ∧ U.heap = h0) (fun _ _ _ _ _ => True) (fun _ U o U' => ∃ v L, o = .returned v ∧ Q2 Z a1 p2 p3 p4 u_positions_a1 u_loopStart_a1 u_mostPositions_a1 h0 n0 v U'.heap L ∧ FrameEnd U o U' L ({ frames := 2, cells := 0, slots := 0, locals := 24 } : Room).cells ({ frames := 2, cells := 0, slots := 0, locals := 24 } : Room).slots) := by
  refine MetFree.of_bodySF (plainFor_of_name pn_2) hisR ?_
  intro p e s m args below meth c s₁ Bd hml0 hP hK
  obtain ⟨rfl, hZ, hh⟩ := hP
  have hx := Bd.exec
  have hby := Bd.bytes
  have hml : c.maxLocals = 4 := hml0
  have hown : s.vm.findClass "com/example/merry_until/merryuntil/check/LassoPositions" = some m.cls := findClass_of_methodNamed Bd.named
  have hnm := (name_of_methodNamed Bd.named Bd.method).1
  have X0 : Stand p l e ({ frames := 2, cells := 0, slots := 0, locals := 24 } : Room) s m #[(.ref a1), (.int p2), (.int p3), (.int p4)] below meth c s₁ [] 0 0 := Stand.of_body Bd
  have e0 : s₁.heap = h0 := by rw [← hh, Bd.state]; rfl
  have N0 := Fr.nil n0
  have pre0 : ∀ t, Steps p.tables e below (s₁.setTop (mkF m 0 #[.val (.ref a1), .val (.int p2), .val (.int p3), .val (.int p4)] [])) t → Steps p.tables e below (s₁.setTop (entryFrame m #[(.ref a1), (.int p2), (.int p3), (.int p4)] 4)) t := fun t k => castTop (ef_2 m a1 p2 p3 p4) k
  obtain ⟨_, _, ⟨T5, L5, k5, n5⟩, -, X5, ⟨Lc5, hQ5, l5, y5, z5⟩, st5⟩ := X0.specialBack hx (y := (⟨"java/lang/Record", "<init>", "()V"⟩ : MethodName)) rfl hown (mvT hZ (hw _ (List.mem_of_getElem? (i := 11) rfl))) (mvT hZ (hw _ (List.mem_of_getElem? (i := 12) rfl))) (mvT hZ (hw _ (List.mem_of_getElem? (i := 15) rfl))) (by decide) (backOf (W := 0) (rm3 l Z a0 hw [] a1 h0 n0 Z0) hZ (hw _ (List.mem_of_getElem? (i := 15) rfl)) (hw _ (List.mem_of_getElem? (i := 14) rfl)) (by decide) (by decide)) (g := (mkF m 1 #[.val (.ref a1), .val (.int p2), .val (.int p3), .val (.int p4)] [(.ref a1)])) rfl (by rw [hml]; rfl) (Steps.refl _) (a := a1) (argsL := []) (rest := []) (lenOf pd_0 rfl) rfl (by show 2 * 0 + _ ≤ _; exact Nat.le_of_eq rfl) (hb hby d2_1) (fun _ _ => ⟨rfl, e0, (by decide : 0 + 0 ≤ _), (by decide : 0 + 0 ≤ _)⟩)
  dsimp only [Pt.U, Pt.locs, Pt.cells, Pt.slots] at X5 l5 y5 z5 st5 hQ5
  subst l5 y5 z5
  obtain ⟨rfl, N5q, g5⟩ := hQ5
  have N5 := Fr.app N0 N5q
  obtain ⟨T6, h6, X6, e6, W6, st6⟩ := putF X5 hx hZ hown (host := "") (Or.inl (hw _ (List.mem_of_getElem? (i := 19) rfl))) Via.refl rfl (F_positions_a1.keep (own_kp g5) nin0) (E_a1.keep (own_kp g5)) (Or.inr ⟨(hw _ (List.mem_of_getElem? (i := 20) rfl)), rfl, hnm⟩) (hw _ (List.mem_of_getElem? (i := 6) rfl)) (ty := .int) (by decide) rfl rfl (g := (mkF m 6 #[.val (.ref a1), .val (.int p2), .val (.int p3), .val (.int p4)] [(.int p2), (.ref a1)])) rfl rfl (hb hby d2_6)
  have Fw6 := (F_positions_a1.keep (own_kp g5) nin0).same W6
  have K6 : Keep h0 h6 [a1] := (own_kq [a1] g5).wr W6 (Or.inl (List.mem_of_getElem? (i := 0) rfl))
  have N6 := Fr.snoc X6 N5 g_a1
  obtain ⟨T7, h7, X7, e7, W7, st7⟩ := putF X6 hx hZ hown (host := "") (Or.inl (hw _ (List.mem_of_getElem? (i := 21) rfl))) Via.refl e6 ((F_loopStart_a1.keep (own_kp g5) nin0).other W6 (Or.inr (slot_ne (Or.inr (hw _ (List.mem_of_getElem? (i := 22) rfl))) (Or.inr (hw _ (List.mem_of_getElem? (i := 20) rfl))) (by decide) (t := .int) (t' := .int) (by decide) (by decide)))) ((E_a1.keep (own_kp g5)).wr W6) (Or.inr ⟨(hw _ (List.mem_of_getElem? (i := 22) rfl)), rfl, hnm⟩) (hw _ (List.mem_of_getElem? (i := 6) rfl)) (ty := .int) (by decide) rfl rfl (g := (mkF m 11 #[.val (.ref a1), .val (.int p2), .val (.int p3), .val (.int p4)] [(.int p3), (.ref a1)])) rfl rfl (hb hby d2_11)
  have Fw7 := ((F_loopStart_a1.keep (own_kp g5) nin0).other W6 (Or.inr (slot_ne (Or.inr (hw _ (List.mem_of_getElem? (i := 22) rfl))) (Or.inr (hw _ (List.mem_of_getElem? (i := 20) rfl))) (by decide) (t := .int) (t' := .int) (by decide) (by decide)))).same W7
  have K7 : Keep h0 h7 [a1] := K6.wr W7 (Or.inl (List.mem_of_getElem? (i := 0) rfl))
  have N7 := Fr.snoc X7 N6 g_a1
  obtain ⟨T8, h8, X8, e8, W8, st8⟩ := putF X7 hx hZ hown (host := "") (Or.inl (hw _ (List.mem_of_getElem? (i := 23) rfl))) Via.refl e7 (((F_mostPositions_a1.keep (own_kp g5) nin0).other W6 (Or.inr (slot_ne (Or.inr (hw _ (List.mem_of_getElem? (i := 24) rfl))) (Or.inr (hw _ (List.mem_of_getElem? (i := 20) rfl))) (by decide) (t := .int) (t' := .int) (by decide) (by decide)))).other W7 (Or.inr (slot_ne (Or.inr (hw _ (List.mem_of_getElem? (i := 24) rfl))) (Or.inr (hw _ (List.mem_of_getElem? (i := 22) rfl))) (by decide) (t := .int) (t' := .int) (by decide) (by decide)))) (((E_a1.keep (own_kp g5)).wr W6).wr W7) (Or.inr ⟨(hw _ (List.mem_of_getElem? (i := 24) rfl)), rfl, hnm⟩) (hw _ (List.mem_of_getElem? (i := 6) rfl)) (ty := .int) (by decide) rfl rfl (g := (mkF m 16 #[.val (.ref a1), .val (.int p2), .val (.int p3), .val (.int p4)] [(.int p4), (.ref a1)])) rfl rfl (hb hby d2_16)
  have Fw8 := (((F_mostPositions_a1.keep (own_kp g5) nin0).other W6 (Or.inr (slot_ne (Or.inr (hw _ (List.mem_of_getElem? (i := 24) rfl))) (Or.inr (hw _ (List.mem_of_getElem? (i := 20) rfl))) (by decide) (t := .int) (t' := .int) (by decide) (by decide)))).other W7 (Or.inr (slot_ne (Or.inr (hw _ (List.mem_of_getElem? (i := 24) rfl))) (Or.inr (hw _ (List.mem_of_getElem? (i := 22) rfl))) (by decide) (t := .int) (t' := .int) (by decide) (by decide)))).same W8
  have K8 : Keep h0 h8 [a1] := K7.wr W8 (Or.inl (List.mem_of_getElem? (i := 0) rfl))
  have N8 := Fr.snoc X8 N7 g_a1
  obtain ⟨fs, hr, hrun, hended, hW, hsame⟩ := X8.leave (v := none) (fun _ => rfl)
  refine ⟨_, _, pre0 _ ?_, hrun, hended, _, _, rfl, ?_, ⟨_, rfl⟩, hW, hsame.mono (by decide) (by decide)⟩
  · show Steps p.tables e below (s₁.setTop (mkF m 0 #[.val (.ref a1), .val (.int p2), .val (.int p3), .val (.int p4)] [])) _
    refine XS.aloadN X0.here hx rfl (hb hby d2_0) rfl rfl ?_
    show Steps p.tables e below (s₁.setTop (mkF m 1 #[.val (.ref a1), .val (.int p2), .val (.int p3), .val (.int p4)] [(.ref a1)])) _
    refine st5.trans ?_
    show Steps p.tables e below (T5.setTop (mkF m 4 #[.val (.ref a1), .val (.int p2), .val (.int p3), .val (.int p4)] [])) _
    refine XS.aloadN X5.here hx rfl (hb hby d2_4) rfl rfl ?_
    show Steps p.tables e below (T5.setTop (mkF m 5 #[.val (.ref a1), .val (.int p2), .val (.int p3), .val (.int p4)] [(.ref a1)])) _
    refine XS.iloadN X5.here hx rfl (hb hby d2_5) rfl ?_
    show Steps p.tables e below (T5.setTop (mkF m 6 #[.val (.ref a1), .val (.int p2), .val (.int p3), .val (.int p4)] [(.int p2), (.ref a1)])) _
    refine st6 _ ?_
    show Steps p.tables e below (T6.setTop (mkF m 9 #[.val (.ref a1), .val (.int p2), .val (.int p3), .val (.int p4)] [])) _
    refine XS.aloadN X6.here hx rfl (hb hby d2_9) rfl rfl ?_
    show Steps p.tables e below (T6.setTop (mkF m 10 #[.val (.ref a1), .val (.int p2), .val (.int p3), .val (.int p4)] [(.ref a1)])) _
    refine XS.iloadN X6.here hx rfl (hb hby d2_10) rfl ?_
    show Steps p.tables e below (T6.setTop (mkF m 11 #[.val (.ref a1), .val (.int p2), .val (.int p3), .val (.int p4)] [(.int p3), (.ref a1)])) _
    refine st7 _ ?_
    show Steps p.tables e below (T7.setTop (mkF m 14 #[.val (.ref a1), .val (.int p2), .val (.int p3), .val (.int p4)] [])) _
    refine XS.aloadN X7.here hx rfl (hb hby d2_14) rfl rfl ?_
    show Steps p.tables e below (T7.setTop (mkF m 15 #[.val (.ref a1), .val (.int p2), .val (.int p3), .val (.int p4)] [(.ref a1)])) _
    refine XS.iloadN X7.here hx rfl (hb hby d2_15) rfl ?_
    show Steps p.tables e below (T7.setTop (mkF m 16 #[.val (.ref a1), .val (.int p2), .val (.int p3), .val (.int p4)] [(.int p4), (.ref a1)])) _
    refine st8 _ ?_
    show Steps p.tables e below (T8.setTop (mkF m 19 #[.val (.ref a1), .val (.int p2), .val (.int p3), .val (.int p4)] [])) _
    exact X8.returnOut hx Bd.returns (hb hby d2_19) hr
  · show Q2 Z a1 p2 p3 p4 u_positions_a1 u_loopStart_a1 u_mostPositions_a1 h0 n0 _ T8.heap _
    rw [e8]
    exact ⟨rfl, N8, K8, ((((E_a1.keep (own_kp g5)).wr W6).wr W7).wr W8), ((Fw6.other W7 (Or.inr (slot_ne (Or.inr (hw _ (List.mem_of_getElem? (i := 20) rfl))) (Or.inr (hw _ (List.mem_of_getElem? (i := 22) rfl))) (by decide) (t := .int) (t' := .int) (by decide) (by decide)))).other W8 (Or.inr (slot_ne (Or.inr (hw _ (List.mem_of_getElem? (i := 20) rfl))) (Or.inr (hw _ (List.mem_of_getElem? (i := 24) rfl))) (by decide) (t := .int) (t' := .int) (by decide) (by decide)))), (Fw7.other W8 (Or.inr (slot_ne (Or.inr (hw _ (List.mem_of_getElem? (i := 22) rfl))) (Or.inr (hw _ (List.mem_of_getElem? (i := 24) rfl))) (by decide) (t := .int) (t' := .int) (by decide) (by decide)))), Fw8⟩
theorem d1_9 : decode jdk_29_method_65_code 9 = .ok (.iload_n 1, 1) := by decide +kernel
theorem d1_0 : decode jdk_29_method_65_code 0 = .ok (.iload_n 0, 1) := by decide +kernel
theorem d1_1 : decode jdk_29_method_65_code 1 = .ok (.iload_n 1, 1) := by decide +kernel
theorem d1_2 : decode jdk_29_method_65_code 2 = .ok (.if_icmp .lt 7, 3) := by decide +kernel
theorem d1_5 : decode jdk_29_method_65_code 5 = .ok (.iload_n 0, 1) := by decide +kernel
theorem d1_6 : decode jdk_29_method_65_code 6 = .ok (.goto 4, 3) := by decide +kernel
theorem d1_10 : decode jdk_29_method_65_code 10 = .ok (.ireturn, 1) := by decide +kernel
theorem ef_1 (m : MethodId) (x0 : Int32) (x1 : Int32) : entryFrame m #[(.int x0), (.int x1)] 2 = mkF m 0 #[.val (.int x0), .val (.int x1)] [] := by first | (simp [entryFrame, mkF, argsToLocals, Value.category]; done) | rfl
def Q1 (Z : State) (p1 : Int32) (p2 : Int32) (h0 : Heap) (n0 : Nat) (v : Option Value) (h : Heap) (L : List Loc) : Prop := v = some (.int (own_max p1 p2)) ∧ Fr n0 L ∧ h = h0
set_option maxRecDepth 65536 in
set_option maxHeartbeats 40000000 in
theorem rm1 (l : Launch) (Z : State) (a0 : Array Value) (hw : ∀ d ∈ tables_1, d.before a0 Z = true) (ws : List Jvm.Cond) (p1 : Int32) (p2 : Int32) (h0 : Heap) (n0 : Nat) (Z0 : n0 ≤ h0.size) :
    MetFree l (⟨"java/lang/Math", "max", "(II)I"⟩ : MethodName) (head1 (Jvm.Cond.code (⟨"java/lang/Math", "max", "(II)I"⟩ : MethodName) jdk_29_method_65_code 2 (some .int) :: ws) ({ frames := 0, cells := 0, slots := 0, locals := 0 } : Room)) (fun a U => a = #[(.int p1), (.int p2)] ∧ Z.Warmed39 U.vm ∧ U.heap = h0) (fun _ _ _ _ _ => True) (fun _ U o U' => ∃ v L, o = .returned v ∧ Q1 Z p1 p2 h0 n0 v U'.heap L ∧ FrameEnd U o U' L ({ frames := 0, cells := 0, slots := 0, locals := 0 } : Room).cells ({ frames := 0, cells := 0, slots := 0, locals := 0 } : Room).slots) := by
  refine MetFree.of_bodySF (Jvm.Free.JP.mathPlain rfl (by decide +kernel)) hisR ?_
  intro p e s m args below meth c s₁ Bd hml0 hP hK
  obtain ⟨rfl, hZ, hh⟩ := hP
  have hx := Bd.exec
  have hby := Bd.bytes
  have hml : c.maxLocals = 2 := hml0
  have hown : s.vm.findClass "java/lang/Math" = some m.cls := findClass_of_methodNamed Bd.named
  have hnm := (name_of_methodNamed Bd.named Bd.method).1
  have X0 : Stand p l e ({ frames := 0, cells := 0, slots := 0, locals := 0 } : Room) s m #[(.int p1), (.int p2)] below meth c s₁ [] 0 0 := Stand.of_body Bd
  have e0 : s₁.heap = h0 := by rw [← hh, Bd.state]; rfl
  have N0 := Fr.nil n0
  have pre0 : ∀ t, Steps p.tables e below (s₁.setTop (mkF m 0 #[.val (.int p1), .val (.int p2)] [])) t → Steps p.tables e below (s₁.setTop (entryFrame m #[(.int p1), (.int p2)] 2)) t := fun t k => castTop (ef_1 m p1 p2) k
  by_cases hc2 : p1 < p2
  · have hc2_1 : p1 < p2 := hc2
    have st_1p : ∀ target, Steps p.tables e below (s₁.setTop (mkF m 10 #[.val (.int p1), .val (.int p2)] [(.int p2)])) target → Steps p.tables e below (s₁.setTop (mkF m 0 #[.val (.int p1), .val (.int p2)] [])) target := by
      intro target kt
      show Steps p.tables e below (s₁.setTop (mkF m 0 #[.val (.int p1), .val (.int p2)] [])) _
      refine XS.iloadN X0.here hx rfl (hb hby d1_0) rfl ?_
      show Steps p.tables e below (s₁.setTop (mkF m 1 #[.val (.int p1), .val (.int p2)] [(.int p1)])) _
      refine XS.iloadN X0.here hx rfl (hb hby d1_1) rfl ?_
      show Steps p.tables e below (s₁.setTop (mkF m 2 #[.val (.int p1), .val (.int p2)] [(.int p2), (.int p1)])) _
      refine XS.icmpYes X0.here hx rfl (pc0 := 2) (pc' := 9) rfl (hb hby d1_2) rfl (tlt hc2_1).1 (by decide) (by decide) ?_
      show Steps p.tables e below (s₁.setTop (mkF m 9 #[.val (.int p1), .val (.int p2)] [])) _
      refine XS.iloadN X0.here hx rfl (hb hby d1_9) rfl ?_
      exact kt
    obtain ⟨fs, hr, hrun, hended, hW, hsame⟩ := X0.leave (v := some (.int p2)) (fun h => by rw [Bd.returns] at h; cases h)
    refine ⟨_, _, pre0 _ ?_, hrun, hended, _, _, rfl, ?_, ⟨_, rfl⟩, hW, hsame.mono (by decide) (by decide)⟩
    · show Steps p.tables e below (s₁.setTop (mkF m 0 #[.val (.int p1), .val (.int p2)] [])) _
      refine st_1p _ ?_
      exact retI X0 hx Bd.returns (hb hby d1_10) hr
    · show Q1 Z p1 p2 h0 n0 _ s₁.heap _
      rw [e0]
      exact ⟨by simp [own_max, hc2], N0, rfl⟩
  · have hc2_2 : ¬ (p1 < p2) := hc2
    have st_2p : ∀ target, Steps p.tables e below (s₁.setTop (mkF m 10 #[.val (.int p1), .val (.int p2)] [(.int p1)])) target → Steps p.tables e below (s₁.setTop (mkF m 0 #[.val (.int p1), .val (.int p2)] [])) target := by
      intro target kt
      show Steps p.tables e below (s₁.setTop (mkF m 0 #[.val (.int p1), .val (.int p2)] [])) _
      refine XS.iloadN X0.here hx rfl (hb hby d1_0) rfl ?_
      show Steps p.tables e below (s₁.setTop (mkF m 1 #[.val (.int p1), .val (.int p2)] [(.int p1)])) _
      refine XS.iloadN X0.here hx rfl (hb hby d1_1) rfl ?_
      show Steps p.tables e below (s₁.setTop (mkF m 2 #[.val (.int p1), .val (.int p2)] [(.int p2), (.int p1)])) _
      refine XS.icmpNo X0.here hx rfl (hb hby d1_2) rfl (flt hc2_2).1 ?_
      show Steps p.tables e below (s₁.setTop (mkF m 5 #[.val (.int p1), .val (.int p2)] [])) _
      refine XS.iloadN X0.here hx rfl (hb hby d1_5) rfl ?_
      show Steps p.tables e below (s₁.setTop (mkF m 6 #[.val (.int p1), .val (.int p2)] [(.int p1)])) _
      refine XS.goto X0.here hx rfl (pc0 := 6) (pc' := 10) rfl (hb hby d1_6) (by decide) (by decide) ?_
      exact kt
    obtain ⟨fs, hr, hrun, hended, hW, hsame⟩ := X0.leave (v := some (.int p1)) (fun h => by rw [Bd.returns] at h; cases h)
    refine ⟨_, _, pre0 _ ?_, hrun, hended, _, _, rfl, ?_, ⟨_, rfl⟩, hW, hsame.mono (by decide) (by decide)⟩
    · show Steps p.tables e below (s₁.setTop (mkF m 0 #[.val (.int p1), .val (.int p2)] [])) _
      refine st_2p _ ?_
      exact retI X0 hx Bd.returns (hb hby d1_10) hr
    · show Q1 Z p1 p2 h0 n0 _ s₁.heap _
      rw [e0]
      exact ⟨by simp [own_max, hc2], N0, rfl⟩
theorem d5_17 : decode prog_15_method_9_code 17 = .ok (.iload_n 1, 1) := by decide +kernel
theorem d5_18 : decode prog_15_method_9_code 18 = .ok (.iconst 1, 1) := by decide +kernel
theorem d5_19 : decode prog_15_method_9_code 19 = .ok (.iadd, 1) := by decide +kernel
theorem d5_0 : decode prog_15_method_9_code 0 = .ok (.iload_n 1, 1) := by decide +kernel
theorem d5_1 : decode prog_15_method_9_code 1 = .ok (.aload_n 0, 1) := by decide +kernel
theorem d5_2 : decode prog_15_method_9_code 2 = .ok (.getfield 7, 3) := by decide +kernel
theorem d5_5 : decode prog_15_method_9_code 5 = .ok (.iconst 1, 1) := by decide +kernel
theorem d5_6 : decode prog_15_method_9_code 6 = .ok (.isub, 1) := by decide +kernel
theorem d5_7 : decode prog_15_method_9_code 7 = .ok (.if_icmp .ne 10, 3) := by decide +kernel
theorem d5_10 : decode prog_15_method_9_code 10 = .ok (.aload_n 0, 1) := by decide +kernel
theorem d5_11 : decode prog_15_method_9_code 11 = .ok (.getfield 13, 3) := by decide +kernel
theorem d5_14 : decode prog_15_method_9_code 14 = .ok (.goto 6, 3) := by decide +kernel
theorem d5_20 : decode prog_15_method_9_code 20 = .ok (.ireturn, 1) := by decide +kernel
theorem pn_5 : plainName "com/example/merry_until/merryuntil/check/LassoPositions" = true := by first | (simp [plainName, overriddenIn]; done) | decide +kernel
theorem ef_5 (m : MethodId) (x0 : Addr) (x1 : Int32) : entryFrame m #[(.ref x0), (.int x1)] 2 = mkF m 0 #[.val (.ref x0), .val (.int x1)] [] := by first | (simp [entryFrame, mkF, argsToLocals, Value.category]; done) | rfl
def Q5 (Z : State) (a1 : Addr) (p2 : Int32) (nn ss : Int32) (h0 : Heap) (n0 : Nat) (v : Option Value) (h : Heap) (L : List Loc) : Prop := v = some (.int (own_succ nn ss p2)) ∧ Fr n0 L ∧ h = h0
set_option maxRecDepth 65536 in
set_option maxHeartbeats 40000000 in
theorem rm5 (l : Launch) (Z : State) (a0 : Array Value) (hw : ∀ d ∈ tables_1, d.before a0 Z = true) (ws : List Jvm.Cond) (a1 : Addr) (p2 : Int32) (nn ss : Int32) (h0 : Heap) (n0 : Nat) (Z0 : n0 ≤ h0.size) (F1 : Fld Z h0 a1 "com/example/merry_until/merryuntil/check/LassoPositions" "positions" "I" (.int nn)) (F2 : Fld Z h0 a1 "com/example/merry_until/merryuntil/check/LassoPositions" "loopStart" "I" (.int ss)) :
    MetFree l (⟨"com/example/merry_until/merryuntil/check/LassoPositions", "successor", "(I)I"⟩ : MethodName) (head1 (Jvm.Cond.code (⟨"com/example/merry_until/merryuntil/check/LassoPositions", "successor", "(I)I"⟩ : MethodName) prog_15_method_9_code 2 (some .int) :: ws) ({ frames := 0, cells := 0, slots := 0, locals := 0 } : Room)) (fun a U => a = #[(.ref a1), (.int p2)] ∧ Z.Warmed39 U.vm ∧ U.heap = h0) (fun _ _ _ _ _ => True) (fun _ U o U' => ∃ v L, o = .returned v ∧ Q5 Z a1 p2 nn ss h0 n0 v U'.heap L ∧ FrameEnd U o U' L ({ frames := 0, cells := 0, slots := 0, locals := 0 } : Room).cells ({ frames := 0, cells := 0, slots := 0, locals := 0 } : Room).slots) := by
  refine MetFree.of_bodySF (plainFor_of_name pn_5) hisR ?_
  intro p e s m args below meth c s₁ Bd hml0 hP hK
  obtain ⟨rfl, hZ, hh⟩ := hP
  have hx := Bd.exec
  have hby := Bd.bytes
  have hml : c.maxLocals = 2 := hml0
  have hown : s.vm.findClass "com/example/merry_until/merryuntil/check/LassoPositions" = some m.cls := findClass_of_methodNamed Bd.named
  have hnm := (name_of_methodNamed Bd.named Bd.method).1
  have X0 : Stand p l e ({ frames := 0, cells := 0, slots := 0, locals := 0 } : Room) s m #[(.ref a1), (.int p2)] below meth c s₁ [] 0 0 := Stand.of_body Bd
  have e0 : s₁.heap = h0 := by rw [← hh, Bd.state]; rfl
  have N0 := Fr.nil n0
  have pre0 : ∀ t, Steps p.tables e below (s₁.setTop (mkF m 0 #[.val (.ref a1), .val (.int p2)] [])) t → Steps p.tables e below (s₁.setTop (entryFrame m #[(.ref a1), (.int p2)] 2)) t := fun t k => castTop (ef_5 m a1 p2) k
  by_cases hc7 : p2 = (nn - (1 : Int32))
  · have hc7_1 : p2 = (nn - (1 : Int32)) := hc7
    obtain ⟨T4_1, X4_1, e4_1, st4_1⟩ := getF X0 hx hZ hown (host := "") (Or.inl (hw _ (List.mem_of_getElem? (i := 19) rfl))) Via.refl e0 F1 (g := (mkF m 2 #[.val (.ref a1), .val (.int p2)] [(.ref a1), (.int p2)])) rfl rfl (hb hby d5_2)
    obtain ⟨T6_1, X6_1, e6_1, st6_1⟩ := getF X4_1 hx hZ hown (host := "") (Or.inl (hw _ (List.mem_of_getElem? (i := 21) rfl))) Via.refl e4_1 F2 (g := (mkF m 11 #[.val (.ref a1), .val (.int p2)] [(.ref a1)])) rfl rfl (hb hby d5_11)
    have st_1p : ∀ target, Steps p.tables e below (T6_1.setTop (mkF m 20 #[.val (.ref a1), .val (.int p2)] [(.int ss)])) target → Steps p.tables e below (s₁.setTop (mkF m 0 #[.val (.ref a1), .val (.int p2)] [])) target := by
      intro target kt
      show Steps p.tables e below (s₁.setTop (mkF m 0 #[.val (.ref a1), .val (.int p2)] [])) _
      refine XS.iloadN X0.here hx rfl (hb hby d5_0) rfl ?_
      show Steps p.tables e below (s₁.setTop (mkF m 1 #[.val (.ref a1), .val (.int p2)] [(.int p2)])) _
      refine XS.aloadN X0.here hx rfl (hb hby d5_1) rfl rfl ?_
      show Steps p.tables e below (s₁.setTop (mkF m 2 #[.val (.ref a1), .val (.int p2)] [(.ref a1), (.int p2)])) _
      refine st4_1 _ ?_
      show Steps p.tables e below (T4_1.setTop (mkF m 5 #[.val (.ref a1), .val (.int p2)] [(.int nn), (.int p2)])) _
      refine XS.iconst X4_1.here hx rfl (hb hby d5_5) ?_
      show Steps p.tables e below (T4_1.setTop (mkF m 6 #[.val (.ref a1), .val (.int p2)] [(.int (1 : Int32)), (.int nn), (.int p2)])) _
      refine XS.isub X4_1.here hx rfl (hb hby d5_6) rfl ?_
      show Steps p.tables e below (T4_1.setTop (mkF m 7 #[.val (.ref a1), .val (.int p2)] [(.int (nn - (1 : Int32))), (.int p2)])) _
      refine XS.icmpNo X4_1.here hx rfl (hb hby d5_7) rfl (teq hc7_1).2 ?_
      show Steps p.tables e below (T4_1.setTop (mkF m 10 #[.val (.ref a1), .val (.int p2)] [])) _
      refine XS.aloadN X4_1.here hx rfl (hb hby d5_10) rfl rfl ?_
      show Steps p.tables e below (T4_1.setTop (mkF m 11 #[.val (.ref a1), .val (.int p2)] [(.ref a1)])) _
      refine st6_1 _ ?_
      show Steps p.tables e below (T6_1.setTop (mkF m 14 #[.val (.ref a1), .val (.int p2)] [(.int ss)])) _
      refine XS.goto X6_1.here hx rfl (pc0 := 14) (pc' := 20) rfl (hb hby d5_14) (by decide) (by decide) ?_
      exact kt
    obtain ⟨fs, hr, hrun, hended, hW, hsame⟩ := X6_1.leave (v := some (.int ss)) (fun h => by rw [Bd.returns] at h; cases h)
    refine ⟨_, _, pre0 _ ?_, hrun, hended, _, _, rfl, ?_, ⟨_, rfl⟩, hW, hsame.mono (by decide) (by decide)⟩
    · show Steps p.tables e below (s₁.setTop (mkF m 0 #[.val (.ref a1), .val (.int p2)] [])) _
      refine st_1p _ ?_
      exact retI X6_1 hx Bd.returns (hb hby d5_20) hr
    · show Q5 Z a1 p2 nn ss h0 n0 _ T6_1.heap _
      rw [e6_1]
      exact ⟨by simp [own_succ, hc7], N0, rfl⟩
  · have hc7_2 : ¬ (p2 = (nn - (1 : Int32))) := hc7
    obtain ⟨T4_2, X4_2, e4_2, st4_2⟩ := getF X0 hx hZ hown (host := "") (Or.inl (hw _ (List.mem_of_getElem? (i := 19) rfl))) Via.refl e0 F1 (g := (mkF m 2 #[.val (.ref a1), .val (.int p2)] [(.ref a1), (.int p2)])) rfl rfl (hb hby d5_2)
    have st_2p : ∀ target, Steps p.tables e below (T4_2.setTop (mkF m 20 #[.val (.ref a1), .val (.int p2)] [(.int (p2 + (1 : Int32)))])) target → Steps p.tables e below (s₁.setTop (mkF m 0 #[.val (.ref a1), .val (.int p2)] [])) target := by
      intro target kt
      show Steps p.tables e below (s₁.setTop (mkF m 0 #[.val (.ref a1), .val (.int p2)] [])) _
      refine XS.iloadN X0.here hx rfl (hb hby d5_0) rfl ?_
      show Steps p.tables e below (s₁.setTop (mkF m 1 #[.val (.ref a1), .val (.int p2)] [(.int p2)])) _
      refine XS.aloadN X0.here hx rfl (hb hby d5_1) rfl rfl ?_
      show Steps p.tables e below (s₁.setTop (mkF m 2 #[.val (.ref a1), .val (.int p2)] [(.ref a1), (.int p2)])) _
      refine st4_2 _ ?_
      show Steps p.tables e below (T4_2.setTop (mkF m 5 #[.val (.ref a1), .val (.int p2)] [(.int nn), (.int p2)])) _
      refine XS.iconst X4_2.here hx rfl (hb hby d5_5) ?_
      show Steps p.tables e below (T4_2.setTop (mkF m 6 #[.val (.ref a1), .val (.int p2)] [(.int (1 : Int32)), (.int nn), (.int p2)])) _
      refine XS.isub X4_2.here hx rfl (hb hby d5_6) rfl ?_
      show Steps p.tables e below (T4_2.setTop (mkF m 7 #[.val (.ref a1), .val (.int p2)] [(.int (nn - (1 : Int32))), (.int p2)])) _
      refine XS.icmpYes X4_2.here hx rfl (pc0 := 7) (pc' := 17) rfl (hb hby d5_7) rfl (feq hc7_2).2 (by decide) (by decide) ?_
      show Steps p.tables e below (T4_2.setTop (mkF m 17 #[.val (.ref a1), .val (.int p2)] [])) _
      refine XS.iloadN X4_2.here hx rfl (hb hby d5_17) rfl ?_
      show Steps p.tables e below (T4_2.setTop (mkF m 18 #[.val (.ref a1), .val (.int p2)] [(.int p2)])) _
      refine XS.iconst X4_2.here hx rfl (hb hby d5_18) ?_
      show Steps p.tables e below (T4_2.setTop (mkF m 19 #[.val (.ref a1), .val (.int p2)] [(.int (1 : Int32)), (.int p2)])) _
      refine XS.iadd X4_2.here hx rfl (hb hby d5_19) rfl ?_
      exact kt
    obtain ⟨fs, hr, hrun, hended, hW, hsame⟩ := X4_2.leave (v := some (.int (p2 + (1 : Int32)))) (fun h => by rw [Bd.returns] at h; cases h)
    refine ⟨_, _, pre0 _ ?_, hrun, hended, _, _, rfl, ?_, ⟨_, rfl⟩, hW, hsame.mono (by decide) (by decide)⟩
    · show Steps p.tables e below (s₁.setTop (mkF m 0 #[.val (.ref a1), .val (.int p2)] [])) _
      refine st_2p _ ?_
      exact retI X4_2 hx Bd.returns (hb hby d5_20) hr
    · show Q5 Z a1 p2 nn ss h0 n0 _ T4_2.heap _
      rw [e4_2]
      exact ⟨by simp [own_succ, hc7], N0, rfl⟩

theorem pn_0 : plainName "com/example/merry_until/merryuntil/check/LassoPositionsSuccessorPinLaw" = true := by first | (simp [plainName, overriddenIn]; done) | decide +kernel
theorem pd_1 : parseMethodDescriptor "(II)I" = some ⟨[.int, .int], some .int⟩ := by decide +kernel
theorem pd_2 : parseMethodDescriptor "(III)V" = some ⟨[.int, .int, .int], none⟩ := by decide +kernel
theorem pd_3 : parseMethodDescriptor "(I)I" = some ⟨[.int], some .int⟩ := by decide +kernel
theorem ef_0 (m : MethodId) (x0 : Int32) (x1 : Int32) (x2 : Int32) (x3 : Int32) (x4 : Int32) : entryFrame m #[(.int x0), (.int x1), (.int x2), (.int x3), (.int x4)] maxLocals = mkF m 0 #[.val (.int x0), .val (.int x1), .val (.int x2), .val (.int x3), .val (.int x4), .unset, .unset, .unset, .unset, .unset, .unset, .unset, .unset, .unset] [] := by first | (simp [entryFrame, mkF, argsToLocals, Value.category, maxLocals]; done) | rfl
def Q0 (Z : State) (p1 : Int32) (p2 : Int32) (p3 : Int32) (p4 : Int32) (p5 : Int32) (h0 : Heap) (n0 : Nat) (v : Option Value) (h : Heap) (L : List Loc) : Prop := v = some (.int (1 : Int32)) ∧ Fr n0 L
set_option maxRecDepth 65536 in
set_option maxHeartbeats 40000000 in
theorem rm0 (l : Launch) (Z : State) (a0 : Array Value) (hw : ∀ d ∈ tables_1, d.before a0 Z = true) (ws : List Jvm.Cond) (p1 : Int32) (p2 : Int32) (p3 : Int32) (p4 : Int32) (p5 : Int32) (h0 : Heap) (n0 : Nat) (Z0 : n0 ≤ h0.size) :
    MetFree l x (head1 (Jvm.Cond.code x code maxLocals ret :: ws) room_1) (fun a U => a = #[(.int p1), (.int p2), (.int p3), (.int p4), (.int p5)] ∧ Z.Warmed39 U.vm ∧ U.heap = h0) (fun _ _ _ _ _ => True) (fun _ U o U' => ∃ v L, o = .returned v ∧ Q0 Z p1 p2 p3 p4 p5 h0 n0 v U'.heap L ∧ FrameEnd U o U' L room_1.cells room_1.slots) := by
  refine MetFree.of_bodySF (plainFor_of_name pn_0) hisR ?_
  intro p e s m args below meth c s₁ Bd hml0 hP hK
  obtain ⟨rfl, hZ, hh⟩ := hP
  have hx := Bd.exec
  have hby := Bd.bytes
  have hml : c.maxLocals = 14 := hml0
  have hown : s.vm.findClass "com/example/merry_until/merryuntil/check/LassoPositionsSuccessorPinLaw" = some m.cls := findClass_of_methodNamed Bd.named
  have hnm := (name_of_methodNamed Bd.named Bd.method).1
  have X0 : Stand p l e room_1 s m #[(.int p1), (.int p2), (.int p3), (.int p4), (.int p5)] below meth c s₁ [] 0 0 := Stand.of_body Bd
  have e0 : s₁.heap = h0 := by rw [← hh, Bd.state]; rfl
  have N0 := Fr.nil n0
  have pre0 : ∀ t, Steps p.tables e below (s₁.setTop (mkF m 0 #[.val (.int p1), .val (.int p2), .val (.int p3), .val (.int p4), .val (.int p5), .unset, .unset, .unset, .unset, .unset, .unset, .unset, .unset, .unset] [])) t → Steps p.tables e below (s₁.setTop (entryFrame m #[(.int p1), (.int p2), (.int p3), (.int p4), (.int p5)] maxLocals)) t := fun t k => castTop (ef_0 m p1 p2 p3 p4 p5) k
  obtain ⟨_, _, ⟨T6_1, L6_1, k6_1, n6_1⟩, -, X6_1, ⟨Lc6_1, hQ6_1, l6_1, y6_1, z6_1⟩, st6_1⟩ := Jvm.LawKit.callS X0 hx (y := (⟨"java/lang/Math", "max", "(II)I"⟩ : MethodName)) hown (mvT hZ (hw _ (List.mem_of_getElem? (i := 1) rfl))) (mvT hZ (hw _ (List.mem_of_getElem? (i := 2) rfl))) (mvT hZ (hw _ (List.mem_of_getElem? (i := 3) rfl))) (mvT hZ (hw _ (List.mem_of_getElem? (i := 4) rfl))) (by decide) (backOf (W := 0) (rm1 l Z a0 hw [] (1 : Int32) (p1 &&& (2147483647 : Int32)) h0 n0 Z0) hZ (hw _ (List.mem_of_getElem? (i := 4) rfl)) (hw _ (List.mem_of_getElem? (i := 3) rfl)) (by decide) (by decide)) (g := (mkF m 5 #[.val (.int p1), .val (.int p2), .val (.int p3), .val (.int p4), .val (.int p5), .unset, .unset, .unset, .unset, .unset, .unset, .unset, .unset, .unset] [(.int (p1 &&& (2147483647 : Int32))), (.int (1 : Int32))])) rfl (by rw [hml]; rfl) (argsL := [(.int (1 : Int32)), (.int (p1 &&& (2147483647 : Int32)))]) (rest := []) (lenOf pd_1 rfl) rfl (by show 2 * 0 + _ ≤ _; exact Nat.le_of_eq rfl) (hb hby at_5) (fun _ _ => ⟨rfl, e0, (by decide : 0 + 0 ≤ _), (by decide : 0 + 0 ≤ _)⟩)
  dsimp only [Pt.U, Pt.locs, Pt.cells, Pt.slots] at X6_1 l6_1 y6_1 z6_1 st6_1 hQ6_1
  subst l6_1 y6_1 z6_1
  obtain ⟨rfl, N6q_1, gm⟩ := hQ6_1
  have N6_1 := Fr.app N0 N6q_1
  have st_1p : ∀ target, Steps p.tables e below (T6_1.setTop (mkF m 10 #[.val (.int p1), .val (.int p2), .val (.int p3), .val (.int p4), .val (.int p5), .val (.int (own_max (1 : Int32) (p1 &&& (2147483647 : Int32)))), .unset, .unset, .unset, .unset, .unset, .unset, .unset, .unset] [])) target → Steps p.tables e below (s₁.setTop (mkF m 0 #[.val (.int p1), .val (.int p2), .val (.int p3), .val (.int p4), .val (.int p5), .unset, .unset, .unset, .unset, .unset, .unset, .unset, .unset, .unset] [])) target := by
    intro target kt
    show Steps p.tables e below (s₁.setTop (mkF m 0 #[.val (.int p1), .val (.int p2), .val (.int p3), .val (.int p4), .val (.int p5), .unset, .unset, .unset, .unset, .unset, .unset, .unset, .unset, .unset] [])) _
    refine XS.iconst X0.here hx rfl (hb hby at_0) ?_
    show Steps p.tables e below (s₁.setTop (mkF m 1 #[.val (.int p1), .val (.int p2), .val (.int p3), .val (.int p4), .val (.int p5), .unset, .unset, .unset, .unset, .unset, .unset, .unset, .unset, .unset] [(.int (1 : Int32))])) _
    refine XS.iloadN X0.here hx rfl (hb hby at_1) rfl ?_
    show Steps p.tables e below (s₁.setTop (mkF m 2 #[.val (.int p1), .val (.int p2), .val (.int p3), .val (.int p4), .val (.int p5), .unset, .unset, .unset, .unset, .unset, .unset, .unset, .unset, .unset] [(.int p1), (.int (1 : Int32))])) _
    refine X0.ldcInt hx hown (mvT hZ (hw _ (List.mem_of_getElem? (i := 0) rfl))) (g := (mkF m 2 #[.val (.int p1), .val (.int p2), .val (.int p3), .val (.int p4), .val (.int p5), .unset, .unset, .unset, .unset, .unset, .unset, .unset, .unset, .unset] [(.int p1), (.int (1 : Int32))])) rfl (hb hby at_2) _ ?_
    show Steps p.tables e below (s₁.setTop (mkF m 4 #[.val (.int p1), .val (.int p2), .val (.int p3), .val (.int p4), .val (.int p5), .unset, .unset, .unset, .unset, .unset, .unset, .unset, .unset, .unset] [(.int (2147483647 : Int32)), (.int p1), (.int (1 : Int32))])) _
    refine XS.iand X0.here hx rfl (hb hby at_4) rfl ?_
    show Steps p.tables e below (s₁.setTop (mkF m 5 #[.val (.int p1), .val (.int p2), .val (.int p3), .val (.int p4), .val (.int p5), .unset, .unset, .unset, .unset, .unset, .unset, .unset, .unset, .unset] [(.int (p1 &&& (2147483647 : Int32))), (.int (1 : Int32))])) _
    refine st6_1 _ ?_
    show Steps p.tables e below (T6_1.setTop (mkF m 8 #[.val (.int p1), .val (.int p2), .val (.int p3), .val (.int p4), .val (.int p5), .unset, .unset, .unset, .unset, .unset, .unset, .unset, .unset, .unset] [(.int (own_max (1 : Int32) (p1 &&& (2147483647 : Int32))))])) _
    refine XS.istore X6_1.here hx rfl (hb hby at_8) rfl (l' := #[.val (.int p1), .val (.int p2), .val (.int p3), .val (.int p4), .val (.int p5), .val (.int (own_max (1 : Int32) (p1 &&& (2147483647 : Int32)))), .unset, .unset, .unset, .unset, .unset, .unset, .unset, .unset]) rfl ?_
    exact kt
  have Zb : n0 ≤ T6_1.heap.size := own_zk Z0 gm
  obtain ⟨nn, enn⟩ : ∃ z : Int32, z = (own_max (1 : Int32) (p1 &&& (2147483647 : Int32))) := ⟨_, rfl⟩
  rw [← enn] at st_1p
  have hnn : 1 ≤ nn.toInt := by rw [enn]; exact own_max1 _
  have hy16_2 : nn ≠ 0 := own_nz hnn
  have st_2p : ∀ target, Steps p.tables e below (T6_1.setTop (mkF m 19 #[.val (.int p1), .val (.int p2), .val (.int p3), .val (.int p4), .val (.int p5), .val (.int nn), .val (.int (own_rem (p2 &&& (2147483647 : Int32)) nn)), .unset, .unset, .unset, .unset, .unset, .unset, .unset] [])) target → Steps p.tables e below (T6_1.setTop (mkF m 10 #[.val (.int p1), .val (.int p2), .val (.int p3), .val (.int p4), .val (.int p5), .val (.int nn), .unset, .unset, .unset, .unset, .unset, .unset, .unset, .unset] [])) target := by
    intro target kt
    show Steps p.tables e below (T6_1.setTop (mkF m 10 #[.val (.int p1), .val (.int p2), .val (.int p3), .val (.int p4), .val (.int p5), .val (.int nn), .unset, .unset, .unset, .unset, .unset, .unset, .unset, .unset] [])) _
    refine XS.iloadN X6_1.here hx rfl (hb hby at_10) rfl ?_
    show Steps p.tables e below (T6_1.setTop (mkF m 11 #[.val (.int p1), .val (.int p2), .val (.int p3), .val (.int p4), .val (.int p5), .val (.int nn), .unset, .unset, .unset, .unset, .unset, .unset, .unset, .unset] [(.int p2)])) _
    refine X6_1.ldcInt hx hown (mvT hZ (hw _ (List.mem_of_getElem? (i := 0) rfl))) (g := (mkF m 11 #[.val (.int p1), .val (.int p2), .val (.int p3), .val (.int p4), .val (.int p5), .val (.int nn), .unset, .unset, .unset, .unset, .unset, .unset, .unset, .unset] [(.int p2)])) rfl (hb hby at_11) _ ?_
    show Steps p.tables e below (T6_1.setTop (mkF m 13 #[.val (.int p1), .val (.int p2), .val (.int p3), .val (.int p4), .val (.int p5), .val (.int nn), .unset, .unset, .unset, .unset, .unset, .unset, .unset, .unset] [(.int (2147483647 : Int32)), (.int p2)])) _
    refine XS.iand X6_1.here hx rfl (hb hby at_13) rfl ?_
    show Steps p.tables e below (T6_1.setTop (mkF m 14 #[.val (.int p1), .val (.int p2), .val (.int p3), .val (.int p4), .val (.int p5), .val (.int nn), .unset, .unset, .unset, .unset, .unset, .unset, .unset, .unset] [(.int (p2 &&& (2147483647 : Int32)))])) _
    refine XS.iload X6_1.here hx rfl (hb hby at_14) rfl ?_
    show Steps p.tables e below (T6_1.setTop (mkF m 16 #[.val (.int p1), .val (.int p2), .val (.int p3), .val (.int p4), .val (.int p5), .val (.int nn), .unset, .unset, .unset, .unset, .unset, .unset, .unset, .unset] [(.int nn), (.int (p2 &&& (2147483647 : Int32)))])) _
    refine XS.irem X6_1.here hx rfl (hb hby at_16) rfl hy16_2 ?_
    show Steps p.tables e below (T6_1.setTop (mkF m 17 #[.val (.int p1), .val (.int p2), .val (.int p3), .val (.int p4), .val (.int p5), .val (.int nn), .unset, .unset, .unset, .unset, .unset, .unset, .unset, .unset] [(.int (own_rem (p2 &&& (2147483647 : Int32)) nn))])) _
    refine XS.istore X6_1.here hx rfl (hb hby at_17) rfl (l' := #[.val (.int p1), .val (.int p2), .val (.int p3), .val (.int p4), .val (.int p5), .val (.int nn), .val (.int (own_rem (p2 &&& (2147483647 : Int32)) nn)), .unset, .unset, .unset, .unset, .unset, .unset, .unset]) rfl ?_
    exact kt
  obtain ⟨ss, ess⟩ : ∃ z : Int32, z = (own_rem (p2 &&& (2147483647 : Int32)) nn) := ⟨_, rfl⟩
  rw [← ess] at st_2p
  have hss : 0 ≤ ss.toInt ∧ ss.toInt < nn.toInt := by rw [ess]; exact own_rem_in _ hnn
  obtain ⟨la, st_5p⟩ : ∃ (la : Int32), ∀ target, Steps p.tables e below (T6_1.setTop (mkF m 32 #[.val (.int p1), .val (.int p2), .val (.int p3), .val (.int p4), .val (.int p5), .val (.int nn), .val (.int ss), .val (.int la), .unset, .unset, .unset, .unset, .unset, .unset] [])) target → Steps p.tables e below (T6_1.setTop (mkF m 19 #[.val (.int p1), .val (.int p2), .val (.int p3), .val (.int p4), .val (.int p5), .val (.int nn), .val (.int ss), .unset, .unset, .unset, .unset, .unset, .unset, .unset] [])) target := by
    by_cases hc22 : (p3 &&& (1 : Int32)) = (0 : Int32)
    · refine ⟨(0 : Int32), fun target kt => ?_⟩
      show Steps p.tables e below (T6_1.setTop (mkF m 19 #[.val (.int p1), .val (.int p2), .val (.int p3), .val (.int p4), .val (.int p5), .val (.int nn), .val (.int ss), .unset, .unset, .unset, .unset, .unset, .unset, .unset] [])) _
      refine XS.iloadN X6_1.here hx rfl (hb hby at_19) rfl ?_
      show Steps p.tables e below (T6_1.setTop (mkF m 20 #[.val (.int p1), .val (.int p2), .val (.int p3), .val (.int p4), .val (.int p5), .val (.int nn), .val (.int ss), .unset, .unset, .unset, .unset, .unset, .unset, .unset] [(.int p3)])) _
      refine XS.iconst X6_1.here hx rfl (hb hby at_20) ?_
      show Steps p.tables e below (T6_1.setTop (mkF m 21 #[.val (.int p1), .val (.int p2), .val (.int p3), .val (.int p4), .val (.int p5), .val (.int nn), .val (.int ss), .unset, .unset, .unset, .unset, .unset, .unset, .unset] [(.int (1 : Int32)), (.int p3)])) _
      refine XS.iand X6_1.here hx rfl (hb hby at_21) rfl ?_
      show Steps p.tables e below (T6_1.setTop (mkF m 22 #[.val (.int p1), .val (.int p2), .val (.int p3), .val (.int p4), .val (.int p5), .val (.int nn), .val (.int ss), .unset, .unset, .unset, .unset, .unset, .unset, .unset] [(.int (p3 &&& (1 : Int32)))])) _
      refine XS.ifYes X6_1.here hx rfl (pc0 := 22) (pc' := 29) rfl (hb hby at_22) rfl ((if0 _ _).trans (teq hc22).1) (by decide) (by decide) ?_
      show Steps p.tables e below (T6_1.setTop (mkF m 29 #[.val (.int p1), .val (.int p2), .val (.int p3), .val (.int p4), .val (.int p5), .val (.int nn), .val (.int ss), .unset, .unset, .unset, .unset, .unset, .unset, .unset] [])) _
      refine XS.iconst X6_1.here hx rfl (hb hby at_29) ?_
      show Steps p.tables e below (T6_1.setTop (mkF m 30 #[.val (.int p1), .val (.int p2), .val (.int p3), .val (.int p4), .val (.int p5), .val (.int nn), .val (.int ss), .unset, .unset, .unset, .unset, .unset, .unset, .unset] [(.int (0 : Int32))])) _
      refine XS.istore X6_1.here hx rfl (hb hby at_30) rfl (l' := #[.val (.int p1), .val (.int p2), .val (.int p3), .val (.int p4), .val (.int p5), .val (.int nn), .val (.int ss), .val (.int (0 : Int32)), .unset, .unset, .unset, .unset, .unset, .unset]) rfl ?_
      exact kt
    · refine ⟨(1 : Int32), fun target kt => ?_⟩
      show Steps p.tables e below (T6_1.setTop (mkF m 19 #[.val (.int p1), .val (.int p2), .val (.int p3), .val (.int p4), .val (.int p5), .val (.int nn), .val (.int ss), .unset, .unset, .unset, .unset, .unset, .unset, .unset] [])) _
      refine XS.iloadN X6_1.here hx rfl (hb hby at_19) rfl ?_
      show Steps p.tables e below (T6_1.setTop (mkF m 20 #[.val (.int p1), .val (.int p2), .val (.int p3), .val (.int p4), .val (.int p5), .val (.int nn), .val (.int ss), .unset, .unset, .unset, .unset, .unset, .unset, .unset] [(.int p3)])) _
      refine XS.iconst X6_1.here hx rfl (hb hby at_20) ?_
      show Steps p.tables e below (T6_1.setTop (mkF m 21 #[.val (.int p1), .val (.int p2), .val (.int p3), .val (.int p4), .val (.int p5), .val (.int nn), .val (.int ss), .unset, .unset, .unset, .unset, .unset, .unset, .unset] [(.int (1 : Int32)), (.int p3)])) _
      refine XS.iand X6_1.here hx rfl (hb hby at_21) rfl ?_
      show Steps p.tables e below (T6_1.setTop (mkF m 22 #[.val (.int p1), .val (.int p2), .val (.int p3), .val (.int p4), .val (.int p5), .val (.int nn), .val (.int ss), .unset, .unset, .unset, .unset, .unset, .unset, .unset] [(.int (p3 &&& (1 : Int32)))])) _
      refine XS.ifNo X6_1.here hx rfl (hb hby at_22) rfl ((if0 _ _).trans (feq hc22).1) ?_
      show Steps p.tables e below (T6_1.setTop (mkF m 25 #[.val (.int p1), .val (.int p2), .val (.int p3), .val (.int p4), .val (.int p5), .val (.int nn), .val (.int ss), .unset, .unset, .unset, .unset, .unset, .unset, .unset] [])) _
      refine XS.iconst X6_1.here hx rfl (hb hby at_25) ?_
      show Steps p.tables e below (T6_1.setTop (mkF m 26 #[.val (.int p1), .val (.int p2), .val (.int p3), .val (.int p4), .val (.int p5), .val (.int nn), .val (.int ss), .unset, .unset, .unset, .unset, .unset, .unset, .unset] [(.int (1 : Int32))])) _
      refine XS.goto X6_1.here hx rfl (pc0 := 26) (pc' := 30) rfl (hb hby at_26) (by decide) (by decide) ?_
      show Steps p.tables e below (T6_1.setTop (mkF m 30 #[.val (.int p1), .val (.int p2), .val (.int p3), .val (.int p4), .val (.int p5), .val (.int nn), .val (.int ss), .unset, .unset, .unset, .unset, .unset, .unset, .unset] [(.int (1 : Int32))])) _
      refine XS.istore X6_1.here hx rfl (hb hby at_30) rfl (l' := #[.val (.int p1), .val (.int p2), .val (.int p3), .val (.int p4), .val (.int p5), .val (.int nn), .val (.int ss), .val (.int (1 : Int32)), .unset, .unset, .unset, .unset, .unset, .unset]) rfl ?_
      exact kt
  obtain ⟨pv, hpv, st_8p⟩ : ∃ (pv : Int32), (0 ≤ pv.toInt ∧ pv.toInt < nn.toInt) ∧ ∀ target, Steps p.tables e below (T6_1.setTop (mkF m 53 #[.val (.int p1), .val (.int p2), .val (.int p3), .val (.int p4), .val (.int p5), .val (.int nn), .val (.int ss), .val (.int la), .val (.int pv), .unset, .unset, .unset, .unset, .unset] [])) target → Steps p.tables e below (T6_1.setTop (mkF m 32 #[.val (.int p1), .val (.int p2), .val (.int p3), .val (.int p4), .val (.int p5), .val (.int nn), .val (.int ss), .val (.int la), .unset, .unset, .unset, .unset, .unset, .unset] [])) target := by
    by_cases hc34 : la = (0 : Int32)
    · have hy50 : nn ≠ 0 := own_nz hnn
      refine ⟨(own_rem (p4 &&& (2147483647 : Int32)) nn), own_rem_in _ hnn, fun target kt => ?_⟩
      show Steps p.tables e below (T6_1.setTop (mkF m 32 #[.val (.int p1), .val (.int p2), .val (.int p3), .val (.int p4), .val (.int p5), .val (.int nn), .val (.int ss), .val (.int la), .unset, .unset, .unset, .unset, .unset, .unset] [])) _
      refine XS.iload X6_1.here hx rfl (hb hby at_32) rfl ?_
      show Steps p.tables e below (T6_1.setTop (mkF m 34 #[.val (.int p1), .val (.int p2), .val (.int p3), .val (.int p4), .val (.int p5), .val (.int nn), .val (.int ss), .val (.int la), .unset, .unset, .unset, .unset, .unset, .unset] [(.int la)])) _
      refine XS.ifYes X6_1.here hx rfl (pc0 := 34) (pc' := 44) rfl (hb hby at_34) rfl ((if0 _ _).trans (teq hc34).1) (by decide) (by decide) ?_
      show Steps p.tables e below (T6_1.setTop (mkF m 44 #[.val (.int p1), .val (.int p2), .val (.int p3), .val (.int p4), .val (.int p5), .val (.int nn), .val (.int ss), .val (.int la), .unset, .unset, .unset, .unset, .unset, .unset] [])) _
      refine XS.iloadN X6_1.here hx rfl (hb hby at_44) rfl ?_
      show Steps p.tables e below (T6_1.setTop (mkF m 45 #[.val (.int p1), .val (.int p2), .val (.int p3), .val (.int p4), .val (.int p5), .val (.int nn), .val (.int ss), .val (.int la), .unset, .unset, .unset, .unset, .unset, .unset] [(.int p4)])) _
      refine X6_1.ldcInt hx hown (mvT hZ (hw _ (List.mem_of_getElem? (i := 0) rfl))) (g := (mkF m 45 #[.val (.int p1), .val (.int p2), .val (.int p3), .val (.int p4), .val (.int p5), .val (.int nn), .val (.int ss), .val (.int la), .unset, .unset, .unset, .unset, .unset, .unset] [(.int p4)])) rfl (hb hby at_45) _ ?_
      show Steps p.tables e below (T6_1.setTop (mkF m 47 #[.val (.int p1), .val (.int p2), .val (.int p3), .val (.int p4), .val (.int p5), .val (.int nn), .val (.int ss), .val (.int la), .unset, .unset, .unset, .unset, .unset, .unset] [(.int (2147483647 : Int32)), (.int p4)])) _
      refine XS.iand X6_1.here hx rfl (hb hby at_47) rfl ?_
      show Steps p.tables e below (T6_1.setTop (mkF m 48 #[.val (.int p1), .val (.int p2), .val (.int p3), .val (.int p4), .val (.int p5), .val (.int nn), .val (.int ss), .val (.int la), .unset, .unset, .unset, .unset, .unset, .unset] [(.int (p4 &&& (2147483647 : Int32)))])) _
      refine XS.iload X6_1.here hx rfl (hb hby at_48) rfl ?_
      show Steps p.tables e below (T6_1.setTop (mkF m 50 #[.val (.int p1), .val (.int p2), .val (.int p3), .val (.int p4), .val (.int p5), .val (.int nn), .val (.int ss), .val (.int la), .unset, .unset, .unset, .unset, .unset, .unset] [(.int nn), (.int (p4 &&& (2147483647 : Int32)))])) _
      refine XS.irem X6_1.here hx rfl (hb hby at_50) rfl hy50 ?_
      show Steps p.tables e below (T6_1.setTop (mkF m 51 #[.val (.int p1), .val (.int p2), .val (.int p3), .val (.int p4), .val (.int p5), .val (.int nn), .val (.int ss), .val (.int la), .unset, .unset, .unset, .unset, .unset, .unset] [(.int (own_rem (p4 &&& (2147483647 : Int32)) nn))])) _
      refine XS.istore X6_1.here hx rfl (hb hby at_51) rfl (l' := #[.val (.int p1), .val (.int p2), .val (.int p3), .val (.int p4), .val (.int p5), .val (.int nn), .val (.int ss), .val (.int la), .val (.int (own_rem (p4 &&& (2147483647 : Int32)) nn)), .unset, .unset, .unset, .unset, .unset]) rfl ?_
      exact kt
    · refine ⟨(nn - (1 : Int32)), own_last hnn, fun target kt => ?_⟩
      show Steps p.tables e below (T6_1.setTop (mkF m 32 #[.val (.int p1), .val (.int p2), .val (.int p3), .val (.int p4), .val (.int p5), .val (.int nn), .val (.int ss), .val (.int la), .unset, .unset, .unset, .unset, .unset, .unset] [])) _
      refine XS.iload X6_1.here hx rfl (hb hby at_32) rfl ?_
      show Steps p.tables e below (T6_1.setTop (mkF m 34 #[.val (.int p1), .val (.int p2), .val (.int p3), .val (.int p4), .val (.int p5), .val (.int nn), .val (.int ss), .val (.int la), .unset, .unset, .unset, .unset, .unset, .unset] [(.int la)])) _
      refine XS.ifNo X6_1.here hx rfl (hb hby at_34) rfl ((if0 _ _).trans (feq hc34).1) ?_
      show Steps p.tables e below (T6_1.setTop (mkF m 37 #[.val (.int p1), .val (.int p2), .val (.int p3), .val (.int p4), .val (.int p5), .val (.int nn), .val (.int ss), .val (.int la), .unset, .unset, .unset, .unset, .unset, .unset] [])) _
      refine XS.iload X6_1.here hx rfl (hb hby at_37) rfl ?_
      show Steps p.tables e below (T6_1.setTop (mkF m 39 #[.val (.int p1), .val (.int p2), .val (.int p3), .val (.int p4), .val (.int p5), .val (.int nn), .val (.int ss), .val (.int la), .unset, .unset, .unset, .unset, .unset, .unset] [(.int nn)])) _
      refine XS.iconst X6_1.here hx rfl (hb hby at_39) ?_
      show Steps p.tables e below (T6_1.setTop (mkF m 40 #[.val (.int p1), .val (.int p2), .val (.int p3), .val (.int p4), .val (.int p5), .val (.int nn), .val (.int ss), .val (.int la), .unset, .unset, .unset, .unset, .unset, .unset] [(.int (1 : Int32)), (.int nn)])) _
      refine XS.isub X6_1.here hx rfl (hb hby at_40) rfl ?_
      show Steps p.tables e below (T6_1.setTop (mkF m 41 #[.val (.int p1), .val (.int p2), .val (.int p3), .val (.int p4), .val (.int p5), .val (.int nn), .val (.int ss), .val (.int la), .unset, .unset, .unset, .unset, .unset, .unset] [(.int (nn - (1 : Int32)))])) _
      refine XS.goto X6_1.here hx rfl (pc0 := 41) (pc' := 51) rfl (hb hby at_41) (by decide) (by decide) ?_
      show Steps p.tables e below (T6_1.setTop (mkF m 51 #[.val (.int p1), .val (.int p2), .val (.int p3), .val (.int p4), .val (.int p5), .val (.int nn), .val (.int ss), .val (.int la), .unset, .unset, .unset, .unset, .unset, .unset] [(.int (nn - (1 : Int32)))])) _
      refine XS.istore X6_1.here hx rfl (hb hby at_51) rfl (l' := #[.val (.int p1), .val (.int p2), .val (.int p3), .val (.int p4), .val (.int p5), .val (.int nn), .val (.int ss), .val (.int la), .val (.int (nn - (1 : Int32))), .unset, .unset, .unset, .unset, .unset]) rfl ?_
      exact kt
  obtain ⟨T6_9, h6_9, X6_9, e6_9, E6_9, A6_9, D6_9, -, st6_9⟩ := newO X6_1 hx hZ hown (hw _ (List.mem_of_getElem? (i := 5) rfl)) (hw _ (List.mem_of_getElem? (i := 6) rfl)) (hw _ (List.mem_of_getElem? (i := 7) rfl)) (rfl : T6_1.heap = _) (g := (mkF m 53 #[.val (.int p1), .val (.int p2), .val (.int p3), .val (.int p4), .val (.int p5), .val (.int nn), .val (.int ss), .val (.int la), .val (.int pv), .unset, .unset, .unset, .unset, .unset] [])) rfl (hb hby at_53) (by decide) (by decide)
  obtain ⟨b6_9, g6_9⟩ : ∃ z, z = T6_1.heap.size := ⟨_, rfl⟩
  rw [← g6_9] at A6_9 D6_9 st6_9
  have F_positions_b6_9 : Fld Z h6_9 b6_9 "com/example/merry_until/merryuntil/check/LassoPositions" "positions" "I" (.int (0 : Int32)) := D6_9 (Or.inr (hw _ (List.mem_of_getElem? (i := 20) rfl))) (ty := .int) (by decide)
  have F_loopStart_b6_9 : Fld Z h6_9 b6_9 "com/example/merry_until/merryuntil/check/LassoPositions" "loopStart" "I" (.int (0 : Int32)) := D6_9 (Or.inr (hw _ (List.mem_of_getElem? (i := 22) rfl))) (ty := .int) (by decide)
  have F_mostPositions_b6_9 : Fld Z h6_9 b6_9 "com/example/merry_until/merryuntil/check/LassoPositions" "mostPositions" "I" (.int (0 : Int32)) := D6_9 (Or.inr (hw _ (List.mem_of_getElem? (i := 24) rfl))) (ty := .int) (by decide)
  have E_b6_9 := A6_9
  have g_b6_9 : n0 ≤ b6_9 := Nat.le_trans Zb (Nat.le_of_eq g6_9.symm)
  have sz_b6_9 : T6_1.heap.size ≤ b6_9 := (Nat.le_trans (Keep.refl T6_1.heap []).1 (Nat.le_of_eq g6_9.symm))
  have K6_9 : Keep T6_1.heap h6_9 [] := (Keep.refl T6_1.heap []).ext E6_9
  obtain ⟨_, _, ⟨T7_9, L7_9, k7_9, n7_9⟩, -, X7_9, ⟨Lc7_9, hQ7_9, l7_9, y7_9, z7_9⟩, st7_9⟩ := X6_9.specialBack hx (y := (⟨"com/example/merry_until/merryuntil/check/LassoPositions", "<init>", "(III)V"⟩ : MethodName)) rfl hown (mvT hZ (hw _ (List.mem_of_getElem? (i := 8) rfl))) (mvT hZ (hw _ (List.mem_of_getElem? (i := 9) rfl))) (mvT hZ (hw _ (List.mem_of_getElem? (i := 10) rfl))) (by decide) (backOf (W := 1) (rm2 l Z a0 hw [] b6_9 nn ss p5 (.int 0) (.int 0) (.int 0) h6_9 n0 (Nat.le_trans Zb E6_9.1) E_b6_9 F_positions_b6_9 g_b6_9 F_loopStart_b6_9 F_mostPositions_b6_9) hZ (hw _ (List.mem_of_getElem? (i := 10) rfl)) (hw _ (List.mem_of_getElem? (i := 7) rfl)) (by decide) (by decide)) (g := (mkF m 63 #[.val (.int p1), .val (.int p2), .val (.int p3), .val (.int p4), .val (.int p5), .val (.int nn), .val (.int ss), .val (.int la), .val (.int pv), .unset, .unset, .unset, .unset, .unset] [(.int p5), (.int ss), (.int nn), (.ref b6_9), (.ref b6_9)])) rfl (by rw [hml]; rfl) (Steps.refl _) (a := b6_9) (argsL := [(.int nn), (.int ss), (.int p5)]) (rest := [(.ref b6_9)]) (lenOf pd_2 rfl) rfl (by show 2 * 0 + _ ≤ _; exact Nat.le_of_eq rfl) (hb hby at_63) (fun _ _ => ⟨rfl, e6_9, (by decide : 0 + 1 + 0 ≤ _), (by decide : 0 + 3 + 0 ≤ _)⟩)
  dsimp only [Pt.U, Pt.locs, Pt.cells, Pt.slots] at X7_9 l7_9 y7_9 z7_9 st7_9 hQ7_9
  subst l7_9 y7_9 z7_9
  obtain ⟨rfl, N7q_9, K7_9, Ex7_9, Fp7_9, Fl7_9, Fm7_9⟩ := hQ7_9
  have N7_9 := Fr.app N6_1 N7q_9
  obtain ⟨cq8_9, kq8_9, q8a_9, q8b_9, q8c_9⟩ := isOf hZ rfl (E_b6_9.keep K7_9)
  obtain ⟨_, _, ⟨T8_9, L8_9, k8_9, n8_9⟩, -, X8_9, ⟨Lc8_9, hQ8_9, l8_9, y8_9, z8_9⟩, st8_9⟩ := X7_9.virtualBack hx (y := (⟨"com/example/merry_until/merryuntil/check/LassoPositions", "successor", "(I)I"⟩ : MethodName)) (z := (⟨"com/example/merry_until/merryuntil/check/LassoPositions", "successor", "(I)I"⟩ : MethodName)) hown (mvT hZ (hw _ (List.mem_of_getElem? (i := 25) rfl))) (mvT hZ (hw _ (List.mem_of_getElem? (i := 26) rfl))) (notFace_of_selects (args := #[]) (mvT hZ (hw _ (List.mem_of_getElem? (i := 28) rfl)))) (mvT hZ (hw _ (List.mem_of_getElem? (i := 28) rfl))) (mvT hZ (hw _ (List.mem_of_getElem? (i := 27) rfl))) (by decide) (backOf (W := 0) (rm5 l Z a0 hw [] b6_9 pv nn ss T7_9.heap n0 (Nat.le_trans (Nat.le_trans Zb E6_9.1) K7_9.1) Fp7_9 Fl7_9) hZ (hw _ (List.mem_of_getElem? (i := 29) rfl)) (hw _ (List.mem_of_getElem? (i := 7) rfl)) (by decide) (by decide)) q8a_9 q8c_9 (g := (mkF m 72 #[.val (.int p1), .val (.int p2), .val (.int p3), .val (.int p4), .val (.int p5), .val (.int nn), .val (.int ss), .val (.int la), .val (.int pv), .val (.ref b6_9), .unset, .unset, .unset, .unset] [(.int pv), (.ref b6_9)])) rfl (by rw [hml]; rfl) (Steps.refl _) (argsL := [(.int pv)]) (rest := []) (lenOf pd_3 rfl) rfl (by show 2 * 0 + _ ≤ _; exact Nat.le_of_eq rfl) (hb hby at_72) (fun _ _ => ⟨rfl, rfl, (by decide : 0 + 1 + 0 ≤ _), (by decide : 0 + 3 + 0 ≤ _)⟩)
  dsimp only [Pt.U, Pt.locs, Pt.cells, Pt.slots] at X8_9 l8_9 y8_9 z8_9 st8_9 hQ8_9
  subst l8_9 y8_9 z8_9
  obtain ⟨rfl, N8q_9, gs⟩ := hQ8_9
  have N8_9 := Fr.app N7_9 N8q_9
  have st_9p : ∀ target, Steps p.tables e below (T8_9.setTop (mkF m 77 #[.val (.int p1), .val (.int p2), .val (.int p3), .val (.int p4), .val (.int p5), .val (.int nn), .val (.int ss), .val (.int la), .val (.int pv), .val (.ref b6_9), .val (.int (own_succ nn ss pv)), .unset, .unset, .unset] [])) target → Steps p.tables e below (T6_1.setTop (mkF m 53 #[.val (.int p1), .val (.int p2), .val (.int p3), .val (.int p4), .val (.int p5), .val (.int nn), .val (.int ss), .val (.int la), .val (.int pv), .unset, .unset, .unset, .unset, .unset] [])) target := by
    intro target kt
    show Steps p.tables e below (T6_1.setTop (mkF m 53 #[.val (.int p1), .val (.int p2), .val (.int p3), .val (.int p4), .val (.int p5), .val (.int nn), .val (.int ss), .val (.int la), .val (.int pv), .unset, .unset, .unset, .unset, .unset] [])) _
    refine st6_9 _ ?_
    show Steps p.tables e below (T6_9.setTop (mkF m 56 #[.val (.int p1), .val (.int p2), .val (.int p3), .val (.int p4), .val (.int p5), .val (.int nn), .val (.int ss), .val (.int la), .val (.int pv), .unset, .unset, .unset, .unset, .unset] [(.ref b6_9)])) _
    refine XS.dup X6_9.here hx rfl (hb hby at_56) rfl rfl ?_
    show Steps p.tables e below (T6_9.setTop (mkF m 57 #[.val (.int p1), .val (.int p2), .val (.int p3), .val (.int p4), .val (.int p5), .val (.int nn), .val (.int ss), .val (.int la), .val (.int pv), .unset, .unset, .unset, .unset, .unset] [(.ref b6_9), (.ref b6_9)])) _
    refine XS.iload X6_9.here hx rfl (hb hby at_57) rfl ?_
    show Steps p.tables e below (T6_9.setTop (mkF m 59 #[.val (.int p1), .val (.int p2), .val (.int p3), .val (.int p4), .val (.int p5), .val (.int nn), .val (.int ss), .val (.int la), .val (.int pv), .unset, .unset, .unset, .unset, .unset] [(.int nn), (.ref b6_9), (.ref b6_9)])) _
    refine XS.iload X6_9.here hx rfl (hb hby at_59) rfl ?_
    show Steps p.tables e below (T6_9.setTop (mkF m 61 #[.val (.int p1), .val (.int p2), .val (.int p3), .val (.int p4), .val (.int p5), .val (.int nn), .val (.int ss), .val (.int la), .val (.int pv), .unset, .unset, .unset, .unset, .unset] [(.int ss), (.int nn), (.ref b6_9), (.ref b6_9)])) _
    refine XS.iload X6_9.here hx rfl (hb hby at_61) rfl ?_
    show Steps p.tables e below (T6_9.setTop (mkF m 63 #[.val (.int p1), .val (.int p2), .val (.int p3), .val (.int p4), .val (.int p5), .val (.int nn), .val (.int ss), .val (.int la), .val (.int pv), .unset, .unset, .unset, .unset, .unset] [(.int p5), (.int ss), (.int nn), (.ref b6_9), (.ref b6_9)])) _
    refine st7_9.trans ?_
    show Steps p.tables e below (T7_9.setTop (mkF m 66 #[.val (.int p1), .val (.int p2), .val (.int p3), .val (.int p4), .val (.int p5), .val (.int nn), .val (.int ss), .val (.int la), .val (.int pv), .unset, .unset, .unset, .unset, .unset] [(.ref b6_9)])) _
    refine XS.astore X7_9.here hx rfl (hb hby at_66) rfl rfl (l' := #[.val (.int p1), .val (.int p2), .val (.int p3), .val (.int p4), .val (.int p5), .val (.int nn), .val (.int ss), .val (.int la), .val (.int pv), .val (.ref b6_9), .unset, .unset, .unset, .unset]) rfl ?_
    show Steps p.tables e below (T7_9.setTop (mkF m 68 #[.val (.int p1), .val (.int p2), .val (.int p3), .val (.int p4), .val (.int p5), .val (.int nn), .val (.int ss), .val (.int la), .val (.int pv), .val (.ref b6_9), .unset, .unset, .unset, .unset] [])) _
    refine XS.aload X7_9.here hx rfl (hb hby at_68) rfl rfl ?_
    show Steps p.tables e below (T7_9.setTop (mkF m 70 #[.val (.int p1), .val (.int p2), .val (.int p3), .val (.int p4), .val (.int p5), .val (.int nn), .val (.int ss), .val (.int la), .val (.int pv), .val (.ref b6_9), .unset, .unset, .unset, .unset] [(.ref b6_9)])) _
    refine XS.iload X7_9.here hx rfl (hb hby at_70) rfl ?_
    show Steps p.tables e below (T7_9.setTop (mkF m 72 #[.val (.int p1), .val (.int p2), .val (.int p3), .val (.int p4), .val (.int p5), .val (.int nn), .val (.int ss), .val (.int la), .val (.int pv), .val (.ref b6_9), .unset, .unset, .unset, .unset] [(.int pv), (.ref b6_9)])) _
    refine st8_9.trans ?_
    show Steps p.tables e below (T8_9.setTop (mkF m 75 #[.val (.int p1), .val (.int p2), .val (.int p3), .val (.int p4), .val (.int p5), .val (.int nn), .val (.int ss), .val (.int la), .val (.int pv), .val (.ref b6_9), .unset, .unset, .unset, .unset] [(.int (own_succ nn ss pv))])) _
    refine XS.istore X8_9.here hx rfl (hb hby at_75) rfl (l' := #[.val (.int p1), .val (.int p2), .val (.int p3), .val (.int p4), .val (.int p5), .val (.int nn), .val (.int ss), .val (.int la), .val (.int pv), .val (.ref b6_9), .val (.int (own_succ nn ss pv)), .unset, .unset, .unset]) rfl ?_
    exact kt
  obtain ⟨ex, hex, st_12p⟩ : ∃ (ex : Int64), (ex = own_exp nn ss pv) ∧ ∀ target, Steps p.tables e below (T8_9.setTop (mkF m 101 #[.val (.int p1), .val (.int p2), .val (.int p3), .val (.int p4), .val (.int p5), .val (.int nn), .val (.int ss), .val (.int la), .val (.int pv), .val (.ref b6_9), .val (.int (own_succ nn ss pv)), .val (.long ex), .second, .unset] [])) target → Steps p.tables e below (T8_9.setTop (mkF m 77 #[.val (.int p1), .val (.int p2), .val (.int p3), .val (.int p4), .val (.int p5), .val (.int nn), .val (.int ss), .val (.int la), .val (.int pv), .val (.ref b6_9), .val (.int (own_succ nn ss pv)), .unset, .unset, .unset] [])) target := by
    by_cases hc83 : pv < (nn - (1 : Int32))
    · refine ⟨((pv.toInt64) + (1 : Int64)), by simp [own_exp, hc83], fun target kt => ?_⟩
      show Steps p.tables e below (T8_9.setTop (mkF m 77 #[.val (.int p1), .val (.int p2), .val (.int p3), .val (.int p4), .val (.int p5), .val (.int nn), .val (.int ss), .val (.int la), .val (.int pv), .val (.ref b6_9), .val (.int (own_succ nn ss pv)), .unset, .unset, .unset] [])) _
      refine XS.iload X8_9.here hx rfl (hb hby at_77) rfl ?_
      show Steps p.tables e below (T8_9.setTop (mkF m 79 #[.val (.int p1), .val (.int p2), .val (.int p3), .val (.int p4), .val (.int p5), .val (.int nn), .val (.int ss), .val (.int la), .val (.int pv), .val (.ref b6_9), .val (.int (own_succ nn ss pv)), .unset, .unset, .unset] [(.int pv)])) _
      refine XS.iload X8_9.here hx rfl (hb hby at_79) rfl ?_
      show Steps p.tables e below (T8_9.setTop (mkF m 81 #[.val (.int p1), .val (.int p2), .val (.int p3), .val (.int p4), .val (.int p5), .val (.int nn), .val (.int ss), .val (.int la), .val (.int pv), .val (.ref b6_9), .val (.int (own_succ nn ss pv)), .unset, .unset, .unset] [(.int nn), (.int pv)])) _
      refine XS.iconst X8_9.here hx rfl (hb hby at_81) ?_
      show Steps p.tables e below (T8_9.setTop (mkF m 82 #[.val (.int p1), .val (.int p2), .val (.int p3), .val (.int p4), .val (.int p5), .val (.int nn), .val (.int ss), .val (.int la), .val (.int pv), .val (.ref b6_9), .val (.int (own_succ nn ss pv)), .unset, .unset, .unset] [(.int (1 : Int32)), (.int nn), (.int pv)])) _
      refine XS.isub X8_9.here hx rfl (hb hby at_82) rfl ?_
      show Steps p.tables e below (T8_9.setTop (mkF m 83 #[.val (.int p1), .val (.int p2), .val (.int p3), .val (.int p4), .val (.int p5), .val (.int nn), .val (.int ss), .val (.int la), .val (.int pv), .val (.ref b6_9), .val (.int (own_succ nn ss pv)), .unset, .unset, .unset] [(.int (nn - (1 : Int32))), (.int pv)])) _
      refine XS.icmpNo X8_9.here hx rfl (hb hby at_83) rfl (tlt hc83).2.1 ?_
      show Steps p.tables e below (T8_9.setTop (mkF m 86 #[.val (.int p1), .val (.int p2), .val (.int p3), .val (.int p4), .val (.int p5), .val (.int nn), .val (.int ss), .val (.int la), .val (.int pv), .val (.ref b6_9), .val (.int (own_succ nn ss pv)), .unset, .unset, .unset] [])) _
      refine XS.iload X8_9.here hx rfl (hb hby at_86) rfl ?_
      show Steps p.tables e below (T8_9.setTop (mkF m 88 #[.val (.int p1), .val (.int p2), .val (.int p3), .val (.int p4), .val (.int p5), .val (.int nn), .val (.int ss), .val (.int la), .val (.int pv), .val (.ref b6_9), .val (.int (own_succ nn ss pv)), .unset, .unset, .unset] [(.int pv)])) _
      refine XS.i2l X8_9.here hx rfl (hb hby at_88) rfl ?_
      show Steps p.tables e below (T8_9.setTop (mkF m 89 #[.val (.int p1), .val (.int p2), .val (.int p3), .val (.int p4), .val (.int p5), .val (.int nn), .val (.int ss), .val (.int la), .val (.int pv), .val (.ref b6_9), .val (.int (own_succ nn ss pv)), .unset, .unset, .unset] [(.long (pv.toInt64))])) _
      refine XS.lconst X8_9.here hx rfl (hb hby at_89) ?_
      show Steps p.tables e below (T8_9.setTop (mkF m 90 #[.val (.int p1), .val (.int p2), .val (.int p3), .val (.int p4), .val (.int p5), .val (.int nn), .val (.int ss), .val (.int la), .val (.int pv), .val (.ref b6_9), .val (.int (own_succ nn ss pv)), .unset, .unset, .unset] [(.long (1 : Int64)), (.long (pv.toInt64))])) _
      refine XS.ladd X8_9.here hx rfl (hb hby at_90) rfl ?_
      show Steps p.tables e below (T8_9.setTop (mkF m 91 #[.val (.int p1), .val (.int p2), .val (.int p3), .val (.int p4), .val (.int p5), .val (.int nn), .val (.int ss), .val (.int la), .val (.int pv), .val (.ref b6_9), .val (.int (own_succ nn ss pv)), .unset, .unset, .unset] [(.long ((pv.toInt64) + (1 : Int64)))])) _
      refine XS.lstore X8_9.here hx rfl (hb hby at_91) rfl (l' := #[.val (.int p1), .val (.int p2), .val (.int p3), .val (.int p4), .val (.int p5), .val (.int nn), .val (.int ss), .val (.int la), .val (.int pv), .val (.ref b6_9), .val (.int (own_succ nn ss pv)), .val (.long ((pv.toInt64) + (1 : Int64))), .second, .unset]) rfl ?_
      show Steps p.tables e below (T8_9.setTop (mkF m 93 #[.val (.int p1), .val (.int p2), .val (.int p3), .val (.int p4), .val (.int p5), .val (.int nn), .val (.int ss), .val (.int la), .val (.int pv), .val (.ref b6_9), .val (.int (own_succ nn ss pv)), .val (.long ((pv.toInt64) + (1 : Int64))), .second, .unset] [])) _
      refine XS.goto X8_9.here hx rfl (pc0 := 93) (pc' := 101) rfl (hb hby at_93) (by decide) (by decide) ?_
      exact kt
    · refine ⟨(ss.toInt64), by simp [own_exp, hc83], fun target kt => ?_⟩
      show Steps p.tables e below (T8_9.setTop (mkF m 77 #[.val (.int p1), .val (.int p2), .val (.int p3), .val (.int p4), .val (.int p5), .val (.int nn), .val (.int ss), .val (.int la), .val (.int pv), .val (.ref b6_9), .val (.int (own_succ nn ss pv)), .unset, .unset, .unset] [])) _
      refine XS.iload X8_9.here hx rfl (hb hby at_77) rfl ?_
      show Steps p.tables e below (T8_9.setTop (mkF m 79 #[.val (.int p1), .val (.int p2), .val (.int p3), .val (.int p4), .val (.int p5), .val (.int nn), .val (.int ss), .val (.int la), .val (.int pv), .val (.ref b6_9), .val (.int (own_succ nn ss pv)), .unset, .unset, .unset] [(.int pv)])) _
      refine XS.iload X8_9.here hx rfl (hb hby at_79) rfl ?_
      show Steps p.tables e below (T8_9.setTop (mkF m 81 #[.val (.int p1), .val (.int p2), .val (.int p3), .val (.int p4), .val (.int p5), .val (.int nn), .val (.int ss), .val (.int la), .val (.int pv), .val (.ref b6_9), .val (.int (own_succ nn ss pv)), .unset, .unset, .unset] [(.int nn), (.int pv)])) _
      refine XS.iconst X8_9.here hx rfl (hb hby at_81) ?_
      show Steps p.tables e below (T8_9.setTop (mkF m 82 #[.val (.int p1), .val (.int p2), .val (.int p3), .val (.int p4), .val (.int p5), .val (.int nn), .val (.int ss), .val (.int la), .val (.int pv), .val (.ref b6_9), .val (.int (own_succ nn ss pv)), .unset, .unset, .unset] [(.int (1 : Int32)), (.int nn), (.int pv)])) _
      refine XS.isub X8_9.here hx rfl (hb hby at_82) rfl ?_
      show Steps p.tables e below (T8_9.setTop (mkF m 83 #[.val (.int p1), .val (.int p2), .val (.int p3), .val (.int p4), .val (.int p5), .val (.int nn), .val (.int ss), .val (.int la), .val (.int pv), .val (.ref b6_9), .val (.int (own_succ nn ss pv)), .unset, .unset, .unset] [(.int (nn - (1 : Int32))), (.int pv)])) _
      refine XS.icmpYes X8_9.here hx rfl (pc0 := 83) (pc' := 96) rfl (hb hby at_83) rfl (flt hc83).2.1 (by decide) (by decide) ?_
      show Steps p.tables e below (T8_9.setTop (mkF m 96 #[.val (.int p1), .val (.int p2), .val (.int p3), .val (.int p4), .val (.int p5), .val (.int nn), .val (.int ss), .val (.int la), .val (.int pv), .val (.ref b6_9), .val (.int (own_succ nn ss pv)), .unset, .unset, .unset] [])) _
      refine XS.iload X8_9.here hx rfl (hb hby at_96) rfl ?_
      show Steps p.tables e below (T8_9.setTop (mkF m 98 #[.val (.int p1), .val (.int p2), .val (.int p3), .val (.int p4), .val (.int p5), .val (.int nn), .val (.int ss), .val (.int la), .val (.int pv), .val (.ref b6_9), .val (.int (own_succ nn ss pv)), .unset, .unset, .unset] [(.int ss)])) _
      refine XS.i2l X8_9.here hx rfl (hb hby at_98) rfl ?_
      show Steps p.tables e below (T8_9.setTop (mkF m 99 #[.val (.int p1), .val (.int p2), .val (.int p3), .val (.int p4), .val (.int p5), .val (.int nn), .val (.int ss), .val (.int la), .val (.int pv), .val (.ref b6_9), .val (.int (own_succ nn ss pv)), .unset, .unset, .unset] [(.long (ss.toInt64))])) _
      refine XS.lstore X8_9.here hx rfl (hb hby at_99) rfl (l' := #[.val (.int p1), .val (.int p2), .val (.int p3), .val (.int p4), .val (.int p5), .val (.int nn), .val (.int ss), .val (.int la), .val (.int pv), .val (.ref b6_9), .val (.int (own_succ nn ss pv)), .val (.long (ss.toInt64)), .second, .unset]) rfl ?_
      exact kt
  obtain ⟨hA, hB, hC⟩ := own_all hnn hss hpv
  have hc103_13 : ¬ ((own_succ nn ss pv) < (0 : Int32)) := hA
  have hc110_13 : (own_succ nn ss pv) < nn := hB
  have hc122_13 : ¬ ((1 : Int32) = (0 : Int32)) := (by decide)
  have hc131_13 : (lcmpW ((own_succ nn ss pv).toInt64) ex) = (0 : Int32) := (lw_eq _ _).mpr (by rw [hex]; exact hC)
  have st_13p : ∀ target, Steps p.tables e below (T8_9.setTop (mkF m 139 #[.val (.int p1), .val (.int p2), .val (.int p3), .val (.int p4), .val (.int p5), .val (.int nn), .val (.int ss), .val (.int la), .val (.int pv), .val (.ref b6_9), .val (.int (own_succ nn ss pv)), .val (.long ex), .second, .val (.int (1 : Int32))] [(.int (1 : Int32))])) target → Steps p.tables e below (T8_9.setTop (mkF m 101 #[.val (.int p1), .val (.int p2), .val (.int p3), .val (.int p4), .val (.int p5), .val (.int nn), .val (.int ss), .val (.int la), .val (.int pv), .val (.ref b6_9), .val (.int (own_succ nn ss pv)), .val (.long ex), .second, .unset] [])) target := by
    intro target kt
    show Steps p.tables e below (T8_9.setTop (mkF m 101 #[.val (.int p1), .val (.int p2), .val (.int p3), .val (.int p4), .val (.int p5), .val (.int nn), .val (.int ss), .val (.int la), .val (.int pv), .val (.ref b6_9), .val (.int (own_succ nn ss pv)), .val (.long ex), .second, .unset] [])) _
    refine XS.iload X8_9.here hx rfl (hb hby at_101) rfl ?_
    show Steps p.tables e below (T8_9.setTop (mkF m 103 #[.val (.int p1), .val (.int p2), .val (.int p3), .val (.int p4), .val (.int p5), .val (.int nn), .val (.int ss), .val (.int la), .val (.int pv), .val (.ref b6_9), .val (.int (own_succ nn ss pv)), .val (.long ex), .second, .unset] [(.int (own_succ nn ss pv))])) _
    refine XS.ifNo X8_9.here hx rfl (hb hby at_103) rfl ((if0 _ _).trans (flt hc103_13).1) ?_
    show Steps p.tables e below (T8_9.setTop (mkF m 106 #[.val (.int p1), .val (.int p2), .val (.int p3), .val (.int p4), .val (.int p5), .val (.int nn), .val (.int ss), .val (.int la), .val (.int pv), .val (.ref b6_9), .val (.int (own_succ nn ss pv)), .val (.long ex), .second, .unset] [])) _
    refine XS.iload X8_9.here hx rfl (hb hby at_106) rfl ?_
    show Steps p.tables e below (T8_9.setTop (mkF m 108 #[.val (.int p1), .val (.int p2), .val (.int p3), .val (.int p4), .val (.int p5), .val (.int nn), .val (.int ss), .val (.int la), .val (.int pv), .val (.ref b6_9), .val (.int (own_succ nn ss pv)), .val (.long ex), .second, .unset] [(.int (own_succ nn ss pv))])) _
    refine XS.iload X8_9.here hx rfl (hb hby at_108) rfl ?_
    show Steps p.tables e below (T8_9.setTop (mkF m 110 #[.val (.int p1), .val (.int p2), .val (.int p3), .val (.int p4), .val (.int p5), .val (.int nn), .val (.int ss), .val (.int la), .val (.int pv), .val (.ref b6_9), .val (.int (own_succ nn ss pv)), .val (.long ex), .second, .unset] [(.int nn), (.int (own_succ nn ss pv))])) _
    refine XS.icmpNo X8_9.here hx rfl (hb hby at_110) rfl (tlt hc110_13).2.1 ?_
    show Steps p.tables e below (T8_9.setTop (mkF m 113 #[.val (.int p1), .val (.int p2), .val (.int p3), .val (.int p4), .val (.int p5), .val (.int nn), .val (.int ss), .val (.int la), .val (.int pv), .val (.ref b6_9), .val (.int (own_succ nn ss pv)), .val (.long ex), .second, .unset] [])) _
    refine XS.iconst X8_9.here hx rfl (hb hby at_113) ?_
    show Steps p.tables e below (T8_9.setTop (mkF m 114 #[.val (.int p1), .val (.int p2), .val (.int p3), .val (.int p4), .val (.int p5), .val (.int nn), .val (.int ss), .val (.int la), .val (.int pv), .val (.ref b6_9), .val (.int (own_succ nn ss pv)), .val (.long ex), .second, .unset] [(.int (1 : Int32))])) _
    refine XS.goto X8_9.here hx rfl (pc0 := 114) (pc' := 118) rfl (hb hby at_114) (by decide) (by decide) ?_
    show Steps p.tables e below (T8_9.setTop (mkF m 118 #[.val (.int p1), .val (.int p2), .val (.int p3), .val (.int p4), .val (.int p5), .val (.int nn), .val (.int ss), .val (.int la), .val (.int pv), .val (.ref b6_9), .val (.int (own_succ nn ss pv)), .val (.long ex), .second, .unset] [(.int (1 : Int32))])) _
    refine XS.istore X8_9.here hx rfl (hb hby at_118) rfl (l' := #[.val (.int p1), .val (.int p2), .val (.int p3), .val (.int p4), .val (.int p5), .val (.int nn), .val (.int ss), .val (.int la), .val (.int pv), .val (.ref b6_9), .val (.int (own_succ nn ss pv)), .val (.long ex), .second, .val (.int (1 : Int32))]) rfl ?_
    show Steps p.tables e below (T8_9.setTop (mkF m 120 #[.val (.int p1), .val (.int p2), .val (.int p3), .val (.int p4), .val (.int p5), .val (.int nn), .val (.int ss), .val (.int la), .val (.int pv), .val (.ref b6_9), .val (.int (own_succ nn ss pv)), .val (.long ex), .second, .val (.int (1 : Int32))] [])) _
    refine XS.iload X8_9.here hx rfl (hb hby at_120) rfl ?_
    show Steps p.tables e below (T8_9.setTop (mkF m 122 #[.val (.int p1), .val (.int p2), .val (.int p3), .val (.int p4), .val (.int p5), .val (.int nn), .val (.int ss), .val (.int la), .val (.int pv), .val (.ref b6_9), .val (.int (own_succ nn ss pv)), .val (.long ex), .second, .val (.int (1 : Int32))] [(.int (1 : Int32))])) _
    refine XS.ifNo X8_9.here hx rfl (hb hby at_122) rfl ((if0 _ _).trans (feq hc122_13).1) ?_
    show Steps p.tables e below (T8_9.setTop (mkF m 125 #[.val (.int p1), .val (.int p2), .val (.int p3), .val (.int p4), .val (.int p5), .val (.int nn), .val (.int ss), .val (.int la), .val (.int pv), .val (.ref b6_9), .val (.int (own_succ nn ss pv)), .val (.long ex), .second, .val (.int (1 : Int32))] [])) _
    refine XS.iload X8_9.here hx rfl (hb hby at_125) rfl ?_
    show Steps p.tables e below (T8_9.setTop (mkF m 127 #[.val (.int p1), .val (.int p2), .val (.int p3), .val (.int p4), .val (.int p5), .val (.int nn), .val (.int ss), .val (.int la), .val (.int pv), .val (.ref b6_9), .val (.int (own_succ nn ss pv)), .val (.long ex), .second, .val (.int (1 : Int32))] [(.int (own_succ nn ss pv))])) _
    refine XS.i2l X8_9.here hx rfl (hb hby at_127) rfl ?_
    show Steps p.tables e below (T8_9.setTop (mkF m 128 #[.val (.int p1), .val (.int p2), .val (.int p3), .val (.int p4), .val (.int p5), .val (.int nn), .val (.int ss), .val (.int la), .val (.int pv), .val (.ref b6_9), .val (.int (own_succ nn ss pv)), .val (.long ex), .second, .val (.int (1 : Int32))] [(.long ((own_succ nn ss pv).toInt64))])) _
    refine XS.lload X8_9.here hx rfl (hb hby at_128) rfl ?_
    show Steps p.tables e below (T8_9.setTop (mkF m 130 #[.val (.int p1), .val (.int p2), .val (.int p3), .val (.int p4), .val (.int p5), .val (.int nn), .val (.int ss), .val (.int la), .val (.int pv), .val (.ref b6_9), .val (.int (own_succ nn ss pv)), .val (.long ex), .second, .val (.int (1 : Int32))] [(.long ex), (.long ((own_succ nn ss pv).toInt64))])) _
    refine XS.lcmp X8_9.here hx rfl (hb hby at_130) rfl ?_
    show Steps p.tables e below (T8_9.setTop (mkF m 131 #[.val (.int p1), .val (.int p2), .val (.int p3), .val (.int p4), .val (.int p5), .val (.int nn), .val (.int ss), .val (.int la), .val (.int pv), .val (.ref b6_9), .val (.int (own_succ nn ss pv)), .val (.long ex), .second, .val (.int (1 : Int32))] [(.int (lcmpW ((own_succ nn ss pv).toInt64) ex))])) _
    refine XS.ifNo X8_9.here hx rfl (hb hby at_131) rfl ((if0 _ _).trans (teq hc131_13).2) ?_
    show Steps p.tables e below (T8_9.setTop (mkF m 134 #[.val (.int p1), .val (.int p2), .val (.int p3), .val (.int p4), .val (.int p5), .val (.int nn), .val (.int ss), .val (.int la), .val (.int pv), .val (.ref b6_9), .val (.int (own_succ nn ss pv)), .val (.long ex), .second, .val (.int (1 : Int32))] [])) _
    refine XS.iconst X8_9.here hx rfl (hb hby at_134) ?_
    show Steps p.tables e below (T8_9.setTop (mkF m 135 #[.val (.int p1), .val (.int p2), .val (.int p3), .val (.int p4), .val (.int p5), .val (.int nn), .val (.int ss), .val (.int la), .val (.int pv), .val (.ref b6_9), .val (.int (own_succ nn ss pv)), .val (.long ex), .second, .val (.int (1 : Int32))] [(.int (1 : Int32))])) _
    refine XS.goto X8_9.here hx rfl (pc0 := 135) (pc' := 139) rfl (hb hby at_135) (by decide) (by decide) ?_
    exact kt
  obtain ⟨fs, hr, hrun, hended, hW, hsame⟩ := X8_9.leave (v := some (.int (1 : Int32))) (fun h => by rw [Bd.returns] at h; cases h)
  refine ⟨_, _, pre0 _ ?_, hrun, hended, _, _, rfl, ?_, ⟨_, rfl⟩, hW, hsame.mono (by decide) (by decide)⟩
  · show Steps p.tables e below (s₁.setTop (mkF m 0 #[.val (.int p1), .val (.int p2), .val (.int p3), .val (.int p4), .val (.int p5), .unset, .unset, .unset, .unset, .unset, .unset, .unset, .unset, .unset] [])) _
    refine st_1p _ ?_
    refine st_2p _ ?_
    refine st_5p _ ?_
    refine st_8p _ ?_
    refine st_9p _ ?_
    refine st_12p _ ?_
    refine st_13p _ ?_
    exact retN X8_9 hx (t := .boolean) Bd.returns (by simp) (hb hby at_139) hr
  · show Q0 Z p1 p2 p3 p4 p5 h0 n0 _ T8_9.heap _
    exact ⟨rfl, N8_9⟩
set_option maxRecDepth 65536 in
set_option maxHeartbeats 40000000 in
theorem comes_1 {Post : Tables → Env → Array Value → State → Outcome → State → Prop} (hpost : ∀ tb e args s v u, (limb_1_1.after args s (.returned v) u = true ∧ limb_1_2.after args s (.returned v) u = true ∧ True) → FrameEnd s (.returned v) u (Jvm.fieldLocs frame_1_writes args s ++ Jvm.arrayLocs frame_1_arrays args s ++ Jvm.staticLocs frame_1_statics s) 16 128 → Post tb e args s (.returned v) u) :
    ArmFor flags0 classFile x code maxLocals ret World_1 tables_1 room_1 Calls_1 rest_1 Pre_1 Post := by
  intro l hfl _ _ p e ha hc hk s m args below hf hA hF happ hP
  obtain ⟨hcalls, hrest, hpre⟩ := hP
  obtain ⟨-, -, -, hnamed, -, -, -, hat⟩ := (Spec.applies_iff hf).mp happ
  obtain ⟨hg, hn⟩ := and_e (Cond.before_iff.mp (show (Jvm.Cond.and given_1 narrow_1).before args s = true from hpre))
  obtain ⟨g10, g11⟩ := and_e hg
  obtain ⟨g12, g13⟩ := and_e g11
  obtain ⟨g14, g15⟩ := and_e g13
  obtain ⟨g16, g17⟩ := and_e g15
  obtain ⟨g18, g19⟩ := and_e g17
  obtain ⟨w0, w1, w2, w3, w4, rfl⟩ : ∃ w0 w1 w2 w3 w4 : Value, args = #[w0, w1, w2, w3, w4] := by
    have hs : args.size = 5 := by simpa [Cond.value, given_1] using g10
    obtain ⟨L⟩ := args
    match L, hs with
    | [w0, w1, w2, w3, w4], _ => exact ⟨w0, w1, w2, w3, w4, rfl⟩
  have hw := fun d (hd : d ∈ tables_1) => atoms_spec (ws := Jvm.Cond.code x code maxLocals ret :: tables_1) hat d (List.mem_cons_of_mem _ hd)
  have hfit : Fit s := fun {y c} hc i hi => by
    obtain ⟨ha, rfl⟩ := Array.getElem?_eq_some_iff.mp hc
    have q := List.all_eq_true.mp ((Array.all_eq_true_iff_forall_mem.mp hF) _ (Array.getElem_mem ha)) i (List.mem_range.mpr hi)
    simpa [Array.getElem?_eq_getElem hi] using q
  obtain ⟨i0, ei0⟩ := is_v g12
  obtain rfl : w0 = (.int i0) := Option.some.inj ei0
  obtain ⟨i1, ei1⟩ := is_v g14
  obtain rfl : w1 = (.int i1) := Option.some.inj ei1
  obtain ⟨i2, ei2⟩ := is_v g16
  obtain rfl : w2 = (.int i2) := Option.some.inj ei2
  obtain ⟨i3, ei3⟩ := is_v g18
  obtain rfl : w3 = (.int i3) := Option.some.inj ei3
  obtain ⟨i4, ei4⟩ := is_v g19
  obtain rfl : w4 = (.int i4) := Option.some.inj ei4
  obtain ⟨n, o, h1, h2, h3, _, L, rfl, ⟨rfl, N⟩, hq⟩ := rm0 l s _ hw tables_1 i0 i1 i2 i3 i4 s.heap s.heap.size (Nat.le_refl _) p e ha hc hk s m _ below hf ((Spec.applies_iff_loose hf).mp happ).1 ⟨rfl, State.Warmed39.refl s, rfl⟩ trivial
  refine ⟨n, _, h1, h2, h3, hpost _ _ _ _ _ _ ⟨Cond.after_iff.mpr rfl, Cond.after_iff.mpr (eq_i res_at (Term.int_eval (1)) rfl), trivial⟩ ⟨hq.1, hq.2.1, (hq.2.2.sift fun y hy => Or.inr (N y hy)).mono (by decide) (by decide)⟩⟩
theorem main_1_1 : Claimed_1_1 := comes_1 fun _ _ _ _ _ _ h hF => ⟨h.1, hF⟩
theorem main_1_2 : Claimed_1_2 := comes_1 fun _ _ _ _ _ _ h hF => ⟨h.2.1, hF⟩
end Jvm.Pilot.@@N@@
namespace Jvm.Pilot.@@N@@
open Jvm Jvm.ClassFile Sem Op Lib Jvm.Free Jvm.Stand Jvm.Pilot.@@N@@.Jvm.D
/-! MADE BY PROGRAM (witnessworld.py) out of the Statement's table words and the real class files: 11 classes; the members and pool entries that the words name. The judged class is class 1, her method 1. -/
namespace start1
open Jvm.ClassFile
def u (s : String) : CpInfo := .utf8 (stringToUtf16 s)
/-- a pool by its gaps: so many unusable entries, then the entry; so many at the end -/
def gap : Nat → List CpInfo → List CpInfo
  | 0, r => r
  | n + 1, r => .unusable :: gap n r
def poolList (es : List (Nat × CpInfo)) (last : Nat) : List CpInfo := es.foldr (fun e r => gap e.1 (e.2 :: r)) (gap last [])
def pool (es : List (Nat × CpInfo)) (last : Nat) : Array CpInfo := ⟨poolList es last⟩
def fileOf (pool : Array CpInfo) (this : Nat) (attrs : Array Attribute := #[]) (ms : Array MethodInfo := #[]) (fl : Nat := 33) (sup : Nat := 0) (ifs : Array Nat := #[]) (fds : Array FieldInfo := #[]) : ClassFile where
  minorVersion := 0
  majorVersion := 65
  constantPool := pool
  accessFlags := fl
  thisClass := this
  superClass := sup
  interfaces := ifs
  fields := fds
  methods := ms
  attributes := attrs
def plain (name : String) (sup : Option ClassId) : Class where
  name := name
  kind := .ordinary
  loader := none
  accessFlags := 33
  super := sup
  interfaces := #[]
  cf := none
  fields := #[]
  methods := #[]
  instanceTypes := #[]
  staticTypes := #[]
  resolved := #[]
  callSites := []
  init := .initialized
  statics := none
  mirror := none

def pool0 : Array CpInfo := pool [(5, u "<init>"), (0, u "()V"), (1, .class_ 10), (1, u "java/lang/Object")] 113

def k0c0 : Code := { maxStack := 0, maxLocals := 1, code := object_method_1_code, exceptionTable := #[], attributes := #[] }
def k0m0 : Method := { name := "<init>", desc := "()V", sig := { parameters := [], returnType := none }, accessFlags := 1, code := some k0c0 }
/-- java/lang/Object -/
def k0 : Class := { plain "java/lang/Object" none with
  accessFlags := 33
  interfaces := #[]
  cf := some (fileOf pool0 8 #[] #[{ accessFlags := 1, nameIndex := 5, descriptorIndex := 6, attributes := #[] }] 33 0 #[] #[])
  fields := #[]
  methods := #[k0m0]
  instanceTypes := #[]
  staticTypes := #[]
  resolved := Array.replicate 124 none
  statics := none }

def pool1 : Array CpInfo := pool [(2, .class_ 4), (1, u "java/lang/Object"), (0, u "<init>"), (0, u "()V"), (0, .integer 2147483647), (0, .methodref 9 10), (0, .class_ 11), (0, .nameAndType 12 13), (0, u "java/lang/Math"), (0, u "max"), (0, u "(II)I"), (0, .class_ 15), (0, u "com/example/merry_until/merryuntil/check/LassoPositions"), (0, .methodref 14 17), (0, .nameAndType 5 18), (0, u "(III)V"), (0, .methodref 14 20), (0, .nameAndType 21 22), (0, u "successor"), (0, u "(I)I"), (0, .class_ 24), (0, u "com/example/merry_until/merryuntil/check/LassoPositionsSuccessorPinLaw"), (2, u "law"), (0, u "(IIIII)Z")] 3

def k1m0 : Method := { name := "<init>", desc := "()V", sig := { parameters := [], returnType := none }, accessFlags := 1, code := none }
def k1c1 : Code := { maxStack := 5, maxLocals := 14, code := code, exceptionTable := #[], attributes := #[] }
def k1m1 : Method := { name := "law", desc := "(IIIII)Z", sig := { parameters := [.int, .int, .int, .int, .int], returnType := some .boolean }, accessFlags := 9, code := some k1c1 }
/-- com/example/merry_until/merryuntil/check/LassoPositionsSuccessorPinLaw -/
def k1 : Class := { plain "com/example/merry_until/merryuntil/check/LassoPositionsSuccessorPinLaw" (some 0) with
  accessFlags := 49
  interfaces := #[]
  cf := some (fileOf pool1 23 #[] #[{ accessFlags := 1, nameIndex := 5, descriptorIndex := 6, attributes := #[] }, { accessFlags := 9, nameIndex := 27, descriptorIndex := 28, attributes := #[] }] 49 2 #[] #[])
  fields := #[]
  methods := #[k1m0, k1m1]
  instanceTypes := #[]
  staticTypes := #[]
  resolved := Array.replicate 32 none
  statics := none }

def pool2 : Array CpInfo := pool [(1, .class_ 2), (0, u "java/lang/Math"), (1, .class_ 6), (1, u "java/lang/Object"), (0, u "<init>"), (0, u "()V"), (89, .class_ 100), (1, u "java/lang/Math$RandomNumberGeneratorHolder"), (71, u "negativeZeroFloatBits"), (0, u "J"), (2, u "negativeZeroDoubleBits"), (21, u "max"), (46, u "$assertionsDisabled"), (0, u "Z"), (88, u "(II)I"), (2, u "twoToTheDoubleScaleDown"), (0, u "D"), (4, u "twoToTheDoubleScaleUp"), (9, u "E"), (3, u "PI"), (2, u "TAU"), (2, u "DEGREES_TO_RADIANS"), (0, u "RADIANS_TO_DEGREES")] 94

def k2m0 : Method := { name := "<init>", desc := "()V", sig := { parameters := [], returnType := none }, accessFlags := 2, code := none }
def k2c1 : Code := { maxStack := 2, maxLocals := 2, code := jdk_29_method_65_code, exceptionTable := #[], attributes := #[] }
def k2m1 : Method := { name := "max", desc := "(II)I", sig := { parameters := [.int, .int], returnType := some .int }, accessFlags := 9, code := some k2c1 }
/-- java/lang/Math -/
def k2 : Class := { plain "java/lang/Math" (some 0) with
  accessFlags := 49
  interfaces := #[]
  cf := some (fileOf pool2 1 #[.nestMembers #[98]] #[{ accessFlags := 2, nameIndex := 7, descriptorIndex := 8, attributes := #[] }, { accessFlags := 9, nameIndex := 198, descriptorIndex := 335, attributes := #[] }] 49 4 #[] #[{ accessFlags := 25, nameIndex := 354, descriptorIndex := 339, attributes := #[] }, { accessFlags := 25, nameIndex := 358, descriptorIndex := 339, attributes := #[] }, { accessFlags := 25, nameIndex := 361, descriptorIndex := 339, attributes := #[] }, { accessFlags := 26, nameIndex := 364, descriptorIndex := 339, attributes := #[] }, { accessFlags := 26, nameIndex := 365, descriptorIndex := 339, attributes := #[] }, { accessFlags := 26, nameIndex := 172, descriptorIndex := 173, attributes := #[] }, { accessFlags := 26, nameIndex := 176, descriptorIndex := 173, attributes := #[] }, { accessFlags := 8, nameIndex := 344, descriptorIndex := 339, attributes := #[] }, { accessFlags := 8, nameIndex := 338, descriptorIndex := 339, attributes := #[] }, { accessFlags := 4120, nameIndex := 245, descriptorIndex := 246, attributes := #[] }])
  fields := #[{ name := "E", type := .double, accessFlags := 25, slot := 0, constantValue := 0 }, { name := "PI", type := .double, accessFlags := 25, slot := 1, constantValue := 0 }, { name := "TAU", type := .double, accessFlags := 25, slot := 2, constantValue := 0 }, { name := "DEGREES_TO_RADIANS", type := .double, accessFlags := 26, slot := 3, constantValue := 0 }, { name := "RADIANS_TO_DEGREES", type := .double, accessFlags := 26, slot := 4, constantValue := 0 }, { name := "negativeZeroFloatBits", type := .long, accessFlags := 26, slot := 5, constantValue := 0 }, { name := "negativeZeroDoubleBits", type := .long, accessFlags := 26, slot := 6, constantValue := 0 }, { name := "twoToTheDoubleScaleUp", type := .double, accessFlags := 8, slot := 7, constantValue := 0 }, { name := "twoToTheDoubleScaleDown", type := .double, accessFlags := 8, slot := 8, constantValue := 0 }, { name := "$assertionsDisabled", type := .boolean, accessFlags := 4120, slot := 9, constantValue := 0 }]
  methods := #[k2m0, k2m1]
  instanceTypes := #[]
  staticTypes := #[.double, .double, .double, .double, .double, .long, .long, .double, .double, .boolean]
  resolved := Array.replicate 460 none
  statics := none }

def pool3 : Array CpInfo := pool [(1, .methodref 2 3), (0, .class_ 4), (0, .nameAndType 5 6), (0, u "java/lang/Object"), (0, u "<init>"), (0, u "()V"), (0, .class_ 8), (0, u "java/lang/Record")] 13

def k3c0 : Code := { maxStack := 1, maxLocals := 1, code := jdk_30_method_1_code, exceptionTable := #[], attributes := #[] }
def k3m0 : Method := { name := "<init>", desc := "()V", sig := { parameters := [], returnType := none }, accessFlags := 4, code := some k3c0 }
/-- java/lang/Record -/
def k3 : Class := { plain "java/lang/Record" (some 0) with
  accessFlags := 1057
  interfaces := #[]
  cf := some (fileOf pool3 7 #[] #[{ accessFlags := 4, nameIndex := 5, descriptorIndex := 6, attributes := #[] }] 1057 2 #[] #[])
  fields := #[]
  methods := #[k3m0]
  instanceTypes := #[]
  staticTypes := #[]
  resolved := Array.replicate 22 none
  statics := none }

def pool4 : Array CpInfo := pool [(1, .methodref 2 3), (0, .class_ 4), (0, .nameAndType 5 6), (0, u "java/lang/Record"), (0, u "<init>"), (0, u "()V"), (0, .fieldref 8 9), (0, .class_ 10), (0, .nameAndType 11 12), (0, u "com/example/merry_until/merryuntil/check/LassoPositions"), (0, u "positions"), (0, u "I"), (0, .fieldref 8 14), (0, .nameAndType 15 12), (0, u "loopStart"), (0, .fieldref 8 17), (0, .nameAndType 18 12), (0, u "mostPositions"), (23, u "(III)V"), (57, u "(I)I"), (4, u "successor")] 43

def k4c0 : Code := { maxStack := 2, maxLocals := 4, code := prog_15_method_1_code, exceptionTable := #[], attributes := #[] }
def k4m0 : Method := { name := "<init>", desc := "(III)V", sig := { parameters := [.int, .int, .int], returnType := none }, accessFlags := 0, code := some k4c0 }
def k4c1 : Code := { maxStack := 3, maxLocals := 2, code := prog_15_method_9_code, exceptionTable := #[], attributes := #[] }
def k4m1 : Method := { name := "successor", desc := "(I)I", sig := { parameters := [.int], returnType := some .int }, accessFlags := 0, code := some k4c1 }
/-- com/example/merry_until/merryuntil/check/LassoPositions -/
def k4 : Class := { plain "com/example/merry_until/merryuntil/check/LassoPositions" (some 3) with
  accessFlags := 48
  interfaces := #[]
  cf := some (fileOf pool4 8 #[] #[{ accessFlags := 0, nameIndex := 5, descriptorIndex := 42, attributes := #[] }, { accessFlags := 0, nameIndex := 105, descriptorIndex := 100, attributes := #[] }] 48 2 #[] #[{ accessFlags := 18, nameIndex := 11, descriptorIndex := 12, attributes := #[] }, { accessFlags := 18, nameIndex := 15, descriptorIndex := 12, attributes := #[] }, { accessFlags := 18, nameIndex := 18, descriptorIndex := 12, attributes := #[] }])
  fields := #[{ name := "positions", type := .int, accessFlags := 18, slot := 0, constantValue := 0 }, { name := "loopStart", type := .int, accessFlags := 18, slot := 1, constantValue := 0 }, { name := "mostPositions", type := .int, accessFlags := 18, slot := 2, constantValue := 0 }]
  methods := #[k4m0, k4m1]
  instanceTypes := #[.int, .int, .int]
  staticTypes := #[]
  resolved := Array.replicate 149 none
  statics := none }

def pool5 : Array CpInfo := pool [(1, u "java/lang/Cloneable"), (0, .class_ 1), (0, u "java/lang/Object"), (0, .class_ 3)] 3

/-- java/lang/Cloneable -/
def k5 : Class := { plain "java/lang/Cloneable" (some 0) with
  accessFlags := 1537
  interfaces := #[]
  cf := some (fileOf pool5 2 #[] #[] 1537 4 #[] #[])
  fields := #[]
  methods := #[]
  instanceTypes := #[]
  staticTypes := #[]
  resolved := Array.replicate 8 none
  statics := none }

def pool6 : Array CpInfo := pool [(1, u "java/io/Serializable"), (0, .class_ 1), (0, u "java/lang/Object"), (0, .class_ 3)] 3

/-- java/io/Serializable -/
def k6 : Class := { plain "java/io/Serializable" (some 0) with
  accessFlags := 1537
  interfaces := #[]
  cf := some (fileOf pool6 2 #[] #[] 1537 4 #[] #[])
  fields := #[]
  methods := #[]
  instanceTypes := #[]
  staticTypes := #[]
  resolved := Array.replicate 8 none
  statics := none }

/-- the primitive byte -/
def k7 : Class := { plain "byte" none with kind := .primitive 'B', accessFlags := 0x411 }
/-- [B -/
def k8 : Class := { plain "[B" (some 0) with kind := .array 7 .byte, interfaces := #[5, 6], accessFlags := 1041 }

/-- the primitive int -/
def k9 : Class := { plain "int" none with kind := .primitive 'I', accessFlags := 0x411 }
/-- [I -/
def k10 : Class := { plain "[I" (some 0) with kind := .array 9 .int, interfaces := #[5, 6], accessFlags := 1041 }

def heap : Heap := #[]
def classes : Array Class := #[k0, k1, k2, k3, k4, k5, k6, k7, k8, k9, k10]
def interned : List (Array UInt16 × Addr) := []
def slotsUsed : Nat := 0
def theMethod : MethodId := ⟨1, 1⟩
def args0 : Array Value := #[.int 1, .int 2, .int 3, .int 4, .int 5]
def aboutOver (below : List Frame) : State where
  vm := { classes := classes, interned := interned.toArray }
  heap := heap
  slotsUsed := slotsUsed
  threads := #[{ frames := .invoking theMethod args0 :: below }]
def below0 : List Frame := [.native { method := ⟨0, 0⟩, args := #[] }]
def about1 : State := aboutOver below0
def p0 : Program := .bare "" "" ""
def e0 : Env := launch0.env 0 0 0
theorem w_frames : about1.frames = Frame.invoking theMethod args0 :: below0 := rfl
set_option maxRecDepth 65536 in
theorem w_args : argsFit about1.vm theMethod args0 = true := by decide +kernel
set_option maxRecDepth 65536 in
theorem w_heap : heapFits about1 = true := by decide +kernel
set_option maxRecDepth 65536 in
theorem w_runnable : about1.curStatus? = some .runnable := by decide +kernel
set_option maxRecDepth 65536 in
theorem w_alone : about1.alone = true := by decide +kernel
set_option maxRecDepth 65536 in
theorem w_named : about1.methodNamed? x = some theMethod := by decide +kernel
set_option maxRecDepth 65536 in
theorem w_hears : about1.hears theMethod below0 = true := by decide +kernel
set_option maxRecDepth 65536 in
theorem w_ripe : about1.ripe theMethod args0 below0 = true := by decide +kernel
theorem w_running : about1.status = .running := rfl
set_option maxRecDepth 65536 in
theorem w_room : about1.hasRoom e0.platform room_1 = true :=
  launch0.hasRoom_least _ room_1 (by decide +kernel) (by decide +kernel) (by decide +kernel) (by decide +kernel) (by decide +kernel) (by decide +kernel)
theorem allAtoms_all (ts : List Jvm.Cond) (a : Array Jvm.Value) (st : Jvm.State) : (allAtoms ts).before a st = ts.all (fun c => c.before a st) := by
  induction ts with
  | nil => rfl
  | cons c t ih =>
    show (Jvm.Cond.and c (allAtoms t)).before a st = _
    rw [Jvm.Cond.before_and, ih, List.all_cons]
def words1 : List Jvm.Cond := Jvm.Cond.code x code maxLocals ret :: tables_1
/-- a 'code' word, met by the world's own term for the bytes: nothing is compared byte by byte -/
theorem code_word {y : MethodName} {bytes : ByteArray} {mx : Nat} {rt : Option FieldType} {a : Array Value} {s : State} {m : MethodId} {meth : Method} {c : Code} (h1 : s.methodNamed? y = some m) (h2 : s.vm.method? m = some meth) (h3 : meth.code = some c) (h4 : c.code = bytes)
    (h5 : (c.maxLocals == mx && c.exceptionTable.isEmpty && decide (c.maxStack ≤ mostOperands) && decide (meth.sig.returnType = rt) && !meth.locks && decide (parseMethodDescriptor y.desc = some meth.sig)) = true) : (Jvm.Cond.code y bytes mx rt).before a s = true := by
  simp only [Bool.and_eq_true, beq_iff_eq, Bool.not_eq_true', decide_eq_true_eq] at h5
  obtain ⟨⟨⟨⟨⟨g1, g2⟩, g3⟩, g4⟩, g5⟩, g6⟩ := h5
  simp [Cond.before, Cond.holds, Cond.value, h1, h2, h3, h4, g1, g2, g3, g4, g5, g6]
def isCode : Jvm.Cond → Bool
  | .code _ _ _ _ => true
  | _ => false
theorem all_split {L : List Jvm.Cond} {P : Jvm.Cond → Bool} (h1 : L.all (fun c => isCode c || P c) = true) (h2 : ∀ c ∈ L.filter isCode, P c = true) : L.all P = true := by
  refine List.all_eq_true.mpr fun c hc => ?_
  have h := List.all_eq_true.mp h1 c hc
  rcases Bool.eq_false_or_eq_true (isCode c) with hi | hi
  · exact h2 c (List.mem_filter.mpr ⟨hc, hi⟩)
  · simpa [hi] using h
set_option maxRecDepth 65536 in
theorem w_c0 : (Jvm.Cond.code x code maxLocals ret).before args0 about1 = true := code_word (m := ⟨1, 1⟩) (meth := k1m1) (c := k1c1) (by decide +kernel) rfl rfl rfl (by decide +kernel)
set_option maxRecDepth 65536 in
theorem w_c1 : (Jvm.Cond.code ({ cls := "java/lang/Math", name := "max", desc := "(II)I" } : Jvm.MethodName) jdk_29_method_65_code (2 : Nat) (Option.some Jvm.ClassFile.FieldType.int)).before args0 about1 = true := code_word (m := ⟨2, 1⟩) (meth := k2m1) (c := k2c1) (by decide +kernel) rfl rfl rfl (by decide +kernel)
set_option maxRecDepth 65536 in
theorem w_c2 : (Jvm.Cond.code ({ cls := "com/example/merry_until/merryuntil/check/LassoPositions", name := "<init>", desc := "(III)V" } : Jvm.MethodName) prog_15_method_1_code (4 : Nat) (Option.none : Option Jvm.ClassFile.FieldType)).before args0 about1 = true := code_word (m := ⟨4, 0⟩) (meth := k4m0) (c := k4c0) (by decide +kernel) rfl rfl rfl (by decide +kernel)
set_option maxRecDepth 65536 in
theorem w_c3 : (Jvm.Cond.code ({ cls := "java/lang/Record", name := "<init>", desc := "()V" } : Jvm.MethodName) jdk_30_method_1_code (1 : Nat) (Option.none : Option Jvm.ClassFile.FieldType)).before args0 about1 = true := code_word (m := ⟨3, 0⟩) (meth := k3m0) (c := k3c0) (by decide +kernel) rfl rfl rfl (by decide +kernel)
set_option maxRecDepth 65536 in
theorem w_c4 : (Jvm.Cond.code ({ cls := "java/lang/Object", name := "<init>", desc := "()V" } : Jvm.MethodName) object_method_1_code (1 : Nat) (Option.none : Option Jvm.ClassFile.FieldType)).before args0 about1 = true := code_word (m := ⟨0, 0⟩) (meth := k0m0) (c := k0c0) (by decide +kernel) rfl rfl rfl (by decide +kernel)
set_option maxRecDepth 65536 in
theorem w_c5 : (Jvm.Cond.code ({ cls := "com/example/merry_until/merryuntil/check/LassoPositions", name := "successor", desc := "(I)I" } : Jvm.MethodName) prog_15_method_9_code (2 : Nat) (Option.some Jvm.ClassFile.FieldType.int)).before args0 about1 = true := code_word (m := ⟨4, 1⟩) (meth := k4m1) (c := k4c1) (by decide +kernel) rfl rfl rfl (by decide +kernel)
def codes1 : List Jvm.Cond := [Jvm.Cond.code x code maxLocals ret, Jvm.Cond.code ({ cls := "java/lang/Math", name := "max", desc := "(II)I" } : Jvm.MethodName) jdk_29_method_65_code (2 : Nat) (Option.some Jvm.ClassFile.FieldType.int), Jvm.Cond.code ({ cls := "com/example/merry_until/merryuntil/check/LassoPositions", name := "<init>", desc := "(III)V" } : Jvm.MethodName) prog_15_method_1_code (4 : Nat) (Option.none : Option Jvm.ClassFile.FieldType), Jvm.Cond.code ({ cls := "java/lang/Record", name := "<init>", desc := "()V" } : Jvm.MethodName) jdk_30_method_1_code (1 : Nat) (Option.none : Option Jvm.ClassFile.FieldType), Jvm.Cond.code ({ cls := "java/lang/Object", name := "<init>", desc := "()V" } : Jvm.MethodName) object_method_1_code (1 : Nat) (Option.none : Option Jvm.ClassFile.FieldType), Jvm.Cond.code ({ cls := "com/example/merry_until/merryuntil/check/LassoPositions", name := "successor", desc := "(I)I" } : Jvm.MethodName) prog_15_method_9_code (2 : Nat) (Option.some Jvm.ClassFile.FieldType.int)]
set_option maxRecDepth 65536 in
theorem codes_eq : words1.filter isCode = codes1 := rfl
theorem w_codes : ∀ c ∈ words1.filter isCode, c.before args0 about1 = true := by
  rw [codes_eq]
  intro c hc
  simp only [codes1, List.mem_cons, List.not_mem_nil, or_false] at hc
  rcases hc with rfl | rfl | rfl | rfl | rfl | rfl
  · exact w_c0
  · exact w_c1
  · exact w_c2
  · exact w_c3
  · exact w_c4
  · exact w_c5
set_option maxRecDepth 65536 in
theorem w_t1 : (words1.take 24).all (fun c => isCode c || c.before args0 about1) = true := by decide +kernel
set_option maxRecDepth 65536 in
theorem w_t2 : (words1.drop 24).all (fun c => isCode c || c.before args0 about1) = true := by decide +kernel
theorem w_tables : (allAtoms (Jvm.Cond.code x code maxLocals ret :: tables_1)).before args0 about1 = true := by
  rw [allAtoms_all]
  show words1.all (fun c => c.before args0 about1) = true
  refine all_split ?_ w_codes
  rw [← List.take_append_drop 24 words1, List.all_append, w_t1, w_t2]
  rfl
set_option maxRecDepth 65536 in
theorem w_case : (Jvm.Cond.and given_1 narrow_1).before args0 about1 = true := by decide +kernel
theorem w_applies : (headSpec (Jvm.Cond.code x code maxLocals ret :: tables_1) room_1).applies x e0.platform about1 = true :=
  (Spec.applies_iff w_frames).mpr ⟨w_running, w_runnable, w_alone, w_named, w_hears, w_ripe, w_room, w_tables⟩
theorem atStart : AtStart classFile x code maxLocals ret World_1 tables_1 room_1 Calls_1 rest_1 Pre_1 launch0 p0 e0 about1 theMethod args0 below0 :=
  ⟨lists_1, trivial, launch0.admits_env _ _ _, launch0.least_env, fairChoices_fair.cas, fairChoices_fair.clock, w_frames, w_args, w_heap, w_applies, trivial, trivial, w_case⟩
end start1
theorem witness_1 : WitnessClaimed_1 := ⟨start1.p0, start1.e0, start1.about1, start1.theMethod, start1.args0, start1.below0, start1.atStart⟩
end Jvm.Pilot.@@N@@
